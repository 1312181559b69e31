import JvmDerived
import JvmDerived.Pilot.@@N@@Statement
import JvmDerived.Pilot.@@N@@Code
set_option linter.unusedVariables false
set_option linter.unusedSimpArgs false
namespace Jvm.RoadKit
open Sem ClassFile Op Lib Jvm.Stand Jvm.Free Jvm.LawKit
section New
variable {p : Program} {l : Launch} {e : Env} {R : Room} {s : State} {m : MethodId} {args : Array Value} {below : List Frame} {meth : Method} {c : Code} {T : State} {locs : List Loc} {cells slots : Nat}
theorem retI (X : Stand p l e R s m args below meth c T locs cells slots) (hx : p.tables.exec = Jvm.exec) {pc : Nat} {Ls : Array Slot} {z : Int32} {rest : List Value} (hret : meth.sig.returnType = some .int) (hd : decode c.code pc = .ok (.ireturn, 1)) {fs : List Frame}
    (hl : ∀ (f : JFrame) (acts : List Action), f.method = m → f.locked = none → f.entered = [] → (doReturn e (T.setTop f) acts (some (.int z))).1 = T.setFrames fs) : Steps p.tables e below (T.setTop (mkF m pc Ls (.int z :: rest))) (T.setFrames fs) := by
  have hm' : T.vm.method? m = some meth := X.method'
  have hn : narrow .int (.int z) = .int z := rfl
  show Steps p.tables e below (T.setTop { method := m, pc := pc, locals := Ls, stack := _ :: rest, locked := none }) _
  jvm_step X.here [X.here.top, hx, hd, hm', hret, hn]
  first | (intro acts; rw [hl _ acts rfl rfl rfl]) | rw [hl _ _ rfl rfl rfl]
  exact Steps.refl _
end New
end Jvm.RoadKit
namespace Jvm.Pilot.@@N@@
open Jvm Jvm.ClassFile Sem Op Lib Jvm.Free Jvm.Stand Jvm.LawKit Jvm.RoadKit Bundle Jvm.Pilot.@@N@@.Jvm.D
section Own
variable {p : Program} {l : Launch} {e : Env} {R : Room} {s : State} {m : MethodId} {args : Array Value} {below : List Frame} {meth : Method} {c : Code} {T : State} {n0 C S : Nat} {Z : State} {a0 : Array Value} {h h' : Heap} {P : State → Outcome → Prop} {Q : Option Value → Heap → Prop}
/-- from U the run comes to an end at which P holds -/
def own_Go (p : Program) (e : Env) (below : List Frame) (P : State → Outcome → Prop) (U : State) : Prop := ∃ t o, Steps p.tables e below U t ∧ P t o
theorem own_st {U U' : State} (k : ∀ t, Steps p.tables e below U' t → Steps p.tables e below U t) (g : own_Go p e below P U') : own_Go p e below P U := by
  obtain ⟨t, o, a, b⟩ := g; exact ⟨t, o, k t a, b⟩
/-- where the run stands: its state, its heap, how many cells and slots are spent; nothing below n0 was written -/
def own_Sd (p : Program) (l : Launch) (e : Env) (R : Room) (s : State) (m : MethodId) (args : Array Value) (below : List Frame) (meth : Method) (c : Code) (n0 : Nat) (T : State) (h : Heap) (C S : Nat) : Prop :=
  ∃ locs, Stand p l e R s m args below meth c T locs C S ∧ Fr n0 locs ∧ T.heap = h ∧ n0 ≤ s.heap.size ∧ s.heap.size ≤ h.size
theorem own_Sd.here (X : own_Sd p l e R s m args below meth c n0 T h C S) : At T m c below := by obtain ⟨_, X, _⟩ := X; exact X.here
theorem own_Sd.ge0 (X : own_Sd p l e R s m args below meth c n0 T h C S) : n0 ≤ h.size := by obtain ⟨_, _, _, _, h1, h2⟩ := X; exact Nat.le_trans h1 h2
theorem own_Sd.more (X : own_Sd p l e R s m args below meth c n0 T h C S) {C' S' : Nat} (hc : C ≤ C') (hs : S ≤ S') : own_Sd p l e R s m args below meth c n0 T h C' S' := by
  obtain ⟨L, X, r⟩ := X; exact ⟨L, X.more hc hs, r⟩
/-- what the body of one method knows of itself -/
def own_Cx (p : Program) (s : State) (m : MethodId) (meth : Method) (c : Code) (Z : State) (bytes : ByteArray) (maxL : Nat) (y : MethodName) (ret : Option FieldType) : Prop :=
  p.tables.exec = Jvm.exec ∧ c.code = bytes ∧ c.maxLocals = maxL ∧ s.vm.findClass y.cls = some m.cls ∧ meth.name = y.name ∧ meth.sig.returnType = ret ∧ meth.locks = false ∧ Z.Warmed39 s.vm
def own_End (below : List Frame) (s : State) (R : Room) (n0 : Nat) (Q : Option Value → Heap → Prop) (t : State) (o : Outcome) : Prop :=
  t.status = .running ∧ Ended t below o ∧ ∃ v L, o = .returned v ∧ (Q v t.heap ∧ s.heap.size ≤ t.heap.size ∧ Fr n0 L) ∧ FrameEnd s o t L R.cells R.slots
/-- a method's contract: on these arguments, at this heap, it returns so that Q -/
def own_Met (l : Launch) (Z : State) (y : MethodName) (bytes : ByteArray) (maxL : Nat) (ret : Option FieldType) (rm : Room) (as' : Array Value) (h0 : Heap) (n0 : Nat) (Q : Option Value → Heap → Prop) : Prop :=
  ∀ ws, MetFree l y (head1 (Jvm.Cond.code y bytes maxL ret :: ws) rm) (fun a U => a = as' ∧ Z.Warmed39 U.vm ∧ U.heap = h0) (fun _ _ _ _ _ => True)
    (fun _ U o U' => ∃ v L, o = .returned v ∧ (Q v U'.heap ∧ h0.size ≤ U'.heap.size ∧ Fr n0 L) ∧ FrameEnd U o U' L rm.cells rm.slots)
theorem own_body {y : MethodName} {bytes : ByteArray} {maxL : Nat} {ret : Option FieldType} {rm : Room} {as' : Array Value} {h0 : Heap} {Ls : Array Slot} (hpl : plainFor y = true) (hfr : ∀ m, entryFrame m as' maxL = mkF m 0 Ls []) (hn : n0 ≤ h0.size)
    (B : ∀ (p : Program) (e : Env) (s : State) (m : MethodId) (below : List Frame) (meth : Method) (c : Code) (T : State), own_Cx p s m meth c Z bytes maxL y ret → own_Sd p l e rm s m as' below meth c n0 T h0 0 0 → own_Go p e below (own_End below s rm n0 Q) (T.setTop (mkF m 0 Ls []))) :
    own_Met l Z y bytes maxL ret rm as' h0 n0 Q := by
  intro ws
  refine MetFree.of_bodySF hpl hisR ?_
  intro p e s m args below meth c s₁ Bd hml0 hP hK
  obtain ⟨rfl, hZ, hh⟩ := hP
  have X0 : Stand p l e rm s m args below meth c s₁ [] 0 0 := Stand.of_body Bd
  have e0 : s₁.heap = h0 := by rw [← hh, Bd.state]; rfl
  have hs : s.heap.size = h0.size := by rw [hh]
  obtain ⟨t, o, st, h1, h2, v, L, h3, h4, h5⟩ := B p e s m below meth c s₁ ⟨Bd.exec, Bd.bytes, hml0, findClass_of_methodNamed Bd.named, (name_of_methodNamed Bd.named Bd.method).1, Bd.returns, Bd.notSynchronized, hZ⟩ ⟨[], X0, Fr.nil n0, e0, by rw [hs]; exact hn, by rw [hs]; exact Nat.le_refl _⟩
  rw [hs] at h4
  exact ⟨t, o, castTop (hfr m) st, h1, h2, v, L, h3, h4, h5⟩
theorem own_fin (X : own_Sd p l e R s m args below meth c n0 T h C S) (hlk : meth.locks = false) {v : Option Value} (hv : meth.sig.returnType = none → v = none) (hC : C ≤ R.cells) (hS : S ≤ R.slots) (q : Q v h) {U : State}
    (k : ∀ (T' : State) (locs : List Loc) (fs : List Frame), T' = T → Stand p l e R s m args below meth c T locs C S → (∀ (f : JFrame) (acts : List Action), f.method = m → f.locked = none → f.entered = [] → (doReturn e (T.setTop f) acts v).1 = T.setFrames fs) → Steps p.tables e below U (T.setFrames fs)) : own_Go p e below (own_End below s R n0 Q) U := by
  obtain ⟨L, X, N, eT, hn, hs⟩ := X
  obtain ⟨fs, hr, hrun, hended, hW, hsame⟩ := X.leave (v := v) hv hlk
  have e1 : (T.setFrames fs).heap = h := eT
  refine ⟨_, _, k T L fs rfl X hr, hrun, hended, v, L, rfl, ⟨?_, ?_, N⟩, ⟨_, rfl⟩, hW, hsame.mono hC hS⟩
  · rw [e1]; exact q
  · rw [e1]; exact hs
theorem own_retI (X : own_Sd p l e R s m args below meth c n0 T h C S) (hx : p.tables.exec = Jvm.exec) (hret : meth.sig.returnType = some .int) (hlk : meth.locks = false) {pc : Nat} {Ls : Array Slot} {z : Int32} {rest : List Value} (hd : decode c.code pc = .ok (.ireturn, 1)) (hC : C ≤ R.cells) (hS : S ≤ R.slots) (q : Q (some (.int z)) h) :
    own_Go p e below (own_End below s R n0 Q) (T.setTop (mkF m pc Ls (.int z :: rest))) :=
  own_fin X hlk (fun h => by rw [hret] at h; cases h) hC hS q fun _ _ _ _ X hr => retI X hx hret hd hr
theorem own_retN (X : own_Sd p l e R s m args below meth c n0 T h C S) (hx : p.tables.exec = Jvm.exec) {t : FieldType} (hret : meth.sig.returnType = some t) (ht : t = .boolean ∨ t = .byte ∨ t = .char ∨ t = .short) (hlk : meth.locks = false) {pc : Nat} {Ls : Array Slot} {z : Int32} {rest : List Value} (hd : decode c.code pc = .ok (.ireturn, 1)) (hC : C ≤ R.cells) (hS : S ≤ R.slots) (q : Q (some (.int (nar t z))) h) :
    own_Go p e below (own_End below s R n0 Q) (T.setTop (mkF m pc Ls (.int z :: rest))) :=
  own_fin X hlk (fun h => by rw [hret] at h; cases h) hC hS q fun _ _ _ _ X hr => retN X hx hret ht hd hr
theorem own_retJ (X : own_Sd p l e R s m args below meth c n0 T h C S) (hx : p.tables.exec = Jvm.exec) (hret : meth.sig.returnType = some .long) (hlk : meth.locks = false) {pc : Nat} {Ls : Array Slot} {z : Int64} {rest : List Value} (hd : decode c.code pc = .ok (.lreturn, 1)) (hC : C ≤ R.cells) (hS : S ≤ R.slots) (q : Q (some (.long z)) h) :
    own_Go p e below (own_End below s R n0 Q) (T.setTop (mkF m pc Ls (.long z :: rest))) :=
  own_fin X hlk (fun h => by rw [hret] at h; cases h) hC hS q fun _ _ _ _ X hr => retOut X hx hret rfl (Or.inr (Or.inl ⟨rfl, rfl, z, rfl⟩)) hd hr
theorem own_retA (X : own_Sd p l e R s m args below meth c n0 T h C S) (hx : p.tables.exec = Jvm.exec) {t : FieldType} (hret : meth.sig.returnType = some t) (ht : t.isReference = true) (hlk : meth.locks = false) {pc : Nat} {Ls : Array Slot} {w : Value} (hw : w.isRef = true) (hn : narrow t w = w) {rest : List Value} (hd : decode c.code pc = .ok (.areturn, 1)) (hC : C ≤ R.cells) (hS : S ≤ R.slots) (q : Q (some w) h) :
    own_Go p e below (own_End below s R n0 Q) (T.setTop (mkF m pc Ls (w :: rest))) :=
  own_fin X hlk (fun h => by rw [hret] at h; cases h) hC hS q fun _ _ _ _ X hr => retOut X hx hret hn (Or.inr (Or.inr (Or.inr (Or.inr ⟨rfl, ht, hw⟩)))) hd hr
theorem own_retV (X : own_Sd p l e R s m args below meth c n0 T h C S) (hx : p.tables.exec = Jvm.exec) (hret : meth.sig.returnType = none) (hlk : meth.locks = false) {pc : Nat} {Ls : Array Slot} (hd : decode c.code pc = .ok (.return_, 1)) (hC : C ≤ R.cells) (hS : S ≤ R.slots) (q : Q none h) :
    own_Go p e below (own_End below s R n0 Q) (T.setTop (mkF m pc Ls [])) :=
  own_fin X hlk (fun _ => rfl) hC hS q fun _ _ _ _ X hr => X.returnOut hx hret hd hr
/-! single steps that want a Stand -/
theorem own_irem (X : own_Sd p l e R s m args below meth c n0 T h C S) (hx : p.tables.exec = Jvm.exec) {g : JFrame} {x y : Int32} {rest : List Value} (hd : decode c.code g.pc = .ok (.irem, 1)) (hs : g.stack = .int y :: .int x :: rest) (hy : y ≠ 0) (hg : g.method = m)
    (k : own_Go p e below P (T.setTop { g with pc := g.pc + 1, stack := .int (x % y) :: rest })) : own_Go p e below P (T.setTop g) := by
  obtain ⟨_, X, _⟩ := X; exact own_st (fun _ q => iremM X hx hg hd hs hy q) k
theorem own_ldc (X : own_Sd p l e R s m args below meth c n0 T h C S) (hx : p.tables.exec = Jvm.exec) (hZ : Z.Warmed39 s.vm) {own : String} {index : Nat} {v : Int32} (hown : s.vm.findClass own = some m.cls) (w : (Cond.constant own index v).before a0 Z = true) {g : JFrame} (hg : g.method = m) (hd : decode c.code g.pc = .ok (.ldc index, 2))
    (k : own_Go p e below P (T.setTop { g with pc := g.pc + 2, stack := .int v :: g.stack })) : own_Go p e below P (T.setTop g) := by
  obtain ⟨_, X, _⟩ := X; exact own_st (fun _ q => X.ldcInt hx hown (mvT hZ w) hg hd _ q) k
theorem own_ldc2 (X : own_Sd p l e R s m args below meth c n0 T h C S) (hx : p.tables.exec = Jvm.exec) (hZ : Z.Warmed39 s.vm) {own : String} {index : Nat} {v : Int64} (hown : s.vm.findClass own = some m.cls) (w : (Cond.constantLong own index v).before a0 Z = true) {g : JFrame} (hg : g.method = m) (hd : decode c.code g.pc = .ok (.ldc2_w index, 3))
    (k : own_Go p e below P (T.setTop { g with pc := g.pc + 3, stack := .long v :: g.stack })) : own_Go p e below P (T.setTop g) := by
  obtain ⟨_, X, _⟩ := X; exact own_st (fun _ q => X.ldc2Long hx hown (mvT hZ w) hg hd _ q) k
theorem own_acmp (X : own_Sd p l e R s m args below meth c n0 T h C S) (hx : p.tables.exec = Jvm.exec) {g : JFrame} (hg : g.method = m) {cd : ACond} {x y : Value} (h1 : x.isRef = true) (h2 : y.isRef = true) {rest : List Value} {o : Int} {pc0 pc' : Nat} {same : Bool} (hpc : g.pc = pc0) (hd : decode c.code g.pc = .ok (.if_acmp cd o, 3)) (hs : g.stack = y :: x :: rest) (hsame : decide (x = y) = same) (ho : 0 ≤ (pc0 : Int) + o) (hp : pc' = if acV cd same then ((pc0 : Int) + o).toNat else pc0 + 3)
    (k : own_Go p e below P (T.setTop { g with pc := pc', stack := rest })) : own_Go p e below P (T.setTop g) := by
  obtain ⟨_, X, _⟩ := X; exact own_st (fun _ q => Jvm.RoadKit.acmp X hx hg h1 h2 hpc hd hs hsame ho hp q) k
theorem own_lrem (X : own_Sd p l e R s m args below meth c n0 T h C S) (hx : p.tables.exec = Jvm.exec) {g : JFrame} {x y : Int64} {rest : List Value} (hd : decode c.code g.pc = .ok (.lrem, 1)) (hs : g.stack = .long y :: .long x :: rest) (hy : y ≠ 0) (hg : g.method = m)
    (k : own_Go p e below P (T.setTop { g with pc := g.pc + 1, stack := .long (x % y) :: rest })) : own_Go p e below P (T.setTop g) :=
  own_st (fun _ q => XS.lrem X.here hx hg hd hs hy (by rw [lrem_mod]; exact q)) k
theorem own_dupX2 (X : own_Sd p l e R s m args below meth c n0 T h C S) (hx : p.tables.exec = Jvm.exec) {g : JFrame} {x y z : Value} {rest : List Value} (hd : decode c.code g.pc = .ok (.dup_x2, 1)) (hs : g.stack = x :: y :: z :: rest) (h1 : x.category = 1) (h2 : y.category = 1) (h3 : z.category = 1) (hg : g.method = m)
    (k : own_Go p e below P (T.setTop { g with pc := g.pc + 1, stack := x :: y :: z :: x :: rest })) : own_Go p e below P (T.setTop g) := by
  refine own_st (fun t q => ?_) k
  subst hg
  have h := X.here
  jvm_step h [h.top, hx, hd, hs, h1, h2, h3]
  exact q
/-! fields, objects -/
theorem own_getF (X : own_Sd p l e R s m args below meth c n0 T h C S) (hx : p.tables.exec = Jvm.exec) (hZ : Z.Warmed39 s.vm) {own O n d : String} {index : Nat} (hown : s.vm.findClass own = some m.cls) (w : (Cond.fieldLink own index O n d).before a0 Z = true) {a : Addr} {v : Value} (F : Fld Z h a O n d v) {g : JFrame} (hg : g.method = m) {rest : List Value} (hs : g.stack = .ref a :: rest) (hd : decode c.code g.pc = .ok (.getfield index, 3))
    (k : ∀ T', own_Sd p l e R s m args below meth c n0 T' h C S → own_Go p e below P (T'.setTop { g with pc := g.pc + 3, stack := v :: rest })) : own_Go p e below P (T.setTop g) := by
  obtain ⟨L, X, N, eT, r⟩ := X
  obtain ⟨T', X', e', st⟩ := getF X hx hZ hown (host := "") (Or.inl w) Via.refl eT F hg hs hd
  exact own_st st (k T' ⟨L, X', N, e', r⟩)
theorem own_putF (X : own_Sd p l e R s m args below meth c n0 T h C S) (hx : p.tables.exec = Jvm.exec) (hZ : Z.Warmed39 s.vm) {own O n d K : String} {index kk : Nat} {ty : FieldType} (hown : s.vm.findClass own = some m.cls) (w : (Cond.fieldLink own index O n d).before a0 Z = true) {a : Addr} {v v' old : Value} (F : Fld Z h a O n d old) (E : Exa Z h a K) (L : (Cond.lays K O n d).before a0 Z = true ∨ ((Cond.laysFinal K O n d).before a0 Z = true ∧ own = O ∧ meth.name = "<init>")) (wi : (Cond.instantiable K kk).before a0 Z = true)
    (hty : parseFieldDescriptor d = some ty) (hn : narrow ty v = v') (hf : fits ty v' = true) (ga : n0 ≤ a) {g : JFrame} (hg : g.method = m) {rest : List Value} (hs : g.stack = v :: .ref a :: rest) (hd : decode c.code g.pc = .ok (.putfield index, 3))
    (k : ∀ T' h', own_Sd p l e R s m args below meth c n0 T' h' C S → Wr h h' a (Jvm.RoadKit.slotOf Z O n d) v' → own_Go p e below P (T'.setTop { g with pc := g.pc + 3, stack := rest })) : own_Go p e below P (T.setTop g) := by
  obtain ⟨L0, X, N, eT, r1, r2⟩ := X
  obtain ⟨T', h', X', e', W, st⟩ := putFN X hx hZ hown w Via.refl eT F E L wi hty hn hf hg hs hd
  exact own_st st (k T' h' ⟨_, X', Fr.snoc X' N ga, e', r1, by rw [W.size]; exact r2⟩ W)
theorem own_newO (X : own_Sd p l e R s m args below meth c n0 T h C S) (hx : p.tables.exec = Jvm.exec) (hZ : Z.Warmed39 s.vm) {own K : String} {index n : Nat} (hown : s.vm.findClass own = some m.cls) (w : (Cond.classLink own index K).before a0 Z = true) (wi : (Cond.instantiable K n).before a0 Z = true) (wz : (Cond.initialized K).before a0 Z = true)
    {g : JFrame} (hg : g.method = m) (hd : decode c.code g.pc = .ok (.new index, 3)) (hc : C + 1 ≤ R.cells) (hl : S + n ≤ R.slots)
    (k : ∀ T' h' b, b = h.size → n0 ≤ b → own_Sd p l e R s m args below meth c n0 T' h' (C + 1) (S + n) → Ext h h' → Exa Z h' b K → (∀ {O nm d : String} {ty : FieldType}, Laid Z a0 K O nm d → parseFieldDescriptor d = some ty → Fld Z h' b O nm d (defaultValue ty)) → own_Go p e below P (T'.setTop { g with pc := g.pc + 3, stack := .ref b :: g.stack })) : own_Go p e below P (T.setTop g) := by
  have hn := X.ge0
  obtain ⟨L, X, N, eT, r1, r2⟩ := X
  obtain ⟨T', h', X', e', E, A, D, -, st⟩ := newO X hx hZ hown w wi wz eT hg hd hc hl
  exact own_st st (k T' h' h.size rfl hn ⟨L, X', N, e', r1, Nat.le_trans r2 E.1⟩ E A D)
theorem own_initO (X : own_Sd p l e R s m args below meth c n0 T h C S) (hx : p.tables.exec = Jvm.exec) (hZ : Z.Warmed39 s.vm) {own : String} {idx : Nat} (hown : s.vm.findClass own = some m.cls) (w1 : (Cond.methodLink own idx Lib.objectInit).before a0 Z = true) (w2 : (Cond.instanceMethod Lib.objectInit).before a0 Z = true)
    (w3 : (Cond.code Lib.objectInit ⟨#[0xb1]⟩ 1 none).before a0 Z = true) {g : JFrame} (hg : g.method = m) (hsize : g.locals.size = c.maxLocals) {a : Addr} {rest : List Value} (hs : g.stack = .ref a :: rest) (hd : decode c.code g.pc = .ok (.invokespecial idx, 3))
    (hf : 1 ≤ R.frames) {W : Nat} (hW : 2 * g.monitorRoom + (rest.map fun v => v.category).sum ≤ W) (hl : W + 12 ≤ R.locals)
    (k : ∀ T', own_Sd p l e R s m args below meth c n0 T' h C S → own_Go p e below P (T'.setTop { g with pc := g.pc + 3, stack := rest })) : own_Go p e below P (T.setTop g) := by
  obtain ⟨L, X, N, eT, r⟩ := X
  obtain ⟨T', X', e', st⟩ := initO X hx hZ hown w1 w2 w3 eT hg hsize hs hd hf hW hl
  exact own_st st (k T' ⟨L, X', N, e', r⟩)
/-! calls -/
theorem own_back {y : MethodName} {bytes : ByteArray} {maxL : Nat} {ret : Option FieldType} {rm : Room} {as' : Array Value} {len W : Nat} (hM : own_Met l Z y bytes maxL ret rm as' h n0 Q) (hZ : Z.Warmed39 s.vm) (wc : (Cond.code y bytes maxL ret).before a0 Z = true) (wz : (Cond.initialized y.cls).before a0 Z = true) (hf : rm.frames + 1 ≤ R.frames) (hl : W + (maxL + 11) + rm.locals ≤ R.locals) :
    Back l R p e below s args y len W (fun A a => a = as' ∧ A.U.heap = h ∧ A.cells + rm.cells ≤ R.cells ∧ A.slots + rm.slots ≤ R.slots) (fun A _ v B => ∃ L, (Q v B.U.heap ∧ h.size ≤ B.U.heap.size ∧ Fr n0 L) ∧ B.locs = A.locs ++ L ∧ B.cells = A.cells + rm.cells ∧ B.slots = A.slots + rm.slots) :=
  backOf (Q := fun v h' L => Q v h' ∧ h.size ≤ h'.size ∧ Fr n0 L) (hM []) hZ wc wz hf hl
theorem own_callS (X : own_Sd p l e R s m args below meth c n0 T h C S) (hx : p.tables.exec = Jvm.exec) (hZ : Z.Warmed39 s.vm) {own : String} {index : Nat} {y : MethodName} {bytes : ByteArray} {maxL : Nat} {ret : Option FieldType} (hown : s.vm.findClass own = some m.cls)
    (w1 : (Cond.methodLink own index y).before a0 Z = true) (w2 : (Cond.static y).before a0 Z = true) (w3 : (Cond.initialized y.cls).before a0 Z = true) (w4 : (Cond.code y bytes maxL ret).before a0 Z = true) (hy : y.cls ≠ "java/lang/invoke/MethodHandle" ∧ y.cls ≠ "java/lang/invoke/VarHandle")
    {rm : Room} {as' : Array Value} (hM : own_Met l Z y bytes maxL ret rm as' h n0 Q) (hf : rm.frames + 1 ≤ R.frames) {W : Nat} (hlo : W + (maxL + 11) + rm.locals ≤ R.locals) {g : JFrame} (hg : g.method = m) (hsize : g.locals.size = c.maxLocals) {argsL rest : List Value} (hlen : ∀ sig, parseMethodDescriptor y.desc = some sig → argsL.length = sig.parameters.length) (has : argsL.toArray = as')
    (hstack : g.stack = argsL.reverse ++ rest) (hW : 2 * g.monitorRoom + (rest.map fun v => v.category).sum ≤ W) (hd : decode c.code g.pc = .ok (.invokestatic index, 3)) (hc : C + rm.cells ≤ R.cells) (hs : S + rm.slots ≤ R.slots)
    (k : ∀ v T' h', own_Sd p l e R s m args below meth c n0 T' h' (C + rm.cells) (S + rm.slots) → Q v h' → own_Go p e below P (T'.setTop { g with pc := g.pc + 3, stack := v.toList ++ rest })) : own_Go p e below P (T.setTop g) := by
  obtain ⟨L, X, N, eT, r1, r2⟩ := X
  obtain ⟨v, _, ⟨T', L', k', n'⟩, -, X', ⟨Lc, ⟨hQ, hsz, hN⟩, e1, e2, e3⟩, st⟩ := Jvm.LawKit.callS X hx hown (mvT hZ w1) (mvT hZ w2) (mvT hZ w3) (mvT hZ w4) hy (own_back (W := W) hM hZ w4 w3 hf hlo) hg hsize hlen hstack hW hd (fun _ _ => ⟨has, eT, hc, hs⟩)
  dsimp only [Pt.U, Pt.locs, Pt.cells, Pt.slots] at X' e1 e2 e3 st hQ hsz
  subst e1 e2 e3
  exact own_st st (k v T' T'.heap ⟨_, X', Fr.app N hN, rfl, r1, Nat.le_trans r2 hsz⟩ hQ)
theorem own_callC (X : own_Sd p l e R s m args below meth c n0 T h C S) (hx : p.tables.exec = Jvm.exec) (hZ : Z.Warmed39 s.vm) {own : String} {index : Nat} {y : MethodName} {bytes : ByteArray} {maxL : Nat} (hy1 : y.name = "<init>") (hown : s.vm.findClass own = some m.cls)
    (w1 : (Cond.methodLink own index y).before a0 Z = true) (w2 : (Cond.instanceMethod y).before a0 Z = true) (w3 : (Cond.initialized y.cls).before a0 Z = true) (w4 : (Cond.code y bytes maxL none).before a0 Z = true) (hy : y.cls ≠ "java/lang/invoke/MethodHandle" ∧ y.cls ≠ "java/lang/invoke/VarHandle")
    {rm : Room} {as' : Array Value} (hM : own_Met l Z y bytes maxL none rm as' h n0 Q) (hf : rm.frames + 1 ≤ R.frames) {W : Nat} (hlo : W + (maxL + 11) + rm.locals ≤ R.locals) {g : JFrame} (hg : g.method = m) (hsize : g.locals.size = c.maxLocals) {a : Addr} {argsL rest : List Value} (hlen : ∀ sig, parseMethodDescriptor y.desc = some sig → argsL.length = sig.parameters.length) (has : (.ref a :: argsL).toArray = as')
    (hstack : g.stack = argsL.reverse ++ .ref a :: rest) (hW : 2 * g.monitorRoom + (rest.map fun v => v.category).sum ≤ W) (hd : decode c.code g.pc = .ok (.invokespecial index, 3)) (hc : C + rm.cells ≤ R.cells) (hs : S + rm.slots ≤ R.slots)
    (k : ∀ v T' h', own_Sd p l e R s m args below meth c n0 T' h' (C + rm.cells) (S + rm.slots) → Q v h' → own_Go p e below P (T'.setTop { g with pc := g.pc + 3, stack := v.toList ++ rest })) : own_Go p e below P (T.setTop g) := by
  obtain ⟨L, X, N, eT, r1, r2⟩ := X
  obtain ⟨v, _, ⟨T', L', k', n'⟩, -, X', ⟨Lc, ⟨hQ, hsz, hN⟩, e1, e2, e3⟩, st⟩ := X.specialBack hx hy1 hown (mvT hZ w1) (mvT hZ w2) (mvT hZ w4) hy (own_back (W := W) hM hZ w4 w3 hf hlo) hg hsize (Steps.refl _) hlen hstack hW hd (fun _ _ => ⟨has, eT, hc, hs⟩)
  dsimp only [Pt.U, Pt.locs, Pt.cells, Pt.slots] at X' e1 e2 e3 st hQ hsz
  subst e1 e2 e3
  exact own_st (fun _ q => st.trans q) (k v T' T'.heap ⟨_, X', Fr.app N hN, rfl, r1, Nat.le_trans r2 hsz⟩ hQ)
theorem own_callV (X : own_Sd p l e R s m args below meth c n0 T h C S) (hx : p.tables.exec = Jvm.exec) (hZ : Z.Warmed39 s.vm) {own K : String} {index : Nat} {y : MethodName} {bytes : ByteArray} {maxL : Nat} {ret : Option FieldType} (hown : s.vm.findClass own = some m.cls)
    (w1 : (Cond.methodLink own index y).before a0 Z = true) (w2 : (Cond.declares y).before a0 Z = true) (w5 : (Cond.selects K y y).before a0 Z = true) (w6 : (Cond.instanceMethod y).before a0 Z = true) (w3 : (Cond.initialized y.cls).before a0 Z = true) (w4 : (Cond.code y bytes maxL ret).before a0 Z = true) (hy : y.cls ≠ "java/lang/invoke/MethodHandle" ∧ y.cls ≠ "java/lang/invoke/VarHandle")
    {a : Addr} (E : Exa Z h a K) {rm : Room} {as' : Array Value} (hM : own_Met l Z y bytes maxL ret rm as' h n0 Q) (hf : rm.frames + 1 ≤ R.frames) {W : Nat} (hlo : W + (maxL + 11) + rm.locals ≤ R.locals) {g : JFrame} (hg : g.method = m) (hsize : g.locals.size = c.maxLocals) {argsL rest : List Value} (hlen : ∀ sig, parseMethodDescriptor y.desc = some sig → argsL.length = sig.parameters.length) (has : (.ref a :: argsL).toArray = as')
    (hstack : g.stack = argsL.reverse ++ .ref a :: rest) (hW : 2 * g.monitorRoom + (rest.map fun v => v.category).sum ≤ W) (hd : decode c.code g.pc = .ok (.invokevirtual index, 3)) (hc : C + rm.cells ≤ R.cells) (hs : S + rm.slots ≤ R.slots)
    (k : ∀ v T' h', own_Sd p l e R s m args below meth c n0 T' h' (C + rm.cells) (S + rm.slots) → Q v h' → own_Go p e below P (T'.setTop { g with pc := g.pc + 3, stack := v.toList ++ rest })) : own_Go p e below P (T.setTop g) := by
  obtain ⟨L, X, N, eT, r1, r2⟩ := X
  obtain ⟨cB, kB, q1, q2, q3⟩ := isOf hZ eT E
  obtain ⟨v, _, ⟨T', L', k', n'⟩, -, X', ⟨Lc, ⟨hQ, hsz, hN⟩, e1, e2, e3⟩, st⟩ := X.virtualBack hx hown (mvT hZ w1) (mvT hZ w2) (notFace_of_selects (args := #[]) (mvT hZ w5)) (mvT hZ w5) (mvT hZ w6) hy (own_back (W := W) hM hZ w4 w3 hf hlo) q1 q3 hg hsize (Steps.refl _) hlen hstack hW hd (fun _ _ => ⟨has, eT, hc, hs⟩)
  dsimp only [Pt.U, Pt.locs, Pt.cells, Pt.slots] at X' e1 e2 e3 st hQ hsz
  subst e1 e2 e3
  exact own_st (fun _ q => st.trans q) (k v T' T'.heap ⟨_, X', Fr.app N hN, rfl, r1, Nat.le_trans r2 hsz⟩ hQ)
theorem own_callP (X : own_Sd p l e R s m args below meth c n0 T h C S) (hx : p.tables.exec = Jvm.exec) (hZ : Z.Warmed39 s.vm) {own K K' : String} {index : Nat} {y y' : MethodName} {bytes : ByteArray} {maxL : Nat} {ret : Option FieldType} (hown : s.vm.findClass own = some m.cls)
    (w1 : (Cond.methodLink own index y).before a0 Z = true) (w7 : (Cond.privateMethod y).before a0 Z = true) (w5 : (Cond.selects K y' y').before a0 Z = true) (hyy : y'.cls = y.cls) (w6 : (Cond.instanceMethod y).before a0 Z = true) (w3 : (Cond.initialized y.cls).before a0 Z = true) (w4 : (Cond.code y bytes maxL ret).before a0 Z = true) (hy : y.cls ≠ "java/lang/invoke/MethodHandle" ∧ y.cls ≠ "java/lang/invoke/VarHandle")
    {a : Addr} (E : Exa Z h a K') {rm : Room} {as' : Array Value} (hM : own_Met l Z y bytes maxL ret rm as' h n0 Q) (hf : rm.frames + 1 ≤ R.frames) {W : Nat} (hlo : W + (maxL + 11) + rm.locals ≤ R.locals) {g : JFrame} (hg : g.method = m) (hsize : g.locals.size = c.maxLocals) {argsL rest : List Value} (hlen : ∀ sig, parseMethodDescriptor y.desc = some sig → argsL.length = sig.parameters.length) (has : (.ref a :: argsL).toArray = as')
    (hstack : g.stack = argsL.reverse ++ .ref a :: rest) (hW : 2 * g.monitorRoom + (rest.map fun v => v.category).sum ≤ W) (hd : decode c.code g.pc = .ok (.invokevirtual index, 3)) (hc : C + rm.cells ≤ R.cells) (hs : S + rm.slots ≤ R.slots)
    (k : ∀ v T' h', own_Sd p l e R s m args below meth c n0 T' h' (C + rm.cells) (S + rm.slots) → Q v h' → own_Go p e below P (T'.setTop { g with pc := g.pc + 3, stack := v.toList ++ rest })) : own_Go p e below P (T.setTop g) := by
  obtain ⟨L, X, N, eT, r1, r2⟩ := X
  obtain ⟨c2, q2, m2, -, -, q3, -, kP, hkP, hkPi⟩ := Cond.selects_spec (mvT hZ w5 : (Cond.selects K y' y').before args s = true)
  have hcl := findClass_of_methodNamed q3
  rw [hyy] at hcl
  have hp := Cond.privateMethod_at (mvP hZ w7 (args := #[]))
  have hsel := selects_self_of_private (args := args) hcl hkP hkPi hp (mvT hZ w6) hy
  obtain ⟨cl, h1, h2⟩ := E.cell
  obtain ⟨v, _, ⟨T', L', k', n'⟩, -, X', ⟨Lc, ⟨hQ, hsz, hN⟩, e1, e2, e3⟩, st⟩ := X.privateBack hx hown (mvT hZ w1) (mvT hZ w6) hsel hp (mvT hZ w4) hy (own_back (W := W) hM hZ w4 w3 hf hlo) hg hsize (Steps.refl _) (by rw [eT]; exact h1) h2 hlen hstack hW hd (fun _ _ => ⟨has, eT, hc, hs⟩)
  dsimp only [Pt.U, Pt.locs, Pt.cells, Pt.slots] at X' e1 e2 e3 st hQ hsz
  subst e1 e2 e3
  exact own_st (fun _ q => st.trans q) (k v T' T'.heap ⟨_, X', Fr.app N hN, rfl, r1, Nat.le_trans r2 hsz⟩ hQ)
/-! calls of methods that leave the heap as it is -/
theorem own_callSp (X : own_Sd p l e R s m args below meth c n0 T h C S) (hx : p.tables.exec = Jvm.exec) (hZ : Z.Warmed39 s.vm) {own : String} {index : Nat} {y : MethodName} {bytes : ByteArray} {maxL : Nat} {ret : Option FieldType} (hown : s.vm.findClass own = some m.cls)
    (w1 : (Cond.methodLink own index y).before a0 Z = true) (w2 : (Cond.static y).before a0 Z = true) (w3 : (Cond.initialized y.cls).before a0 Z = true) (w4 : (Cond.code y bytes maxL ret).before a0 Z = true) (hy : y.cls ≠ "java/lang/invoke/MethodHandle" ∧ y.cls ≠ "java/lang/invoke/VarHandle")
    {rm : Room} {as' : Array Value} {r : Option Value} (hM : own_Met l Z y bytes maxL ret rm as' h n0 (fun v' h' => v' = r ∧ h' = h)) (hf : rm.frames + 1 ≤ R.frames) {W : Nat} (hlo : W + (maxL + 11) + rm.locals ≤ R.locals) {g : JFrame} (hg : g.method = m) (hsize : g.locals.size = c.maxLocals) {argsL rest : List Value} (hlen : ∀ sig, parseMethodDescriptor y.desc = some sig → argsL.length = sig.parameters.length) (has : argsL.toArray = as')
    (hstack : g.stack = argsL.reverse ++ rest) (hW : 2 * g.monitorRoom + (rest.map fun v => v.category).sum ≤ W) (hd : decode c.code g.pc = .ok (.invokestatic index, 3)) (hc : C + rm.cells ≤ R.cells) (hs : S + rm.slots ≤ R.slots)
    (k : ∀ T', own_Sd p l e R s m args below meth c n0 T' h (C + rm.cells) (S + rm.slots) → own_Go p e below P (T'.setTop { g with pc := g.pc + 3, stack := r.toList ++ rest })) : own_Go p e below P (T.setTop g) :=
  own_callS X hx hZ hown w1 w2 w3 w4 hy hM hf hlo hg hsize hlen has hstack hW hd hc hs fun v T' h' X' q => by
    obtain ⟨e1, e2⟩ := q; rw [e1]; rw [e2] at X'; exact k T' X'
theorem own_callVp (X : own_Sd p l e R s m args below meth c n0 T h C S) (hx : p.tables.exec = Jvm.exec) (hZ : Z.Warmed39 s.vm) {own K : String} {index : Nat} {y : MethodName} {bytes : ByteArray} {maxL : Nat} {ret : Option FieldType} (hown : s.vm.findClass own = some m.cls)
    (w1 : (Cond.methodLink own index y).before a0 Z = true) (w2 : (Cond.declares y).before a0 Z = true) (w5 : (Cond.selects K y y).before a0 Z = true) (w6 : (Cond.instanceMethod y).before a0 Z = true) (w3 : (Cond.initialized y.cls).before a0 Z = true) (w4 : (Cond.code y bytes maxL ret).before a0 Z = true) (hy : y.cls ≠ "java/lang/invoke/MethodHandle" ∧ y.cls ≠ "java/lang/invoke/VarHandle")
    {a : Addr} (E : Exa Z h a K) {rm : Room} {as' : Array Value} {r : Option Value} (hM : own_Met l Z y bytes maxL ret rm as' h n0 (fun v' h' => v' = r ∧ h' = h)) (hf : rm.frames + 1 ≤ R.frames) {W : Nat} (hlo : W + (maxL + 11) + rm.locals ≤ R.locals) {g : JFrame} (hg : g.method = m) (hsize : g.locals.size = c.maxLocals) {argsL rest : List Value} (hlen : ∀ sig, parseMethodDescriptor y.desc = some sig → argsL.length = sig.parameters.length) (has : (.ref a :: argsL).toArray = as')
    (hstack : g.stack = argsL.reverse ++ .ref a :: rest) (hW : 2 * g.monitorRoom + (rest.map fun v => v.category).sum ≤ W) (hd : decode c.code g.pc = .ok (.invokevirtual index, 3)) (hc : C + rm.cells ≤ R.cells) (hs : S + rm.slots ≤ R.slots)
    (k : ∀ T', own_Sd p l e R s m args below meth c n0 T' h (C + rm.cells) (S + rm.slots) → own_Go p e below P (T'.setTop { g with pc := g.pc + 3, stack := r.toList ++ rest })) : own_Go p e below P (T.setTop g) :=
  own_callV X hx hZ hown w1 w2 w5 w6 w3 w4 hy E hM hf hlo hg hsize hlen has hstack hW hd hc hs fun v T' h' X' q => by
    obtain ⟨e1, e2⟩ := q; rw [e1]; rw [e2] at X'; exact k T' X'
theorem own_callCp (X : own_Sd p l e R s m args below meth c n0 T h C S) (hx : p.tables.exec = Jvm.exec) (hZ : Z.Warmed39 s.vm) {own : String} {index : Nat} {y : MethodName} {bytes : ByteArray} {maxL : Nat} (hy1 : y.name = "<init>") (hown : s.vm.findClass own = some m.cls)
    (w1 : (Cond.methodLink own index y).before a0 Z = true) (w2 : (Cond.instanceMethod y).before a0 Z = true) (w3 : (Cond.initialized y.cls).before a0 Z = true) (w4 : (Cond.code y bytes maxL none).before a0 Z = true) (hy : y.cls ≠ "java/lang/invoke/MethodHandle" ∧ y.cls ≠ "java/lang/invoke/VarHandle")
    {rm : Room} {as' : Array Value} {r : Option Value} (hM : own_Met l Z y bytes maxL none rm as' h n0 (fun v' h' => v' = r ∧ h' = h)) (hf : rm.frames + 1 ≤ R.frames) {W : Nat} (hlo : W + (maxL + 11) + rm.locals ≤ R.locals) {g : JFrame} (hg : g.method = m) (hsize : g.locals.size = c.maxLocals) {a : Addr} {argsL rest : List Value} (hlen : ∀ sig, parseMethodDescriptor y.desc = some sig → argsL.length = sig.parameters.length) (has : (.ref a :: argsL).toArray = as')
    (hstack : g.stack = argsL.reverse ++ .ref a :: rest) (hW : 2 * g.monitorRoom + (rest.map fun v => v.category).sum ≤ W) (hd : decode c.code g.pc = .ok (.invokespecial index, 3)) (hc : C + rm.cells ≤ R.cells) (hs : S + rm.slots ≤ R.slots)
    (k : ∀ T', own_Sd p l e R s m args below meth c n0 T' h (C + rm.cells) (S + rm.slots) → own_Go p e below P (T'.setTop { g with pc := g.pc + 3, stack := r.toList ++ rest })) : own_Go p e below P (T.setTop g) :=
  own_callC X hx hZ hy1 hown w1 w2 w3 w4 hy hM hf hlo hg hsize hlen has hstack hW hd hc hs fun v T' h' X' q => by
    obtain ⟨e1, e2⟩ := q; rw [e1]; rw [e2] at X'; exact k T' X'
theorem own_callPp (X : own_Sd p l e R s m args below meth c n0 T h C S) (hx : p.tables.exec = Jvm.exec) (hZ : Z.Warmed39 s.vm) {own K K' : String} {index : Nat} {y y' : MethodName} {bytes : ByteArray} {maxL : Nat} {ret : Option FieldType} (hown : s.vm.findClass own = some m.cls)
    (w1 : (Cond.methodLink own index y).before a0 Z = true) (w7 : (Cond.privateMethod y).before a0 Z = true) (w5 : (Cond.selects K y' y').before a0 Z = true) (hyy : y'.cls = y.cls) (w6 : (Cond.instanceMethod y).before a0 Z = true) (w3 : (Cond.initialized y.cls).before a0 Z = true) (w4 : (Cond.code y bytes maxL ret).before a0 Z = true) (hy : y.cls ≠ "java/lang/invoke/MethodHandle" ∧ y.cls ≠ "java/lang/invoke/VarHandle")
    {a : Addr} (E : Exa Z h a K') {rm : Room} {as' : Array Value} {r : Option Value} (hM : own_Met l Z y bytes maxL ret rm as' h n0 (fun v' h' => v' = r ∧ h' = h)) (hf : rm.frames + 1 ≤ R.frames) {W : Nat} (hlo : W + (maxL + 11) + rm.locals ≤ R.locals) {g : JFrame} (hg : g.method = m) (hsize : g.locals.size = c.maxLocals) {argsL rest : List Value} (hlen : ∀ sig, parseMethodDescriptor y.desc = some sig → argsL.length = sig.parameters.length) (has : (.ref a :: argsL).toArray = as')
    (hstack : g.stack = argsL.reverse ++ .ref a :: rest) (hW : 2 * g.monitorRoom + (rest.map fun v => v.category).sum ≤ W) (hd : decode c.code g.pc = .ok (.invokevirtual index, 3)) (hc : C + rm.cells ≤ R.cells) (hs : S + rm.slots ≤ R.slots)
    (k : ∀ T', own_Sd p l e R s m args below meth c n0 T' h (C + rm.cells) (S + rm.slots) → own_Go p e below P (T'.setTop { g with pc := g.pc + 3, stack := r.toList ++ rest })) : own_Go p e below P (T.setTop g) :=
  own_callP X hx hZ hown w1 w7 w5 hyy w6 w3 w4 hy E hM hf hlo hg hsize hlen has hstack hW hd hc hs fun v T' h' X' q => by
    obtain ⟨e1, e2⟩ := q; rw [e1]; rw [e2] at X'; exact k T' X'
end Own
section OwnS
variable {p : Program} {l : Launch} {e : Env} {R : Room} {s : State} {m : MethodId} {args : Array Value} {below : List Frame} {meth : Method} {c : Code} {T : State} {n0 C S : Nat} {Z : State} {a0 : Array Value} {h h' : Heap} {P : State → Outcome → Prop} {Q : Option Value → Heap → Prop} {a b : Addr} {ty : FieldType} {vs : List Value} {v : Value} {sl i : Nat}
variable {bytes : ByteArray} {maxL : Nat} {y : MethodName} {ret : Option FieldType} {pc : Nat} {Ls Ls' : Array Slot} {st : List Value}
theorem o_w (hw : ∀ d ∈ tables_1, d.before a0 Z = true) (i : Nat) {d : Jvm.Cond} (q : tables_1[i]? = some d) : d.before a0 Z = true := hw d (List.mem_of_getElem? q)
theorem o_iload (cx : own_Cx p s m meth c Z bytes maxL y ret) (X : own_Sd p l e R s m args below meth c n0 T h C S) {k : Nat} {z : Int32} (hd : decode bytes pc = .ok (.iload k, 2)) (hl : Ls[k]? = some (.val (.int z))) (k : own_Go p e below P (T.setTop (mkF m (pc + 2) Ls (.int z :: st)))) : own_Go p e below P (T.setTop (mkF m pc Ls st)) := by
  obtain ⟨hx, hby, -⟩ := cx
  exact own_st (fun _ q => XS.iload X.here hx rfl (hb hby hd) hl q) k
theorem o_lload (cx : own_Cx p s m meth c Z bytes maxL y ret) (X : own_Sd p l e R s m args below meth c n0 T h C S) {k : Nat} {z : Int64} (hd : decode bytes pc = .ok (.lload k, 2)) (hl : Ls[k]? = some (.val (.long z))) (k : own_Go p e below P (T.setTop (mkF m (pc + 2) Ls (.long z :: st)))) : own_Go p e below P (T.setTop (mkF m pc Ls st)) := by
  obtain ⟨hx, hby, -⟩ := cx
  exact own_st (fun _ q => XS.lload X.here hx rfl (hb hby hd) hl q) k
theorem o_aload (cx : own_Cx p s m meth c Z bytes maxL y ret) (X : own_Sd p l e R s m args below meth c n0 T h C S) {k : Nat} {v : Value} (hd : decode bytes pc = .ok (.aload k, 2)) (hl : Ls[k]? = some (.val v)) (hv : v.isRef = true) (k : own_Go p e below P (T.setTop (mkF m (pc + 2) Ls (v :: st)))) : own_Go p e below P (T.setTop (mkF m pc Ls st)) := by
  obtain ⟨hx, hby, -⟩ := cx
  exact own_st (fun _ q => XS.aload X.here hx rfl (hb hby hd) hl hv q) k
theorem o_istore (cx : own_Cx p s m meth c Z bytes maxL y ret) (X : own_Sd p l e R s m args below meth c n0 T h C S) {k : Nat} {z : Int32} (hd : decode bytes pc = .ok (.istore k, 2)) (hl : storeLocals Ls k (.int z) = some Ls') (k : own_Go p e below P (T.setTop (mkF m (pc + 2) Ls' st))) : own_Go p e below P (T.setTop (mkF m pc Ls (.int z :: st))) := by
  obtain ⟨hx, hby, -⟩ := cx
  exact own_st (fun _ q => XS.istore X.here hx rfl (hb hby hd) rfl hl q) k
theorem o_lstore (cx : own_Cx p s m meth c Z bytes maxL y ret) (X : own_Sd p l e R s m args below meth c n0 T h C S) {k : Nat} {z : Int64} (hd : decode bytes pc = .ok (.lstore k, 2)) (hl : storeLocals Ls k (.long z) = some Ls') (k : own_Go p e below P (T.setTop (mkF m (pc + 2) Ls' st))) : own_Go p e below P (T.setTop (mkF m pc Ls (.long z :: st))) := by
  obtain ⟨hx, hby, -⟩ := cx
  exact own_st (fun _ q => XS.lstore X.here hx rfl (hb hby hd) rfl hl q) k
theorem o_astore (cx : own_Cx p s m meth c Z bytes maxL y ret) (X : own_Sd p l e R s m args below meth c n0 T h C S) {k : Nat} {v : Value} (hd : decode bytes pc = .ok (.astore k, 2)) (hv : v.isRef = true) (hl : storeLocals Ls k v = some Ls') (k : own_Go p e below P (T.setTop (mkF m (pc + 2) Ls' st))) : own_Go p e below P (T.setTop (mkF m pc Ls (v :: st))) := by
  obtain ⟨hx, hby, -⟩ := cx
  exact own_st (fun _ q => XS.astore X.here hx rfl (hb hby hd) rfl hv hl q) k
theorem o_iloadN (cx : own_Cx p s m meth c Z bytes maxL y ret) (X : own_Sd p l e R s m args below meth c n0 T h C S) {k : Fin 4} {z : Int32} (hd : decode bytes pc = .ok (.iload_n k, 1)) (hl : Ls[k.val]? = some (.val (.int z))) (k : own_Go p e below P (T.setTop (mkF m (pc + 1) Ls (.int z :: st)))) : own_Go p e below P (T.setTop (mkF m pc Ls st)) := by
  obtain ⟨hx, hby, -⟩ := cx
  exact own_st (fun _ q => XS.iloadN X.here hx rfl (hb hby hd) hl q) k
theorem o_lloadN (cx : own_Cx p s m meth c Z bytes maxL y ret) (X : own_Sd p l e R s m args below meth c n0 T h C S) {k : Fin 4} {z : Int64} (hd : decode bytes pc = .ok (.lload_n k, 1)) (hl : Ls[k.val]? = some (.val (.long z))) (k : own_Go p e below P (T.setTop (mkF m (pc + 1) Ls (.long z :: st)))) : own_Go p e below P (T.setTop (mkF m pc Ls st)) := by
  obtain ⟨hx, hby, -⟩ := cx
  exact own_st (fun _ q => XS.lloadN X.here hx rfl (hb hby hd) hl q) k
theorem o_aloadN (cx : own_Cx p s m meth c Z bytes maxL y ret) (X : own_Sd p l e R s m args below meth c n0 T h C S) {k : Fin 4} {v : Value} (hd : decode bytes pc = .ok (.aload_n k, 1)) (hl : Ls[k.val]? = some (.val v)) (hv : v.isRef = true) (k : own_Go p e below P (T.setTop (mkF m (pc + 1) Ls (v :: st)))) : own_Go p e below P (T.setTop (mkF m pc Ls st)) := by
  obtain ⟨hx, hby, -⟩ := cx
  exact own_st (fun _ q => XS.aloadN X.here hx rfl (hb hby hd) hl hv q) k
theorem o_istoreN (cx : own_Cx p s m meth c Z bytes maxL y ret) (X : own_Sd p l e R s m args below meth c n0 T h C S) {k : Fin 4} {z : Int32} (hd : decode bytes pc = .ok (.istore_n k, 1)) (hl : storeLocals Ls k.val (.int z) = some Ls') (k : own_Go p e below P (T.setTop (mkF m (pc + 1) Ls' st))) : own_Go p e below P (T.setTop (mkF m pc Ls (.int z :: st))) := by
  obtain ⟨hx, hby, -⟩ := cx
  exact own_st (fun _ q => XS.istoreN X.here hx rfl (hb hby hd) rfl hl q) k
theorem o_lstoreN (cx : own_Cx p s m meth c Z bytes maxL y ret) (X : own_Sd p l e R s m args below meth c n0 T h C S) {k : Fin 4} {z : Int64} (hd : decode bytes pc = .ok (.lstore_n k, 1)) (hl : storeLocals Ls k.val (.long z) = some Ls') (k : own_Go p e below P (T.setTop (mkF m (pc + 1) Ls' st))) : own_Go p e below P (T.setTop (mkF m pc Ls (.long z :: st))) := by
  obtain ⟨hx, hby, -⟩ := cx
  exact own_st (fun _ q => XS.lstoreN X.here hx rfl (hb hby hd) rfl hl q) k
theorem o_astoreN (cx : own_Cx p s m meth c Z bytes maxL y ret) (X : own_Sd p l e R s m args below meth c n0 T h C S) {k : Fin 4} {v : Value} (hd : decode bytes pc = .ok (.astore_n k, 1)) (hv : v.isRef = true) (hl : storeLocals Ls k.val v = some Ls') (k : own_Go p e below P (T.setTop (mkF m (pc + 1) Ls' st))) : own_Go p e below P (T.setTop (mkF m pc Ls (v :: st))) := by
  obtain ⟨hx, hby, -⟩ := cx
  exact own_st (fun _ q => XS.astoreN X.here hx rfl (hb hby hd) rfl hv hl q) k
theorem o_iconst (cx : own_Cx p s m meth c Z bytes maxL y ret) (X : own_Sd p l e R s m args below meth c n0 T h C S) {i : Int} {z : Int32} (hd : decode bytes pc = .ok (.iconst i, 1)) (hz : Int32.ofInt i = z) (k : own_Go p e below P (T.setTop (mkF m (pc + 1) Ls (.int z :: st)))) : own_Go p e below P (T.setTop (mkF m pc Ls st)) := by
  obtain ⟨hx, hby, -⟩ := cx
  exact own_st (fun _ q => XS.iconst X.here hx rfl (hb hby hd) (by rw [hz]; exact q)) k
theorem o_bipush (cx : own_Cx p s m meth c Z bytes maxL y ret) (X : own_Sd p l e R s m args below meth c n0 T h C S) {i : Int} {z : Int32} (hd : decode bytes pc = .ok (.bipush i, 2)) (hz : (Int8.ofInt i).toInt32 = z) (k : own_Go p e below P (T.setTop (mkF m (pc + 2) Ls (.int z :: st)))) : own_Go p e below P (T.setTop (mkF m pc Ls st)) := by
  obtain ⟨hx, hby, -⟩ := cx
  exact own_st (fun _ q => XS.bipush X.here hx rfl (hb hby hd) (by rw [hz]; exact q)) k
theorem o_sipush (cx : own_Cx p s m meth c Z bytes maxL y ret) (X : own_Sd p l e R s m args below meth c n0 T h C S) {i : Int} {z : Int32} (hd : decode bytes pc = .ok (.sipush i, 3)) (hz : (Int16.ofInt i).toInt32 = z) (k : own_Go p e below P (T.setTop (mkF m (pc + 3) Ls (.int z :: st)))) : own_Go p e below P (T.setTop (mkF m pc Ls st)) := by
  obtain ⟨hx, hby, -⟩ := cx
  exact own_st (fun _ q => XS.sipush X.here hx rfl (hb hby hd) (by rw [hz]; exact q)) k
theorem o_lconst (cx : own_Cx p s m meth c Z bytes maxL y ret) (X : own_Sd p l e R s m args below meth c n0 T h C S) {j : Fin 2} {z : Int64} (hd : decode bytes pc = .ok (.lconst j, 1)) (hz : Int64.ofNat j = z) (k : own_Go p e below P (T.setTop (mkF m (pc + 1) Ls (.long z :: st)))) : own_Go p e below P (T.setTop (mkF m pc Ls st)) := by
  obtain ⟨hx, hby, -⟩ := cx
  exact own_st (fun _ q => XS.lconst X.here hx rfl (hb hby hd) (by rw [hz]; exact q)) k
theorem o_aconst_null (cx : own_Cx p s m meth c Z bytes maxL y ret) (X : own_Sd p l e R s m args below meth c n0 T h C S)  (hd : decode bytes pc = .ok (.aconst_null, 1))  (k : own_Go p e below P (T.setTop (mkF m (pc + 1) Ls (.null :: st)))) : own_Go p e below P (T.setTop (mkF m pc Ls st)) := by
  obtain ⟨hx, hby, -⟩ := cx
  exact own_st (fun _ q => XS.aconstNull X.here hx rfl (hb hby hd) q) k
theorem o_iadd (cx : own_Cx p s m meth c Z bytes maxL y ret) (X : own_Sd p l e R s m args below meth c n0 T h C S) {x w z : Int32} (hd : decode bytes pc = .ok (.iadd, 1)) (hz : (x + w) = z) (k : own_Go p e below P (T.setTop (mkF m (pc + 1) Ls (.int z :: st)))) : own_Go p e below P (T.setTop (mkF m pc Ls (.int w :: .int x :: st))) := by
  obtain ⟨hx, hby, -⟩ := cx
  exact own_st (fun _ q => XS.iadd X.here hx rfl (hb hby hd) rfl (by rw [hz]; exact q)) k
theorem o_isub (cx : own_Cx p s m meth c Z bytes maxL y ret) (X : own_Sd p l e R s m args below meth c n0 T h C S) {x w z : Int32} (hd : decode bytes pc = .ok (.isub, 1)) (hz : (x - w) = z) (k : own_Go p e below P (T.setTop (mkF m (pc + 1) Ls (.int z :: st)))) : own_Go p e below P (T.setTop (mkF m pc Ls (.int w :: .int x :: st))) := by
  obtain ⟨hx, hby, -⟩ := cx
  exact own_st (fun _ q => XS.isub X.here hx rfl (hb hby hd) rfl (by rw [hz]; exact q)) k
theorem o_imul (cx : own_Cx p s m meth c Z bytes maxL y ret) (X : own_Sd p l e R s m args below meth c n0 T h C S) {x w z : Int32} (hd : decode bytes pc = .ok (.imul, 1)) (hz : (x * w) = z) (k : own_Go p e below P (T.setTop (mkF m (pc + 1) Ls (.int z :: st)))) : own_Go p e below P (T.setTop (mkF m pc Ls (.int w :: .int x :: st))) := by
  obtain ⟨hx, hby, -⟩ := cx
  exact own_st (fun _ q => XS.imul X.here hx rfl (hb hby hd) rfl (by rw [hz]; exact q)) k
theorem o_iand (cx : own_Cx p s m meth c Z bytes maxL y ret) (X : own_Sd p l e R s m args below meth c n0 T h C S) {x w z : Int32} (hd : decode bytes pc = .ok (.iand, 1)) (hz : (x &&& w) = z) (k : own_Go p e below P (T.setTop (mkF m (pc + 1) Ls (.int z :: st)))) : own_Go p e below P (T.setTop (mkF m pc Ls (.int w :: .int x :: st))) := by
  obtain ⟨hx, hby, -⟩ := cx
  exact own_st (fun _ q => XS.iand X.here hx rfl (hb hby hd) rfl (by rw [hz]; exact q)) k
theorem o_ior (cx : own_Cx p s m meth c Z bytes maxL y ret) (X : own_Sd p l e R s m args below meth c n0 T h C S) {x w z : Int32} (hd : decode bytes pc = .ok (.ior, 1)) (hz : (x ||| w) = z) (k : own_Go p e below P (T.setTop (mkF m (pc + 1) Ls (.int z :: st)))) : own_Go p e below P (T.setTop (mkF m pc Ls (.int w :: .int x :: st))) := by
  obtain ⟨hx, hby, -⟩ := cx
  exact own_st (fun _ q => XS.ior X.here hx rfl (hb hby hd) rfl (by rw [hz]; exact q)) k
theorem o_ixor (cx : own_Cx p s m meth c Z bytes maxL y ret) (X : own_Sd p l e R s m args below meth c n0 T h C S) {x w z : Int32} (hd : decode bytes pc = .ok (.ixor, 1)) (hz : (x ^^^ w) = z) (k : own_Go p e below P (T.setTop (mkF m (pc + 1) Ls (.int z :: st)))) : own_Go p e below P (T.setTop (mkF m pc Ls (.int w :: .int x :: st))) := by
  obtain ⟨hx, hby, -⟩ := cx
  exact own_st (fun _ q => XS.ixor X.here hx rfl (hb hby hd) rfl (by rw [hz]; exact q)) k
theorem o_ishl (cx : own_Cx p s m meth c Z bytes maxL y ret) (X : own_Sd p l e R s m args below meth c n0 T h C S) {x w z : Int32} (hd : decode bytes pc = .ok (.ishl, 1)) (hz : (x <<< (w &&& 31)) = z) (k : own_Go p e below P (T.setTop (mkF m (pc + 1) Ls (.int z :: st)))) : own_Go p e below P (T.setTop (mkF m pc Ls (.int w :: .int x :: st))) := by
  obtain ⟨hx, hby, -⟩ := cx
  exact own_st (fun _ q => XS.ishl X.here hx rfl (hb hby hd) rfl (by rw [hz]; exact q)) k
theorem o_ishr (cx : own_Cx p s m meth c Z bytes maxL y ret) (X : own_Sd p l e R s m args below meth c n0 T h C S) {x w z : Int32} (hd : decode bytes pc = .ok (.ishr, 1)) (hz : (x >>> (w &&& 31)) = z) (k : own_Go p e below P (T.setTop (mkF m (pc + 1) Ls (.int z :: st)))) : own_Go p e below P (T.setTop (mkF m pc Ls (.int w :: .int x :: st))) := by
  obtain ⟨hx, hby, -⟩ := cx
  exact own_st (fun _ q => XS.ishr X.here hx rfl (hb hby hd) rfl (by rw [hz]; exact q)) k
theorem o_iushr (cx : own_Cx p s m meth c Z bytes maxL y ret) (X : own_Sd p l e R s m args below meth c n0 T h C S) {x w z : Int32} (hd : decode bytes pc = .ok (.iushr, 1)) (hz : ((x.toUInt32 >>> (w &&& 31).toUInt32).toInt32) = z) (k : own_Go p e below P (T.setTop (mkF m (pc + 1) Ls (.int z :: st)))) : own_Go p e below P (T.setTop (mkF m pc Ls (.int w :: .int x :: st))) := by
  obtain ⟨hx, hby, -⟩ := cx
  exact own_st (fun _ q => XS.iushr X.here hx rfl (hb hby hd) rfl (by rw [hz]; exact q)) k
theorem o_ladd (cx : own_Cx p s m meth c Z bytes maxL y ret) (X : own_Sd p l e R s m args below meth c n0 T h C S) {x w z : Int64} (hd : decode bytes pc = .ok (.ladd, 1)) (hz : (x + w) = z) (k : own_Go p e below P (T.setTop (mkF m (pc + 1) Ls (.long z :: st)))) : own_Go p e below P (T.setTop (mkF m pc Ls (.long w :: .long x :: st))) := by
  obtain ⟨hx, hby, -⟩ := cx
  exact own_st (fun _ q => XS.ladd X.here hx rfl (hb hby hd) rfl (by rw [hz]; exact q)) k
theorem o_lsub (cx : own_Cx p s m meth c Z bytes maxL y ret) (X : own_Sd p l e R s m args below meth c n0 T h C S) {x w z : Int64} (hd : decode bytes pc = .ok (.lsub, 1)) (hz : (x - w) = z) (k : own_Go p e below P (T.setTop (mkF m (pc + 1) Ls (.long z :: st)))) : own_Go p e below P (T.setTop (mkF m pc Ls (.long w :: .long x :: st))) := by
  obtain ⟨hx, hby, -⟩ := cx
  exact own_st (fun _ q => XS.lsub X.here hx rfl (hb hby hd) rfl (by rw [hz]; exact q)) k
theorem o_lmul (cx : own_Cx p s m meth c Z bytes maxL y ret) (X : own_Sd p l e R s m args below meth c n0 T h C S) {x w z : Int64} (hd : decode bytes pc = .ok (.lmul, 1)) (hz : (x * w) = z) (k : own_Go p e below P (T.setTop (mkF m (pc + 1) Ls (.long z :: st)))) : own_Go p e below P (T.setTop (mkF m pc Ls (.long w :: .long x :: st))) := by
  obtain ⟨hx, hby, -⟩ := cx
  exact own_st (fun _ q => XS.lmul X.here hx rfl (hb hby hd) rfl (by rw [hz]; exact q)) k
theorem o_land (cx : own_Cx p s m meth c Z bytes maxL y ret) (X : own_Sd p l e R s m args below meth c n0 T h C S) {x w z : Int64} (hd : decode bytes pc = .ok (.land, 1)) (hz : (x &&& w) = z) (k : own_Go p e below P (T.setTop (mkF m (pc + 1) Ls (.long z :: st)))) : own_Go p e below P (T.setTop (mkF m pc Ls (.long w :: .long x :: st))) := by
  obtain ⟨hx, hby, -⟩ := cx
  exact own_st (fun _ q => XS.land X.here hx rfl (hb hby hd) rfl (by rw [hz]; exact q)) k
theorem o_lor (cx : own_Cx p s m meth c Z bytes maxL y ret) (X : own_Sd p l e R s m args below meth c n0 T h C S) {x w z : Int64} (hd : decode bytes pc = .ok (.lor, 1)) (hz : (x ||| w) = z) (k : own_Go p e below P (T.setTop (mkF m (pc + 1) Ls (.long z :: st)))) : own_Go p e below P (T.setTop (mkF m pc Ls (.long w :: .long x :: st))) := by
  obtain ⟨hx, hby, -⟩ := cx
  exact own_st (fun _ q => XS.lor X.here hx rfl (hb hby hd) rfl (by rw [hz]; exact q)) k
theorem o_lxor (cx : own_Cx p s m meth c Z bytes maxL y ret) (X : own_Sd p l e R s m args below meth c n0 T h C S) {x w z : Int64} (hd : decode bytes pc = .ok (.lxor, 1)) (hz : (x ^^^ w) = z) (k : own_Go p e below P (T.setTop (mkF m (pc + 1) Ls (.long z :: st)))) : own_Go p e below P (T.setTop (mkF m pc Ls (.long w :: .long x :: st))) := by
  obtain ⟨hx, hby, -⟩ := cx
  exact own_st (fun _ q => XS.lxor X.here hx rfl (hb hby hd) rfl (by rw [hz]; exact q)) k
theorem o_lshl (cx : own_Cx p s m meth c Z bytes maxL y ret) (X : own_Sd p l e R s m args below meth c n0 T h C S) {x : Int64} {w : Int32} {z : Int64} (hd : decode bytes pc = .ok (.lshl, 1)) (hz : (x <<< (w &&& 0x3f).toInt64) = z) (k : own_Go p e below P (T.setTop (mkF m (pc + 1) Ls (.long z :: st)))) : own_Go p e below P (T.setTop (mkF m pc Ls (.int w :: .long x :: st))) := by
  obtain ⟨hx, hby, -⟩ := cx
  exact own_st (fun _ q => XS.lshl X.here hx rfl (hb hby hd) rfl (by rw [hz]; exact q)) k
theorem o_lshr (cx : own_Cx p s m meth c Z bytes maxL y ret) (X : own_Sd p l e R s m args below meth c n0 T h C S) {x : Int64} {w : Int32} {z : Int64} (hd : decode bytes pc = .ok (.lshr, 1)) (hz : (x >>> (w &&& 0x3f).toInt64) = z) (k : own_Go p e below P (T.setTop (mkF m (pc + 1) Ls (.long z :: st)))) : own_Go p e below P (T.setTop (mkF m pc Ls (.int w :: .long x :: st))) := by
  obtain ⟨hx, hby, -⟩ := cx
  exact own_st (fun _ q => XS.lshr X.here hx rfl (hb hby hd) rfl (by rw [hz]; exact q)) k
theorem o_lushr (cx : own_Cx p s m meth c Z bytes maxL y ret) (X : own_Sd p l e R s m args below meth c n0 T h C S) {x : Int64} {w : Int32} {z : Int64} (hd : decode bytes pc = .ok (.lushr, 1)) (hz : ((x.toUInt64 >>> (w &&& 0x3f).toInt64.toUInt64).toInt64) = z) (k : own_Go p e below P (T.setTop (mkF m (pc + 1) Ls (.long z :: st)))) : own_Go p e below P (T.setTop (mkF m pc Ls (.int w :: .long x :: st))) := by
  obtain ⟨hx, hby, -⟩ := cx
  exact own_st (fun _ q => XS.lushr X.here hx rfl (hb hby hd) rfl (by rw [hz]; exact q)) k
theorem o_ineg (cx : own_Cx p s m meth c Z bytes maxL y ret) (X : own_Sd p l e R s m args below meth c n0 T h C S) {x : Int32} {z : Int32} (hd : decode bytes pc = .ok (.ineg, 1)) (hz : (-x) = z) (k : own_Go p e below P (T.setTop (mkF m (pc + 1) Ls (.int z :: st)))) : own_Go p e below P (T.setTop (mkF m pc Ls (.int x :: st))) := by
  obtain ⟨hx, hby, -⟩ := cx
  exact own_st (fun _ q => XS.ineg X.here hx rfl (hb hby hd) rfl (by rw [hz]; exact q)) k
theorem o_lneg (cx : own_Cx p s m meth c Z bytes maxL y ret) (X : own_Sd p l e R s m args below meth c n0 T h C S) {x : Int64} {z : Int64} (hd : decode bytes pc = .ok (.lneg, 1)) (hz : (-x) = z) (k : own_Go p e below P (T.setTop (mkF m (pc + 1) Ls (.long z :: st)))) : own_Go p e below P (T.setTop (mkF m pc Ls (.long x :: st))) := by
  obtain ⟨hx, hby, -⟩ := cx
  exact own_st (fun _ q => XS.lneg X.here hx rfl (hb hby hd) rfl (by rw [hz]; exact q)) k
theorem o_i2l (cx : own_Cx p s m meth c Z bytes maxL y ret) (X : own_Sd p l e R s m args below meth c n0 T h C S) {x : Int32} {z : Int64} (hd : decode bytes pc = .ok (.i2l, 1)) (hz : (x.toInt64) = z) (k : own_Go p e below P (T.setTop (mkF m (pc + 1) Ls (.long z :: st)))) : own_Go p e below P (T.setTop (mkF m pc Ls (.int x :: st))) := by
  obtain ⟨hx, hby, -⟩ := cx
  exact own_st (fun _ q => XS.i2l X.here hx rfl (hb hby hd) rfl (by rw [hz]; exact q)) k
theorem o_l2i (cx : own_Cx p s m meth c Z bytes maxL y ret) (X : own_Sd p l e R s m args below meth c n0 T h C S) {x : Int64} {z : Int32} (hd : decode bytes pc = .ok (.l2i, 1)) (hz : (x.toInt32) = z) (k : own_Go p e below P (T.setTop (mkF m (pc + 1) Ls (.int z :: st)))) : own_Go p e below P (T.setTop (mkF m pc Ls (.long x :: st))) := by
  obtain ⟨hx, hby, -⟩ := cx
  exact own_st (fun _ q => XS.l2i X.here hx rfl (hb hby hd) rfl (by rw [hz]; exact q)) k
theorem o_i2b (cx : own_Cx p s m meth c Z bytes maxL y ret) (X : own_Sd p l e R s m args below meth c n0 T h C S) {x : Int32} {z : Int32} (hd : decode bytes pc = .ok (.i2b, 1)) (hz : (x.toInt8.toInt32) = z) (k : own_Go p e below P (T.setTop (mkF m (pc + 1) Ls (.int z :: st)))) : own_Go p e below P (T.setTop (mkF m pc Ls (.int x :: st))) := by
  obtain ⟨hx, hby, -⟩ := cx
  exact own_st (fun _ q => XS.i2b X.here hx rfl (hb hby hd) rfl (by rw [hz]; exact q)) k
theorem o_i2s (cx : own_Cx p s m meth c Z bytes maxL y ret) (X : own_Sd p l e R s m args below meth c n0 T h C S) {x : Int32} {z : Int32} (hd : decode bytes pc = .ok (.i2s, 1)) (hz : (x.toInt16.toInt32) = z) (k : own_Go p e below P (T.setTop (mkF m (pc + 1) Ls (.int z :: st)))) : own_Go p e below P (T.setTop (mkF m pc Ls (.int x :: st))) := by
  obtain ⟨hx, hby, -⟩ := cx
  exact own_st (fun _ q => XS.i2s X.here hx rfl (hb hby hd) rfl (by rw [hz]; exact q)) k
theorem o_i2c (cx : own_Cx p s m meth c Z bytes maxL y ret) (X : own_Sd p l e R s m args below meth c n0 T h C S) {x : Int32} {z : Int32} (hd : decode bytes pc = .ok (.i2c, 1)) (hz : (x.toUInt32.toUInt16.toUInt32.toInt32) = z) (k : own_Go p e below P (T.setTop (mkF m (pc + 1) Ls (.int z :: st)))) : own_Go p e below P (T.setTop (mkF m pc Ls (.int x :: st))) := by
  obtain ⟨hx, hby, -⟩ := cx
  exact own_st (fun _ q => XS.i2c X.here hx rfl (hb hby hd) rfl (by rw [hz]; exact q)) k
theorem o_lcmp (cx : own_Cx p s m meth c Z bytes maxL y ret) (X : own_Sd p l e R s m args below meth c n0 T h C S) {x w : Int64} {z : Int32} (hd : decode bytes pc = .ok (.lcmp, 1)) (hz : lcmpW x w = z) (k : own_Go p e below P (T.setTop (mkF m (pc + 1) Ls (.int z :: st)))) : own_Go p e below P (T.setTop (mkF m pc Ls (.long w :: .long x :: st))) := by
  obtain ⟨hx, hby, -⟩ := cx
  exact own_st (fun _ q => XS.lcmp X.here hx rfl (hb hby hd) rfl (by rw [← hz] at q; exact q)) k
theorem o_irem (cx : own_Cx p s m meth c Z bytes maxL y ret) (X : own_Sd p l e R s m args below meth c n0 T h C S) {x w z : Int32} (hd : decode bytes pc = .ok (.irem, 1)) (hw : w ≠ 0) (hz : x % w = z) (k : own_Go p e below P (T.setTop (mkF m (pc + 1) Ls (.int z :: st)))) : own_Go p e below P (T.setTop (mkF m pc Ls (.int w :: .int x :: st))) := by
  obtain ⟨hx, hby, -⟩ := cx
  exact own_st (fun _ q => by obtain ⟨_, X, _⟩ := X; exact iremM X hx rfl (hb hby hd) rfl hw (by rw [hz]; exact q)) k
theorem o_lrem (cx : own_Cx p s m meth c Z bytes maxL y ret) (X : own_Sd p l e R s m args below meth c n0 T h C S) {x w z : Int64} (hd : decode bytes pc = .ok (.lrem, 1)) (hw : w ≠ 0) (hz : x % w = z) (k : own_Go p e below P (T.setTop (mkF m (pc + 1) Ls (.long z :: st)))) : own_Go p e below P (T.setTop (mkF m pc Ls (.long w :: .long x :: st))) := by
  obtain ⟨hx, hby, -⟩ := cx
  exact own_st (fun _ q => XS.lrem X.here hx rfl (hb hby hd) rfl hw (by rw [lrem_mod, hz]; exact q)) k
theorem o_iinc (cx : own_Cx p s m meth c Z bytes maxL y ret) (X : own_Sd p l e R s m args below meth c n0 T h C S) {k : Nat} {i : Int} {x z : Int32} (hd : decode bytes pc = .ok (.iinc k i, 3)) (hl : Ls[k]? = some (.val (.int x))) (hz : x + Int32.ofInt i = z) (hl' : storeLocals Ls k (.int z) = some Ls') (k : own_Go p e below P (T.setTop (mkF m (pc + 3) Ls' st))) : own_Go p e below P (T.setTop (mkF m pc Ls st)) := by
  obtain ⟨hx, hby, -⟩ := cx
  exact own_st (fun _ q => XS.iinc X.here hx rfl (hb hby hd) hl (by rw [hz]; exact hl') q) k
theorem o_dup (cx : own_Cx p s m meth c Z bytes maxL y ret) (X : own_Sd p l e R s m args below meth c n0 T h C S) {v : Value} (hd : decode bytes pc = .ok (.dup, 1)) (hc : v.category = 1) (k : own_Go p e below P (T.setTop (mkF m (pc + 1) Ls (v :: v :: st)))) : own_Go p e below P (T.setTop (mkF m pc Ls (v :: st))) := by
  obtain ⟨hx, hby, -⟩ := cx
  exact own_st (fun _ q => XS.dup X.here hx rfl (hb hby hd) rfl hc q) k
theorem o_pop (cx : own_Cx p s m meth c Z bytes maxL y ret) (X : own_Sd p l e R s m args below meth c n0 T h C S) {v : Value} (hd : decode bytes pc = .ok (.pop, 1)) (hc : v.category = 1) (k : own_Go p e below P (T.setTop (mkF m (pc + 1) Ls st))) : own_Go p e below P (T.setTop (mkF m pc Ls (v :: st))) := by
  obtain ⟨hx, hby, -⟩ := cx
  exact own_st (fun _ q => XS.pop X.here hx rfl (hb hby hd) rfl hc q) k
theorem o_dup_x1 (cx : own_Cx p s m meth c Z bytes maxL y ret) (X : own_Sd p l e R s m args below meth c n0 T h C S) {v w : Value} (hd : decode bytes pc = .ok (.dup_x1, 1)) (hc : v.category = 1) (hc' : w.category = 1) (k : own_Go p e below P (T.setTop (mkF m (pc + 1) Ls (v :: w :: v :: st)))) : own_Go p e below P (T.setTop (mkF m pc Ls (v :: w :: st))) := by
  obtain ⟨hx, hby, -⟩ := cx
  exact own_st (fun _ q => XS.dupX1 X.here hx rfl (hb hby hd) rfl hc hc' q) k
theorem o_dup2 (cx : own_Cx p s m meth c Z bytes maxL y ret) (X : own_Sd p l e R s m args below meth c n0 T h C S) {v w : Value} (hd : decode bytes pc = .ok (.dup2, 1)) (hc : v.category = 1) (hc' : w.category = 1) (k : own_Go p e below P (T.setTop (mkF m (pc + 1) Ls (v :: w :: v :: w :: st)))) : own_Go p e below P (T.setTop (mkF m pc Ls (v :: w :: st))) := by
  obtain ⟨hx, hby, -⟩ := cx
  exact own_st (fun _ q => Jvm.Free.XT.dup2 X.here hx rfl (hb hby hd) rfl hc hc' q) k
theorem o_dup_x2 (cx : own_Cx p s m meth c Z bytes maxL y ret) (X : own_Sd p l e R s m args below meth c n0 T h C S) {x w z : Value} (hd : decode bytes pc = .ok (.dup_x2, 1)) (h1 : x.category = 1) (h2 : w.category = 1) (h3 : z.category = 1) (k : own_Go p e below P (T.setTop (mkF m (pc + 1) Ls (x :: w :: z :: x :: st)))) : own_Go p e below P (T.setTop (mkF m pc Ls (x :: w :: z :: st))) := by
  obtain ⟨hx, hby, -⟩ := cx
  exact own_dupX2 X hx (g := mkF m pc Ls (x :: w :: z :: st)) (hb hby hd) rfl h1 h2 h3 rfl k
theorem o_goto (cx : own_Cx p s m meth c Z bytes maxL y ret) (X : own_Sd p l e R s m args below meth c n0 T h C S) {o : Int} (n : Nat) (hd : decode bytes pc = .ok (.goto o, 3)) (ho : 0 ≤ (pc : Int) + o) (hp : ((pc : Int) + o).toNat = n) (k : own_Go p e below P (T.setTop (mkF m n Ls st))) : own_Go p e below P (T.setTop (mkF m pc Ls st)) := by
  obtain ⟨hx, hby, -⟩ := cx
  exact own_st (fun _ q => XS.goto X.here hx rfl rfl (hb hby hd) ho hp q) k
theorem o_ifYes (cx : own_Cx p s m meth c Z bytes maxL y ret) (X : own_Sd p l e R s m args below meth c n0 T h C S) {cd : ClassFile.Cond} {x : Int32} {o : Int} (n : Nat) (hd : decode bytes pc = .ok (.ifCond cd o, 3)) (hc : ifCond.holds cd x = true) (ho : 0 ≤ (pc : Int) + o) (hp : ((pc : Int) + o).toNat = n) (k : own_Go p e below P (T.setTop (mkF m n Ls st))) : own_Go p e below P (T.setTop (mkF m pc Ls (.int x :: st))) := by
  obtain ⟨hx, hby, -⟩ := cx
  exact own_st (fun _ q => XS.ifYes X.here hx rfl rfl (hb hby hd) rfl hc ho hp q) k
theorem o_ifNo (cx : own_Cx p s m meth c Z bytes maxL y ret) (X : own_Sd p l e R s m args below meth c n0 T h C S) {cd : ClassFile.Cond} {x : Int32} {o : Int} (hd : decode bytes pc = .ok (.ifCond cd o, 3)) (hc : ifCond.holds cd x = false) (k : own_Go p e below P (T.setTop (mkF m (pc + 3) Ls st))) : own_Go p e below P (T.setTop (mkF m pc Ls (.int x :: st))) := by
  obtain ⟨hx, hby, -⟩ := cx
  exact own_st (fun _ q => XS.ifNo X.here hx rfl (hb hby hd) rfl hc q) k
theorem o_icmpYes (cx : own_Cx p s m meth c Z bytes maxL y ret) (X : own_Sd p l e R s m args below meth c n0 T h C S) {cd : ClassFile.Cond} {x w : Int32} {o : Int} (n : Nat) (hd : decode bytes pc = .ok (.if_icmp cd o, 3)) (hc : if_icmp.holds cd x w = true) (ho : 0 ≤ (pc : Int) + o) (hp : ((pc : Int) + o).toNat = n) (k : own_Go p e below P (T.setTop (mkF m n Ls st))) : own_Go p e below P (T.setTop (mkF m pc Ls (.int w :: .int x :: st))) := by
  obtain ⟨hx, hby, -⟩ := cx
  exact own_st (fun _ q => XS.icmpYes X.here hx rfl rfl (hb hby hd) rfl hc ho hp q) k
theorem o_icmpNo (cx : own_Cx p s m meth c Z bytes maxL y ret) (X : own_Sd p l e R s m args below meth c n0 T h C S) {cd : ClassFile.Cond} {x w : Int32} {o : Int} (hd : decode bytes pc = .ok (.if_icmp cd o, 3)) (hc : if_icmp.holds cd x w = false) (k : own_Go p e below P (T.setTop (mkF m (pc + 3) Ls st))) : own_Go p e below P (T.setTop (mkF m pc Ls (.int w :: .int x :: st))) := by
  obtain ⟨hx, hby, -⟩ := cx
  exact own_st (fun _ q => XS.icmpNo X.here hx rfl (hb hby hd) rfl hc q) k
theorem o_ifnullYes (cx : own_Cx p s m meth c Z bytes maxL y ret) (X : own_Sd p l e R s m args below meth c n0 T h C S) {o : Int} (n : Nat) (hd : decode bytes pc = .ok (.ifnull o, 3)) (ho : 0 ≤ (pc : Int) + o) (hp : ((pc : Int) + o).toNat = n) (k : own_Go p e below P (T.setTop (mkF m n Ls st))) : own_Go p e below P (T.setTop (mkF m pc Ls (.null :: st))) := by
  obtain ⟨hx, hby, -⟩ := cx
  exact own_st (fun _ q => XS.ifnullYes X.here hx rfl rfl (hb hby hd) rfl ho hp q) k
theorem o_ifnullNo (cx : own_Cx p s m meth c Z bytes maxL y ret) (X : own_Sd p l e R s m args below meth c n0 T h C S) {o : Int} {b : Addr} (hd : decode bytes pc = .ok (.ifnull o, 3))  (k : own_Go p e below P (T.setTop (mkF m (pc + 3) Ls st))) : own_Go p e below P (T.setTop (mkF m pc Ls (.ref b :: st))) := by
  obtain ⟨hx, hby, -⟩ := cx
  exact own_st (fun _ q => XS.ifnullNo X.here hx rfl (hb hby hd) rfl q) k
theorem o_ifnonnullYes (cx : own_Cx p s m meth c Z bytes maxL y ret) (X : own_Sd p l e R s m args below meth c n0 T h C S) {o : Int} (n : Nat) {b : Addr} (hd : decode bytes pc = .ok (.ifnonnull o, 3)) (ho : 0 ≤ (pc : Int) + o) (hp : ((pc : Int) + o).toNat = n) (k : own_Go p e below P (T.setTop (mkF m n Ls st))) : own_Go p e below P (T.setTop (mkF m pc Ls (.ref b :: st))) := by
  obtain ⟨hx, hby, -⟩ := cx
  exact own_st (fun _ q => XS.ifnonnullYes X.here hx rfl rfl (hb hby hd) rfl ho hp q) k
theorem o_ifnonnullNo (cx : own_Cx p s m meth c Z bytes maxL y ret) (X : own_Sd p l e R s m args below meth c n0 T h C S) {o : Int} (hd : decode bytes pc = .ok (.ifnonnull o, 3))  (k : own_Go p e below P (T.setTop (mkF m (pc + 3) Ls st))) : own_Go p e below P (T.setTop (mkF m pc Ls (.null :: st))) := by
  obtain ⟨hx, hby, -⟩ := cx
  exact own_st (fun _ q => XS.ifnonnullNo X.here hx rfl (hb hby hd) rfl q) k
theorem o_acmp (cx : own_Cx p s m meth c Z bytes maxL y ret) (X : own_Sd p l e R s m args below meth c n0 T h C S) {cd : ACond} {x w : Value} {o : Int} (n : Nat) (same : Bool) (hd : decode bytes pc = .ok (.if_acmp cd o, 3)) (h1 : x.isRef = true) (h2 : w.isRef = true) (hsame : decide (x = w) = same) (ho : 0 ≤ (pc : Int) + o) (hp : n = if acV cd same then ((pc : Int) + o).toNat else pc + 3) (k : own_Go p e below P (T.setTop (mkF m n Ls st))) : own_Go p e below P (T.setTop (mkF m pc Ls (w :: x :: st))) := by
  obtain ⟨hx, hby, hml, hown, hnm, hret, hlk, hZ⟩ := cx
  exact own_acmp X hx (g := mkF m pc Ls (w :: x :: st)) rfl h1 h2 rfl (hb hby hd) rfl hsame ho hp k
theorem o_ldc (cx : own_Cx p s m meth c Z bytes maxL y ret) (X : own_Sd p l e R s m args below meth c n0 T h C S) {j : Nat} {z : Int32} (hd : decode bytes pc = .ok (.ldc j, 2)) (w : (Jvm.Cond.constant y.cls j z).before a0 Z = true) (k : own_Go p e below P (T.setTop (mkF m (pc + 2) Ls (.int z :: st)))) : own_Go p e below P (T.setTop (mkF m pc Ls st)) := by
  obtain ⟨hx, hby, hml, hown, hnm, hret, hlk, hZ⟩ := cx
  exact own_ldc X hx hZ hown w (g := mkF m pc Ls st) rfl (hb hby hd) k
theorem o_ldc2 (cx : own_Cx p s m meth c Z bytes maxL y ret) (X : own_Sd p l e R s m args below meth c n0 T h C S) {j : Nat} {z : Int64} (hd : decode bytes pc = .ok (.ldc2_w j, 3)) (w : (Jvm.Cond.constantLong y.cls j z).before a0 Z = true) (k : own_Go p e below P (T.setTop (mkF m (pc + 3) Ls (.long z :: st)))) : own_Go p e below P (T.setTop (mkF m pc Ls st)) := by
  obtain ⟨hx, hby, hml, hown, hnm, hret, hlk, hZ⟩ := cx
  exact own_ldc2 X hx hZ hown w (g := mkF m pc Ls st) rfl (hb hby hd) k
theorem o_getF (cx : own_Cx p s m meth c Z bytes maxL y ret) (X : own_Sd p l e R s m args below meth c n0 T h C S) {O n d : String} {j : Nat} (hd : decode bytes pc = .ok (.getfield j, 3)) (w : (Jvm.Cond.fieldLink y.cls j O n d).before a0 Z = true) (F : Fld Z h a O n d v) (k : ∀ T', own_Sd p l e R s m args below meth c n0 T' h C S → own_Go p e below P (T'.setTop (mkF m (pc + 3) Ls (v :: st)))) : own_Go p e below P (T.setTop (mkF m pc Ls (.ref a :: st))) := by
  obtain ⟨hx, hby, hml, hown, hnm, hret, hlk, hZ⟩ := cx
  exact own_getF X hx hZ hown w F (g := mkF m pc Ls (.ref a :: st)) rfl rfl (hb hby hd) k
theorem o_putF (cx : own_Cx p s m meth c Z bytes maxL y ret) (X : own_Sd p l e R s m args below meth c n0 T h C S) {O n d K : String} {j kk : Nat} {v' old : Value} (hd : decode bytes pc = .ok (.putfield j, 3)) (w : (Jvm.Cond.fieldLink y.cls j O n d).before a0 Z = true) (F : Fld Z h a O n d old) (E : Exa Z h a K) (L : (Jvm.Cond.lays K O n d).before a0 Z = true ∨ ((Jvm.Cond.laysFinal K O n d).before a0 Z = true ∧ y.cls = O ∧ y.name = "<init>")) (wi : (Jvm.Cond.instantiable K kk).before a0 Z = true) (hty : parseFieldDescriptor d = some ty) (hn : narrow ty v = v') (hf : fits ty v' = true) (ga : n0 ≤ a) (k : ∀ T' h', own_Sd p l e R s m args below meth c n0 T' h' C S → Wr h h' a (Jvm.RoadKit.slotOf Z O n d) v' → own_Go p e below P (T'.setTop (mkF m (pc + 3) Ls st))) : own_Go p e below P (T.setTop (mkF m pc Ls (v :: .ref a :: st))) := by
  obtain ⟨hx, hby, hml, hown, hnm, hret, hlk, hZ⟩ := cx
  exact own_putF X hx hZ hown w F E (by rw [hnm]; exact L) wi hty hn hf ga (g := mkF m pc Ls (v :: .ref a :: st)) rfl rfl (hb hby hd) k
theorem o_newO (cx : own_Cx p s m meth c Z bytes maxL y ret) (X : own_Sd p l e R s m args below meth c n0 T h C S) {K : String} {j n : Nat} (hd : decode bytes pc = .ok (.new j, 3)) (w : (Jvm.Cond.classLink y.cls j K).before a0 Z = true) (wi : (Jvm.Cond.instantiable K n).before a0 Z = true) (wz : (Jvm.Cond.initialized K).before a0 Z = true) (hc : C + 1 ≤ R.cells) (hl : S + n ≤ R.slots) (k : ∀ T' h' b, b = h.size → n0 ≤ b → own_Sd p l e R s m args below meth c n0 T' h' (C + 1) (S + n) → Ext h h' → Exa Z h' b K → (∀ {O nm d : String} {ty : FieldType}, Laid Z a0 K O nm d → parseFieldDescriptor d = some ty → Fld Z h' b O nm d (defaultValue ty)) → own_Go p e below P (T'.setTop (mkF m (pc + 3) Ls (.ref b :: st)))) : own_Go p e below P (T.setTop (mkF m pc Ls st)) := by
  obtain ⟨hx, hby, hml, hown, hnm, hret, hlk, hZ⟩ := cx
  exact own_newO X hx hZ hown w wi wz (g := mkF m pc Ls st) rfl (hb hby hd) hc hl k
theorem o_initO (cx : own_Cx p s m meth c Z bytes maxL y ret) (X : own_Sd p l e R s m args below meth c n0 T h C S) {j : Nat} (hd : decode bytes pc = .ok (.invokespecial j, 3)) (w1 : (Jvm.Cond.methodLink y.cls j Lib.objectInit).before a0 Z = true) (w2 : (Jvm.Cond.instanceMethod Lib.objectInit).before a0 Z = true) (w3 : (Jvm.Cond.code Lib.objectInit ⟨#[0xb1]⟩ 1 none).before a0 Z = true) (hsz : Ls.size = maxL) (hf : 1 ≤ R.frames) (W : Nat) (hW : (st.map fun v => v.category).sum = W) (hl : W + 12 ≤ R.locals) (k : ∀ T', own_Sd p l e R s m args below meth c n0 T' h C S → own_Go p e below P (T'.setTop (mkF m (pc + 3) Ls st))) : own_Go p e below P (T.setTop (mkF m pc Ls (.ref a :: st))) := by
  obtain ⟨hx, hby, hml, hown, hnm, hret, hlk, hZ⟩ := cx
  exact own_initO X hx hZ hown w1 w2 w3 (g := mkF m pc Ls (.ref a :: st)) rfl (by rw [hml]; exact hsz) rfl (hb hby hd) hf (W := W) (by show 2 * 0 + _ ≤ _; omega) hl k
theorem o_callS (cx : own_Cx p s m meth c Z bytes maxL y ret) (X : own_Sd p l e R s m args below meth c n0 T h C S) {y' : MethodName} {bytes' : ByteArray} {maxL' : Nat} {ret' : Option FieldType} {j : Nat} {stk : List Value} (hd : decode bytes pc = .ok (.invokestatic j, 3)) (w1 : (Jvm.Cond.methodLink y.cls j y').before a0 Z = true) (w2 : (Jvm.Cond.static y').before a0 Z = true) (w3 : (Jvm.Cond.initialized y'.cls).before a0 Z = true) (w4 : (Jvm.Cond.code y' bytes' maxL' ret').before a0 Z = true) (hy : y'.cls ≠ "java/lang/invoke/MethodHandle" ∧ y'.cls ≠ "java/lang/invoke/VarHandle") {rm : Room} {as' : Array Value}  (hM : own_Met l Z y' bytes' maxL' ret' rm as' h n0 Q) (hf : rm.frames + 1 ≤ R.frames) (W : Nat) (hW : (st.map fun v => v.category).sum = W) (hlo : W + (maxL' + 11) + rm.locals ≤ R.locals) (hsz : Ls.size = maxL) {argsL : List Value} (hlen : ∀ sig, parseMethodDescriptor y'.desc = some sig → argsL.length = sig.parameters.length) (has : argsL.toArray = as') (hstk : stk = argsL.reverse ++ st) (hc : C + rm.cells ≤ R.cells) (hs : S + rm.slots ≤ R.slots) (k : ∀ v T' h', own_Sd p l e R s m args below meth c n0 T' h' (C + rm.cells) (S + rm.slots) → Q v h' → own_Go p e below P (T'.setTop (mkF m (pc + 3) Ls (v.toList ++ st)))) : own_Go p e below P (T.setTop (mkF m pc Ls stk)) := by
  obtain ⟨hx, hby, hml, hown, hnm, hret, hlk, hZ⟩ := cx
  exact own_callS X hx hZ hown w1 w2 w3 w4 hy hM hf (W := W) hlo (g := mkF m pc Ls stk) rfl (by rw [hml]; exact hsz) hlen has hstk (by show 2 * 0 + _ ≤ _; omega) (hb hby hd) hc hs k
theorem o_callC (cx : own_Cx p s m meth c Z bytes maxL y ret) (X : own_Sd p l e R s m args below meth c n0 T h C S) {y' : MethodName} {bytes' : ByteArray} {maxL' : Nat} {j : Nat} {stk : List Value} (hd : decode bytes pc = .ok (.invokespecial j, 3)) (w1 : (Jvm.Cond.methodLink y.cls j y').before a0 Z = true) (w2 : (Jvm.Cond.instanceMethod y').before a0 Z = true) (w3 : (Jvm.Cond.initialized y'.cls).before a0 Z = true) (w4 : (Jvm.Cond.code y' bytes' maxL' none).before a0 Z = true) (hy : y'.cls ≠ "java/lang/invoke/MethodHandle" ∧ y'.cls ≠ "java/lang/invoke/VarHandle") (hy1 : y'.name = "<init>") {rm : Room} {as' : Array Value}  (hM : own_Met l Z y' bytes' maxL' none rm as' h n0 Q) (hf : rm.frames + 1 ≤ R.frames) (W : Nat) (hW : (st.map fun v => v.category).sum = W) (hlo : W + (maxL' + 11) + rm.locals ≤ R.locals) (hsz : Ls.size = maxL) {argsL : List Value} (hlen : ∀ sig, parseMethodDescriptor y'.desc = some sig → argsL.length = sig.parameters.length) (has : (.ref a :: argsL).toArray = as') (hstk : stk = argsL.reverse ++ .ref a :: st) (hc : C + rm.cells ≤ R.cells) (hs : S + rm.slots ≤ R.slots) (k : ∀ v T' h', own_Sd p l e R s m args below meth c n0 T' h' (C + rm.cells) (S + rm.slots) → Q v h' → own_Go p e below P (T'.setTop (mkF m (pc + 3) Ls (v.toList ++ st)))) : own_Go p e below P (T.setTop (mkF m pc Ls stk)) := by
  obtain ⟨hx, hby, hml, hown, hnm, hret, hlk, hZ⟩ := cx
  exact own_callC X hx hZ hy1 hown w1 w2 w3 w4 hy hM hf (W := W) hlo (g := mkF m pc Ls stk) rfl (by rw [hml]; exact hsz) hlen has hstk (by show 2 * 0 + _ ≤ _; omega) (hb hby hd) hc hs k
theorem o_callV (cx : own_Cx p s m meth c Z bytes maxL y ret) (X : own_Sd p l e R s m args below meth c n0 T h C S) {y' : MethodName} {bytes' : ByteArray} {maxL' : Nat} {ret' : Option FieldType} {j : Nat} {stk : List Value} {K : String} (hd : decode bytes pc = .ok (.invokevirtual j, 3)) (w1 : (Jvm.Cond.methodLink y.cls j y').before a0 Z = true) (w2 : (Jvm.Cond.declares y').before a0 Z = true) (w5 : (Jvm.Cond.selects K y' y').before a0 Z = true) (w6 : (Jvm.Cond.instanceMethod y').before a0 Z = true) (w3 : (Jvm.Cond.initialized y'.cls).before a0 Z = true) (w4 : (Jvm.Cond.code y' bytes' maxL' ret').before a0 Z = true) (hy : y'.cls ≠ "java/lang/invoke/MethodHandle" ∧ y'.cls ≠ "java/lang/invoke/VarHandle") (E : Exa Z h a K) {rm : Room} {as' : Array Value}  (hM : own_Met l Z y' bytes' maxL' ret' rm as' h n0 Q) (hf : rm.frames + 1 ≤ R.frames) (W : Nat) (hW : (st.map fun v => v.category).sum = W) (hlo : W + (maxL' + 11) + rm.locals ≤ R.locals) (hsz : Ls.size = maxL) {argsL : List Value} (hlen : ∀ sig, parseMethodDescriptor y'.desc = some sig → argsL.length = sig.parameters.length) (has : (.ref a :: argsL).toArray = as') (hstk : stk = argsL.reverse ++ .ref a :: st) (hc : C + rm.cells ≤ R.cells) (hs : S + rm.slots ≤ R.slots) (k : ∀ v T' h', own_Sd p l e R s m args below meth c n0 T' h' (C + rm.cells) (S + rm.slots) → Q v h' → own_Go p e below P (T'.setTop (mkF m (pc + 3) Ls (v.toList ++ st)))) : own_Go p e below P (T.setTop (mkF m pc Ls stk)) := by
  obtain ⟨hx, hby, hml, hown, hnm, hret, hlk, hZ⟩ := cx
  exact own_callV X hx hZ hown w1 w2 w5 w6 w3 w4 hy E hM hf (W := W) hlo (g := mkF m pc Ls stk) rfl (by rw [hml]; exact hsz) hlen has hstk (by show 2 * 0 + _ ≤ _; omega) (hb hby hd) hc hs k
theorem o_callP (cx : own_Cx p s m meth c Z bytes maxL y ret) (X : own_Sd p l e R s m args below meth c n0 T h C S) {y' : MethodName} {bytes' : ByteArray} {maxL' : Nat} {ret' : Option FieldType} {j : Nat} {stk : List Value} {K K' : String} {y2 : MethodName} (hd : decode bytes pc = .ok (.invokevirtual j, 3)) (w1 : (Jvm.Cond.methodLink y.cls j y').before a0 Z = true) (w7 : (Jvm.Cond.privateMethod y').before a0 Z = true) (w5 : (Jvm.Cond.selects K y2 y2).before a0 Z = true) (hyy : y2.cls = y'.cls) (w6 : (Jvm.Cond.instanceMethod y').before a0 Z = true) (w3 : (Jvm.Cond.initialized y'.cls).before a0 Z = true) (w4 : (Jvm.Cond.code y' bytes' maxL' ret').before a0 Z = true) (hy : y'.cls ≠ "java/lang/invoke/MethodHandle" ∧ y'.cls ≠ "java/lang/invoke/VarHandle") (E : Exa Z h a K') {rm : Room} {as' : Array Value}  (hM : own_Met l Z y' bytes' maxL' ret' rm as' h n0 Q) (hf : rm.frames + 1 ≤ R.frames) (W : Nat) (hW : (st.map fun v => v.category).sum = W) (hlo : W + (maxL' + 11) + rm.locals ≤ R.locals) (hsz : Ls.size = maxL) {argsL : List Value} (hlen : ∀ sig, parseMethodDescriptor y'.desc = some sig → argsL.length = sig.parameters.length) (has : (.ref a :: argsL).toArray = as') (hstk : stk = argsL.reverse ++ .ref a :: st) (hc : C + rm.cells ≤ R.cells) (hs : S + rm.slots ≤ R.slots) (k : ∀ v T' h', own_Sd p l e R s m args below meth c n0 T' h' (C + rm.cells) (S + rm.slots) → Q v h' → own_Go p e below P (T'.setTop (mkF m (pc + 3) Ls (v.toList ++ st)))) : own_Go p e below P (T.setTop (mkF m pc Ls stk)) := by
  obtain ⟨hx, hby, hml, hown, hnm, hret, hlk, hZ⟩ := cx
  exact own_callP X hx hZ hown w1 w7 w5 hyy w6 w3 w4 hy E hM hf (W := W) hlo (g := mkF m pc Ls stk) rfl (by rw [hml]; exact hsz) hlen has hstk (by show 2 * 0 + _ ≤ _; omega) (hb hby hd) hc hs k
theorem o_callSp (cx : own_Cx p s m meth c Z bytes maxL y ret) (X : own_Sd p l e R s m args below meth c n0 T h C S) {y' : MethodName} {bytes' : ByteArray} {maxL' : Nat} {ret' : Option FieldType} {j : Nat} {stk : List Value} (hd : decode bytes pc = .ok (.invokestatic j, 3)) (w1 : (Jvm.Cond.methodLink y.cls j y').before a0 Z = true) (w2 : (Jvm.Cond.static y').before a0 Z = true) (w3 : (Jvm.Cond.initialized y'.cls).before a0 Z = true) (w4 : (Jvm.Cond.code y' bytes' maxL' ret').before a0 Z = true) (hy : y'.cls ≠ "java/lang/invoke/MethodHandle" ∧ y'.cls ≠ "java/lang/invoke/VarHandle") {rm : Room} {as' : Array Value} {r : Option Value} (hM : own_Met l Z y' bytes' maxL' ret' rm as' h n0 (fun v' h' => v' = r ∧ h' = h)) (hf : rm.frames + 1 ≤ R.frames) (W : Nat) (hW : (st.map fun v => v.category).sum = W) (hlo : W + (maxL' + 11) + rm.locals ≤ R.locals) (hsz : Ls.size = maxL) {argsL : List Value} (hlen : ∀ sig, parseMethodDescriptor y'.desc = some sig → argsL.length = sig.parameters.length) (has : argsL.toArray = as') (hstk : stk = argsL.reverse ++ st) (hc : C + rm.cells ≤ R.cells) (hs : S + rm.slots ≤ R.slots) (k : ∀ T', own_Sd p l e R s m args below meth c n0 T' h (C + rm.cells) (S + rm.slots) → own_Go p e below P (T'.setTop (mkF m (pc + 3) Ls (r.toList ++ st)))) : own_Go p e below P (T.setTop (mkF m pc Ls stk)) := by
  obtain ⟨hx, hby, hml, hown, hnm, hret, hlk, hZ⟩ := cx
  exact own_callSp X hx hZ hown w1 w2 w3 w4 hy hM hf (W := W) hlo (g := mkF m pc Ls stk) rfl (by rw [hml]; exact hsz) hlen has hstk (by show 2 * 0 + _ ≤ _; omega) (hb hby hd) hc hs k
theorem o_callCp (cx : own_Cx p s m meth c Z bytes maxL y ret) (X : own_Sd p l e R s m args below meth c n0 T h C S) {y' : MethodName} {bytes' : ByteArray} {maxL' : Nat} {j : Nat} {stk : List Value} (hd : decode bytes pc = .ok (.invokespecial j, 3)) (w1 : (Jvm.Cond.methodLink y.cls j y').before a0 Z = true) (w2 : (Jvm.Cond.instanceMethod y').before a0 Z = true) (w3 : (Jvm.Cond.initialized y'.cls).before a0 Z = true) (w4 : (Jvm.Cond.code y' bytes' maxL' none).before a0 Z = true) (hy : y'.cls ≠ "java/lang/invoke/MethodHandle" ∧ y'.cls ≠ "java/lang/invoke/VarHandle") (hy1 : y'.name = "<init>") {rm : Room} {as' : Array Value} {r : Option Value} (hM : own_Met l Z y' bytes' maxL' none rm as' h n0 (fun v' h' => v' = r ∧ h' = h)) (hf : rm.frames + 1 ≤ R.frames) (W : Nat) (hW : (st.map fun v => v.category).sum = W) (hlo : W + (maxL' + 11) + rm.locals ≤ R.locals) (hsz : Ls.size = maxL) {argsL : List Value} (hlen : ∀ sig, parseMethodDescriptor y'.desc = some sig → argsL.length = sig.parameters.length) (has : (.ref a :: argsL).toArray = as') (hstk : stk = argsL.reverse ++ .ref a :: st) (hc : C + rm.cells ≤ R.cells) (hs : S + rm.slots ≤ R.slots) (k : ∀ T', own_Sd p l e R s m args below meth c n0 T' h (C + rm.cells) (S + rm.slots) → own_Go p e below P (T'.setTop (mkF m (pc + 3) Ls (r.toList ++ st)))) : own_Go p e below P (T.setTop (mkF m pc Ls stk)) := by
  obtain ⟨hx, hby, hml, hown, hnm, hret, hlk, hZ⟩ := cx
  exact own_callCp X hx hZ hy1 hown w1 w2 w3 w4 hy hM hf (W := W) hlo (g := mkF m pc Ls stk) rfl (by rw [hml]; exact hsz) hlen has hstk (by show 2 * 0 + _ ≤ _; omega) (hb hby hd) hc hs k
theorem o_callVp (cx : own_Cx p s m meth c Z bytes maxL y ret) (X : own_Sd p l e R s m args below meth c n0 T h C S) {y' : MethodName} {bytes' : ByteArray} {maxL' : Nat} {ret' : Option FieldType} {j : Nat} {stk : List Value} {K : String} (hd : decode bytes pc = .ok (.invokevirtual j, 3)) (w1 : (Jvm.Cond.methodLink y.cls j y').before a0 Z = true) (w2 : (Jvm.Cond.declares y').before a0 Z = true) (w5 : (Jvm.Cond.selects K y' y').before a0 Z = true) (w6 : (Jvm.Cond.instanceMethod y').before a0 Z = true) (w3 : (Jvm.Cond.initialized y'.cls).before a0 Z = true) (w4 : (Jvm.Cond.code y' bytes' maxL' ret').before a0 Z = true) (hy : y'.cls ≠ "java/lang/invoke/MethodHandle" ∧ y'.cls ≠ "java/lang/invoke/VarHandle") (E : Exa Z h a K) {rm : Room} {as' : Array Value} {r : Option Value} (hM : own_Met l Z y' bytes' maxL' ret' rm as' h n0 (fun v' h' => v' = r ∧ h' = h)) (hf : rm.frames + 1 ≤ R.frames) (W : Nat) (hW : (st.map fun v => v.category).sum = W) (hlo : W + (maxL' + 11) + rm.locals ≤ R.locals) (hsz : Ls.size = maxL) {argsL : List Value} (hlen : ∀ sig, parseMethodDescriptor y'.desc = some sig → argsL.length = sig.parameters.length) (has : (.ref a :: argsL).toArray = as') (hstk : stk = argsL.reverse ++ .ref a :: st) (hc : C + rm.cells ≤ R.cells) (hs : S + rm.slots ≤ R.slots) (k : ∀ T', own_Sd p l e R s m args below meth c n0 T' h (C + rm.cells) (S + rm.slots) → own_Go p e below P (T'.setTop (mkF m (pc + 3) Ls (r.toList ++ st)))) : own_Go p e below P (T.setTop (mkF m pc Ls stk)) := by
  obtain ⟨hx, hby, hml, hown, hnm, hret, hlk, hZ⟩ := cx
  exact own_callVp X hx hZ hown w1 w2 w5 w6 w3 w4 hy E hM hf (W := W) hlo (g := mkF m pc Ls stk) rfl (by rw [hml]; exact hsz) hlen has hstk (by show 2 * 0 + _ ≤ _; omega) (hb hby hd) hc hs k
theorem o_callPp (cx : own_Cx p s m meth c Z bytes maxL y ret) (X : own_Sd p l e R s m args below meth c n0 T h C S) {y' : MethodName} {bytes' : ByteArray} {maxL' : Nat} {ret' : Option FieldType} {j : Nat} {stk : List Value} {K K' : String} {y2 : MethodName} (hd : decode bytes pc = .ok (.invokevirtual j, 3)) (w1 : (Jvm.Cond.methodLink y.cls j y').before a0 Z = true) (w7 : (Jvm.Cond.privateMethod y').before a0 Z = true) (w5 : (Jvm.Cond.selects K y2 y2).before a0 Z = true) (hyy : y2.cls = y'.cls) (w6 : (Jvm.Cond.instanceMethod y').before a0 Z = true) (w3 : (Jvm.Cond.initialized y'.cls).before a0 Z = true) (w4 : (Jvm.Cond.code y' bytes' maxL' ret').before a0 Z = true) (hy : y'.cls ≠ "java/lang/invoke/MethodHandle" ∧ y'.cls ≠ "java/lang/invoke/VarHandle") (E : Exa Z h a K') {rm : Room} {as' : Array Value} {r : Option Value} (hM : own_Met l Z y' bytes' maxL' ret' rm as' h n0 (fun v' h' => v' = r ∧ h' = h)) (hf : rm.frames + 1 ≤ R.frames) (W : Nat) (hW : (st.map fun v => v.category).sum = W) (hlo : W + (maxL' + 11) + rm.locals ≤ R.locals) (hsz : Ls.size = maxL) {argsL : List Value} (hlen : ∀ sig, parseMethodDescriptor y'.desc = some sig → argsL.length = sig.parameters.length) (has : (.ref a :: argsL).toArray = as') (hstk : stk = argsL.reverse ++ .ref a :: st) (hc : C + rm.cells ≤ R.cells) (hs : S + rm.slots ≤ R.slots) (k : ∀ T', own_Sd p l e R s m args below meth c n0 T' h (C + rm.cells) (S + rm.slots) → own_Go p e below P (T'.setTop (mkF m (pc + 3) Ls (r.toList ++ st)))) : own_Go p e below P (T.setTop (mkF m pc Ls stk)) := by
  obtain ⟨hx, hby, hml, hown, hnm, hret, hlk, hZ⟩ := cx
  exact own_callPp X hx hZ hown w1 w7 w5 hyy w6 w3 w4 hy E hM hf (W := W) hlo (g := mkF m pc Ls stk) rfl (by rw [hml]; exact hsz) hlen has hstk (by show 2 * 0 + _ ≤ _; omega) (hb hby hd) hc hs k
theorem o_retI (cx : own_Cx p s m meth c Z bytes maxL y (some .int)) (X : own_Sd p l e R s m args below meth c n0 T h C S) {z : Int32} (hd : decode bytes pc = .ok (.ireturn, 1)) (q : Q (some (.int z)) h) (hC : C ≤ R.cells) (hS : S ≤ R.slots) : own_Go p e below (own_End below s R n0 Q) (T.setTop (mkF m pc Ls (.int z :: st))) := by
  obtain ⟨hx, hby, hml, hown, hnm, hret, hlk, hZ⟩ := cx
  exact own_retI X hx hret hlk (hb hby hd) hC hS q
theorem o_retN {t : FieldType} (cx : own_Cx p s m meth c Z bytes maxL y (some t)) (X : own_Sd p l e R s m args below meth c n0 T h C S) {z z' : Int32} (hd : decode bytes pc = .ok (.ireturn, 1)) (ht : t = .boolean ∨ t = .byte ∨ t = .char ∨ t = .short) (hz : nar t z = z') (q : Q (some (.int z')) h) (hC : C ≤ R.cells) (hS : S ≤ R.slots) : own_Go p e below (own_End below s R n0 Q) (T.setTop (mkF m pc Ls (.int z :: st))) := by
  obtain ⟨hx, hby, hml, hown, hnm, hret, hlk, hZ⟩ := cx
  exact own_retN X hx hret ht hlk (hb hby hd) hC hS (by rw [hz]; exact q)
theorem o_retJ (cx : own_Cx p s m meth c Z bytes maxL y (some .long)) (X : own_Sd p l e R s m args below meth c n0 T h C S) {z : Int64} (hd : decode bytes pc = .ok (.lreturn, 1)) (q : Q (some (.long z)) h) (hC : C ≤ R.cells) (hS : S ≤ R.slots) : own_Go p e below (own_End below s R n0 Q) (T.setTop (mkF m pc Ls (.long z :: st))) := by
  obtain ⟨hx, hby, hml, hown, hnm, hret, hlk, hZ⟩ := cx
  exact own_retJ X hx hret hlk (hb hby hd) hC hS q
theorem o_retA {t : FieldType} (cx : own_Cx p s m meth c Z bytes maxL y (some t)) (X : own_Sd p l e R s m args below meth c n0 T h C S) {w : Value} (hd : decode bytes pc = .ok (.areturn, 1)) (ht : t.isReference = true) (hw : w.isRef = true) (hn : narrow t w = w) (q : Q (some w) h) (hC : C ≤ R.cells) (hS : S ≤ R.slots) : own_Go p e below (own_End below s R n0 Q) (T.setTop (mkF m pc Ls (w :: st))) := by
  obtain ⟨hx, hby, hml, hown, hnm, hret, hlk, hZ⟩ := cx
  exact own_retA X hx hret ht hlk hw hn (hb hby hd) hC hS q
theorem o_retV (cx : own_Cx p s m meth c Z bytes maxL y none) (X : own_Sd p l e R s m args below meth c n0 T h C S)  (hd : decode bytes pc = .ok (.return_, 1)) (q : Q none h) (hC : C ≤ R.cells) (hS : S ≤ R.slots) : own_Go p e below (own_End below s R n0 Q) (T.setTop (mkF m pc Ls [])) := by
  obtain ⟨hx, hby, hml, hown, hnm, hret, hlk, hZ⟩ := cx
  exact own_retV X hx hret hlk (hb hby hd) hC hS q
end OwnS
section OwnA
variable {p : Program} {l : Launch} {e : Env} {R : Room} {s : State} {m : MethodId} {args : Array Value} {below : List Frame} {meth : Method} {c : Code} {T : State} {n0 C S : Nat} {Z : State} {a0 : Array Value} {h h' : Heap} {P : State → Outcome → Prop} {a b : Addr} {ty : FieldType} {vs : List Value} {v : Value} {sl i : Nat} {wsA : List Addr}
/-- an array with just these elements -/
def own_Ar (Z : State) (h : Heap) (a : Addr) (ty : FieldType) (vs : List Value) : Prop := ∃ cl : Cell, Arr Z h a cl ty ∧ cl.slots = vs.toArray ∧ vs.length < 2 ^ 31
theorem own_Ar.lt (F : own_Ar Z h a ty vs) : a < h.size := by obtain ⟨_, A, _⟩ := F; exact A.lt
theorem own_Ar.ext (F : own_Ar Z h a ty vs) (E : Ext h h') : own_Ar Z h' a ty vs := by obtain ⟨c, A, r⟩ := F; exact ⟨c, A.ext E, r⟩
theorem own_Ar.other (F : own_Ar Z h b ty vs) (W : Wr h h' a sl v) (q : b ≠ a) : own_Ar Z h' b ty vs := by obtain ⟨c, A, r⟩ := F; exact ⟨c, A.other W q, r⟩
theorem own_Ar.keep (F : own_Ar Z h a ty vs) (K : Keep h h' wsA) (q : a ∉ wsA) : own_Ar Z h' a ty vs := by obtain ⟨c, A, r⟩ := F; exact ⟨c, ⟨K.2.1 a c A.1 q, A.2⟩, r⟩
theorem own_Ar.set (F : own_Ar Z h a ty vs) (W : Wr h h' a i v) : own_Ar Z h' a ty (vs.set i v) := by
  obtain ⟨cl, A, e, hl⟩ := F
  exact ⟨_, A.same W, by simp [Cell.setSlot, e], by simpa using hl⟩
theorem own_newP (X : own_Sd p l e R s m args below meth c n0 T h C S) (hx : p.tables.exec = Jvm.exec) (hZ : Z.Warmed39 s.vm) {aty : ArrayType} (w : (Cond.arrayClass (newarray.typeOf aty)).before a0 Z = true) {g : JFrame} (hg : g.method = m) (hd : decode c.code g.pc = .ok (.newarray aty, 2)) {n : Int32} {rest : List Value} (hs : g.stack = .int n :: rest)
    (hn : ¬ n < 0) {N cap : Nat} (hN : n.toNatClampNeg = N) (hcap : N ≤ cap) (hb : cap * 8 ≤ 536870912) (hc : C + 1 ≤ R.cells) (hl : S + cap ≤ R.slots)
    (k : ∀ T' h' b, b = h.size → n0 ≤ b → own_Sd p l e R s m args below meth c n0 T' h' (C + 1) (S + cap) → Ext h h' → own_Ar Z h' b (newarray.typeOf aty) (List.replicate N (defaultValue (newarray.typeOf aty))) → own_Go p e below P (T'.setTop { g with pc := g.pc + 2, stack := .ref b :: rest })) : own_Go p e below P (T.setTop g) := by
  have hn0 := X.ge0
  obtain ⟨L, X, N', eT, r1, r2⟩ := X
  obtain ⟨T', h', cA, X', e', E, A, st⟩ := newP X hx hZ w eT hg hd hs hn (cap := cap) (by rw [hN]; exact hcap) hb hc hl
  refine own_st st (k T' h' h.size rfl hn0 ⟨L, X', N', e', r1, Nat.le_trans r2 E.1⟩ E ⟨_, A, ?_, ?_⟩)
  · simp [newA, hN]
  · have := (back32 hn).2; rw [List.length_replicate]; omega
theorem own_inb {cl : Cell} (e : cl.slots = vs.toArray) {j : Int32} (hj : ¬ j < 0) (hi : j.toNatClampNeg = i) (hl : i < vs.length) : ¬ (j < 0 ∨ cl.slots.size ≤ j.toNatClampNeg) := by
  rw [e, hi]; intro q; rcases q with q | q
  · exact hj q
  · simp at q; omega
theorem own_stB (X : own_Sd p l e R s m args below meth c n0 T h C S) (hx : p.tables.exec = Jvm.exec) (hZ : Z.Warmed39 s.vm) (A : own_Ar Z h a .byte vs) {j x x' : Int32} (hj : ¬ j < 0) (hi : j.toNatClampNeg = i) (hl : i < vs.length) (hv : x.toInt8.toInt32 = x') (ga : n0 ≤ a) {g : JFrame} (hg : g.method = m) {rest : List Value} (hs : g.stack = .int x :: .int j :: .ref a :: rest) (hd : decode c.code g.pc = .ok (.bastore, 1))
    (k : ∀ T' h', own_Sd p l e R s m args below meth c n0 T' h' C S → Wr h h' a i (.int x') → own_Ar Z h' a .byte (vs.set i (.int x')) → own_Go p e below P (T'.setTop { g with pc := g.pc + 1, stack := rest })) : own_Go p e below P (T.setTop g) := by
  obtain ⟨L, X, N, eT, r1, r2⟩ := X
  have A0 := A
  obtain ⟨cl, A1, e1, hl1⟩ := A
  obtain ⟨T', h', X', e', W, st⟩ := stB X hx hZ eT A1 (own_inb e1 hj hi hl) hg hs hd
  have W' : Wr h h' a i (.int x') := by rw [← hi, ← hv]; exact W
  exact own_st st (k T' h' ⟨_, X', Fr.snoc X' N ga, e', r1, by rw [W.size]; exact r2⟩ W' (A0.set W'))
theorem own_stI (X : own_Sd p l e R s m args below meth c n0 T h C S) (hx : p.tables.exec = Jvm.exec) (hZ : Z.Warmed39 s.vm) (A : own_Ar Z h a .int vs) {j x : Int32} (hj : ¬ j < 0) (hi : j.toNatClampNeg = i) (hl : i < vs.length) (ga : n0 ≤ a) {g : JFrame} (hg : g.method = m) {rest : List Value} (hs : g.stack = .int x :: .int j :: .ref a :: rest) (hd : decode c.code g.pc = .ok (.iastore, 1))
    (k : ∀ T' h', own_Sd p l e R s m args below meth c n0 T' h' C S → Wr h h' a i (.int x) → own_Ar Z h' a .int (vs.set i (.int x)) → own_Go p e below P (T'.setTop { g with pc := g.pc + 1, stack := rest })) : own_Go p e below P (T.setTop g) := by
  obtain ⟨L, X, N, eT, r1, r2⟩ := X
  have A0 := A
  obtain ⟨cl, A1, e1, hl1⟩ := A
  obtain ⟨T', h', X', e', W, st⟩ := stI X hx hZ eT A1 (own_inb e1 hj hi hl) hg hs hd
  have W' : Wr h h' a i (.int x) := by rw [← hi]; exact W
  exact own_st st (k T' h' ⟨_, X', Fr.snoc X' N ga, e', r1, by rw [W.size]; exact r2⟩ W' (A0.set W'))
theorem own_stJ (X : own_Sd p l e R s m args below meth c n0 T h C S) (hx : p.tables.exec = Jvm.exec) (hZ : Z.Warmed39 s.vm) (A : own_Ar Z h a .long vs) {j : Int32} {x : Int64} (hj : ¬ j < 0) (hi : j.toNatClampNeg = i) (hl : i < vs.length) (ga : n0 ≤ a) {g : JFrame} (hg : g.method = m) {rest : List Value} (hs : g.stack = .long x :: .int j :: .ref a :: rest) (hd : decode c.code g.pc = .ok (.lastore, 1))
    (k : ∀ T' h', own_Sd p l e R s m args below meth c n0 T' h' C S → Wr h h' a i (.long x) → own_Ar Z h' a .long (vs.set i (.long x)) → own_Go p e below P (T'.setTop { g with pc := g.pc + 1, stack := rest })) : own_Go p e below P (T.setTop g) := by
  obtain ⟨L, X, N, eT, r1, r2⟩ := X
  have A0 := A
  obtain ⟨cl, A1, e1, hl1⟩ := A
  obtain ⟨T', h', X', e', W, st⟩ := stJ X hx hZ eT A1 (own_inb e1 hj hi hl) hg hs hd
  have W' : Wr h h' a i (.long x) := by rw [← hi]; exact W
  exact own_st st (k T' h' ⟨_, X', Fr.snoc X' N ga, e', r1, by rw [W.size]; exact r2⟩ W' (A0.set W'))
theorem own_at {cl : Cell} (e : cl.slots = vs.toArray) {j : Int32} (hi : j.toNatClampNeg = i) (hv : vs[i]? = some v) : cl.slots[j.toNatClampNeg]? = some v := by rw [e, hi]; simpa using hv
theorem own_ltl (hv : vs[i]? = some v) : i < vs.length := (List.getElem?_eq_some_iff.mp hv).1
theorem own_ldB (X : own_Sd p l e R s m args below meth c n0 T h C S) (hx : p.tables.exec = Jvm.exec) (hZ : Z.Warmed39 s.vm) (A : own_Ar Z h a .byte vs) {j : Int32} (hj : ¬ j < 0) (hi : j.toNatClampNeg = i) (hv : vs[i]? = some v) {g : JFrame} (hg : g.method = m) {rest : List Value} (hs : g.stack = .int j :: .ref a :: rest) (hd : decode c.code g.pc = .ok (.baload, 1))
    (k : own_Go p e below P (T.setTop { g with pc := g.pc + 1, stack := v :: rest })) : own_Go p e below P (T.setTop g) := by
  obtain ⟨L, X, N, eT, r⟩ := X
  obtain ⟨cl, A1, e1, hl1⟩ := A
  exact own_st (fun _ q => X.baloadBytes hx (by rw [eT]; exact A1.1) (State.isArrayOf_alike hZ.alike A1.2.1) A1.2.2 (own_inb e1 hj hi (own_ltl hv)) (own_at e1 hi hv) hg hs hd _ q) k
theorem own_ldI (X : own_Sd p l e R s m args below meth c n0 T h C S) (hx : p.tables.exec = Jvm.exec) (hZ : Z.Warmed39 s.vm) (A : own_Ar Z h a .int vs) {j : Int32} (hj : ¬ j < 0) (hi : j.toNatClampNeg = i) (hv : vs[i]? = some v) {g : JFrame} (hg : g.method = m) {rest : List Value} (hs : g.stack = .int j :: .ref a :: rest) (hd : decode c.code g.pc = .ok (.iaload, 1))
    (k : own_Go p e below P (T.setTop { g with pc := g.pc + 1, stack := v :: rest })) : own_Go p e below P (T.setTop g) := by
  obtain ⟨L, X, N, eT, r⟩ := X
  obtain ⟨cl, A1, e1, hl1⟩ := A
  exact own_st (fun _ q => X.iaload hx (by rw [eT]; exact A1.1) (State.isArrayOf_alike hZ.alike A1.2.1) A1.2.2 (own_inb e1 hj hi (own_ltl hv)) (own_at e1 hi hv) hg hs hd _ q) k
theorem own_ldJ (X : own_Sd p l e R s m args below meth c n0 T h C S) (hx : p.tables.exec = Jvm.exec) (hZ : Z.Warmed39 s.vm) (A : own_Ar Z h a .long vs) {j : Int32} (hj : ¬ j < 0) (hi : j.toNatClampNeg = i) (hv : vs[i]? = some v) {g : JFrame} (hg : g.method = m) {rest : List Value} (hs : g.stack = .int j :: .ref a :: rest) (hd : decode c.code g.pc = .ok (.laload, 1))
    (k : own_Go p e below P (T.setTop { g with pc := g.pc + 1, stack := v :: rest })) : own_Go p e below P (T.setTop g) := by
  obtain ⟨L, X, N, eT, r⟩ := X
  obtain ⟨cl, A1, e1, hl1⟩ := A
  exact own_st (fun _ q => X.laload hx (by rw [eT]; exact A1.1) (State.isArrayOf_alike hZ.alike A1.2.1) A1.2.2 (own_inb e1 hj hi (own_ltl hv)) (own_at e1 hi hv) hg hs hd _ q) k
theorem own_len (X : own_Sd p l e R s m args below meth c n0 T h C S) (hx : p.tables.exec = Jvm.exec) (hZ : Z.Warmed39 s.vm) (A : own_Ar Z h a ty vs) {z : Int32} (hz : vs.length.toInt32 = z) {g : JFrame} (hg : g.method = m) {rest : List Value} (hs : g.stack = .ref a :: rest) (hd : decode c.code g.pc = .ok (.arraylength, 1))
    (k : own_Go p e below P (T.setTop { g with pc := g.pc + 1, stack := .int z :: rest })) : own_Go p e below P (T.setTop g) := by
  obtain ⟨L, X, N, eT, r⟩ := X
  obtain ⟨cl, A1, e1, hl1⟩ := A
  have ez : cl.slots.size.toInt32 = z := by rw [e1, ← hz]; simp
  exact own_st (fun _ q => X.arraylength hx (by rw [eT]; exact A1.1) (State.isArrayOf_alike hZ.alike A1.2.1) hg hs hd _ (by rw [ez]; exact q)) k
theorem own_i8 (x : Int32) : x.toInt8.toInt32.toInt8.toInt32 = x.toInt8.toInt32 := by simp
end OwnA
section OwnT
variable {p : Program} {l : Launch} {e : Env} {R : Room} {s : State} {m : MethodId} {args : Array Value} {below : List Frame} {meth : Method} {c : Code} {T : State} {n0 C S : Nat} {Z : State} {a0 : Array Value} {h h' : Heap} {P : State → Outcome → Prop} {Q : Option Value → Heap → Prop} {a b : Addr} {ty : FieldType} {vs : List Value} {v : Value} {sl i : Nat}
variable {bytes : ByteArray} {maxL : Nat} {y : MethodName} {ret : Option FieldType} {pc : Nat} {Ls Ls' : Array Slot} {st : List Value}
theorem o_newP (cx : own_Cx p s m meth c Z bytes maxL y ret) (X : own_Sd p l e R s m args below meth c n0 T h C S) {aty : ArrayType} {n : Int32} (hd : decode bytes pc = .ok (.newarray aty, 2)) (w : (Jvm.Cond.arrayClass (newarray.typeOf aty)).before a0 Z = true) (hn : ¬ n < 0) (N cap : Nat) (hN : n.toNatClampNeg = N) (hcap : N ≤ cap) (hb8 : cap * 8 ≤ 536870912) (hc : C + 1 ≤ R.cells) (hl : S + cap ≤ R.slots) (k : ∀ T' h' b, b = h.size → n0 ≤ b → own_Sd p l e R s m args below meth c n0 T' h' (C + 1) (S + cap) → Ext h h' → own_Ar Z h' b (newarray.typeOf aty) (List.replicate N (defaultValue (newarray.typeOf aty))) → own_Go p e below P (T'.setTop (mkF m (pc + 2) Ls (.ref b :: st)))) : own_Go p e below P (T.setTop (mkF m pc Ls (.int n :: st))) := by
  obtain ⟨hx, hby, hml, hown, hnm, hret, hlk, hZ⟩ := cx
  exact own_newP X hx hZ w (g := mkF m pc Ls (.int n :: st)) rfl (hb hby hd) rfl hn hN hcap hb8 hc hl k
theorem o_stB (cx : own_Cx p s m meth c Z bytes maxL y ret) (X : own_Sd p l e R s m args below meth c n0 T h C S) {j : Int32} {x x' : Int32} (hd : decode bytes pc = .ok (.bastore, 1)) (A : own_Ar Z h a .byte vs) (i : Nat) (hj : ¬ j < 0) (hi : j.toNatClampNeg = i) (hl : i < vs.length) (hv : x.toInt8.toInt32 = x') (ga : n0 ≤ a) (k : ∀ T' h', own_Sd p l e R s m args below meth c n0 T' h' C S → Wr h h' a i (.int x') → own_Ar Z h' a .byte (vs.set i (.int x')) → own_Go p e below P (T'.setTop (mkF m (pc + 1) Ls st))) : own_Go p e below P (T.setTop (mkF m pc Ls (.int x :: .int j :: .ref a :: st))) := by
  obtain ⟨hx, hby, hml, hown, hnm, hret, hlk, hZ⟩ := cx
  exact own_stB X hx hZ A hj hi hl hv ga (g := mkF m pc Ls (.int x :: .int j :: .ref a :: st)) rfl rfl (hb hby hd) k
theorem o_stI (cx : own_Cx p s m meth c Z bytes maxL y ret) (X : own_Sd p l e R s m args below meth c n0 T h C S) {j : Int32} {x : Int32} (hd : decode bytes pc = .ok (.iastore, 1)) (A : own_Ar Z h a .int vs) (i : Nat) (hj : ¬ j < 0) (hi : j.toNatClampNeg = i) (hl : i < vs.length)  (ga : n0 ≤ a) (k : ∀ T' h', own_Sd p l e R s m args below meth c n0 T' h' C S → Wr h h' a i (.int x) → own_Ar Z h' a .int (vs.set i (.int x)) → own_Go p e below P (T'.setTop (mkF m (pc + 1) Ls st))) : own_Go p e below P (T.setTop (mkF m pc Ls (.int x :: .int j :: .ref a :: st))) := by
  obtain ⟨hx, hby, hml, hown, hnm, hret, hlk, hZ⟩ := cx
  exact own_stI X hx hZ A hj hi hl ga (g := mkF m pc Ls (.int x :: .int j :: .ref a :: st)) rfl rfl (hb hby hd) k
theorem o_stJ (cx : own_Cx p s m meth c Z bytes maxL y ret) (X : own_Sd p l e R s m args below meth c n0 T h C S) {j : Int32} {x : Int64} (hd : decode bytes pc = .ok (.lastore, 1)) (A : own_Ar Z h a .long vs) (i : Nat) (hj : ¬ j < 0) (hi : j.toNatClampNeg = i) (hl : i < vs.length)  (ga : n0 ≤ a) (k : ∀ T' h', own_Sd p l e R s m args below meth c n0 T' h' C S → Wr h h' a i (.long x) → own_Ar Z h' a .long (vs.set i (.long x)) → own_Go p e below P (T'.setTop (mkF m (pc + 1) Ls st))) : own_Go p e below P (T.setTop (mkF m pc Ls (.long x :: .int j :: .ref a :: st))) := by
  obtain ⟨hx, hby, hml, hown, hnm, hret, hlk, hZ⟩ := cx
  exact own_stJ X hx hZ A hj hi hl ga (g := mkF m pc Ls (.long x :: .int j :: .ref a :: st)) rfl rfl (hb hby hd) k
theorem o_ldB (cx : own_Cx p s m meth c Z bytes maxL y ret) (X : own_Sd p l e R s m args below meth c n0 T h C S) {j : Int32} (hd : decode bytes pc = .ok (.baload, 1)) (A : own_Ar Z h a .byte vs) (i : Nat) (hj : ¬ j < 0) (hi : j.toNatClampNeg = i) (hv : vs[i]? = some v) (k : own_Go p e below P (T.setTop (mkF m (pc + 1) Ls (v :: st)))) : own_Go p e below P (T.setTop (mkF m pc Ls (.int j :: .ref a :: st))) := by
  obtain ⟨hx, hby, hml, hown, hnm, hret, hlk, hZ⟩ := cx
  exact own_ldB X hx hZ A hj hi hv (g := mkF m pc Ls (.int j :: .ref a :: st)) rfl rfl (hb hby hd) k
theorem o_ldI (cx : own_Cx p s m meth c Z bytes maxL y ret) (X : own_Sd p l e R s m args below meth c n0 T h C S) {j : Int32} (hd : decode bytes pc = .ok (.iaload, 1)) (A : own_Ar Z h a .int vs) (i : Nat) (hj : ¬ j < 0) (hi : j.toNatClampNeg = i) (hv : vs[i]? = some v) (k : own_Go p e below P (T.setTop (mkF m (pc + 1) Ls (v :: st)))) : own_Go p e below P (T.setTop (mkF m pc Ls (.int j :: .ref a :: st))) := by
  obtain ⟨hx, hby, hml, hown, hnm, hret, hlk, hZ⟩ := cx
  exact own_ldI X hx hZ A hj hi hv (g := mkF m pc Ls (.int j :: .ref a :: st)) rfl rfl (hb hby hd) k
theorem o_ldJ (cx : own_Cx p s m meth c Z bytes maxL y ret) (X : own_Sd p l e R s m args below meth c n0 T h C S) {j : Int32} (hd : decode bytes pc = .ok (.laload, 1)) (A : own_Ar Z h a .long vs) (i : Nat) (hj : ¬ j < 0) (hi : j.toNatClampNeg = i) (hv : vs[i]? = some v) (k : own_Go p e below P (T.setTop (mkF m (pc + 1) Ls (v :: st)))) : own_Go p e below P (T.setTop (mkF m pc Ls (.int j :: .ref a :: st))) := by
  obtain ⟨hx, hby, hml, hown, hnm, hret, hlk, hZ⟩ := cx
  exact own_ldJ X hx hZ A hj hi hv (g := mkF m pc Ls (.int j :: .ref a :: st)) rfl rfl (hb hby hd) k
theorem o_len (cx : own_Cx p s m meth c Z bytes maxL y ret) (X : own_Sd p l e R s m args below meth c n0 T h C S) {z : Int32} (hd : decode bytes pc = .ok (.arraylength, 1)) (A : own_Ar Z h a ty vs) (hz : vs.length.toInt32 = z) (k : own_Go p e below P (T.setTop (mkF m (pc + 1) Ls (.int z :: st)))) : own_Go p e below P (T.setTop (mkF m pc Ls (.ref a :: st))) := by
  obtain ⟨hx, hby, hml, hown, hnm, hret, hlk, hZ⟩ := cx
  exact own_len X hx hZ A hz (g := mkF m pc Ls (.ref a :: st)) rfl rfl (hb hby hd) k
end OwnT
section OwnC
variable {p : Program} {l : Launch} {e : Env} {R : Room} {s : State} {m : MethodId} {args : Array Value} {below : List Frame} {meth : Method} {c : Code} {T : State} {n0 C S : Nat} {Z : State} {a0 : Array Value} {h h' : Heap} {P : State → Outcome → Prop} {a b : Addr} {ty : FieldType} {vs vd : List Value}
variable {bytes : ByteArray} {maxL : Nat} {y : MethodName} {ret : Option FieldType} {pc : Nat} {Ls : Array Slot} {st : List Value}
theorem own_n32 {k : Nat} (hk : k < 2 ^ 31) : (k.toInt32).toNatClampNeg = k ∧ ¬ k.toInt32 < 0 := by
  have e : (k.toInt32).toInt = k := Int32.toInt_ofNat_of_lt hk
  refine ⟨?_, ?_⟩
  · show (k.toInt32).toInt.toNat = k
    rw [e]; omega
  · rw [Int32.lt_iff_toInt_lt, e]; have : (0 : Int32).toInt = 0 := by decide
    omega
theorem own_Ar.arv (F : own_Ar Z h a ty vs) (hf : ∀ v ∈ vs, fits ty v = true) : ∃ k, Arv Z h a k ty vs.length.toInt32 vs .null := by
  obtain ⟨cl, A, e, hl⟩ := F
  obtain ⟨q1, q2⟩ := own_n32 hl
  have hs : cl.slots.size = vs.length := by rw [e]; simp
  refine ⟨cl.cls, cl, A, rfl, by rw [hs, q1], q2, ?_, ?_⟩
  · intro k hk
    rw [hs] at hk
    rw [e]; simp [List.getD_eq_getElem?_getD, hk]
  · intro i hi
    rw [hs] at hi
    rw [show vs.getD i .null = vs[i] from by simp [List.getD_eq_getElem?_getD, hi]]
    exact hf _ (List.getElem_mem hi)
/-- System.arraycopy between two arrays of one primitive kind: what it leaves but for the second one -/
theorem o_cpy (cx : own_Cx p s m meth c Z bytes maxL y ret) (X : own_Sd p l e R s m args below meth c n0 T h C S) {j : Nat} {sp dp nn : Int32} (hd : decode bytes pc = .ok (.invokestatic j, 3)) (w1 : (Jvm.Cond.methodLink y.cls j Jvm.Stand.acN).before a0 Z = true) (w2 : (Jvm.Cond.native Jvm.Stand.acN).before a0 Z = true) (w3 : (Jvm.Cond.static Jvm.Stand.acN).before a0 Z = true) (w4 : (Jvm.Cond.initialized "java/lang/System").before a0 Z = true)
    (A : own_Ar Z h a ty vs) (B : own_Ar Z h b ty vd) (hA : ∀ v ∈ vs, fits ty v = true) (hB : ∀ v ∈ vd, fits ty v = true) (hty : refKind ty = false) (h1 : ¬ sp < 0) (h2 : ¬ dp < 0) (h3 : ¬ nn < 0) (h4 : sp.toNatClampNeg + nn.toNatClampNeg ≤ vs.length) (h5 : dp.toNatClampNeg + nn.toNatClampNeg ≤ vd.length) (ge : n0 ≤ b)
    (hsz : Ls.size = maxL) (hf : 1 ≤ R.frames) (W : Nat) (hW : (st.map fun v => v.category).sum = W) (hlo : W + (nativeFrameWords "java/lang/System" "arraycopy" 5 + 11) ≤ R.locals)
    (k : ∀ T' h', own_Sd p l e R s m args below meth c n0 T' h' C S → Keep h h' [b] → own_Go p e below P (T'.setTop (mkF m (pc + 3) Ls st))) : own_Go p e below P (T.setTop (mkF m pc Ls (.int nn :: .int dp :: .ref b :: .int sp :: .ref a :: st))) := by
  obtain ⟨hx, hby, hml, hown, hnm, hret, hlk, hZ⟩ := cx
  obtain ⟨L, X, N, eT, r1, r2⟩ := X
  have lA : vs.length < 2 ^ 31 := by obtain ⟨_, _, _, q⟩ := A; exact q
  have lB : vd.length < 2 ^ 31 := by obtain ⟨_, _, _, q⟩ := B; exact q
  obtain ⟨kA, VA⟩ := A.arv hA
  obtain ⟨kB, VB⟩ := B.arv hB
  obtain ⟨T', h', L', X', e', N', K, -, st'⟩ := cpA X hx hZ hown w1 w2 w3 w4 eT VA VB (Or.inl ⟨rfl, hty⟩) h1 h2 h3 (by rw [(own_n32 lA).1]; exact h4) (by rw [(own_n32 lB).1]; exact h5) rfl h5 N ge (g := mkF m pc Ls (.int nn :: .int dp :: .ref b :: .int sp :: .ref a :: st)) rfl (by rw [hml]; exact hsz) rfl (hb hby hd) hf (W := W) (by show 2 * 0 + _ ≤ _; omega) hlo
  exact own_st st' (k T' h' ⟨L', X', N', e', r1, Nat.le_trans r2 K.1⟩ K)
end OwnC
section OwnD
variable {p : Program} {l : Launch} {e : Env} {R : Room} {s : State} {m : MethodId} {args : Array Value} {below : List Frame} {meth : Method} {c : Code} {T : State} {n0 C S : Nat} {Z : State} {a0 : Array Value} {h h' : Heap} {P : State → Outcome → Prop} {a b : Addr} {ty : FieldType} {vs vd : List Value}
variable {bytes : ByteArray} {maxL : Nat} {y : MethodName} {ret : Option FieldType} {pc : Nat} {Ls : Array Slot} {st : List Value}
theorem own_Ar.of_arv {k : ClassId} {d : Value} (F : Arv Z h a k ty vs.length.toInt32 vs d) (hl : vs.length < 2 ^ 31) : own_Ar Z h a ty vs := by
  obtain ⟨cl, A, -, S, -, H, -⟩ := F
  rw [(own_n32 hl).1] at S
  refine ⟨cl, A, ?_, hl⟩
  apply Array.ext (by rw [S]; simp)
  intro i h1 h2
  have q := H i h1
  rw [S] at h1
  rw [Array.getElem?_eq_getElem (by rw [S]; exact h1)] at q
  have q2 : vs.getD i d = vs[i] := by simp [List.getD_eq_getElem?_getD, h1]
  rw [q2] at q
  simpa using Option.some.inj q
/-- System.arraycopy between two arrays of one primitive kind, and what lies in the second one then -/
theorem o_cpy2 (cx : own_Cx p s m meth c Z bytes maxL y ret) (X : own_Sd p l e R s m args below meth c n0 T h C S) {j : Nat} {sp dp nn : Int32} (hd : decode bytes pc = .ok (.invokestatic j, 3)) (w1 : (Jvm.Cond.methodLink y.cls j Jvm.Stand.acN).before a0 Z = true) (w2 : (Jvm.Cond.native Jvm.Stand.acN).before a0 Z = true) (w3 : (Jvm.Cond.static Jvm.Stand.acN).before a0 Z = true) (w4 : (Jvm.Cond.initialized "java/lang/System").before a0 Z = true)
    (A : own_Ar Z h a ty vs) (B : own_Ar Z h b ty vd) (hA : ∀ v ∈ vs, fits ty v = true) (hB : ∀ v ∈ vd, fits ty v = true) (hty : refKind ty = false) (h1 : ¬ sp < 0) (h2 : ¬ dp < 0) (h3 : ¬ nn < 0) (h4 : sp.toNatClampNeg + nn.toNatClampNeg ≤ vs.length) (h5 : dp.toNatClampNeg + nn.toNatClampNeg ≤ vd.length) (ge : n0 ≤ b)
    (hsz : Ls.size = maxL) (hf : 1 ≤ R.frames) (W : Nat) (hW : (st.map fun v => v.category).sum = W) (hlo : W + (nativeFrameWords "java/lang/System" "arraycopy" 5 + 11) ≤ R.locals) {vr : List Value} (hr : vd.take dp.toNatClampNeg ++ ((List.range nn.toNatClampNeg).map fun i => vs.getD (sp.toNatClampNeg + i) .null) ++ vd.drop (dp.toNatClampNeg + nn.toNatClampNeg) = vr) (hrl : vr.length = vd.length)
    (k : ∀ T' h', own_Sd p l e R s m args below meth c n0 T' h' C S → Keep h h' [b] → own_Ar Z h' b ty vr → own_Go p e below P (T'.setTop (mkF m (pc + 3) Ls st))) : own_Go p e below P (T.setTop (mkF m pc Ls (.int nn :: .int dp :: .ref b :: .int sp :: .ref a :: st))) := by
  obtain ⟨hx, hby, hml, hown, hnm, hret, hlk, hZ⟩ := cx
  obtain ⟨L, X, N, eT, r1, r2⟩ := X
  have lA : vs.length < 2 ^ 31 := by obtain ⟨_, _, _, q⟩ := A; exact q
  have lB : vd.length < 2 ^ 31 := by obtain ⟨_, _, _, q⟩ := B; exact q
  obtain ⟨kA, VA⟩ := A.arv hA
  obtain ⟨kB, VB⟩ := B.arv hB
  obtain ⟨T', h', L', X', e', N', K, V, st'⟩ := cpA X hx hZ hown w1 w2 w3 w4 eT VA VB (Or.inl ⟨rfl, hty⟩) h1 h2 h3 (by rw [(own_n32 lA).1]; exact h4) (by rw [(own_n32 lB).1]; exact h5) rfl h5 N ge (g := mkF m pc Ls (.int nn :: .int dp :: .ref b :: .int sp :: .ref a :: st)) rfl (by rw [hml]; exact hsz) rfl (hb hby hd) hf (W := W) (by show 2 * 0 + _ ≤ _; omega) hlo
  rw [hr, ← hrl] at V
  exact own_st st' (k T' h' ⟨L', X', N', e', r1, Nat.le_trans r2 K.1⟩ K (own_Ar.of_arv V (by rw [hrl]; exact lB)))
/-! small numbers as ints -/
theorem own_ofI {k : Nat} (h : k < 2 ^ 31) : (Int32.ofNat k).toInt = k := Int32.toInt_ofNat_of_lt h
theorem own_nn {k : Nat} (h : k < 2 ^ 31) : ¬ (Int32.ofNat k) < 0 := by
  rw [Int32.lt_iff_toInt_lt, own_ofI h]; have : (0 : Int32).toInt = 0 := by decide
  omega
theorem own_nt {k : Nat} (h : k < 2 ^ 31) : (Int32.ofNat k).toNatClampNeg = k := by
  show (Int32.ofNat k).toInt.toNat = k
  rw [own_ofI h]; omega
theorem own_add (k j : Nat) : Int32.ofNat k + Int32.ofNat j = Int32.ofNat (k + j) := (Int32.ofNat_add k j).symm
theorem own_s (k : Nat) : Int32.ofNat k + (1 : Int32) = Int32.ofNat (k + 1) := own_add k 1
theorem own_inj {k j : Nat} (hk : k < 2 ^ 31) (hj : j < 2 ^ 31) (q : Int32.ofNat k = Int32.ofNat j) : k = j := by
  have := congrArg Int32.toInt q
  rw [own_ofI hk, own_ofI hj] at this; omega
theorem own_lt32 {k j : Nat} (hk : k < 2 ^ 31) (hj : j < 2 ^ 31) : Int32.ofNat k < Int32.ofNat j ↔ k < j := by
  rw [Int32.lt_iff_toInt_lt, own_ofI hk, own_ofI hj]; omega
theorem own_sub (k j : Nat) (h : j ≤ k) (hk : k < 2 ^ 31) : Int32.ofNat k - Int32.ofNat j = Int32.ofNat (k - j) := by
  have e := c_isub (Int32.ofNat k) (Int32.ofNat j)
  have r := rng32 (Int32.ofNat k - Int32.ofNat j)
  rw [own_ofI hk, own_ofI (by omega)] at e
  apply Int32.toInt_inj.mp; rw [own_ofI (by omega)]; omega
/-! lists of small numbers, given by a function -/
def own_fl (n : Nat) (F : Nat → Nat) : List Value := (List.range n).map fun j => .int (Int32.ofNat (F j))
theorem own_fl_len (n : Nat) (F : Nat → Nat) : (own_fl n F).length = n := by simp [own_fl]
theorem own_fl_get {n i z : Nat} {F : Nat → Nat} (h : i < n) (q : F i = z) : (own_fl n F)[i]? = some (.int (Int32.ofNat z)) := by subst q; simp [own_fl, h]
theorem own_fl_congr {n : Nat} {F G : Nat → Nat} (h : ∀ j, j < n → F j = G j) : own_fl n F = own_fl n G := by
  unfold own_fl
  apply List.map_congr_left
  intro j hj; rw [h j (List.mem_range.mp hj)]
theorem own_fl_set {n i z : Nat} {F : Nat → Nat} : (own_fl n F).set i (.int (Int32.ofNat z)) = own_fl n (fun j => if j = i then z else F j) := by
  apply List.ext_getElem
  · simp [own_fl]
  · intro j h1 h2
    rw [List.getElem_set]
    by_cases q : j = i
    · subst q; simp [own_fl]
    · have q' : ¬ i = j := fun z => q z.symm
      simp [own_fl, q, q']
theorem own_fl_zero (n : Nat) : List.replicate n (Value.int (0 : Int32)) = own_fl n (fun _ => 0) := by
  unfold own_fl
  rw [List.map_const', List.length_range]; rfl
theorem own_fl_fits {n : Nat} {F : Nat → Nat} : ∀ v ∈ own_fl n F, fits .int v = true := by
  intro v hv
  obtain ⟨j, -, rfl⟩ := List.mem_map.mp hv
  rfl
def own_H : List Nat → Nat → Nat
  | [], _ => 0
  | k :: L, j => own_H L j + (if j = k + 1 then 1 else 0)
def own_P : List Nat → Nat → Nat
  | [], _ => 0
  | k :: L, j => own_P L j + (if k < j then 1 else 0)
def own_C : List Nat → Nat → Nat
  | [], _ => 0
  | k :: L, j => own_C L j + (if k = j then 1 else 0)
theorem own_H0 (L : List Nat) : own_H L 0 = 0 := by induction L with
  | nil => rfl
  | cons k L ih => simp [own_H, ih]
theorem own_P0 (L : List Nat) : own_P L 0 = 0 := by induction L with
  | nil => rfl
  | cons k L ih => simp [own_P, ih]
theorem own_PH (L : List Nat) (j : Nat) : own_P L (j + 1) = own_P L j + own_H L (j + 1) := by induction L with
  | nil => rfl
  | cons k L ih =>
    simp only [own_P, own_H, ih]
    by_cases h1 : k < j
    · rw [if_pos h1, if_pos (by omega), if_neg (by omega)]; omega
    · by_cases h2 : k = j
      · rw [if_neg h1, if_pos (by omega), if_pos (by omega)]; omega
      · rw [if_neg h1, if_neg (by omega), if_neg (by omega)]; omega
theorem own_PC (L : List Nat) (j : Nat) : own_P L (j + 1) = own_P L j + own_C L j := by induction L with
  | nil => rfl
  | cons k L ih =>
    simp only [own_P, own_C, ih]
    by_cases h1 : k < j
    · rw [if_pos h1, if_pos (by omega), if_neg (by omega)]; omega
    · by_cases h2 : k = j
      · rw [if_neg h1, if_pos (by omega), if_pos (by omega)]; omega
      · rw [if_neg h1, if_neg (by omega), if_neg (by omega)]; omega
theorem own_Ple (L : List Nat) (j : Nat) : own_P L j ≤ L.length := by induction L with
  | nil => exact Nat.le_refl _
  | cons k L ih => simp only [own_P, List.length_cons]; split <;> omega
theorem own_fl_H {n k : Nat} {L : List Nat} : (own_fl n (own_H L)).set (k + 1) (.int (Int32.ofNat (own_H L (k + 1) + 1))) = own_fl n (own_H (k :: L)) := by
  rw [own_fl_set]; apply own_fl_congr; intro j _
  simp only [own_H]
  by_cases q : j = k + 1
  · subst q; rw [if_pos rfl, if_pos rfl]
  · rw [if_neg q, if_neg q]; omega
/-- the sums up to k, the counts behind it -/
def own_M (L : List Nat) (k j : Nat) : Nat := if j ≤ k then own_P L j else own_H L j
theorem own_M0 (n : Nat) (L : List Nat) : own_fl n (own_H L) = own_fl n (own_M L 0) := by
  apply own_fl_congr; intro j _
  unfold own_M
  split
  · have : j = 0 := by omega
    subst this; rw [own_H0, own_P0]
  · rfl
theorem own_Mhi (L : List Nat) (k : Nat) : own_M L k (k + 1) = own_H L (k + 1) := if_neg (by omega)
theorem own_Mlo (L : List Nat) (k : Nat) : own_M L k k = own_P L k := if_pos (Nat.le_refl _)
theorem own_fl_M {n k : Nat} {L : List Nat} : (own_fl n (own_M L k)).set (k + 1) (.int (Int32.ofNat (own_H L (k + 1) + own_P L k))) = own_fl n (own_M L (k + 1)) := by
  rw [own_fl_set]; apply own_fl_congr; intro j _
  unfold own_M
  by_cases q : j = k + 1
  · subst q; rw [if_pos rfl, if_pos (Nat.le_refl _), own_PH]; omega
  · rw [if_neg q]
    by_cases q2 : j ≤ k
    · rw [if_pos q2, if_pos (by omega)]
    · rw [if_neg q2, if_neg (by omega)]
theorem own_Mn (n : Nat) (L : List Nat) : own_fl (n + 1) (own_M L n) = own_fl (n + 1) (own_P L) := by
  apply own_fl_congr; intro j hj
  exact if_pos (by omega)
def own_up (N : Nat → Nat) (k j : Nat) : Nat := if j = k then N k + 1 else N j
theorem own_fl_N {n k : Nat} {N : Nat → Nat} : (own_fl n N).set k (.int (Int32.ofNat (N k + 1))) = own_fl n (own_up N k) := by
  rw [own_fl_set]; rfl
theorem own_inv0 (L : List Nat) : ∀ j, own_P L j + own_C L j ≤ own_P L (j + 1) := fun j => Nat.le_of_eq (own_PC L j).symm
theorem own_invS {N : Nat → Nat} {L Rm : List Nat} {k : Nat} (q : ∀ j, N j + own_C (k :: Rm) j ≤ own_P L (j + 1)) : ∀ j, own_up N k j + own_C Rm j ≤ own_P L (j + 1) := fun j => by
  have z := q j
  simp only [own_C] at z
  unfold own_up
  by_cases h : j = k
  · subst h; rw [if_pos rfl] at z ⊢; omega
  · rw [if_neg (fun w => h w.symm)] at z; rw [if_neg h]; omega
theorem own_invL {N : Nat → Nat} {L Rm : List Nat} {k : Nat} (q : ∀ j, N j + own_C (k :: Rm) j ≤ own_P L (j + 1)) : N k < L.length := by
  have z := q k
  simp only [own_C] at z
  rw [if_pos trivial] at z
  have := own_Ple L (k + 1); omega
end OwnD
theorem d4_0 : decode jdk_29_method_69_code 0 = .ok (.iload_n 0, 1) := by decide +kernel
theorem d4_1 : decode jdk_29_method_69_code 1 = .ok (.iload_n 1, 1) := by decide +kernel
theorem d4_2 : decode jdk_29_method_69_code 2 = .ok (.if_icmp .gt 7, 3) := by decide +kernel
theorem d4_9 : decode jdk_29_method_69_code 9 = .ok (.iload_n 1, 1) := by decide +kernel
theorem d4_10 : decode jdk_29_method_69_code 10 = .ok (.ireturn, 1) := by decide +kernel
theorem ef_rmin (m : MethodId) (xx : Int32) (yy : Int32) : entryFrame m #[(.int xx), (.int yy)] 2 = mkF m 0 #[iv xx, iv yy] [] := by first | (simp [entryFrame, mkF, argsToLocals, Value.category]; done) | rfl
set_option maxRecDepth 65536 in
set_option maxHeartbeats 40000000 in
theorem rmin (l : Launch) (Z : State) (a0 : Array Value) (hw : ∀ d ∈ tables_1, d.before a0 Z = true) (xx : Int32) (yy : Int32) (h0 : Heap) (n0 : Nat) (Z0 : n0 ≤ h0.size) (hq : yy < xx) :
    own_Met l Z (⟨"java/lang/Math", "min", "(II)I"⟩ : MethodName) jdk_29_method_69_code 2 (some .int) ({ frames := 0, cells := 0, slots := 0, locals := 0 } : Room) #[(.int xx), (.int yy)] h0 n0 (fun v' h' => v' = some (.int yy) ∧ h' = h0) := by
  refine own_body (Jvm.Free.JP.mathPlain rfl (by decide +kernel)) (fun m => ef_rmin m xx yy) Z0 ?_
  intro p e s m below meth c T0 cx X0
  show own_Go p e below _ (T0.setTop (mkF m 0 #[iv xx, iv yy] []))
  refine o_iloadN cx X0 d4_0 rfl ?_
  refine o_iloadN cx X0 d4_1 rfl ?_
  refine o_icmpYes cx X0 9 d4_2 (tlt hq).2.2.1 (by decide) (by decide) ?_
  refine o_iloadN cx X0 d4_9 rfl ?_
  exact o_retI cx X0 d4_10 ⟨rfl, rfl⟩ (by decide) (by decide)
theorem own_cp (F : Nat → Nat) (nn : Nat) : (List.replicate nn (Value.int (0 : Int32))).take (0 : Int32).toNatClampNeg ++ ((List.range nn).map fun i => (own_fl (nn + 1) F).getD ((0 : Int32).toNatClampNeg + i) .null) ++ (List.replicate nn (Value.int (0 : Int32))).drop ((0 : Int32).toNatClampNeg + nn) = own_fl nn F := by
  have e0 : (0 : Int32).toNatClampNeg = 0 := by decide
  rw [e0, List.take_zero, List.nil_append, List.drop_of_length_le (by simp), List.append_nil]
  unfold own_fl
  apply List.map_congr_left
  intro j hj
  have := List.mem_range.mp hj
  rw [List.getD_eq_getElem?_getD, List.getElem?_map, List.getElem?_range (by omega)]
  simp
theorem d3_0 : decode jdk_65_method_123_code 0 = .ok (.iload_n 1, 1) := by decide +kernel
theorem d3_1 : decode jdk_65_method_123_code 1 = .ok (.aload_n 0, 1) := by decide +kernel
theorem d3_2 : decode jdk_65_method_123_code 2 = .ok (.arraylength, 1) := by decide +kernel
theorem d3_3 : decode jdk_65_method_123_code 3 = .ok (.if_icmp .ne 11, 3) := by decide +kernel
theorem d3_14 : decode jdk_65_method_123_code 14 = .ok (.iload_n 1, 1) := by decide +kernel
theorem d3_15 : decode jdk_65_method_123_code 15 = .ok (.newarray .int, 2) := by decide +kernel
theorem d3_17 : decode jdk_65_method_123_code 17 = .ok (.astore_n 2, 1) := by decide +kernel
theorem d3_18 : decode jdk_65_method_123_code 18 = .ok (.aload_n 0, 1) := by decide +kernel
theorem d3_19 : decode jdk_65_method_123_code 19 = .ok (.iconst 0, 1) := by decide +kernel
theorem d3_20 : decode jdk_65_method_123_code 20 = .ok (.aload_n 2, 1) := by decide +kernel
theorem d3_21 : decode jdk_65_method_123_code 21 = .ok (.iconst 0, 1) := by decide +kernel
theorem d3_22 : decode jdk_65_method_123_code 22 = .ok (.aload_n 0, 1) := by decide +kernel
theorem d3_23 : decode jdk_65_method_123_code 23 = .ok (.arraylength, 1) := by decide +kernel
theorem d3_24 : decode jdk_65_method_123_code 24 = .ok (.iload_n 1, 1) := by decide +kernel
theorem d3_25 : decode jdk_65_method_123_code 25 = .ok (.invokestatic 304, 3) := by decide +kernel
theorem pd_4 : parseMethodDescriptor "(II)I" = some ⟨[.int, .int], some .int⟩ := by decide +kernel
theorem d3_28 : decode jdk_65_method_123_code 28 = .ok (.invokestatic 150, 3) := by decide +kernel
theorem d3_31 : decode jdk_65_method_123_code 31 = .ok (.aload_n 2, 1) := by decide +kernel
theorem d3_32 : decode jdk_65_method_123_code 32 = .ok (.areturn, 1) := by decide +kernel
theorem pn_3 : plainName "java/util/Arrays" = true := by first | (simp [plainName, overriddenIn]; done) | decide +kernel
theorem ef_rcp (m : MethodId) (aa : Addr) (nn : Nat) : entryFrame m #[(.ref aa), (.int (Int32.ofNat nn))] 3 = mkF m 0 #[rv aa, iv (Int32.ofNat nn), .unset] [] := by first | (simp [entryFrame, mkF, argsToLocals, Value.category]; done) | rfl
set_option maxRecDepth 65536 in
set_option maxHeartbeats 40000000 in
theorem rcp (l : Launch) (Z : State) (a0 : Array Value) (hw : ∀ d ∈ tables_1, d.before a0 Z = true) (aa : Addr) (nn : Nat) (F : Nat → Nat) (h0 : Heap) (n0 : Nat) (Z0 : n0 ≤ h0.size) (hn8 : nn ≤ 8) (A0 : own_Ar Z h0 aa .int (own_fl (nn + 1) F)) :
    own_Met l Z (⟨"java/util/Arrays", "copyOf", "([II)[I"⟩ : MethodName) jdk_65_method_123_code 3 (some (.array .int)) ({ frames := 1, cells := 1, slots := 8, locals := 60 } : Room) #[(.ref aa), (.int (Int32.ofNat nn))] h0 n0 (fun v' h' => ∃ b : Addr, v' = some (.ref b) ∧ Keep h0 h' [] ∧ h0.size ≤ b ∧ n0 ≤ b ∧ own_Ar Z h' b .int (own_fl nn F)) := by
  refine own_body (plainFor_of_name pn_3) (fun m => ef_rcp m aa nn) Z0 ?_
  intro p e s m below meth c T0 cx X0
  have KK := Keep.refl h0 []
  show own_Go p e below _ (T0.setTop (mkF m 0 #[rv aa, iv (Int32.ofNat nn), .unset] []))
  refine o_iloadN cx X0 d3_0 rfl ?_
  refine o_aloadN cx X0 d3_1 rfl rfl ?_
  refine o_len cx X0 (z := (Int32.ofNat (nn + 1))) d3_2 A0 (by rw [own_fl_len]) ?_
  refine o_icmpYes cx X0 14 d3_3 (feq (fun q => absurd (own_inj (by omega) (by omega) q) (by omega) : ¬ ((Int32.ofNat nn) = (Int32.ofNat (nn + 1))))).2 (by decide) (by decide) ?_
  refine o_iloadN cx X0 d3_14 rfl ?_
  refine o_newP cx X0 d3_15 (o_w hw 1 rfl) (own_nn (by omega)) nn 8 (own_nt (by omega)) hn8 (by decide) (by decide) (by decide) fun T2 h4 b1 gb7 ge8 X3 E5 A6 => ?_
  have ne_aa_b1 : aa ≠ b1 := by rw [gb7]; exact Nat.ne_of_lt A0.lt
  have sz_b1 : h0.size ≤ b1 := by rw [gb7]; exact KK.1
  have A0 := A0.ext E5
  have KK := KK.ext E5
  have A6 : own_Ar Z h4 b1 .int (List.replicate nn (.int (0 : Int32))) := A6
  refine o_astoreN cx X3 (Ls' := #[rv aa, iv (Int32.ofNat nn), rv b1]) d3_17 rfl rfl ?_
  refine o_aloadN cx X3 d3_18 rfl rfl ?_
  refine o_iconst cx X3 (z := (0 : Int32)) d3_19 rfl ?_
  refine o_aloadN cx X3 d3_20 rfl rfl ?_
  refine o_iconst cx X3 (z := (0 : Int32)) d3_21 rfl ?_
  refine o_aloadN cx X3 d3_22 rfl rfl ?_
  refine o_len cx X3 (z := (Int32.ofNat (nn + 1))) d3_23 A0 (by rw [own_fl_len]) ?_
  refine o_iloadN cx X3 d3_24 rfl ?_
  refine o_callSp cx X3 (y' := (⟨"java/lang/Math", "min", "(II)I"⟩ : MethodName)) (argsL := [(.int (Int32.ofNat (nn + 1))), (.int (Int32.ofNat nn))]) (st := [(.int (0 : Int32)), (.ref b1), (.int (0 : Int32)), (.ref aa)]) d3_25 (o_w hw 24 rfl) (o_w hw 25 rfl) (o_w hw 26 rfl) (o_w hw 27 rfl) (by decide) (rmin l Z a0 hw (Int32.ofNat (nn + 1)) (Int32.ofNat nn) h4 n0 X3.ge0 ((own_lt32 (by omega) (by omega)).mpr (by omega))) (by decide) 4 rfl (by decide) rfl (lenOf pd_4 rfl) rfl rfl (by decide) (by decide) fun T9 X10 => ?_
  show own_Go p e below _ (T9.setTop (mkF m 28 #[rv aa, iv (Int32.ofNat nn), rv b1] [(.int (Int32.ofNat nn)), (.int (0 : Int32)), (.ref b1), (.int (0 : Int32)), (.ref aa)]))
  refine o_cpy2 cx X10 d3_28 (o_w hw 28 rfl) (o_w hw 31 rfl) (o_w hw 29 rfl) (o_w hw 30 rfl) A0 A6 own_fl_fits (by intro v hv; rw [List.eq_of_mem_replicate hv]; rfl) rfl (by decide) (by decide) (own_nn (by omega)) (by rw [own_nt (by omega), own_fl_len]; show 0 + nn ≤ nn + 1; omega) (by rw [own_nt (by omega), List.length_replicate]; show 0 + nn ≤ nn; omega) ge8 rfl (by decide) 0 rfl (by decide) (vr := own_fl nn F) (by rw [own_nt (by omega)]; exact own_cp F nn) (by rw [own_fl_len, List.length_replicate]) fun T14 h16 X15 K17 A6 => ?_
  have KK := KK.trans K17 (allS (Or.inr sz_b1) all0)
  show own_Go p e below _ (T14.setTop (mkF m 31 #[rv aa, iv (Int32.ofNat nn), rv b1] []))
  refine o_aloadN cx X15 d3_31 rfl rfl ?_
  exact o_retA cx X15 d3_32 rfl rfl rfl ⟨b1, rfl, KK, sz_b1, ge8, A6⟩ (by decide) (by decide)
theorem d1_0 : decode prog_28_method_2_code 0 = .ok (.aload_n 0, 1) := by decide +kernel
theorem d1_1 : decode prog_28_method_2_code 1 = .ok (.invokespecial 1, 3) := by decide +kernel
theorem d1_4 : decode prog_28_method_2_code 4 = .ok (.iload_n 2, 1) := by decide +kernel
theorem d1_5 : decode prog_28_method_2_code 5 = .ok (.iconst 1, 1) := by decide +kernel
theorem d1_6 : decode prog_28_method_2_code 6 = .ok (.iadd, 1) := by decide +kernel
theorem d1_7 : decode prog_28_method_2_code 7 = .ok (.newarray .int, 2) := by decide +kernel
theorem d1_9 : decode prog_28_method_2_code 9 = .ok (.astore 7, 2) := by decide +kernel
theorem d1_11 : decode prog_28_method_2_code 11 = .ok (.aload 4, 2) := by decide +kernel
theorem d1_13 : decode prog_28_method_2_code 13 = .ok (.astore 8, 2) := by decide +kernel
theorem d1_15 : decode prog_28_method_2_code 15 = .ok (.aload 8, 2) := by decide +kernel
theorem d1_17 : decode prog_28_method_2_code 17 = .ok (.arraylength, 1) := by decide +kernel
theorem d1_18 : decode prog_28_method_2_code 18 = .ok (.istore 9, 2) := by decide +kernel
theorem d1_20 : decode prog_28_method_2_code 20 = .ok (.iconst 0, 1) := by decide +kernel
theorem d1_21 : decode prog_28_method_2_code 21 = .ok (.istore 10, 2) := by decide +kernel
theorem d1_23 : decode prog_28_method_2_code 23 = .ok (.iload 10, 2) := by decide +kernel
theorem d1_25 : decode prog_28_method_2_code 25 = .ok (.iload 9, 2) := by decide +kernel
theorem d1_27 : decode prog_28_method_2_code 27 = .ok (.if_icmp .ge 27, 3) := by decide +kernel
theorem d1_30 : decode prog_28_method_2_code 30 = .ok (.aload 8, 2) := by decide +kernel
theorem d1_32 : decode prog_28_method_2_code 32 = .ok (.iload 10, 2) := by decide +kernel
theorem d1_34 : decode prog_28_method_2_code 34 = .ok (.iaload, 1) := by decide +kernel
theorem d1_35 : decode prog_28_method_2_code 35 = .ok (.istore 11, 2) := by decide +kernel
theorem d1_37 : decode prog_28_method_2_code 37 = .ok (.aload 7, 2) := by decide +kernel
theorem d1_39 : decode prog_28_method_2_code 39 = .ok (.iload 11, 2) := by decide +kernel
theorem d1_41 : decode prog_28_method_2_code 41 = .ok (.iconst 1, 1) := by decide +kernel
theorem d1_42 : decode prog_28_method_2_code 42 = .ok (.iadd, 1) := by decide +kernel
theorem d1_43 : decode prog_28_method_2_code 43 = .ok (.dup2, 1) := by decide +kernel
theorem d1_44 : decode prog_28_method_2_code 44 = .ok (.iaload, 1) := by decide +kernel
theorem d1_45 : decode prog_28_method_2_code 45 = .ok (.iconst 1, 1) := by decide +kernel
theorem d1_46 : decode prog_28_method_2_code 46 = .ok (.iadd, 1) := by decide +kernel
theorem d1_47 : decode prog_28_method_2_code 47 = .ok (.iastore, 1) := by decide +kernel
theorem d1_48 : decode prog_28_method_2_code 48 = .ok (.iinc 10 1, 3) := by decide +kernel
theorem d1_51 : decode prog_28_method_2_code 51 = .ok (.goto (-28), 3) := by decide +kernel
theorem d1_54 : decode prog_28_method_2_code 54 = .ok (.iconst 0, 1) := by decide +kernel
theorem d1_55 : decode prog_28_method_2_code 55 = .ok (.istore 8, 2) := by decide +kernel
theorem d1_57 : decode prog_28_method_2_code 57 = .ok (.iload 8, 2) := by decide +kernel
theorem d1_59 : decode prog_28_method_2_code 59 = .ok (.iload_n 2, 1) := by decide +kernel
theorem d1_60 : decode prog_28_method_2_code 60 = .ok (.if_icmp .ge 24, 3) := by decide +kernel
theorem d1_63 : decode prog_28_method_2_code 63 = .ok (.aload 7, 2) := by decide +kernel
theorem d1_65 : decode prog_28_method_2_code 65 = .ok (.iload 8, 2) := by decide +kernel
theorem d1_67 : decode prog_28_method_2_code 67 = .ok (.iconst 1, 1) := by decide +kernel
theorem d1_68 : decode prog_28_method_2_code 68 = .ok (.iadd, 1) := by decide +kernel
theorem d1_69 : decode prog_28_method_2_code 69 = .ok (.dup2, 1) := by decide +kernel
theorem d1_70 : decode prog_28_method_2_code 70 = .ok (.iaload, 1) := by decide +kernel
theorem d1_71 : decode prog_28_method_2_code 71 = .ok (.aload 7, 2) := by decide +kernel
theorem d1_73 : decode prog_28_method_2_code 73 = .ok (.iload 8, 2) := by decide +kernel
theorem d1_75 : decode prog_28_method_2_code 75 = .ok (.iaload, 1) := by decide +kernel
theorem d1_76 : decode prog_28_method_2_code 76 = .ok (.iadd, 1) := by decide +kernel
theorem d1_77 : decode prog_28_method_2_code 77 = .ok (.iastore, 1) := by decide +kernel
theorem d1_78 : decode prog_28_method_2_code 78 = .ok (.iinc 8 1, 3) := by decide +kernel
theorem d1_81 : decode prog_28_method_2_code 81 = .ok (.goto (-24), 3) := by decide +kernel
theorem d1_84 : decode prog_28_method_2_code 84 = .ok (.aload 4, 2) := by decide +kernel
theorem d1_86 : decode prog_28_method_2_code 86 = .ok (.arraylength, 1) := by decide +kernel
theorem d1_87 : decode prog_28_method_2_code 87 = .ok (.newarray .int, 2) := by decide +kernel
theorem d1_89 : decode prog_28_method_2_code 89 = .ok (.astore 8, 2) := by decide +kernel
theorem d1_91 : decode prog_28_method_2_code 91 = .ok (.iconst 0, 1) := by decide +kernel
theorem d1_92 : decode prog_28_method_2_code 92 = .ok (.istore 9, 2) := by decide +kernel
theorem d1_94 : decode prog_28_method_2_code 94 = .ok (.iload 9, 2) := by decide +kernel
theorem d1_96 : decode prog_28_method_2_code 96 = .ok (.aload 4, 2) := by decide +kernel
theorem d1_98 : decode prog_28_method_2_code 98 = .ok (.arraylength, 1) := by decide +kernel
theorem d1_99 : decode prog_28_method_2_code 99 = .ok (.if_icmp .ge 27, 3) := by decide +kernel
theorem d1_102 : decode prog_28_method_2_code 102 = .ok (.aload 8, 2) := by decide +kernel
theorem d1_104 : decode prog_28_method_2_code 104 = .ok (.aload 7, 2) := by decide +kernel
theorem d1_106 : decode prog_28_method_2_code 106 = .ok (.aload 4, 2) := by decide +kernel
theorem d1_108 : decode prog_28_method_2_code 108 = .ok (.iload 9, 2) := by decide +kernel
theorem d1_110 : decode prog_28_method_2_code 110 = .ok (.iaload, 1) := by decide +kernel
theorem d1_111 : decode prog_28_method_2_code 111 = .ok (.dup2, 1) := by decide +kernel
theorem d1_112 : decode prog_28_method_2_code 112 = .ok (.iaload, 1) := by decide +kernel
theorem d1_113 : decode prog_28_method_2_code 113 = .ok (.dup_x2, 1) := by decide +kernel
theorem d1_114 : decode prog_28_method_2_code 114 = .ok (.iconst 1, 1) := by decide +kernel
theorem d1_115 : decode prog_28_method_2_code 115 = .ok (.iadd, 1) := by decide +kernel
theorem d1_116 : decode prog_28_method_2_code 116 = .ok (.iastore, 1) := by decide +kernel
theorem d1_117 : decode prog_28_method_2_code 117 = .ok (.iload 9, 2) := by decide +kernel
theorem d1_119 : decode prog_28_method_2_code 119 = .ok (.iastore, 1) := by decide +kernel
theorem d1_120 : decode prog_28_method_2_code 120 = .ok (.iinc 9 1, 3) := by decide +kernel
theorem d1_123 : decode prog_28_method_2_code 123 = .ok (.goto (-29), 3) := by decide +kernel
theorem d1_126 : decode prog_28_method_2_code 126 = .ok (.aload_n 0, 1) := by decide +kernel
theorem d1_127 : decode prog_28_method_2_code 127 = .ok (.iload_n 1, 1) := by decide +kernel
theorem d1_128 : decode prog_28_method_2_code 128 = .ok (.iconst 1, 1) := by decide +kernel
theorem d1_129 : decode prog_28_method_2_code 129 = .ok (.iadd, 1) := by decide +kernel
theorem d1_130 : decode prog_28_method_2_code 130 = .ok (.newarray .int, 2) := by decide +kernel
theorem d1_132 : decode prog_28_method_2_code 132 = .ok (.putfield 7, 3) := by decide +kernel
theorem d1_135 : decode prog_28_method_2_code 135 = .ok (.aload_n 3, 1) := by decide +kernel
theorem d1_136 : decode prog_28_method_2_code 136 = .ok (.astore 9, 2) := by decide +kernel
theorem d1_138 : decode prog_28_method_2_code 138 = .ok (.aload 9, 2) := by decide +kernel
theorem d1_140 : decode prog_28_method_2_code 140 = .ok (.arraylength, 1) := by decide +kernel
theorem d1_141 : decode prog_28_method_2_code 141 = .ok (.istore 10, 2) := by decide +kernel
theorem d1_143 : decode prog_28_method_2_code 143 = .ok (.iconst 0, 1) := by decide +kernel
theorem d1_144 : decode prog_28_method_2_code 144 = .ok (.istore 11, 2) := by decide +kernel
theorem d1_146 : decode prog_28_method_2_code 146 = .ok (.iload 11, 2) := by decide +kernel
theorem d1_148 : decode prog_28_method_2_code 148 = .ok (.iload 10, 2) := by decide +kernel
theorem d1_150 : decode prog_28_method_2_code 150 = .ok (.if_icmp .ge 29, 3) := by decide +kernel
theorem d1_153 : decode prog_28_method_2_code 153 = .ok (.aload 9, 2) := by decide +kernel
theorem d1_155 : decode prog_28_method_2_code 155 = .ok (.iload 11, 2) := by decide +kernel
theorem d1_157 : decode prog_28_method_2_code 157 = .ok (.iaload, 1) := by decide +kernel
theorem d1_158 : decode prog_28_method_2_code 158 = .ok (.istore 12, 2) := by decide +kernel
theorem d1_160 : decode prog_28_method_2_code 160 = .ok (.aload_n 0, 1) := by decide +kernel
theorem d1_161 : decode prog_28_method_2_code 161 = .ok (.getfield 7, 3) := by decide +kernel
theorem d1_164 : decode prog_28_method_2_code 164 = .ok (.iload 12, 2) := by decide +kernel
theorem d1_166 : decode prog_28_method_2_code 166 = .ok (.iconst 1, 1) := by decide +kernel
theorem d1_167 : decode prog_28_method_2_code 167 = .ok (.iadd, 1) := by decide +kernel
theorem d1_168 : decode prog_28_method_2_code 168 = .ok (.dup2, 1) := by decide +kernel
theorem d1_169 : decode prog_28_method_2_code 169 = .ok (.iaload, 1) := by decide +kernel
theorem d1_170 : decode prog_28_method_2_code 170 = .ok (.iconst 1, 1) := by decide +kernel
theorem d1_171 : decode prog_28_method_2_code 171 = .ok (.iadd, 1) := by decide +kernel
theorem d1_172 : decode prog_28_method_2_code 172 = .ok (.iastore, 1) := by decide +kernel
theorem d1_173 : decode prog_28_method_2_code 173 = .ok (.iinc 11 1, 3) := by decide +kernel
theorem d1_176 : decode prog_28_method_2_code 176 = .ok (.goto (-30), 3) := by decide +kernel
theorem d1_179 : decode prog_28_method_2_code 179 = .ok (.iconst 0, 1) := by decide +kernel
theorem d1_180 : decode prog_28_method_2_code 180 = .ok (.istore 9, 2) := by decide +kernel
theorem d1_182 : decode prog_28_method_2_code 182 = .ok (.iload 9, 2) := by decide +kernel
theorem d1_184 : decode prog_28_method_2_code 184 = .ok (.iload_n 1, 1) := by decide +kernel
theorem d1_185 : decode prog_28_method_2_code 185 = .ok (.if_icmp .ge 28, 3) := by decide +kernel
theorem d1_188 : decode prog_28_method_2_code 188 = .ok (.aload_n 0, 1) := by decide +kernel
theorem d1_189 : decode prog_28_method_2_code 189 = .ok (.getfield 7, 3) := by decide +kernel
theorem d1_192 : decode prog_28_method_2_code 192 = .ok (.iload 9, 2) := by decide +kernel
theorem d1_194 : decode prog_28_method_2_code 194 = .ok (.iconst 1, 1) := by decide +kernel
theorem d1_195 : decode prog_28_method_2_code 195 = .ok (.iadd, 1) := by decide +kernel
theorem d1_196 : decode prog_28_method_2_code 196 = .ok (.dup2, 1) := by decide +kernel
theorem d1_197 : decode prog_28_method_2_code 197 = .ok (.iaload, 1) := by decide +kernel
theorem d1_198 : decode prog_28_method_2_code 198 = .ok (.aload_n 0, 1) := by decide +kernel
theorem d1_199 : decode prog_28_method_2_code 199 = .ok (.getfield 7, 3) := by decide +kernel
theorem d1_202 : decode prog_28_method_2_code 202 = .ok (.iload 9, 2) := by decide +kernel
theorem d1_204 : decode prog_28_method_2_code 204 = .ok (.iaload, 1) := by decide +kernel
theorem d1_205 : decode prog_28_method_2_code 205 = .ok (.iadd, 1) := by decide +kernel
theorem d1_206 : decode prog_28_method_2_code 206 = .ok (.iastore, 1) := by decide +kernel
theorem d1_207 : decode prog_28_method_2_code 207 = .ok (.iinc 9 1, 3) := by decide +kernel
theorem d1_210 : decode prog_28_method_2_code 210 = .ok (.goto (-28), 3) := by decide +kernel
theorem d1_213 : decode prog_28_method_2_code 213 = .ok (.aload_n 0, 1) := by decide +kernel
theorem d1_214 : decode prog_28_method_2_code 214 = .ok (.aload 4, 2) := by decide +kernel
theorem d1_216 : decode prog_28_method_2_code 216 = .ok (.arraylength, 1) := by decide +kernel
theorem d1_217 : decode prog_28_method_2_code 217 = .ok (.newarray .int, 2) := by decide +kernel
theorem d1_219 : decode prog_28_method_2_code 219 = .ok (.putfield 13, 3) := by decide +kernel
theorem d1_222 : decode prog_28_method_2_code 222 = .ok (.aload_n 0, 1) := by decide +kernel
theorem d1_223 : decode prog_28_method_2_code 223 = .ok (.aload 4, 2) := by decide +kernel
theorem d1_225 : decode prog_28_method_2_code 225 = .ok (.arraylength, 1) := by decide +kernel
theorem d1_226 : decode prog_28_method_2_code 226 = .ok (.newarray .int, 2) := by decide +kernel
theorem d1_228 : decode prog_28_method_2_code 228 = .ok (.putfield 16, 3) := by decide +kernel
theorem d1_231 : decode prog_28_method_2_code 231 = .ok (.aload_n 0, 1) := by decide +kernel
theorem d1_232 : decode prog_28_method_2_code 232 = .ok (.aload 6, 2) := by decide +kernel
theorem d1_234 : decode prog_28_method_2_code 234 = .ok (.ifnonnull 7, 3) := by decide +kernel
theorem d1_241 : decode prog_28_method_2_code 241 = .ok (.aload 4, 2) := by decide +kernel
theorem d1_243 : decode prog_28_method_2_code 243 = .ok (.arraylength, 1) := by decide +kernel
theorem d1_244 : decode prog_28_method_2_code 244 = .ok (.newarray .int, 2) := by decide +kernel
theorem d1_246 : decode prog_28_method_2_code 246 = .ok (.putfield 19, 3) := by decide +kernel
theorem d1_249 : decode prog_28_method_2_code 249 = .ok (.aload_n 0, 1) := by decide +kernel
theorem d1_250 : decode prog_28_method_2_code 250 = .ok (.getfield 7, 3) := by decide +kernel
theorem d1_253 : decode prog_28_method_2_code 253 = .ok (.iload_n 1, 1) := by decide +kernel
theorem d1_254 : decode prog_28_method_2_code 254 = .ok (.invokestatic 22, 3) := by decide +kernel
theorem pd_3 : parseMethodDescriptor "([II)[I" = some ⟨[(.array .int), .int], some (.array .int)⟩ := by decide +kernel
theorem d1_257 : decode prog_28_method_2_code 257 = .ok (.astore 9, 2) := by decide +kernel
theorem d1_259 : decode prog_28_method_2_code 259 = .ok (.aload 8, 2) := by decide +kernel
theorem d1_261 : decode prog_28_method_2_code 261 = .ok (.astore 10, 2) := by decide +kernel
theorem d1_263 : decode prog_28_method_2_code 263 = .ok (.aload 10, 2) := by decide +kernel
theorem d1_265 : decode prog_28_method_2_code 265 = .ok (.arraylength, 1) := by decide +kernel
theorem d1_266 : decode prog_28_method_2_code 266 = .ok (.istore 11, 2) := by decide +kernel
theorem d1_268 : decode prog_28_method_2_code 268 = .ok (.iconst 0, 1) := by decide +kernel
theorem d1_269 : decode prog_28_method_2_code 269 = .ok (.istore 12, 2) := by decide +kernel
theorem d1_271 : decode prog_28_method_2_code 271 = .ok (.iload 12, 2) := by decide +kernel
theorem d1_273 : decode prog_28_method_2_code 273 = .ok (.iload 11, 2) := by decide +kernel
theorem d1_275 : decode prog_28_method_2_code 275 = .ok (.if_icmp .ge 71, 3) := by decide +kernel
theorem d1_278 : decode prog_28_method_2_code 278 = .ok (.aload 10, 2) := by decide +kernel
theorem d1_280 : decode prog_28_method_2_code 280 = .ok (.iload 12, 2) := by decide +kernel
theorem d1_282 : decode prog_28_method_2_code 282 = .ok (.iaload, 1) := by decide +kernel
theorem d1_283 : decode prog_28_method_2_code 283 = .ok (.istore 13, 2) := by decide +kernel
theorem d1_285 : decode prog_28_method_2_code 285 = .ok (.aload 9, 2) := by decide +kernel
theorem d1_287 : decode prog_28_method_2_code 287 = .ok (.aload_n 3, 1) := by decide +kernel
theorem d1_288 : decode prog_28_method_2_code 288 = .ok (.iload 13, 2) := by decide +kernel
theorem d1_290 : decode prog_28_method_2_code 290 = .ok (.iaload, 1) := by decide +kernel
theorem d1_291 : decode prog_28_method_2_code 291 = .ok (.dup2, 1) := by decide +kernel
theorem d1_292 : decode prog_28_method_2_code 292 = .ok (.iaload, 1) := by decide +kernel
theorem d1_293 : decode prog_28_method_2_code 293 = .ok (.dup_x2, 1) := by decide +kernel
theorem d1_294 : decode prog_28_method_2_code 294 = .ok (.iconst 1, 1) := by decide +kernel
theorem d1_295 : decode prog_28_method_2_code 295 = .ok (.iadd, 1) := by decide +kernel
theorem d1_296 : decode prog_28_method_2_code 296 = .ok (.iastore, 1) := by decide +kernel
theorem d1_297 : decode prog_28_method_2_code 297 = .ok (.istore 14, 2) := by decide +kernel
theorem d1_299 : decode prog_28_method_2_code 299 = .ok (.aload_n 0, 1) := by decide +kernel
theorem d1_300 : decode prog_28_method_2_code 300 = .ok (.getfield 13, 3) := by decide +kernel
theorem d1_303 : decode prog_28_method_2_code 303 = .ok (.iload 14, 2) := by decide +kernel
theorem d1_305 : decode prog_28_method_2_code 305 = .ok (.aload 4, 2) := by decide +kernel
theorem d1_307 : decode prog_28_method_2_code 307 = .ok (.iload 13, 2) := by decide +kernel
theorem d1_309 : decode prog_28_method_2_code 309 = .ok (.iaload, 1) := by decide +kernel
theorem d1_310 : decode prog_28_method_2_code 310 = .ok (.iastore, 1) := by decide +kernel
theorem d1_311 : decode prog_28_method_2_code 311 = .ok (.aload_n 0, 1) := by decide +kernel
theorem d1_312 : decode prog_28_method_2_code 312 = .ok (.getfield 16, 3) := by decide +kernel
theorem d1_315 : decode prog_28_method_2_code 315 = .ok (.iload 14, 2) := by decide +kernel
theorem d1_317 : decode prog_28_method_2_code 317 = .ok (.aload 5, 2) := by decide +kernel
theorem d1_319 : decode prog_28_method_2_code 319 = .ok (.iload 13, 2) := by decide +kernel
theorem d1_321 : decode prog_28_method_2_code 321 = .ok (.iaload, 1) := by decide +kernel
theorem d1_322 : decode prog_28_method_2_code 322 = .ok (.iastore, 1) := by decide +kernel
theorem d1_323 : decode prog_28_method_2_code 323 = .ok (.aload 6, 2) := by decide +kernel
theorem d1_325 : decode prog_28_method_2_code 325 = .ok (.ifnull 15, 3) := by decide +kernel
theorem d1_328 : decode prog_28_method_2_code 328 = .ok (.aload_n 0, 1) := by decide +kernel
theorem d1_329 : decode prog_28_method_2_code 329 = .ok (.getfield 19, 3) := by decide +kernel
theorem d1_332 : decode prog_28_method_2_code 332 = .ok (.iload 14, 2) := by decide +kernel
theorem d1_334 : decode prog_28_method_2_code 334 = .ok (.aload 6, 2) := by decide +kernel
theorem d1_336 : decode prog_28_method_2_code 336 = .ok (.iload 13, 2) := by decide +kernel
theorem d1_338 : decode prog_28_method_2_code 338 = .ok (.iaload, 1) := by decide +kernel
theorem d1_339 : decode prog_28_method_2_code 339 = .ok (.iastore, 1) := by decide +kernel
theorem d1_340 : decode prog_28_method_2_code 340 = .ok (.iinc 12 1, 3) := by decide +kernel
theorem d1_343 : decode prog_28_method_2_code 343 = .ok (.goto (-72), 3) := by decide +kernel
theorem d1_346 : decode prog_28_method_2_code 346 = .ok (.return_, 1) := by decide +kernel
set_option maxRecDepth 65536 in
set_option maxHeartbeats 40000000 in
theorem segA_4_0 {p : Program} {l : Launch} {e : Env} {s : State} {m : MethodId} {below : List Frame} {meth : Method} {c : Code} {n0 : Nat} {T0 : State} {h0 : Heap} {Z : State} {a0 : Array Value} {args : Array Value} {P : State → Outcome → Prop} (hw : ∀ d ∈ tables_1, d.before a0 Z = true) (aa rk tx pl : Addr) (nn k0 k1 k2 k3 : Nat) (v0 v1 v2 v3 : Int32) (s6 : Slot) (cv : Addr) (vcs : List Value) (cx : own_Cx p s m meth c Z prog_28_method_2_code 15 (⟨"com/example/rough_dedup/roughdedup/ShingleIndex$Postings", "<init>", "(II[I[I[I[I)V"⟩ : MethodName) none) (X0 : own_Sd p l e ({ frames := 2, cells := 7, slots := 41, locals := 74 } : Room) s m args below meth c n0 T0 h0 0 0) (ga : n0 ≤ aa) (ne_aa_rk : aa ≠ rk) (ne_aa_tx : aa ≠ tx) (ne_aa_pl : aa ≠ pl) (E0 : Exa Z h0 aa "com/example/rough_dedup/roughdedup/ShingleIndex$Postings") (F0 : Fld Z h0 aa "com/example/rough_dedup/roughdedup/ShingleIndex$Postings" "starts" "[I" .null) (F1 : Fld Z h0 aa "com/example/rough_dedup/roughdedup/ShingleIndex$Postings" "texts" "[I" .null) (F2 : Fld Z h0 aa "com/example/rough_dedup/roughdedup/ShingleIndex$Postings" "places" "[I" .null) (F3 : Fld Z h0 aa "com/example/rough_dedup/roughdedup/ShingleIndex$Postings" "covered" "[I" .null) (Ar : own_Ar Z h0 rk .int [(.int (Int32.ofNat k0)), (.int (Int32.ofNat k1)), (.int (Int32.ofNat k2)), (.int (Int32.ofNat k3))]) (At : own_Ar Z h0 tx .int [(.int (0 : Int32)), (.int (1 : Int32)), (.int (2 : Int32)), (.int (3 : Int32))]) (Ap : own_Ar Z h0 pl .int [(.int v0), (.int v1), (.int v2), (.int v3)]) (Ac : own_Ar Z h0 cv .int vcs) (kk : ∀ (T : State) (h : Heap) (ts bt : Addr) (x9 x10 x11 : Int32), own_Sd p l e ({ frames := 2, cells := 7, slots := 41, locals := 74 } : Room) s m args below meth c n0 T h 2 12 → n0 ≤ bt → aa ≠ bt → Exa Z h aa "com/example/rough_dedup/roughdedup/ShingleIndex$Postings" → Fld Z h aa "com/example/rough_dedup/roughdedup/ShingleIndex$Postings" "starts" "[I" .null → Fld Z h aa "com/example/rough_dedup/roughdedup/ShingleIndex$Postings" "texts" "[I" .null → Fld Z h aa "com/example/rough_dedup/roughdedup/ShingleIndex$Postings" "places" "[I" .null → Fld Z h aa "com/example/rough_dedup/roughdedup/ShingleIndex$Postings" "covered" "[I" .null → own_Ar Z h rk .int [(.int (Int32.ofNat k0)), (.int (Int32.ofNat k1)), (.int (Int32.ofNat k2)), (.int (Int32.ofNat k3))] → own_Ar Z h tx .int [(.int (0 : Int32)), (.int (1 : Int32)), (.int (2 : Int32)), (.int (3 : Int32))] → own_Ar Z h pl .int [(.int v0), (.int v1), (.int v2), (.int v3)] → own_Ar Z h cv .int vcs → own_Ar Z h bt .int [(.int (0 : Int32)), (.int (1 : Int32)), (.int (2 : Int32)), (.int (3 : Int32))] → own_Go p e below P (T.setTop (mkF m 126 #[rv aa, iv (Int32.ofNat nn), iv 4, rv rk, rv tx, rv pl, s6, .val (.ref ts), .val (.ref bt), .val (.int x9), .val (.int x10), .val (.int x11), .unset, .unset, .unset] []))) :
    own_Go p e below P (T0.setTop (mkF m 0 #[rv aa, iv (Int32.ofNat nn), iv 4, rv rk, rv tx, rv pl, s6, .unset, .unset, .unset, .unset, .unset, .unset, .unset, .unset] [])) := by
  have KK := Keep.refl h0 []
  refine o_aloadN cx X0 d1_0 rfl rfl ?_
  refine o_initO cx X0 d1_1 (o_w hw 9 rfl) (o_w hw 10 rfl) (o_w hw 11 rfl) rfl (by decide) 0 rfl (by decide) fun T299 X300 => ?_
  refine o_iloadN cx X300 d1_4 rfl ?_
  refine o_iconst cx X300 (z := (1 : Int32)) d1_5 rfl ?_
  refine o_iadd cx X300 (z := (5 : Int32)) d1_6 rfl ?_
  refine o_newP cx X300 d1_7 (o_w hw 1 rfl) (by decide) 5 5 rfl (Nat.le_refl _) (by decide) (by decide) (by decide) fun T302 h304 b301 gb307 ge308 X303 E305 A306 => ?_
  have sz_b301 : h0.size ≤ b301 := by rw [gb307]; exact KK.1
  have KK := KK.ext E305
  have A306 : own_Ar Z h304 b301 .int [(.int (0 : Int32)), (.int (0 : Int32)), (.int (0 : Int32)), (.int (0 : Int32)), (.int (0 : Int32))] := A306
  refine o_astore cx X303 (Ls' := #[rv aa, iv (Int32.ofNat nn), iv 4, rv rk, rv tx, rv pl, s6, rv b301, .unset, .unset, .unset, .unset, .unset, .unset, .unset]) d1_9 rfl rfl ?_
  refine o_aload cx X303 d1_11 rfl rfl ?_
  refine o_astore cx X303 (Ls' := #[rv aa, iv (Int32.ofNat nn), iv 4, rv rk, rv tx, rv pl, s6, rv b301, rv tx, .unset, .unset, .unset, .unset, .unset, .unset]) d1_13 rfl rfl ?_
  refine o_aload cx X303 d1_15 rfl rfl ?_
  refine o_len cx X303 (z := (4 : Int32)) d1_17 (At.keep KK nin0) rfl ?_
  refine o_istore cx X303 (Ls' := #[rv aa, iv (Int32.ofNat nn), iv 4, rv rk, rv tx, rv pl, s6, rv b301, rv tx, iv 4, .unset, .unset, .unset, .unset, .unset]) d1_18 rfl ?_
  refine o_iconst cx X303 (z := (0 : Int32)) d1_20 rfl ?_
  refine o_istore cx X303 (Ls' := #[rv aa, iv (Int32.ofNat nn), iv 4, rv rk, rv tx, rv pl, s6, rv b301, rv tx, iv 4, iv 0, .unset, .unset, .unset, .unset]) d1_21 rfl ?_
  refine o_iload cx X303 d1_23 rfl ?_
  refine o_iload cx X303 d1_25 rfl ?_
  refine o_icmpNo cx X303 d1_27 (by decide) ?_
  refine o_aload cx X303 d1_30 rfl rfl ?_
  refine o_iload cx X303 d1_32 rfl ?_
  refine o_ldI cx X303 (v := (.int (0 : Int32))) d1_34 (At.keep KK nin0) 0 (by decide) rfl rfl ?_
  refine o_istore cx X303 (Ls' := #[rv aa, iv (Int32.ofNat nn), iv 4, rv rk, rv tx, rv pl, s6, rv b301, rv tx, iv 4, iv 0, iv 0, .unset, .unset, .unset]) d1_35 rfl ?_
  refine o_aload cx X303 d1_37 rfl rfl ?_
  refine o_iload cx X303 d1_39 rfl ?_
  refine o_iconst cx X303 (z := (1 : Int32)) d1_41 rfl ?_
  refine o_iadd cx X303 (z := (1 : Int32)) d1_42 rfl ?_
  refine o_dup2 cx X303 d1_43 rfl rfl ?_
  refine o_ldI cx X303 (v := (.int (0 : Int32))) d1_44 A306 1 (by decide) rfl rfl ?_
  refine o_iconst cx X303 (z := (1 : Int32)) d1_45 rfl ?_
  refine o_iadd cx X303 (z := (1 : Int32)) d1_46 rfl ?_
  refine o_stI cx X303 d1_47 A306 1 (by decide) rfl (Nat.le_of_ble_eq_true rfl) ge308 fun T309 h311 X310 W312 A306 => ?_
  have KK := KK.wr W312 (Or.inr sz_b301)
  have A306 : own_Ar Z h311 b301 .int [(.int (0 : Int32)), (.int (1 : Int32)), (.int (0 : Int32)), (.int (0 : Int32)), (.int (0 : Int32))] := A306
  refine o_iinc cx X310 (z := (1 : Int32)) (Ls' := #[rv aa, iv (Int32.ofNat nn), iv 4, rv rk, rv tx, rv pl, s6, rv b301, rv tx, iv 4, iv 1, iv 0, .unset, .unset, .unset]) d1_48 rfl rfl rfl ?_
  refine o_goto cx X310 23 d1_51 (by decide) (by decide) ?_
  refine o_iload cx X310 d1_23 rfl ?_
  refine o_iload cx X310 d1_25 rfl ?_
  refine o_icmpNo cx X310 d1_27 (by decide) ?_
  refine o_aload cx X310 d1_30 rfl rfl ?_
  refine o_iload cx X310 d1_32 rfl ?_
  refine o_ldI cx X310 (v := (.int (1 : Int32))) d1_34 (At.keep KK nin0) 1 (by decide) rfl rfl ?_
  refine o_istore cx X310 (Ls' := #[rv aa, iv (Int32.ofNat nn), iv 4, rv rk, rv tx, rv pl, s6, rv b301, rv tx, iv 4, iv 1, iv 1, .unset, .unset, .unset]) d1_35 rfl ?_
  refine o_aload cx X310 d1_37 rfl rfl ?_
  refine o_iload cx X310 d1_39 rfl ?_
  refine o_iconst cx X310 (z := (1 : Int32)) d1_41 rfl ?_
  refine o_iadd cx X310 (z := (2 : Int32)) d1_42 rfl ?_
  refine o_dup2 cx X310 d1_43 rfl rfl ?_
  refine o_ldI cx X310 (v := (.int (0 : Int32))) d1_44 A306 2 (by decide) rfl rfl ?_
  refine o_iconst cx X310 (z := (1 : Int32)) d1_45 rfl ?_
  refine o_iadd cx X310 (z := (1 : Int32)) d1_46 rfl ?_
  refine o_stI cx X310 d1_47 A306 2 (by decide) rfl (Nat.le_of_ble_eq_true rfl) ge308 fun T313 h315 X314 W316 A306 => ?_
  have KK := KK.wr W316 (Or.inr sz_b301)
  have A306 : own_Ar Z h315 b301 .int [(.int (0 : Int32)), (.int (1 : Int32)), (.int (1 : Int32)), (.int (0 : Int32)), (.int (0 : Int32))] := A306
  refine o_iinc cx X314 (z := (2 : Int32)) (Ls' := #[rv aa, iv (Int32.ofNat nn), iv 4, rv rk, rv tx, rv pl, s6, rv b301, rv tx, iv 4, iv 2, iv 1, .unset, .unset, .unset]) d1_48 rfl rfl rfl ?_
  refine o_goto cx X314 23 d1_51 (by decide) (by decide) ?_
  refine o_iload cx X314 d1_23 rfl ?_
  refine o_iload cx X314 d1_25 rfl ?_
  refine o_icmpNo cx X314 d1_27 (by decide) ?_
  refine o_aload cx X314 d1_30 rfl rfl ?_
  refine o_iload cx X314 d1_32 rfl ?_
  refine o_ldI cx X314 (v := (.int (2 : Int32))) d1_34 (At.keep KK nin0) 2 (by decide) rfl rfl ?_
  refine o_istore cx X314 (Ls' := #[rv aa, iv (Int32.ofNat nn), iv 4, rv rk, rv tx, rv pl, s6, rv b301, rv tx, iv 4, iv 2, iv 2, .unset, .unset, .unset]) d1_35 rfl ?_
  refine o_aload cx X314 d1_37 rfl rfl ?_
  refine o_iload cx X314 d1_39 rfl ?_
  refine o_iconst cx X314 (z := (1 : Int32)) d1_41 rfl ?_
  refine o_iadd cx X314 (z := (3 : Int32)) d1_42 rfl ?_
  refine o_dup2 cx X314 d1_43 rfl rfl ?_
  refine o_ldI cx X314 (v := (.int (0 : Int32))) d1_44 A306 3 (by decide) rfl rfl ?_
  refine o_iconst cx X314 (z := (1 : Int32)) d1_45 rfl ?_
  refine o_iadd cx X314 (z := (1 : Int32)) d1_46 rfl ?_
  refine o_stI cx X314 d1_47 A306 3 (by decide) rfl (Nat.le_of_ble_eq_true rfl) ge308 fun T317 h319 X318 W320 A306 => ?_
  have KK := KK.wr W320 (Or.inr sz_b301)
  have A306 : own_Ar Z h319 b301 .int [(.int (0 : Int32)), (.int (1 : Int32)), (.int (1 : Int32)), (.int (1 : Int32)), (.int (0 : Int32))] := A306
  refine o_iinc cx X318 (z := (3 : Int32)) (Ls' := #[rv aa, iv (Int32.ofNat nn), iv 4, rv rk, rv tx, rv pl, s6, rv b301, rv tx, iv 4, iv 3, iv 2, .unset, .unset, .unset]) d1_48 rfl rfl rfl ?_
  refine o_goto cx X318 23 d1_51 (by decide) (by decide) ?_
  refine o_iload cx X318 d1_23 rfl ?_
  refine o_iload cx X318 d1_25 rfl ?_
  refine o_icmpNo cx X318 d1_27 (by decide) ?_
  refine o_aload cx X318 d1_30 rfl rfl ?_
  refine o_iload cx X318 d1_32 rfl ?_
  refine o_ldI cx X318 (v := (.int (3 : Int32))) d1_34 (At.keep KK nin0) 3 (by decide) rfl rfl ?_
  refine o_istore cx X318 (Ls' := #[rv aa, iv (Int32.ofNat nn), iv 4, rv rk, rv tx, rv pl, s6, rv b301, rv tx, iv 4, iv 3, iv 3, .unset, .unset, .unset]) d1_35 rfl ?_
  refine o_aload cx X318 d1_37 rfl rfl ?_
  refine o_iload cx X318 d1_39 rfl ?_
  refine o_iconst cx X318 (z := (1 : Int32)) d1_41 rfl ?_
  refine o_iadd cx X318 (z := (4 : Int32)) d1_42 rfl ?_
  refine o_dup2 cx X318 d1_43 rfl rfl ?_
  refine o_ldI cx X318 (v := (.int (0 : Int32))) d1_44 A306 4 (by decide) rfl rfl ?_
  refine o_iconst cx X318 (z := (1 : Int32)) d1_45 rfl ?_
  refine o_iadd cx X318 (z := (1 : Int32)) d1_46 rfl ?_
  refine o_stI cx X318 d1_47 A306 4 (by decide) rfl (Nat.le_of_ble_eq_true rfl) ge308 fun T321 h323 X322 W324 A306 => ?_
  have KK := KK.wr W324 (Or.inr sz_b301)
  have A306 : own_Ar Z h323 b301 .int [(.int (0 : Int32)), (.int (1 : Int32)), (.int (1 : Int32)), (.int (1 : Int32)), (.int (1 : Int32))] := A306
  refine o_iinc cx X322 (z := (4 : Int32)) (Ls' := #[rv aa, iv (Int32.ofNat nn), iv 4, rv rk, rv tx, rv pl, s6, rv b301, rv tx, iv 4, iv 4, iv 3, .unset, .unset, .unset]) d1_48 rfl rfl rfl ?_
  refine o_goto cx X322 23 d1_51 (by decide) (by decide) ?_
  refine o_iload cx X322 d1_23 rfl ?_
  refine o_iload cx X322 d1_25 rfl ?_
  refine o_icmpYes cx X322 54 d1_27 (by decide) (by decide) (by decide) ?_
  refine o_iconst cx X322 (z := (0 : Int32)) d1_54 rfl ?_
  refine o_istore cx X322 (Ls' := #[rv aa, iv (Int32.ofNat nn), iv 4, rv rk, rv tx, rv pl, s6, rv b301, iv 0, iv 4, iv 4, iv 3, .unset, .unset, .unset]) d1_55 rfl ?_
  refine o_iload cx X322 d1_57 rfl ?_
  refine o_iloadN cx X322 d1_59 rfl ?_
  refine o_icmpNo cx X322 d1_60 (by decide) ?_
  refine o_aload cx X322 d1_63 rfl rfl ?_
  refine o_iload cx X322 d1_65 rfl ?_
  refine o_iconst cx X322 (z := (1 : Int32)) d1_67 rfl ?_
  refine o_iadd cx X322 (z := (1 : Int32)) d1_68 rfl ?_
  refine o_dup2 cx X322 d1_69 rfl rfl ?_
  refine o_ldI cx X322 (v := (.int (1 : Int32))) d1_70 A306 1 (by decide) rfl rfl ?_
  refine o_aload cx X322 d1_71 rfl rfl ?_
  refine o_iload cx X322 d1_73 rfl ?_
  refine o_ldI cx X322 (v := (.int (0 : Int32))) d1_75 A306 0 (by decide) rfl rfl ?_
  refine o_iadd cx X322 (z := (1 : Int32)) d1_76 rfl ?_
  refine o_stI cx X322 d1_77 A306 1 (by decide) rfl (Nat.le_of_ble_eq_true rfl) ge308 fun T325 h327 X326 W328 A306 => ?_
  have KK := KK.wr W328 (Or.inr sz_b301)
  have A306 : own_Ar Z h327 b301 .int [(.int (0 : Int32)), (.int (1 : Int32)), (.int (1 : Int32)), (.int (1 : Int32)), (.int (1 : Int32))] := A306
  refine o_iinc cx X326 (z := (1 : Int32)) (Ls' := #[rv aa, iv (Int32.ofNat nn), iv 4, rv rk, rv tx, rv pl, s6, rv b301, iv 1, iv 4, iv 4, iv 3, .unset, .unset, .unset]) d1_78 rfl rfl rfl ?_
  refine o_goto cx X326 57 d1_81 (by decide) (by decide) ?_
  refine o_iload cx X326 d1_57 rfl ?_
  refine o_iloadN cx X326 d1_59 rfl ?_
  refine o_icmpNo cx X326 d1_60 (by decide) ?_
  refine o_aload cx X326 d1_63 rfl rfl ?_
  refine o_iload cx X326 d1_65 rfl ?_
  refine o_iconst cx X326 (z := (1 : Int32)) d1_67 rfl ?_
  refine o_iadd cx X326 (z := (2 : Int32)) d1_68 rfl ?_
  refine o_dup2 cx X326 d1_69 rfl rfl ?_
  refine o_ldI cx X326 (v := (.int (1 : Int32))) d1_70 A306 2 (by decide) rfl rfl ?_
  refine o_aload cx X326 d1_71 rfl rfl ?_
  refine o_iload cx X326 d1_73 rfl ?_
  refine o_ldI cx X326 (v := (.int (1 : Int32))) d1_75 A306 1 (by decide) rfl rfl ?_
  refine o_iadd cx X326 (z := (2 : Int32)) d1_76 rfl ?_
  refine o_stI cx X326 d1_77 A306 2 (by decide) rfl (Nat.le_of_ble_eq_true rfl) ge308 fun T329 h331 X330 W332 A306 => ?_
  have KK := KK.wr W332 (Or.inr sz_b301)
  have A306 : own_Ar Z h331 b301 .int [(.int (0 : Int32)), (.int (1 : Int32)), (.int (2 : Int32)), (.int (1 : Int32)), (.int (1 : Int32))] := A306
  refine o_iinc cx X330 (z := (2 : Int32)) (Ls' := #[rv aa, iv (Int32.ofNat nn), iv 4, rv rk, rv tx, rv pl, s6, rv b301, iv 2, iv 4, iv 4, iv 3, .unset, .unset, .unset]) d1_78 rfl rfl rfl ?_
  refine o_goto cx X330 57 d1_81 (by decide) (by decide) ?_
  refine o_iload cx X330 d1_57 rfl ?_
  refine o_iloadN cx X330 d1_59 rfl ?_
  refine o_icmpNo cx X330 d1_60 (by decide) ?_
  refine o_aload cx X330 d1_63 rfl rfl ?_
  refine o_iload cx X330 d1_65 rfl ?_
  refine o_iconst cx X330 (z := (1 : Int32)) d1_67 rfl ?_
  refine o_iadd cx X330 (z := (3 : Int32)) d1_68 rfl ?_
  refine o_dup2 cx X330 d1_69 rfl rfl ?_
  refine o_ldI cx X330 (v := (.int (1 : Int32))) d1_70 A306 3 (by decide) rfl rfl ?_
  refine o_aload cx X330 d1_71 rfl rfl ?_
  refine o_iload cx X330 d1_73 rfl ?_
  refine o_ldI cx X330 (v := (.int (2 : Int32))) d1_75 A306 2 (by decide) rfl rfl ?_
  refine o_iadd cx X330 (z := (3 : Int32)) d1_76 rfl ?_
  refine o_stI cx X330 d1_77 A306 3 (by decide) rfl (Nat.le_of_ble_eq_true rfl) ge308 fun T333 h335 X334 W336 A306 => ?_
  have KK := KK.wr W336 (Or.inr sz_b301)
  have A306 : own_Ar Z h335 b301 .int [(.int (0 : Int32)), (.int (1 : Int32)), (.int (2 : Int32)), (.int (3 : Int32)), (.int (1 : Int32))] := A306
  refine o_iinc cx X334 (z := (3 : Int32)) (Ls' := #[rv aa, iv (Int32.ofNat nn), iv 4, rv rk, rv tx, rv pl, s6, rv b301, iv 3, iv 4, iv 4, iv 3, .unset, .unset, .unset]) d1_78 rfl rfl rfl ?_
  refine o_goto cx X334 57 d1_81 (by decide) (by decide) ?_
  refine o_iload cx X334 d1_57 rfl ?_
  refine o_iloadN cx X334 d1_59 rfl ?_
  refine o_icmpNo cx X334 d1_60 (by decide) ?_
  refine o_aload cx X334 d1_63 rfl rfl ?_
  refine o_iload cx X334 d1_65 rfl ?_
  refine o_iconst cx X334 (z := (1 : Int32)) d1_67 rfl ?_
  refine o_iadd cx X334 (z := (4 : Int32)) d1_68 rfl ?_
  refine o_dup2 cx X334 d1_69 rfl rfl ?_
  refine o_ldI cx X334 (v := (.int (1 : Int32))) d1_70 A306 4 (by decide) rfl rfl ?_
  refine o_aload cx X334 d1_71 rfl rfl ?_
  refine o_iload cx X334 d1_73 rfl ?_
  refine o_ldI cx X334 (v := (.int (3 : Int32))) d1_75 A306 3 (by decide) rfl rfl ?_
  refine o_iadd cx X334 (z := (4 : Int32)) d1_76 rfl ?_
  refine o_stI cx X334 d1_77 A306 4 (by decide) rfl (Nat.le_of_ble_eq_true rfl) ge308 fun T337 h339 X338 W340 A306 => ?_
  have KK := KK.wr W340 (Or.inr sz_b301)
  have A306 : own_Ar Z h339 b301 .int [(.int (0 : Int32)), (.int (1 : Int32)), (.int (2 : Int32)), (.int (3 : Int32)), (.int (4 : Int32))] := A306
  refine o_iinc cx X338 (z := (4 : Int32)) (Ls' := #[rv aa, iv (Int32.ofNat nn), iv 4, rv rk, rv tx, rv pl, s6, rv b301, iv 4, iv 4, iv 4, iv 3, .unset, .unset, .unset]) d1_78 rfl rfl rfl ?_
  refine o_goto cx X338 57 d1_81 (by decide) (by decide) ?_
  refine o_iload cx X338 d1_57 rfl ?_
  refine o_iloadN cx X338 d1_59 rfl ?_
  refine o_icmpYes cx X338 84 d1_60 (by decide) (by decide) (by decide) ?_
  refine o_aload cx X338 d1_84 rfl rfl ?_
  refine o_len cx X338 (z := (4 : Int32)) d1_86 (At.keep KK nin0) rfl ?_
  refine o_newP cx X338 d1_87 (o_w hw 1 rfl) (by decide) 4 4 rfl (Nat.le_refl _) (by decide) (by decide) (by decide) fun T342 h344 b341 gb347 ge348 X343 E345 A346 => ?_
  have ne_b301_b341 : b301 ≠ b341 := by rw [gb347]; exact Nat.ne_of_lt A306.lt
  have sz_b341 : h0.size ≤ b341 := by rw [gb347]; exact KK.1
  have A306 := A306.ext E345
  have KK := KK.ext E345
  have A346 : own_Ar Z h344 b341 .int [(.int (0 : Int32)), (.int (0 : Int32)), (.int (0 : Int32)), (.int (0 : Int32))] := A346
  refine o_astore cx X343 (Ls' := #[rv aa, iv (Int32.ofNat nn), iv 4, rv rk, rv tx, rv pl, s6, rv b301, rv b341, iv 4, iv 4, iv 3, .unset, .unset, .unset]) d1_89 rfl rfl ?_
  refine o_iconst cx X343 (z := (0 : Int32)) d1_91 rfl ?_
  refine o_istore cx X343 (Ls' := #[rv aa, iv (Int32.ofNat nn), iv 4, rv rk, rv tx, rv pl, s6, rv b301, rv b341, iv 0, iv 4, iv 3, .unset, .unset, .unset]) d1_92 rfl ?_
  refine o_iload cx X343 d1_94 rfl ?_
  refine o_aload cx X343 d1_96 rfl rfl ?_
  refine o_len cx X343 (z := (4 : Int32)) d1_98 (At.keep KK nin0) rfl ?_
  refine o_icmpNo cx X343 d1_99 (by decide) ?_
  refine o_aload cx X343 d1_102 rfl rfl ?_
  refine o_aload cx X343 d1_104 rfl rfl ?_
  refine o_aload cx X343 d1_106 rfl rfl ?_
  refine o_iload cx X343 d1_108 rfl ?_
  refine o_ldI cx X343 (v := (.int (0 : Int32))) d1_110 (At.keep KK nin0) 0 (by decide) rfl rfl ?_
  refine o_dup2 cx X343 d1_111 rfl rfl ?_
  refine o_ldI cx X343 (v := (.int (0 : Int32))) d1_112 A306 0 (by decide) rfl rfl ?_
  refine o_dup_x2 cx X343 d1_113 rfl rfl rfl ?_
  refine o_iconst cx X343 (z := (1 : Int32)) d1_114 rfl ?_
  refine o_iadd cx X343 (z := (1 : Int32)) d1_115 rfl ?_
  refine o_stI cx X343 d1_116 A306 0 (by decide) rfl (Nat.le_of_ble_eq_true rfl) ge308 fun T349 h351 X350 W352 A306 => ?_
  have A346 := A346.other W352 (Ne.symm ne_b301_b341)
  have KK := KK.wr W352 (Or.inr sz_b301)
  have A306 : own_Ar Z h351 b301 .int [(.int (1 : Int32)), (.int (1 : Int32)), (.int (2 : Int32)), (.int (3 : Int32)), (.int (4 : Int32))] := A306
  refine o_iload cx X350 d1_117 rfl ?_
  refine o_stI cx X350 d1_119 A346 0 (by decide) rfl (Nat.le_of_ble_eq_true rfl) ge348 fun T353 h355 X354 W356 A346 => ?_
  have A306 := A306.other W356 ne_b301_b341
  have KK := KK.wr W356 (Or.inr sz_b341)
  have A346 : own_Ar Z h355 b341 .int [(.int (0 : Int32)), (.int (0 : Int32)), (.int (0 : Int32)), (.int (0 : Int32))] := A346
  refine o_iinc cx X354 (z := (1 : Int32)) (Ls' := #[rv aa, iv (Int32.ofNat nn), iv 4, rv rk, rv tx, rv pl, s6, rv b301, rv b341, iv 1, iv 4, iv 3, .unset, .unset, .unset]) d1_120 rfl rfl rfl ?_
  refine o_goto cx X354 94 d1_123 (by decide) (by decide) ?_
  refine o_iload cx X354 d1_94 rfl ?_
  refine o_aload cx X354 d1_96 rfl rfl ?_
  refine o_len cx X354 (z := (4 : Int32)) d1_98 (At.keep KK nin0) rfl ?_
  refine o_icmpNo cx X354 d1_99 (by decide) ?_
  refine o_aload cx X354 d1_102 rfl rfl ?_
  refine o_aload cx X354 d1_104 rfl rfl ?_
  refine o_aload cx X354 d1_106 rfl rfl ?_
  refine o_iload cx X354 d1_108 rfl ?_
  refine o_ldI cx X354 (v := (.int (1 : Int32))) d1_110 (At.keep KK nin0) 1 (by decide) rfl rfl ?_
  refine o_dup2 cx X354 d1_111 rfl rfl ?_
  refine o_ldI cx X354 (v := (.int (1 : Int32))) d1_112 A306 1 (by decide) rfl rfl ?_
  refine o_dup_x2 cx X354 d1_113 rfl rfl rfl ?_
  refine o_iconst cx X354 (z := (1 : Int32)) d1_114 rfl ?_
  refine o_iadd cx X354 (z := (2 : Int32)) d1_115 rfl ?_
  refine o_stI cx X354 d1_116 A306 1 (by decide) rfl (Nat.le_of_ble_eq_true rfl) ge308 fun T357 h359 X358 W360 A306 => ?_
  have A346 := A346.other W360 (Ne.symm ne_b301_b341)
  have KK := KK.wr W360 (Or.inr sz_b301)
  have A306 : own_Ar Z h359 b301 .int [(.int (1 : Int32)), (.int (2 : Int32)), (.int (2 : Int32)), (.int (3 : Int32)), (.int (4 : Int32))] := A306
  refine o_iload cx X358 d1_117 rfl ?_
  refine o_stI cx X358 d1_119 A346 1 (by decide) rfl (Nat.le_of_ble_eq_true rfl) ge348 fun T361 h363 X362 W364 A346 => ?_
  have A306 := A306.other W364 ne_b301_b341
  have KK := KK.wr W364 (Or.inr sz_b341)
  have A346 : own_Ar Z h363 b341 .int [(.int (0 : Int32)), (.int (1 : Int32)), (.int (0 : Int32)), (.int (0 : Int32))] := A346
  refine o_iinc cx X362 (z := (2 : Int32)) (Ls' := #[rv aa, iv (Int32.ofNat nn), iv 4, rv rk, rv tx, rv pl, s6, rv b301, rv b341, iv 2, iv 4, iv 3, .unset, .unset, .unset]) d1_120 rfl rfl rfl ?_
  refine o_goto cx X362 94 d1_123 (by decide) (by decide) ?_
  refine o_iload cx X362 d1_94 rfl ?_
  refine o_aload cx X362 d1_96 rfl rfl ?_
  refine o_len cx X362 (z := (4 : Int32)) d1_98 (At.keep KK nin0) rfl ?_
  refine o_icmpNo cx X362 d1_99 (by decide) ?_
  refine o_aload cx X362 d1_102 rfl rfl ?_
  refine o_aload cx X362 d1_104 rfl rfl ?_
  refine o_aload cx X362 d1_106 rfl rfl ?_
  refine o_iload cx X362 d1_108 rfl ?_
  refine o_ldI cx X362 (v := (.int (2 : Int32))) d1_110 (At.keep KK nin0) 2 (by decide) rfl rfl ?_
  refine o_dup2 cx X362 d1_111 rfl rfl ?_
  refine o_ldI cx X362 (v := (.int (2 : Int32))) d1_112 A306 2 (by decide) rfl rfl ?_
  refine o_dup_x2 cx X362 d1_113 rfl rfl rfl ?_
  refine o_iconst cx X362 (z := (1 : Int32)) d1_114 rfl ?_
  refine o_iadd cx X362 (z := (3 : Int32)) d1_115 rfl ?_
  refine o_stI cx X362 d1_116 A306 2 (by decide) rfl (Nat.le_of_ble_eq_true rfl) ge308 fun T365 h367 X366 W368 A306 => ?_
  have A346 := A346.other W368 (Ne.symm ne_b301_b341)
  have KK := KK.wr W368 (Or.inr sz_b301)
  have A306 : own_Ar Z h367 b301 .int [(.int (1 : Int32)), (.int (2 : Int32)), (.int (3 : Int32)), (.int (3 : Int32)), (.int (4 : Int32))] := A306
  refine o_iload cx X366 d1_117 rfl ?_
  refine o_stI cx X366 d1_119 A346 2 (by decide) rfl (Nat.le_of_ble_eq_true rfl) ge348 fun T369 h371 X370 W372 A346 => ?_
  have A306 := A306.other W372 ne_b301_b341
  have KK := KK.wr W372 (Or.inr sz_b341)
  have A346 : own_Ar Z h371 b341 .int [(.int (0 : Int32)), (.int (1 : Int32)), (.int (2 : Int32)), (.int (0 : Int32))] := A346
  refine o_iinc cx X370 (z := (3 : Int32)) (Ls' := #[rv aa, iv (Int32.ofNat nn), iv 4, rv rk, rv tx, rv pl, s6, rv b301, rv b341, iv 3, iv 4, iv 3, .unset, .unset, .unset]) d1_120 rfl rfl rfl ?_
  refine o_goto cx X370 94 d1_123 (by decide) (by decide) ?_
  refine o_iload cx X370 d1_94 rfl ?_
  refine o_aload cx X370 d1_96 rfl rfl ?_
  refine o_len cx X370 (z := (4 : Int32)) d1_98 (At.keep KK nin0) rfl ?_
  refine o_icmpNo cx X370 d1_99 (by decide) ?_
  refine o_aload cx X370 d1_102 rfl rfl ?_
  refine o_aload cx X370 d1_104 rfl rfl ?_
  refine o_aload cx X370 d1_106 rfl rfl ?_
  refine o_iload cx X370 d1_108 rfl ?_
  refine o_ldI cx X370 (v := (.int (3 : Int32))) d1_110 (At.keep KK nin0) 3 (by decide) rfl rfl ?_
  refine o_dup2 cx X370 d1_111 rfl rfl ?_
  refine o_ldI cx X370 (v := (.int (3 : Int32))) d1_112 A306 3 (by decide) rfl rfl ?_
  refine o_dup_x2 cx X370 d1_113 rfl rfl rfl ?_
  refine o_iconst cx X370 (z := (1 : Int32)) d1_114 rfl ?_
  refine o_iadd cx X370 (z := (4 : Int32)) d1_115 rfl ?_
  refine o_stI cx X370 d1_116 A306 3 (by decide) rfl (Nat.le_of_ble_eq_true rfl) ge308 fun T373 h375 X374 W376 A306 => ?_
  have A346 := A346.other W376 (Ne.symm ne_b301_b341)
  have KK := KK.wr W376 (Or.inr sz_b301)
  have A306 : own_Ar Z h375 b301 .int [(.int (1 : Int32)), (.int (2 : Int32)), (.int (3 : Int32)), (.int (4 : Int32)), (.int (4 : Int32))] := A306
  refine o_iload cx X374 d1_117 rfl ?_
  refine o_stI cx X374 d1_119 A346 3 (by decide) rfl (Nat.le_of_ble_eq_true rfl) ge348 fun T377 h379 X378 W380 A346 => ?_
  have A306 := A306.other W380 ne_b301_b341
  have KK := KK.wr W380 (Or.inr sz_b341)
  have A346 : own_Ar Z h379 b341 .int [(.int (0 : Int32)), (.int (1 : Int32)), (.int (2 : Int32)), (.int (3 : Int32))] := A346
  refine o_iinc cx X378 (z := (4 : Int32)) (Ls' := #[rv aa, iv (Int32.ofNat nn), iv 4, rv rk, rv tx, rv pl, s6, rv b301, rv b341, iv 4, iv 4, iv 3, .unset, .unset, .unset]) d1_120 rfl rfl rfl ?_
  refine o_goto cx X378 94 d1_123 (by decide) (by decide) ?_
  refine o_iload cx X378 d1_94 rfl ?_
  refine o_aload cx X378 d1_96 rfl rfl ?_
  refine o_len cx X378 (z := (4 : Int32)) d1_98 (At.keep KK nin0) rfl ?_
  refine o_icmpYes cx X378 126 d1_99 (by decide) (by decide) (by decide) ?_
  have ne_aa_b341 : aa ≠ b341 := Nat.ne_of_lt (Nat.lt_of_lt_of_le E0.lt sz_b341)
  exact kk _ _ b301 b341 (4 : Int32) (4 : Int32) (3 : Int32) (X378.more (by decide) (by decide)) ge348 ne_aa_b341  (E0.keep KK) (F0.keep KK nin0) (F1.keep KK nin0) (F2.keep KK nin0) (F3.keep KK nin0) (Ar.keep KK nin0) (At.keep KK nin0) (Ap.keep KK nin0) (Ac.keep KK nin0) A346
set_option maxRecDepth 65536 in
set_option maxHeartbeats 40000000 in
theorem segA_4_1 {p : Program} {l : Launch} {e : Env} {s : State} {m : MethodId} {below : List Frame} {meth : Method} {c : Code} {n0 : Nat} {T0 : State} {h0 : Heap} {Z : State} {a0 : Array Value} {args : Array Value} {P : State → Outcome → Prop} (hw : ∀ d ∈ tables_1, d.before a0 Z = true) (aa rk tx pl : Addr) (nn k0 k1 k2 k3 : Nat) (v0 v1 v2 v3 : Int32) (s6 : Slot) (cv : Addr) (vcs : List Value) (cx : own_Cx p s m meth c Z prog_28_method_2_code 15 (⟨"com/example/rough_dedup/roughdedup/ShingleIndex$Postings", "<init>", "(II[I[I[I[I)V"⟩ : MethodName) none) (X0 : own_Sd p l e ({ frames := 2, cells := 7, slots := 41, locals := 74 } : Room) s m args below meth c n0 T0 h0 0 0) (ga : n0 ≤ aa) (ne_aa_rk : aa ≠ rk) (ne_aa_tx : aa ≠ tx) (ne_aa_pl : aa ≠ pl) (E0 : Exa Z h0 aa "com/example/rough_dedup/roughdedup/ShingleIndex$Postings") (F0 : Fld Z h0 aa "com/example/rough_dedup/roughdedup/ShingleIndex$Postings" "starts" "[I" .null) (F1 : Fld Z h0 aa "com/example/rough_dedup/roughdedup/ShingleIndex$Postings" "texts" "[I" .null) (F2 : Fld Z h0 aa "com/example/rough_dedup/roughdedup/ShingleIndex$Postings" "places" "[I" .null) (F3 : Fld Z h0 aa "com/example/rough_dedup/roughdedup/ShingleIndex$Postings" "covered" "[I" .null) (Ar : own_Ar Z h0 rk .int [(.int (Int32.ofNat k0)), (.int (Int32.ofNat k1)), (.int (Int32.ofNat k2)), (.int (Int32.ofNat k3))]) (At : own_Ar Z h0 tx .int [(.int (1 : Int32)), (.int (2 : Int32)), (.int (3 : Int32)), (.int (0 : Int32))]) (Ap : own_Ar Z h0 pl .int [(.int v0), (.int v1), (.int v2), (.int v3)]) (Ac : own_Ar Z h0 cv .int vcs) (kk : ∀ (T : State) (h : Heap) (ts bt : Addr) (x9 x10 x11 : Int32), own_Sd p l e ({ frames := 2, cells := 7, slots := 41, locals := 74 } : Room) s m args below meth c n0 T h 2 12 → n0 ≤ bt → aa ≠ bt → Exa Z h aa "com/example/rough_dedup/roughdedup/ShingleIndex$Postings" → Fld Z h aa "com/example/rough_dedup/roughdedup/ShingleIndex$Postings" "starts" "[I" .null → Fld Z h aa "com/example/rough_dedup/roughdedup/ShingleIndex$Postings" "texts" "[I" .null → Fld Z h aa "com/example/rough_dedup/roughdedup/ShingleIndex$Postings" "places" "[I" .null → Fld Z h aa "com/example/rough_dedup/roughdedup/ShingleIndex$Postings" "covered" "[I" .null → own_Ar Z h rk .int [(.int (Int32.ofNat k0)), (.int (Int32.ofNat k1)), (.int (Int32.ofNat k2)), (.int (Int32.ofNat k3))] → own_Ar Z h tx .int [(.int (1 : Int32)), (.int (2 : Int32)), (.int (3 : Int32)), (.int (0 : Int32))] → own_Ar Z h pl .int [(.int v0), (.int v1), (.int v2), (.int v3)] → own_Ar Z h cv .int vcs → own_Ar Z h bt .int [(.int (3 : Int32)), (.int (0 : Int32)), (.int (1 : Int32)), (.int (2 : Int32))] → own_Go p e below P (T.setTop (mkF m 126 #[rv aa, iv (Int32.ofNat nn), iv 4, rv rk, rv tx, rv pl, s6, .val (.ref ts), .val (.ref bt), .val (.int x9), .val (.int x10), .val (.int x11), .unset, .unset, .unset] []))) :
    own_Go p e below P (T0.setTop (mkF m 0 #[rv aa, iv (Int32.ofNat nn), iv 4, rv rk, rv tx, rv pl, s6, .unset, .unset, .unset, .unset, .unset, .unset, .unset, .unset] [])) := by
  have KK := Keep.refl h0 []
  refine o_aloadN cx X0 d1_0 rfl rfl ?_
  refine o_initO cx X0 d1_1 (o_w hw 9 rfl) (o_w hw 10 rfl) (o_w hw 11 rfl) rfl (by decide) 0 rfl (by decide) fun T381 X382 => ?_
  refine o_iloadN cx X382 d1_4 rfl ?_
  refine o_iconst cx X382 (z := (1 : Int32)) d1_5 rfl ?_
  refine o_iadd cx X382 (z := (5 : Int32)) d1_6 rfl ?_
  refine o_newP cx X382 d1_7 (o_w hw 1 rfl) (by decide) 5 5 rfl (Nat.le_refl _) (by decide) (by decide) (by decide) fun T384 h386 b383 gb389 ge390 X385 E387 A388 => ?_
  have sz_b383 : h0.size ≤ b383 := by rw [gb389]; exact KK.1
  have KK := KK.ext E387
  have A388 : own_Ar Z h386 b383 .int [(.int (0 : Int32)), (.int (0 : Int32)), (.int (0 : Int32)), (.int (0 : Int32)), (.int (0 : Int32))] := A388
  refine o_astore cx X385 (Ls' := #[rv aa, iv (Int32.ofNat nn), iv 4, rv rk, rv tx, rv pl, s6, rv b383, .unset, .unset, .unset, .unset, .unset, .unset, .unset]) d1_9 rfl rfl ?_
  refine o_aload cx X385 d1_11 rfl rfl ?_
  refine o_astore cx X385 (Ls' := #[rv aa, iv (Int32.ofNat nn), iv 4, rv rk, rv tx, rv pl, s6, rv b383, rv tx, .unset, .unset, .unset, .unset, .unset, .unset]) d1_13 rfl rfl ?_
  refine o_aload cx X385 d1_15 rfl rfl ?_
  refine o_len cx X385 (z := (4 : Int32)) d1_17 (At.keep KK nin0) rfl ?_
  refine o_istore cx X385 (Ls' := #[rv aa, iv (Int32.ofNat nn), iv 4, rv rk, rv tx, rv pl, s6, rv b383, rv tx, iv 4, .unset, .unset, .unset, .unset, .unset]) d1_18 rfl ?_
  refine o_iconst cx X385 (z := (0 : Int32)) d1_20 rfl ?_
  refine o_istore cx X385 (Ls' := #[rv aa, iv (Int32.ofNat nn), iv 4, rv rk, rv tx, rv pl, s6, rv b383, rv tx, iv 4, iv 0, .unset, .unset, .unset, .unset]) d1_21 rfl ?_
  refine o_iload cx X385 d1_23 rfl ?_
  refine o_iload cx X385 d1_25 rfl ?_
  refine o_icmpNo cx X385 d1_27 (by decide) ?_
  refine o_aload cx X385 d1_30 rfl rfl ?_
  refine o_iload cx X385 d1_32 rfl ?_
  refine o_ldI cx X385 (v := (.int (1 : Int32))) d1_34 (At.keep KK nin0) 0 (by decide) rfl rfl ?_
  refine o_istore cx X385 (Ls' := #[rv aa, iv (Int32.ofNat nn), iv 4, rv rk, rv tx, rv pl, s6, rv b383, rv tx, iv 4, iv 0, iv 1, .unset, .unset, .unset]) d1_35 rfl ?_
  refine o_aload cx X385 d1_37 rfl rfl ?_
  refine o_iload cx X385 d1_39 rfl ?_
  refine o_iconst cx X385 (z := (1 : Int32)) d1_41 rfl ?_
  refine o_iadd cx X385 (z := (2 : Int32)) d1_42 rfl ?_
  refine o_dup2 cx X385 d1_43 rfl rfl ?_
  refine o_ldI cx X385 (v := (.int (0 : Int32))) d1_44 A388 2 (by decide) rfl rfl ?_
  refine o_iconst cx X385 (z := (1 : Int32)) d1_45 rfl ?_
  refine o_iadd cx X385 (z := (1 : Int32)) d1_46 rfl ?_
  refine o_stI cx X385 d1_47 A388 2 (by decide) rfl (Nat.le_of_ble_eq_true rfl) ge390 fun T391 h393 X392 W394 A388 => ?_
  have KK := KK.wr W394 (Or.inr sz_b383)
  have A388 : own_Ar Z h393 b383 .int [(.int (0 : Int32)), (.int (0 : Int32)), (.int (1 : Int32)), (.int (0 : Int32)), (.int (0 : Int32))] := A388
  refine o_iinc cx X392 (z := (1 : Int32)) (Ls' := #[rv aa, iv (Int32.ofNat nn), iv 4, rv rk, rv tx, rv pl, s6, rv b383, rv tx, iv 4, iv 1, iv 1, .unset, .unset, .unset]) d1_48 rfl rfl rfl ?_
  refine o_goto cx X392 23 d1_51 (by decide) (by decide) ?_
  refine o_iload cx X392 d1_23 rfl ?_
  refine o_iload cx X392 d1_25 rfl ?_
  refine o_icmpNo cx X392 d1_27 (by decide) ?_
  refine o_aload cx X392 d1_30 rfl rfl ?_
  refine o_iload cx X392 d1_32 rfl ?_
  refine o_ldI cx X392 (v := (.int (2 : Int32))) d1_34 (At.keep KK nin0) 1 (by decide) rfl rfl ?_
  refine o_istore cx X392 (Ls' := #[rv aa, iv (Int32.ofNat nn), iv 4, rv rk, rv tx, rv pl, s6, rv b383, rv tx, iv 4, iv 1, iv 2, .unset, .unset, .unset]) d1_35 rfl ?_
  refine o_aload cx X392 d1_37 rfl rfl ?_
  refine o_iload cx X392 d1_39 rfl ?_
  refine o_iconst cx X392 (z := (1 : Int32)) d1_41 rfl ?_
  refine o_iadd cx X392 (z := (3 : Int32)) d1_42 rfl ?_
  refine o_dup2 cx X392 d1_43 rfl rfl ?_
  refine o_ldI cx X392 (v := (.int (0 : Int32))) d1_44 A388 3 (by decide) rfl rfl ?_
  refine o_iconst cx X392 (z := (1 : Int32)) d1_45 rfl ?_
  refine o_iadd cx X392 (z := (1 : Int32)) d1_46 rfl ?_
  refine o_stI cx X392 d1_47 A388 3 (by decide) rfl (Nat.le_of_ble_eq_true rfl) ge390 fun T395 h397 X396 W398 A388 => ?_
  have KK := KK.wr W398 (Or.inr sz_b383)
  have A388 : own_Ar Z h397 b383 .int [(.int (0 : Int32)), (.int (0 : Int32)), (.int (1 : Int32)), (.int (1 : Int32)), (.int (0 : Int32))] := A388
  refine o_iinc cx X396 (z := (2 : Int32)) (Ls' := #[rv aa, iv (Int32.ofNat nn), iv 4, rv rk, rv tx, rv pl, s6, rv b383, rv tx, iv 4, iv 2, iv 2, .unset, .unset, .unset]) d1_48 rfl rfl rfl ?_
  refine o_goto cx X396 23 d1_51 (by decide) (by decide) ?_
  refine o_iload cx X396 d1_23 rfl ?_
  refine o_iload cx X396 d1_25 rfl ?_
  refine o_icmpNo cx X396 d1_27 (by decide) ?_
  refine o_aload cx X396 d1_30 rfl rfl ?_
  refine o_iload cx X396 d1_32 rfl ?_
  refine o_ldI cx X396 (v := (.int (3 : Int32))) d1_34 (At.keep KK nin0) 2 (by decide) rfl rfl ?_
  refine o_istore cx X396 (Ls' := #[rv aa, iv (Int32.ofNat nn), iv 4, rv rk, rv tx, rv pl, s6, rv b383, rv tx, iv 4, iv 2, iv 3, .unset, .unset, .unset]) d1_35 rfl ?_
  refine o_aload cx X396 d1_37 rfl rfl ?_
  refine o_iload cx X396 d1_39 rfl ?_
  refine o_iconst cx X396 (z := (1 : Int32)) d1_41 rfl ?_
  refine o_iadd cx X396 (z := (4 : Int32)) d1_42 rfl ?_
  refine o_dup2 cx X396 d1_43 rfl rfl ?_
  refine o_ldI cx X396 (v := (.int (0 : Int32))) d1_44 A388 4 (by decide) rfl rfl ?_
  refine o_iconst cx X396 (z := (1 : Int32)) d1_45 rfl ?_
  refine o_iadd cx X396 (z := (1 : Int32)) d1_46 rfl ?_
  refine o_stI cx X396 d1_47 A388 4 (by decide) rfl (Nat.le_of_ble_eq_true rfl) ge390 fun T399 h401 X400 W402 A388 => ?_
  have KK := KK.wr W402 (Or.inr sz_b383)
  have A388 : own_Ar Z h401 b383 .int [(.int (0 : Int32)), (.int (0 : Int32)), (.int (1 : Int32)), (.int (1 : Int32)), (.int (1 : Int32))] := A388
  refine o_iinc cx X400 (z := (3 : Int32)) (Ls' := #[rv aa, iv (Int32.ofNat nn), iv 4, rv rk, rv tx, rv pl, s6, rv b383, rv tx, iv 4, iv 3, iv 3, .unset, .unset, .unset]) d1_48 rfl rfl rfl ?_
  refine o_goto cx X400 23 d1_51 (by decide) (by decide) ?_
  refine o_iload cx X400 d1_23 rfl ?_
  refine o_iload cx X400 d1_25 rfl ?_
  refine o_icmpNo cx X400 d1_27 (by decide) ?_
  refine o_aload cx X400 d1_30 rfl rfl ?_
  refine o_iload cx X400 d1_32 rfl ?_
  refine o_ldI cx X400 (v := (.int (0 : Int32))) d1_34 (At.keep KK nin0) 3 (by decide) rfl rfl ?_
  refine o_istore cx X400 (Ls' := #[rv aa, iv (Int32.ofNat nn), iv 4, rv rk, rv tx, rv pl, s6, rv b383, rv tx, iv 4, iv 3, iv 0, .unset, .unset, .unset]) d1_35 rfl ?_
  refine o_aload cx X400 d1_37 rfl rfl ?_
  refine o_iload cx X400 d1_39 rfl ?_
  refine o_iconst cx X400 (z := (1 : Int32)) d1_41 rfl ?_
  refine o_iadd cx X400 (z := (1 : Int32)) d1_42 rfl ?_
  refine o_dup2 cx X400 d1_43 rfl rfl ?_
  refine o_ldI cx X400 (v := (.int (0 : Int32))) d1_44 A388 1 (by decide) rfl rfl ?_
  refine o_iconst cx X400 (z := (1 : Int32)) d1_45 rfl ?_
  refine o_iadd cx X400 (z := (1 : Int32)) d1_46 rfl ?_
  refine o_stI cx X400 d1_47 A388 1 (by decide) rfl (Nat.le_of_ble_eq_true rfl) ge390 fun T403 h405 X404 W406 A388 => ?_
  have KK := KK.wr W406 (Or.inr sz_b383)
  have A388 : own_Ar Z h405 b383 .int [(.int (0 : Int32)), (.int (1 : Int32)), (.int (1 : Int32)), (.int (1 : Int32)), (.int (1 : Int32))] := A388
  refine o_iinc cx X404 (z := (4 : Int32)) (Ls' := #[rv aa, iv (Int32.ofNat nn), iv 4, rv rk, rv tx, rv pl, s6, rv b383, rv tx, iv 4, iv 4, iv 0, .unset, .unset, .unset]) d1_48 rfl rfl rfl ?_
  refine o_goto cx X404 23 d1_51 (by decide) (by decide) ?_
  refine o_iload cx X404 d1_23 rfl ?_
  refine o_iload cx X404 d1_25 rfl ?_
  refine o_icmpYes cx X404 54 d1_27 (by decide) (by decide) (by decide) ?_
  refine o_iconst cx X404 (z := (0 : Int32)) d1_54 rfl ?_
  refine o_istore cx X404 (Ls' := #[rv aa, iv (Int32.ofNat nn), iv 4, rv rk, rv tx, rv pl, s6, rv b383, iv 0, iv 4, iv 4, iv 0, .unset, .unset, .unset]) d1_55 rfl ?_
  refine o_iload cx X404 d1_57 rfl ?_
  refine o_iloadN cx X404 d1_59 rfl ?_
  refine o_icmpNo cx X404 d1_60 (by decide) ?_
  refine o_aload cx X404 d1_63 rfl rfl ?_
  refine o_iload cx X404 d1_65 rfl ?_
  refine o_iconst cx X404 (z := (1 : Int32)) d1_67 rfl ?_
  refine o_iadd cx X404 (z := (1 : Int32)) d1_68 rfl ?_
  refine o_dup2 cx X404 d1_69 rfl rfl ?_
  refine o_ldI cx X404 (v := (.int (1 : Int32))) d1_70 A388 1 (by decide) rfl rfl ?_
  refine o_aload cx X404 d1_71 rfl rfl ?_
  refine o_iload cx X404 d1_73 rfl ?_
  refine o_ldI cx X404 (v := (.int (0 : Int32))) d1_75 A388 0 (by decide) rfl rfl ?_
  refine o_iadd cx X404 (z := (1 : Int32)) d1_76 rfl ?_
  refine o_stI cx X404 d1_77 A388 1 (by decide) rfl (Nat.le_of_ble_eq_true rfl) ge390 fun T407 h409 X408 W410 A388 => ?_
  have KK := KK.wr W410 (Or.inr sz_b383)
  have A388 : own_Ar Z h409 b383 .int [(.int (0 : Int32)), (.int (1 : Int32)), (.int (1 : Int32)), (.int (1 : Int32)), (.int (1 : Int32))] := A388
  refine o_iinc cx X408 (z := (1 : Int32)) (Ls' := #[rv aa, iv (Int32.ofNat nn), iv 4, rv rk, rv tx, rv pl, s6, rv b383, iv 1, iv 4, iv 4, iv 0, .unset, .unset, .unset]) d1_78 rfl rfl rfl ?_
  refine o_goto cx X408 57 d1_81 (by decide) (by decide) ?_
  refine o_iload cx X408 d1_57 rfl ?_
  refine o_iloadN cx X408 d1_59 rfl ?_
  refine o_icmpNo cx X408 d1_60 (by decide) ?_
  refine o_aload cx X408 d1_63 rfl rfl ?_
  refine o_iload cx X408 d1_65 rfl ?_
  refine o_iconst cx X408 (z := (1 : Int32)) d1_67 rfl ?_
  refine o_iadd cx X408 (z := (2 : Int32)) d1_68 rfl ?_
  refine o_dup2 cx X408 d1_69 rfl rfl ?_
  refine o_ldI cx X408 (v := (.int (1 : Int32))) d1_70 A388 2 (by decide) rfl rfl ?_
  refine o_aload cx X408 d1_71 rfl rfl ?_
  refine o_iload cx X408 d1_73 rfl ?_
  refine o_ldI cx X408 (v := (.int (1 : Int32))) d1_75 A388 1 (by decide) rfl rfl ?_
  refine o_iadd cx X408 (z := (2 : Int32)) d1_76 rfl ?_
  refine o_stI cx X408 d1_77 A388 2 (by decide) rfl (Nat.le_of_ble_eq_true rfl) ge390 fun T411 h413 X412 W414 A388 => ?_
  have KK := KK.wr W414 (Or.inr sz_b383)
  have A388 : own_Ar Z h413 b383 .int [(.int (0 : Int32)), (.int (1 : Int32)), (.int (2 : Int32)), (.int (1 : Int32)), (.int (1 : Int32))] := A388
  refine o_iinc cx X412 (z := (2 : Int32)) (Ls' := #[rv aa, iv (Int32.ofNat nn), iv 4, rv rk, rv tx, rv pl, s6, rv b383, iv 2, iv 4, iv 4, iv 0, .unset, .unset, .unset]) d1_78 rfl rfl rfl ?_
  refine o_goto cx X412 57 d1_81 (by decide) (by decide) ?_
  refine o_iload cx X412 d1_57 rfl ?_
  refine o_iloadN cx X412 d1_59 rfl ?_
  refine o_icmpNo cx X412 d1_60 (by decide) ?_
  refine o_aload cx X412 d1_63 rfl rfl ?_
  refine o_iload cx X412 d1_65 rfl ?_
  refine o_iconst cx X412 (z := (1 : Int32)) d1_67 rfl ?_
  refine o_iadd cx X412 (z := (3 : Int32)) d1_68 rfl ?_
  refine o_dup2 cx X412 d1_69 rfl rfl ?_
  refine o_ldI cx X412 (v := (.int (1 : Int32))) d1_70 A388 3 (by decide) rfl rfl ?_
  refine o_aload cx X412 d1_71 rfl rfl ?_
  refine o_iload cx X412 d1_73 rfl ?_
  refine o_ldI cx X412 (v := (.int (2 : Int32))) d1_75 A388 2 (by decide) rfl rfl ?_
  refine o_iadd cx X412 (z := (3 : Int32)) d1_76 rfl ?_
  refine o_stI cx X412 d1_77 A388 3 (by decide) rfl (Nat.le_of_ble_eq_true rfl) ge390 fun T415 h417 X416 W418 A388 => ?_
  have KK := KK.wr W418 (Or.inr sz_b383)
  have A388 : own_Ar Z h417 b383 .int [(.int (0 : Int32)), (.int (1 : Int32)), (.int (2 : Int32)), (.int (3 : Int32)), (.int (1 : Int32))] := A388
  refine o_iinc cx X416 (z := (3 : Int32)) (Ls' := #[rv aa, iv (Int32.ofNat nn), iv 4, rv rk, rv tx, rv pl, s6, rv b383, iv 3, iv 4, iv 4, iv 0, .unset, .unset, .unset]) d1_78 rfl rfl rfl ?_
  refine o_goto cx X416 57 d1_81 (by decide) (by decide) ?_
  refine o_iload cx X416 d1_57 rfl ?_
  refine o_iloadN cx X416 d1_59 rfl ?_
  refine o_icmpNo cx X416 d1_60 (by decide) ?_
  refine o_aload cx X416 d1_63 rfl rfl ?_
  refine o_iload cx X416 d1_65 rfl ?_
  refine o_iconst cx X416 (z := (1 : Int32)) d1_67 rfl ?_
  refine o_iadd cx X416 (z := (4 : Int32)) d1_68 rfl ?_
  refine o_dup2 cx X416 d1_69 rfl rfl ?_
  refine o_ldI cx X416 (v := (.int (1 : Int32))) d1_70 A388 4 (by decide) rfl rfl ?_
  refine o_aload cx X416 d1_71 rfl rfl ?_
  refine o_iload cx X416 d1_73 rfl ?_
  refine o_ldI cx X416 (v := (.int (3 : Int32))) d1_75 A388 3 (by decide) rfl rfl ?_
  refine o_iadd cx X416 (z := (4 : Int32)) d1_76 rfl ?_
  refine o_stI cx X416 d1_77 A388 4 (by decide) rfl (Nat.le_of_ble_eq_true rfl) ge390 fun T419 h421 X420 W422 A388 => ?_
  have KK := KK.wr W422 (Or.inr sz_b383)
  have A388 : own_Ar Z h421 b383 .int [(.int (0 : Int32)), (.int (1 : Int32)), (.int (2 : Int32)), (.int (3 : Int32)), (.int (4 : Int32))] := A388
  refine o_iinc cx X420 (z := (4 : Int32)) (Ls' := #[rv aa, iv (Int32.ofNat nn), iv 4, rv rk, rv tx, rv pl, s6, rv b383, iv 4, iv 4, iv 4, iv 0, .unset, .unset, .unset]) d1_78 rfl rfl rfl ?_
  refine o_goto cx X420 57 d1_81 (by decide) (by decide) ?_
  refine o_iload cx X420 d1_57 rfl ?_
  refine o_iloadN cx X420 d1_59 rfl ?_
  refine o_icmpYes cx X420 84 d1_60 (by decide) (by decide) (by decide) ?_
  refine o_aload cx X420 d1_84 rfl rfl ?_
  refine o_len cx X420 (z := (4 : Int32)) d1_86 (At.keep KK nin0) rfl ?_
  refine o_newP cx X420 d1_87 (o_w hw 1 rfl) (by decide) 4 4 rfl (Nat.le_refl _) (by decide) (by decide) (by decide) fun T424 h426 b423 gb429 ge430 X425 E427 A428 => ?_
  have ne_b383_b423 : b383 ≠ b423 := by rw [gb429]; exact Nat.ne_of_lt A388.lt
  have sz_b423 : h0.size ≤ b423 := by rw [gb429]; exact KK.1
  have A388 := A388.ext E427
  have KK := KK.ext E427
  have A428 : own_Ar Z h426 b423 .int [(.int (0 : Int32)), (.int (0 : Int32)), (.int (0 : Int32)), (.int (0 : Int32))] := A428
  refine o_astore cx X425 (Ls' := #[rv aa, iv (Int32.ofNat nn), iv 4, rv rk, rv tx, rv pl, s6, rv b383, rv b423, iv 4, iv 4, iv 0, .unset, .unset, .unset]) d1_89 rfl rfl ?_
  refine o_iconst cx X425 (z := (0 : Int32)) d1_91 rfl ?_
  refine o_istore cx X425 (Ls' := #[rv aa, iv (Int32.ofNat nn), iv 4, rv rk, rv tx, rv pl, s6, rv b383, rv b423, iv 0, iv 4, iv 0, .unset, .unset, .unset]) d1_92 rfl ?_
  refine o_iload cx X425 d1_94 rfl ?_
  refine o_aload cx X425 d1_96 rfl rfl ?_
  refine o_len cx X425 (z := (4 : Int32)) d1_98 (At.keep KK nin0) rfl ?_
  refine o_icmpNo cx X425 d1_99 (by decide) ?_
  refine o_aload cx X425 d1_102 rfl rfl ?_
  refine o_aload cx X425 d1_104 rfl rfl ?_
  refine o_aload cx X425 d1_106 rfl rfl ?_
  refine o_iload cx X425 d1_108 rfl ?_
  refine o_ldI cx X425 (v := (.int (1 : Int32))) d1_110 (At.keep KK nin0) 0 (by decide) rfl rfl ?_
  refine o_dup2 cx X425 d1_111 rfl rfl ?_
  refine o_ldI cx X425 (v := (.int (1 : Int32))) d1_112 A388 1 (by decide) rfl rfl ?_
  refine o_dup_x2 cx X425 d1_113 rfl rfl rfl ?_
  refine o_iconst cx X425 (z := (1 : Int32)) d1_114 rfl ?_
  refine o_iadd cx X425 (z := (2 : Int32)) d1_115 rfl ?_
  refine o_stI cx X425 d1_116 A388 1 (by decide) rfl (Nat.le_of_ble_eq_true rfl) ge390 fun T431 h433 X432 W434 A388 => ?_
  have A428 := A428.other W434 (Ne.symm ne_b383_b423)
  have KK := KK.wr W434 (Or.inr sz_b383)
  have A388 : own_Ar Z h433 b383 .int [(.int (0 : Int32)), (.int (2 : Int32)), (.int (2 : Int32)), (.int (3 : Int32)), (.int (4 : Int32))] := A388
  refine o_iload cx X432 d1_117 rfl ?_
  refine o_stI cx X432 d1_119 A428 1 (by decide) rfl (Nat.le_of_ble_eq_true rfl) ge430 fun T435 h437 X436 W438 A428 => ?_
  have A388 := A388.other W438 ne_b383_b423
  have KK := KK.wr W438 (Or.inr sz_b423)
  have A428 : own_Ar Z h437 b423 .int [(.int (0 : Int32)), (.int (0 : Int32)), (.int (0 : Int32)), (.int (0 : Int32))] := A428
  refine o_iinc cx X436 (z := (1 : Int32)) (Ls' := #[rv aa, iv (Int32.ofNat nn), iv 4, rv rk, rv tx, rv pl, s6, rv b383, rv b423, iv 1, iv 4, iv 0, .unset, .unset, .unset]) d1_120 rfl rfl rfl ?_
  refine o_goto cx X436 94 d1_123 (by decide) (by decide) ?_
  refine o_iload cx X436 d1_94 rfl ?_
  refine o_aload cx X436 d1_96 rfl rfl ?_
  refine o_len cx X436 (z := (4 : Int32)) d1_98 (At.keep KK nin0) rfl ?_
  refine o_icmpNo cx X436 d1_99 (by decide) ?_
  refine o_aload cx X436 d1_102 rfl rfl ?_
  refine o_aload cx X436 d1_104 rfl rfl ?_
  refine o_aload cx X436 d1_106 rfl rfl ?_
  refine o_iload cx X436 d1_108 rfl ?_
  refine o_ldI cx X436 (v := (.int (2 : Int32))) d1_110 (At.keep KK nin0) 1 (by decide) rfl rfl ?_
  refine o_dup2 cx X436 d1_111 rfl rfl ?_
  refine o_ldI cx X436 (v := (.int (2 : Int32))) d1_112 A388 2 (by decide) rfl rfl ?_
  refine o_dup_x2 cx X436 d1_113 rfl rfl rfl ?_
  refine o_iconst cx X436 (z := (1 : Int32)) d1_114 rfl ?_
  refine o_iadd cx X436 (z := (3 : Int32)) d1_115 rfl ?_
  refine o_stI cx X436 d1_116 A388 2 (by decide) rfl (Nat.le_of_ble_eq_true rfl) ge390 fun T439 h441 X440 W442 A388 => ?_
  have A428 := A428.other W442 (Ne.symm ne_b383_b423)
  have KK := KK.wr W442 (Or.inr sz_b383)
  have A388 : own_Ar Z h441 b383 .int [(.int (0 : Int32)), (.int (2 : Int32)), (.int (3 : Int32)), (.int (3 : Int32)), (.int (4 : Int32))] := A388
  refine o_iload cx X440 d1_117 rfl ?_
  refine o_stI cx X440 d1_119 A428 2 (by decide) rfl (Nat.le_of_ble_eq_true rfl) ge430 fun T443 h445 X444 W446 A428 => ?_
  have A388 := A388.other W446 ne_b383_b423
  have KK := KK.wr W446 (Or.inr sz_b423)
  have A428 : own_Ar Z h445 b423 .int [(.int (0 : Int32)), (.int (0 : Int32)), (.int (1 : Int32)), (.int (0 : Int32))] := A428
  refine o_iinc cx X444 (z := (2 : Int32)) (Ls' := #[rv aa, iv (Int32.ofNat nn), iv 4, rv rk, rv tx, rv pl, s6, rv b383, rv b423, iv 2, iv 4, iv 0, .unset, .unset, .unset]) d1_120 rfl rfl rfl ?_
  refine o_goto cx X444 94 d1_123 (by decide) (by decide) ?_
  refine o_iload cx X444 d1_94 rfl ?_
  refine o_aload cx X444 d1_96 rfl rfl ?_
  refine o_len cx X444 (z := (4 : Int32)) d1_98 (At.keep KK nin0) rfl ?_
  refine o_icmpNo cx X444 d1_99 (by decide) ?_
  refine o_aload cx X444 d1_102 rfl rfl ?_
  refine o_aload cx X444 d1_104 rfl rfl ?_
  refine o_aload cx X444 d1_106 rfl rfl ?_
  refine o_iload cx X444 d1_108 rfl ?_
  refine o_ldI cx X444 (v := (.int (3 : Int32))) d1_110 (At.keep KK nin0) 2 (by decide) rfl rfl ?_
  refine o_dup2 cx X444 d1_111 rfl rfl ?_
  refine o_ldI cx X444 (v := (.int (3 : Int32))) d1_112 A388 3 (by decide) rfl rfl ?_
  refine o_dup_x2 cx X444 d1_113 rfl rfl rfl ?_
  refine o_iconst cx X444 (z := (1 : Int32)) d1_114 rfl ?_
  refine o_iadd cx X444 (z := (4 : Int32)) d1_115 rfl ?_
  refine o_stI cx X444 d1_116 A388 3 (by decide) rfl (Nat.le_of_ble_eq_true rfl) ge390 fun T447 h449 X448 W450 A388 => ?_
  have A428 := A428.other W450 (Ne.symm ne_b383_b423)
  have KK := KK.wr W450 (Or.inr sz_b383)
  have A388 : own_Ar Z h449 b383 .int [(.int (0 : Int32)), (.int (2 : Int32)), (.int (3 : Int32)), (.int (4 : Int32)), (.int (4 : Int32))] := A388
  refine o_iload cx X448 d1_117 rfl ?_
  refine o_stI cx X448 d1_119 A428 3 (by decide) rfl (Nat.le_of_ble_eq_true rfl) ge430 fun T451 h453 X452 W454 A428 => ?_
  have A388 := A388.other W454 ne_b383_b423
  have KK := KK.wr W454 (Or.inr sz_b423)
  have A428 : own_Ar Z h453 b423 .int [(.int (0 : Int32)), (.int (0 : Int32)), (.int (1 : Int32)), (.int (2 : Int32))] := A428
  refine o_iinc cx X452 (z := (3 : Int32)) (Ls' := #[rv aa, iv (Int32.ofNat nn), iv 4, rv rk, rv tx, rv pl, s6, rv b383, rv b423, iv 3, iv 4, iv 0, .unset, .unset, .unset]) d1_120 rfl rfl rfl ?_
  refine o_goto cx X452 94 d1_123 (by decide) (by decide) ?_
  refine o_iload cx X452 d1_94 rfl ?_
  refine o_aload cx X452 d1_96 rfl rfl ?_
  refine o_len cx X452 (z := (4 : Int32)) d1_98 (At.keep KK nin0) rfl ?_
  refine o_icmpNo cx X452 d1_99 (by decide) ?_
  refine o_aload cx X452 d1_102 rfl rfl ?_
  refine o_aload cx X452 d1_104 rfl rfl ?_
  refine o_aload cx X452 d1_106 rfl rfl ?_
  refine o_iload cx X452 d1_108 rfl ?_
  refine o_ldI cx X452 (v := (.int (0 : Int32))) d1_110 (At.keep KK nin0) 3 (by decide) rfl rfl ?_
  refine o_dup2 cx X452 d1_111 rfl rfl ?_
  refine o_ldI cx X452 (v := (.int (0 : Int32))) d1_112 A388 0 (by decide) rfl rfl ?_
  refine o_dup_x2 cx X452 d1_113 rfl rfl rfl ?_
  refine o_iconst cx X452 (z := (1 : Int32)) d1_114 rfl ?_
  refine o_iadd cx X452 (z := (1 : Int32)) d1_115 rfl ?_
  refine o_stI cx X452 d1_116 A388 0 (by decide) rfl (Nat.le_of_ble_eq_true rfl) ge390 fun T455 h457 X456 W458 A388 => ?_
  have A428 := A428.other W458 (Ne.symm ne_b383_b423)
  have KK := KK.wr W458 (Or.inr sz_b383)
  have A388 : own_Ar Z h457 b383 .int [(.int (1 : Int32)), (.int (2 : Int32)), (.int (3 : Int32)), (.int (4 : Int32)), (.int (4 : Int32))] := A388
  refine o_iload cx X456 d1_117 rfl ?_
  refine o_stI cx X456 d1_119 A428 0 (by decide) rfl (Nat.le_of_ble_eq_true rfl) ge430 fun T459 h461 X460 W462 A428 => ?_
  have A388 := A388.other W462 ne_b383_b423
  have KK := KK.wr W462 (Or.inr sz_b423)
  have A428 : own_Ar Z h461 b423 .int [(.int (3 : Int32)), (.int (0 : Int32)), (.int (1 : Int32)), (.int (2 : Int32))] := A428
  refine o_iinc cx X460 (z := (4 : Int32)) (Ls' := #[rv aa, iv (Int32.ofNat nn), iv 4, rv rk, rv tx, rv pl, s6, rv b383, rv b423, iv 4, iv 4, iv 0, .unset, .unset, .unset]) d1_120 rfl rfl rfl ?_
  refine o_goto cx X460 94 d1_123 (by decide) (by decide) ?_
  refine o_iload cx X460 d1_94 rfl ?_
  refine o_aload cx X460 d1_96 rfl rfl ?_
  refine o_len cx X460 (z := (4 : Int32)) d1_98 (At.keep KK nin0) rfl ?_
  refine o_icmpYes cx X460 126 d1_99 (by decide) (by decide) (by decide) ?_
  have ne_aa_b423 : aa ≠ b423 := Nat.ne_of_lt (Nat.lt_of_lt_of_le E0.lt sz_b423)
  exact kk _ _ b383 b423 (4 : Int32) (4 : Int32) (0 : Int32) (X460.more (by decide) (by decide)) ge430 ne_aa_b423  (E0.keep KK) (F0.keep KK nin0) (F1.keep KK nin0) (F2.keep KK nin0) (F3.keep KK nin0) (Ar.keep KK nin0) (At.keep KK nin0) (Ap.keep KK nin0) (Ac.keep KK nin0) A428
set_option maxRecDepth 65536 in
set_option maxHeartbeats 40000000 in
theorem segA_4_2 {p : Program} {l : Launch} {e : Env} {s : State} {m : MethodId} {below : List Frame} {meth : Method} {c : Code} {n0 : Nat} {T0 : State} {h0 : Heap} {Z : State} {a0 : Array Value} {args : Array Value} {P : State → Outcome → Prop} (hw : ∀ d ∈ tables_1, d.before a0 Z = true) (aa rk tx pl : Addr) (nn k0 k1 k2 k3 : Nat) (v0 v1 v2 v3 : Int32) (s6 : Slot) (cv : Addr) (vcs : List Value) (cx : own_Cx p s m meth c Z prog_28_method_2_code 15 (⟨"com/example/rough_dedup/roughdedup/ShingleIndex$Postings", "<init>", "(II[I[I[I[I)V"⟩ : MethodName) none) (X0 : own_Sd p l e ({ frames := 2, cells := 7, slots := 41, locals := 74 } : Room) s m args below meth c n0 T0 h0 0 0) (ga : n0 ≤ aa) (ne_aa_rk : aa ≠ rk) (ne_aa_tx : aa ≠ tx) (ne_aa_pl : aa ≠ pl) (E0 : Exa Z h0 aa "com/example/rough_dedup/roughdedup/ShingleIndex$Postings") (F0 : Fld Z h0 aa "com/example/rough_dedup/roughdedup/ShingleIndex$Postings" "starts" "[I" .null) (F1 : Fld Z h0 aa "com/example/rough_dedup/roughdedup/ShingleIndex$Postings" "texts" "[I" .null) (F2 : Fld Z h0 aa "com/example/rough_dedup/roughdedup/ShingleIndex$Postings" "places" "[I" .null) (F3 : Fld Z h0 aa "com/example/rough_dedup/roughdedup/ShingleIndex$Postings" "covered" "[I" .null) (Ar : own_Ar Z h0 rk .int [(.int (Int32.ofNat k0)), (.int (Int32.ofNat k1)), (.int (Int32.ofNat k2)), (.int (Int32.ofNat k3))]) (At : own_Ar Z h0 tx .int [(.int (2 : Int32)), (.int (3 : Int32)), (.int (0 : Int32)), (.int (1 : Int32))]) (Ap : own_Ar Z h0 pl .int [(.int v0), (.int v1), (.int v2), (.int v3)]) (Ac : own_Ar Z h0 cv .int vcs) (kk : ∀ (T : State) (h : Heap) (ts bt : Addr) (x9 x10 x11 : Int32), own_Sd p l e ({ frames := 2, cells := 7, slots := 41, locals := 74 } : Room) s m args below meth c n0 T h 2 12 → n0 ≤ bt → aa ≠ bt → Exa Z h aa "com/example/rough_dedup/roughdedup/ShingleIndex$Postings" → Fld Z h aa "com/example/rough_dedup/roughdedup/ShingleIndex$Postings" "starts" "[I" .null → Fld Z h aa "com/example/rough_dedup/roughdedup/ShingleIndex$Postings" "texts" "[I" .null → Fld Z h aa "com/example/rough_dedup/roughdedup/ShingleIndex$Postings" "places" "[I" .null → Fld Z h aa "com/example/rough_dedup/roughdedup/ShingleIndex$Postings" "covered" "[I" .null → own_Ar Z h rk .int [(.int (Int32.ofNat k0)), (.int (Int32.ofNat k1)), (.int (Int32.ofNat k2)), (.int (Int32.ofNat k3))] → own_Ar Z h tx .int [(.int (2 : Int32)), (.int (3 : Int32)), (.int (0 : Int32)), (.int (1 : Int32))] → own_Ar Z h pl .int [(.int v0), (.int v1), (.int v2), (.int v3)] → own_Ar Z h cv .int vcs → own_Ar Z h bt .int [(.int (2 : Int32)), (.int (3 : Int32)), (.int (0 : Int32)), (.int (1 : Int32))] → own_Go p e below P (T.setTop (mkF m 126 #[rv aa, iv (Int32.ofNat nn), iv 4, rv rk, rv tx, rv pl, s6, .val (.ref ts), .val (.ref bt), .val (.int x9), .val (.int x10), .val (.int x11), .unset, .unset, .unset] []))) :
    own_Go p e below P (T0.setTop (mkF m 0 #[rv aa, iv (Int32.ofNat nn), iv 4, rv rk, rv tx, rv pl, s6, .unset, .unset, .unset, .unset, .unset, .unset, .unset, .unset] [])) := by
  have KK := Keep.refl h0 []
  refine o_aloadN cx X0 d1_0 rfl rfl ?_
  refine o_initO cx X0 d1_1 (o_w hw 9 rfl) (o_w hw 10 rfl) (o_w hw 11 rfl) rfl (by decide) 0 rfl (by decide) fun T463 X464 => ?_
  refine o_iloadN cx X464 d1_4 rfl ?_
  refine o_iconst cx X464 (z := (1 : Int32)) d1_5 rfl ?_
  refine o_iadd cx X464 (z := (5 : Int32)) d1_6 rfl ?_
  refine o_newP cx X464 d1_7 (o_w hw 1 rfl) (by decide) 5 5 rfl (Nat.le_refl _) (by decide) (by decide) (by decide) fun T466 h468 b465 gb471 ge472 X467 E469 A470 => ?_
  have sz_b465 : h0.size ≤ b465 := by rw [gb471]; exact KK.1
  have KK := KK.ext E469
  have A470 : own_Ar Z h468 b465 .int [(.int (0 : Int32)), (.int (0 : Int32)), (.int (0 : Int32)), (.int (0 : Int32)), (.int (0 : Int32))] := A470
  refine o_astore cx X467 (Ls' := #[rv aa, iv (Int32.ofNat nn), iv 4, rv rk, rv tx, rv pl, s6, rv b465, .unset, .unset, .unset, .unset, .unset, .unset, .unset]) d1_9 rfl rfl ?_
  refine o_aload cx X467 d1_11 rfl rfl ?_
  refine o_astore cx X467 (Ls' := #[rv aa, iv (Int32.ofNat nn), iv 4, rv rk, rv tx, rv pl, s6, rv b465, rv tx, .unset, .unset, .unset, .unset, .unset, .unset]) d1_13 rfl rfl ?_
  refine o_aload cx X467 d1_15 rfl rfl ?_
  refine o_len cx X467 (z := (4 : Int32)) d1_17 (At.keep KK nin0) rfl ?_
  refine o_istore cx X467 (Ls' := #[rv aa, iv (Int32.ofNat nn), iv 4, rv rk, rv tx, rv pl, s6, rv b465, rv tx, iv 4, .unset, .unset, .unset, .unset, .unset]) d1_18 rfl ?_
  refine o_iconst cx X467 (z := (0 : Int32)) d1_20 rfl ?_
  refine o_istore cx X467 (Ls' := #[rv aa, iv (Int32.ofNat nn), iv 4, rv rk, rv tx, rv pl, s6, rv b465, rv tx, iv 4, iv 0, .unset, .unset, .unset, .unset]) d1_21 rfl ?_
  refine o_iload cx X467 d1_23 rfl ?_
  refine o_iload cx X467 d1_25 rfl ?_
  refine o_icmpNo cx X467 d1_27 (by decide) ?_
  refine o_aload cx X467 d1_30 rfl rfl ?_
  refine o_iload cx X467 d1_32 rfl ?_
  refine o_ldI cx X467 (v := (.int (2 : Int32))) d1_34 (At.keep KK nin0) 0 (by decide) rfl rfl ?_
  refine o_istore cx X467 (Ls' := #[rv aa, iv (Int32.ofNat nn), iv 4, rv rk, rv tx, rv pl, s6, rv b465, rv tx, iv 4, iv 0, iv 2, .unset, .unset, .unset]) d1_35 rfl ?_
  refine o_aload cx X467 d1_37 rfl rfl ?_
  refine o_iload cx X467 d1_39 rfl ?_
  refine o_iconst cx X467 (z := (1 : Int32)) d1_41 rfl ?_
  refine o_iadd cx X467 (z := (3 : Int32)) d1_42 rfl ?_
  refine o_dup2 cx X467 d1_43 rfl rfl ?_
  refine o_ldI cx X467 (v := (.int (0 : Int32))) d1_44 A470 3 (by decide) rfl rfl ?_
  refine o_iconst cx X467 (z := (1 : Int32)) d1_45 rfl ?_
  refine o_iadd cx X467 (z := (1 : Int32)) d1_46 rfl ?_
  refine o_stI cx X467 d1_47 A470 3 (by decide) rfl (Nat.le_of_ble_eq_true rfl) ge472 fun T473 h475 X474 W476 A470 => ?_
  have KK := KK.wr W476 (Or.inr sz_b465)
  have A470 : own_Ar Z h475 b465 .int [(.int (0 : Int32)), (.int (0 : Int32)), (.int (0 : Int32)), (.int (1 : Int32)), (.int (0 : Int32))] := A470
  refine o_iinc cx X474 (z := (1 : Int32)) (Ls' := #[rv aa, iv (Int32.ofNat nn), iv 4, rv rk, rv tx, rv pl, s6, rv b465, rv tx, iv 4, iv 1, iv 2, .unset, .unset, .unset]) d1_48 rfl rfl rfl ?_
  refine o_goto cx X474 23 d1_51 (by decide) (by decide) ?_
  refine o_iload cx X474 d1_23 rfl ?_
  refine o_iload cx X474 d1_25 rfl ?_
  refine o_icmpNo cx X474 d1_27 (by decide) ?_
  refine o_aload cx X474 d1_30 rfl rfl ?_
  refine o_iload cx X474 d1_32 rfl ?_
  refine o_ldI cx X474 (v := (.int (3 : Int32))) d1_34 (At.keep KK nin0) 1 (by decide) rfl rfl ?_
  refine o_istore cx X474 (Ls' := #[rv aa, iv (Int32.ofNat nn), iv 4, rv rk, rv tx, rv pl, s6, rv b465, rv tx, iv 4, iv 1, iv 3, .unset, .unset, .unset]) d1_35 rfl ?_
  refine o_aload cx X474 d1_37 rfl rfl ?_
  refine o_iload cx X474 d1_39 rfl ?_
  refine o_iconst cx X474 (z := (1 : Int32)) d1_41 rfl ?_
  refine o_iadd cx X474 (z := (4 : Int32)) d1_42 rfl ?_
  refine o_dup2 cx X474 d1_43 rfl rfl ?_
  refine o_ldI cx X474 (v := (.int (0 : Int32))) d1_44 A470 4 (by decide) rfl rfl ?_
  refine o_iconst cx X474 (z := (1 : Int32)) d1_45 rfl ?_
  refine o_iadd cx X474 (z := (1 : Int32)) d1_46 rfl ?_
  refine o_stI cx X474 d1_47 A470 4 (by decide) rfl (Nat.le_of_ble_eq_true rfl) ge472 fun T477 h479 X478 W480 A470 => ?_
  have KK := KK.wr W480 (Or.inr sz_b465)
  have A470 : own_Ar Z h479 b465 .int [(.int (0 : Int32)), (.int (0 : Int32)), (.int (0 : Int32)), (.int (1 : Int32)), (.int (1 : Int32))] := A470
  refine o_iinc cx X478 (z := (2 : Int32)) (Ls' := #[rv aa, iv (Int32.ofNat nn), iv 4, rv rk, rv tx, rv pl, s6, rv b465, rv tx, iv 4, iv 2, iv 3, .unset, .unset, .unset]) d1_48 rfl rfl rfl ?_
  refine o_goto cx X478 23 d1_51 (by decide) (by decide) ?_
  refine o_iload cx X478 d1_23 rfl ?_
  refine o_iload cx X478 d1_25 rfl ?_
  refine o_icmpNo cx X478 d1_27 (by decide) ?_
  refine o_aload cx X478 d1_30 rfl rfl ?_
  refine o_iload cx X478 d1_32 rfl ?_
  refine o_ldI cx X478 (v := (.int (0 : Int32))) d1_34 (At.keep KK nin0) 2 (by decide) rfl rfl ?_
  refine o_istore cx X478 (Ls' := #[rv aa, iv (Int32.ofNat nn), iv 4, rv rk, rv tx, rv pl, s6, rv b465, rv tx, iv 4, iv 2, iv 0, .unset, .unset, .unset]) d1_35 rfl ?_
  refine o_aload cx X478 d1_37 rfl rfl ?_
  refine o_iload cx X478 d1_39 rfl ?_
  refine o_iconst cx X478 (z := (1 : Int32)) d1_41 rfl ?_
  refine o_iadd cx X478 (z := (1 : Int32)) d1_42 rfl ?_
  refine o_dup2 cx X478 d1_43 rfl rfl ?_
  refine o_ldI cx X478 (v := (.int (0 : Int32))) d1_44 A470 1 (by decide) rfl rfl ?_
  refine o_iconst cx X478 (z := (1 : Int32)) d1_45 rfl ?_
  refine o_iadd cx X478 (z := (1 : Int32)) d1_46 rfl ?_
  refine o_stI cx X478 d1_47 A470 1 (by decide) rfl (Nat.le_of_ble_eq_true rfl) ge472 fun T481 h483 X482 W484 A470 => ?_
  have KK := KK.wr W484 (Or.inr sz_b465)
  have A470 : own_Ar Z h483 b465 .int [(.int (0 : Int32)), (.int (1 : Int32)), (.int (0 : Int32)), (.int (1 : Int32)), (.int (1 : Int32))] := A470
  refine o_iinc cx X482 (z := (3 : Int32)) (Ls' := #[rv aa, iv (Int32.ofNat nn), iv 4, rv rk, rv tx, rv pl, s6, rv b465, rv tx, iv 4, iv 3, iv 0, .unset, .unset, .unset]) d1_48 rfl rfl rfl ?_
  refine o_goto cx X482 23 d1_51 (by decide) (by decide) ?_
  refine o_iload cx X482 d1_23 rfl ?_
  refine o_iload cx X482 d1_25 rfl ?_
  refine o_icmpNo cx X482 d1_27 (by decide) ?_
  refine o_aload cx X482 d1_30 rfl rfl ?_
  refine o_iload cx X482 d1_32 rfl ?_
  refine o_ldI cx X482 (v := (.int (1 : Int32))) d1_34 (At.keep KK nin0) 3 (by decide) rfl rfl ?_
  refine o_istore cx X482 (Ls' := #[rv aa, iv (Int32.ofNat nn), iv 4, rv rk, rv tx, rv pl, s6, rv b465, rv tx, iv 4, iv 3, iv 1, .unset, .unset, .unset]) d1_35 rfl ?_
  refine o_aload cx X482 d1_37 rfl rfl ?_
  refine o_iload cx X482 d1_39 rfl ?_
  refine o_iconst cx X482 (z := (1 : Int32)) d1_41 rfl ?_
  refine o_iadd cx X482 (z := (2 : Int32)) d1_42 rfl ?_
  refine o_dup2 cx X482 d1_43 rfl rfl ?_
  refine o_ldI cx X482 (v := (.int (0 : Int32))) d1_44 A470 2 (by decide) rfl rfl ?_
  refine o_iconst cx X482 (z := (1 : Int32)) d1_45 rfl ?_
  refine o_iadd cx X482 (z := (1 : Int32)) d1_46 rfl ?_
  refine o_stI cx X482 d1_47 A470 2 (by decide) rfl (Nat.le_of_ble_eq_true rfl) ge472 fun T485 h487 X486 W488 A470 => ?_
  have KK := KK.wr W488 (Or.inr sz_b465)
  have A470 : own_Ar Z h487 b465 .int [(.int (0 : Int32)), (.int (1 : Int32)), (.int (1 : Int32)), (.int (1 : Int32)), (.int (1 : Int32))] := A470
  refine o_iinc cx X486 (z := (4 : Int32)) (Ls' := #[rv aa, iv (Int32.ofNat nn), iv 4, rv rk, rv tx, rv pl, s6, rv b465, rv tx, iv 4, iv 4, iv 1, .unset, .unset, .unset]) d1_48 rfl rfl rfl ?_
  refine o_goto cx X486 23 d1_51 (by decide) (by decide) ?_
  refine o_iload cx X486 d1_23 rfl ?_
  refine o_iload cx X486 d1_25 rfl ?_
  refine o_icmpYes cx X486 54 d1_27 (by decide) (by decide) (by decide) ?_
  refine o_iconst cx X486 (z := (0 : Int32)) d1_54 rfl ?_
  refine o_istore cx X486 (Ls' := #[rv aa, iv (Int32.ofNat nn), iv 4, rv rk, rv tx, rv pl, s6, rv b465, iv 0, iv 4, iv 4, iv 1, .unset, .unset, .unset]) d1_55 rfl ?_
  refine o_iload cx X486 d1_57 rfl ?_
  refine o_iloadN cx X486 d1_59 rfl ?_
  refine o_icmpNo cx X486 d1_60 (by decide) ?_
  refine o_aload cx X486 d1_63 rfl rfl ?_
  refine o_iload cx X486 d1_65 rfl ?_
  refine o_iconst cx X486 (z := (1 : Int32)) d1_67 rfl ?_
  refine o_iadd cx X486 (z := (1 : Int32)) d1_68 rfl ?_
  refine o_dup2 cx X486 d1_69 rfl rfl ?_
  refine o_ldI cx X486 (v := (.int (1 : Int32))) d1_70 A470 1 (by decide) rfl rfl ?_
  refine o_aload cx X486 d1_71 rfl rfl ?_
  refine o_iload cx X486 d1_73 rfl ?_
  refine o_ldI cx X486 (v := (.int (0 : Int32))) d1_75 A470 0 (by decide) rfl rfl ?_
  refine o_iadd cx X486 (z := (1 : Int32)) d1_76 rfl ?_
  refine o_stI cx X486 d1_77 A470 1 (by decide) rfl (Nat.le_of_ble_eq_true rfl) ge472 fun T489 h491 X490 W492 A470 => ?_
  have KK := KK.wr W492 (Or.inr sz_b465)
  have A470 : own_Ar Z h491 b465 .int [(.int (0 : Int32)), (.int (1 : Int32)), (.int (1 : Int32)), (.int (1 : Int32)), (.int (1 : Int32))] := A470
  refine o_iinc cx X490 (z := (1 : Int32)) (Ls' := #[rv aa, iv (Int32.ofNat nn), iv 4, rv rk, rv tx, rv pl, s6, rv b465, iv 1, iv 4, iv 4, iv 1, .unset, .unset, .unset]) d1_78 rfl rfl rfl ?_
  refine o_goto cx X490 57 d1_81 (by decide) (by decide) ?_
  refine o_iload cx X490 d1_57 rfl ?_
  refine o_iloadN cx X490 d1_59 rfl ?_
  refine o_icmpNo cx X490 d1_60 (by decide) ?_
  refine o_aload cx X490 d1_63 rfl rfl ?_
  refine o_iload cx X490 d1_65 rfl ?_
  refine o_iconst cx X490 (z := (1 : Int32)) d1_67 rfl ?_
  refine o_iadd cx X490 (z := (2 : Int32)) d1_68 rfl ?_
  refine o_dup2 cx X490 d1_69 rfl rfl ?_
  refine o_ldI cx X490 (v := (.int (1 : Int32))) d1_70 A470 2 (by decide) rfl rfl ?_
  refine o_aload cx X490 d1_71 rfl rfl ?_
  refine o_iload cx X490 d1_73 rfl ?_
  refine o_ldI cx X490 (v := (.int (1 : Int32))) d1_75 A470 1 (by decide) rfl rfl ?_
  refine o_iadd cx X490 (z := (2 : Int32)) d1_76 rfl ?_
  refine o_stI cx X490 d1_77 A470 2 (by decide) rfl (Nat.le_of_ble_eq_true rfl) ge472 fun T493 h495 X494 W496 A470 => ?_
  have KK := KK.wr W496 (Or.inr sz_b465)
  have A470 : own_Ar Z h495 b465 .int [(.int (0 : Int32)), (.int (1 : Int32)), (.int (2 : Int32)), (.int (1 : Int32)), (.int (1 : Int32))] := A470
  refine o_iinc cx X494 (z := (2 : Int32)) (Ls' := #[rv aa, iv (Int32.ofNat nn), iv 4, rv rk, rv tx, rv pl, s6, rv b465, iv 2, iv 4, iv 4, iv 1, .unset, .unset, .unset]) d1_78 rfl rfl rfl ?_
  refine o_goto cx X494 57 d1_81 (by decide) (by decide) ?_
  refine o_iload cx X494 d1_57 rfl ?_
  refine o_iloadN cx X494 d1_59 rfl ?_
  refine o_icmpNo cx X494 d1_60 (by decide) ?_
  refine o_aload cx X494 d1_63 rfl rfl ?_
  refine o_iload cx X494 d1_65 rfl ?_
  refine o_iconst cx X494 (z := (1 : Int32)) d1_67 rfl ?_
  refine o_iadd cx X494 (z := (3 : Int32)) d1_68 rfl ?_
  refine o_dup2 cx X494 d1_69 rfl rfl ?_
  refine o_ldI cx X494 (v := (.int (1 : Int32))) d1_70 A470 3 (by decide) rfl rfl ?_
  refine o_aload cx X494 d1_71 rfl rfl ?_
  refine o_iload cx X494 d1_73 rfl ?_
  refine o_ldI cx X494 (v := (.int (2 : Int32))) d1_75 A470 2 (by decide) rfl rfl ?_
  refine o_iadd cx X494 (z := (3 : Int32)) d1_76 rfl ?_
  refine o_stI cx X494 d1_77 A470 3 (by decide) rfl (Nat.le_of_ble_eq_true rfl) ge472 fun T497 h499 X498 W500 A470 => ?_
  have KK := KK.wr W500 (Or.inr sz_b465)
  have A470 : own_Ar Z h499 b465 .int [(.int (0 : Int32)), (.int (1 : Int32)), (.int (2 : Int32)), (.int (3 : Int32)), (.int (1 : Int32))] := A470
  refine o_iinc cx X498 (z := (3 : Int32)) (Ls' := #[rv aa, iv (Int32.ofNat nn), iv 4, rv rk, rv tx, rv pl, s6, rv b465, iv 3, iv 4, iv 4, iv 1, .unset, .unset, .unset]) d1_78 rfl rfl rfl ?_
  refine o_goto cx X498 57 d1_81 (by decide) (by decide) ?_
  refine o_iload cx X498 d1_57 rfl ?_
  refine o_iloadN cx X498 d1_59 rfl ?_
  refine o_icmpNo cx X498 d1_60 (by decide) ?_
  refine o_aload cx X498 d1_63 rfl rfl ?_
  refine o_iload cx X498 d1_65 rfl ?_
  refine o_iconst cx X498 (z := (1 : Int32)) d1_67 rfl ?_
  refine o_iadd cx X498 (z := (4 : Int32)) d1_68 rfl ?_
  refine o_dup2 cx X498 d1_69 rfl rfl ?_
  refine o_ldI cx X498 (v := (.int (1 : Int32))) d1_70 A470 4 (by decide) rfl rfl ?_
  refine o_aload cx X498 d1_71 rfl rfl ?_
  refine o_iload cx X498 d1_73 rfl ?_
  refine o_ldI cx X498 (v := (.int (3 : Int32))) d1_75 A470 3 (by decide) rfl rfl ?_
  refine o_iadd cx X498 (z := (4 : Int32)) d1_76 rfl ?_
  refine o_stI cx X498 d1_77 A470 4 (by decide) rfl (Nat.le_of_ble_eq_true rfl) ge472 fun T501 h503 X502 W504 A470 => ?_
  have KK := KK.wr W504 (Or.inr sz_b465)
  have A470 : own_Ar Z h503 b465 .int [(.int (0 : Int32)), (.int (1 : Int32)), (.int (2 : Int32)), (.int (3 : Int32)), (.int (4 : Int32))] := A470
  refine o_iinc cx X502 (z := (4 : Int32)) (Ls' := #[rv aa, iv (Int32.ofNat nn), iv 4, rv rk, rv tx, rv pl, s6, rv b465, iv 4, iv 4, iv 4, iv 1, .unset, .unset, .unset]) d1_78 rfl rfl rfl ?_
  refine o_goto cx X502 57 d1_81 (by decide) (by decide) ?_
  refine o_iload cx X502 d1_57 rfl ?_
  refine o_iloadN cx X502 d1_59 rfl ?_
  refine o_icmpYes cx X502 84 d1_60 (by decide) (by decide) (by decide) ?_
  refine o_aload cx X502 d1_84 rfl rfl ?_
  refine o_len cx X502 (z := (4 : Int32)) d1_86 (At.keep KK nin0) rfl ?_
  refine o_newP cx X502 d1_87 (o_w hw 1 rfl) (by decide) 4 4 rfl (Nat.le_refl _) (by decide) (by decide) (by decide) fun T506 h508 b505 gb511 ge512 X507 E509 A510 => ?_
  have ne_b465_b505 : b465 ≠ b505 := by rw [gb511]; exact Nat.ne_of_lt A470.lt
  have sz_b505 : h0.size ≤ b505 := by rw [gb511]; exact KK.1
  have A470 := A470.ext E509
  have KK := KK.ext E509
  have A510 : own_Ar Z h508 b505 .int [(.int (0 : Int32)), (.int (0 : Int32)), (.int (0 : Int32)), (.int (0 : Int32))] := A510
  refine o_astore cx X507 (Ls' := #[rv aa, iv (Int32.ofNat nn), iv 4, rv rk, rv tx, rv pl, s6, rv b465, rv b505, iv 4, iv 4, iv 1, .unset, .unset, .unset]) d1_89 rfl rfl ?_
  refine o_iconst cx X507 (z := (0 : Int32)) d1_91 rfl ?_
  refine o_istore cx X507 (Ls' := #[rv aa, iv (Int32.ofNat nn), iv 4, rv rk, rv tx, rv pl, s6, rv b465, rv b505, iv 0, iv 4, iv 1, .unset, .unset, .unset]) d1_92 rfl ?_
  refine o_iload cx X507 d1_94 rfl ?_
  refine o_aload cx X507 d1_96 rfl rfl ?_
  refine o_len cx X507 (z := (4 : Int32)) d1_98 (At.keep KK nin0) rfl ?_
  refine o_icmpNo cx X507 d1_99 (by decide) ?_
  refine o_aload cx X507 d1_102 rfl rfl ?_
  refine o_aload cx X507 d1_104 rfl rfl ?_
  refine o_aload cx X507 d1_106 rfl rfl ?_
  refine o_iload cx X507 d1_108 rfl ?_
  refine o_ldI cx X507 (v := (.int (2 : Int32))) d1_110 (At.keep KK nin0) 0 (by decide) rfl rfl ?_
  refine o_dup2 cx X507 d1_111 rfl rfl ?_
  refine o_ldI cx X507 (v := (.int (2 : Int32))) d1_112 A470 2 (by decide) rfl rfl ?_
  refine o_dup_x2 cx X507 d1_113 rfl rfl rfl ?_
  refine o_iconst cx X507 (z := (1 : Int32)) d1_114 rfl ?_
  refine o_iadd cx X507 (z := (3 : Int32)) d1_115 rfl ?_
  refine o_stI cx X507 d1_116 A470 2 (by decide) rfl (Nat.le_of_ble_eq_true rfl) ge472 fun T513 h515 X514 W516 A470 => ?_
  have A510 := A510.other W516 (Ne.symm ne_b465_b505)
  have KK := KK.wr W516 (Or.inr sz_b465)
  have A470 : own_Ar Z h515 b465 .int [(.int (0 : Int32)), (.int (1 : Int32)), (.int (3 : Int32)), (.int (3 : Int32)), (.int (4 : Int32))] := A470
  refine o_iload cx X514 d1_117 rfl ?_
  refine o_stI cx X514 d1_119 A510 2 (by decide) rfl (Nat.le_of_ble_eq_true rfl) ge512 fun T517 h519 X518 W520 A510 => ?_
  have A470 := A470.other W520 ne_b465_b505
  have KK := KK.wr W520 (Or.inr sz_b505)
  have A510 : own_Ar Z h519 b505 .int [(.int (0 : Int32)), (.int (0 : Int32)), (.int (0 : Int32)), (.int (0 : Int32))] := A510
  refine o_iinc cx X518 (z := (1 : Int32)) (Ls' := #[rv aa, iv (Int32.ofNat nn), iv 4, rv rk, rv tx, rv pl, s6, rv b465, rv b505, iv 1, iv 4, iv 1, .unset, .unset, .unset]) d1_120 rfl rfl rfl ?_
  refine o_goto cx X518 94 d1_123 (by decide) (by decide) ?_
  refine o_iload cx X518 d1_94 rfl ?_
  refine o_aload cx X518 d1_96 rfl rfl ?_
  refine o_len cx X518 (z := (4 : Int32)) d1_98 (At.keep KK nin0) rfl ?_
  refine o_icmpNo cx X518 d1_99 (by decide) ?_
  refine o_aload cx X518 d1_102 rfl rfl ?_
  refine o_aload cx X518 d1_104 rfl rfl ?_
  refine o_aload cx X518 d1_106 rfl rfl ?_
  refine o_iload cx X518 d1_108 rfl ?_
  refine o_ldI cx X518 (v := (.int (3 : Int32))) d1_110 (At.keep KK nin0) 1 (by decide) rfl rfl ?_
  refine o_dup2 cx X518 d1_111 rfl rfl ?_
  refine o_ldI cx X518 (v := (.int (3 : Int32))) d1_112 A470 3 (by decide) rfl rfl ?_
  refine o_dup_x2 cx X518 d1_113 rfl rfl rfl ?_
  refine o_iconst cx X518 (z := (1 : Int32)) d1_114 rfl ?_
  refine o_iadd cx X518 (z := (4 : Int32)) d1_115 rfl ?_
  refine o_stI cx X518 d1_116 A470 3 (by decide) rfl (Nat.le_of_ble_eq_true rfl) ge472 fun T521 h523 X522 W524 A470 => ?_
  have A510 := A510.other W524 (Ne.symm ne_b465_b505)
  have KK := KK.wr W524 (Or.inr sz_b465)
  have A470 : own_Ar Z h523 b465 .int [(.int (0 : Int32)), (.int (1 : Int32)), (.int (3 : Int32)), (.int (4 : Int32)), (.int (4 : Int32))] := A470
  refine o_iload cx X522 d1_117 rfl ?_
  refine o_stI cx X522 d1_119 A510 3 (by decide) rfl (Nat.le_of_ble_eq_true rfl) ge512 fun T525 h527 X526 W528 A510 => ?_
  have A470 := A470.other W528 ne_b465_b505
  have KK := KK.wr W528 (Or.inr sz_b505)
  have A510 : own_Ar Z h527 b505 .int [(.int (0 : Int32)), (.int (0 : Int32)), (.int (0 : Int32)), (.int (1 : Int32))] := A510
  refine o_iinc cx X526 (z := (2 : Int32)) (Ls' := #[rv aa, iv (Int32.ofNat nn), iv 4, rv rk, rv tx, rv pl, s6, rv b465, rv b505, iv 2, iv 4, iv 1, .unset, .unset, .unset]) d1_120 rfl rfl rfl ?_
  refine o_goto cx X526 94 d1_123 (by decide) (by decide) ?_
  refine o_iload cx X526 d1_94 rfl ?_
  refine o_aload cx X526 d1_96 rfl rfl ?_
  refine o_len cx X526 (z := (4 : Int32)) d1_98 (At.keep KK nin0) rfl ?_
  refine o_icmpNo cx X526 d1_99 (by decide) ?_
  refine o_aload cx X526 d1_102 rfl rfl ?_
  refine o_aload cx X526 d1_104 rfl rfl ?_
  refine o_aload cx X526 d1_106 rfl rfl ?_
  refine o_iload cx X526 d1_108 rfl ?_
  refine o_ldI cx X526 (v := (.int (0 : Int32))) d1_110 (At.keep KK nin0) 2 (by decide) rfl rfl ?_
  refine o_dup2 cx X526 d1_111 rfl rfl ?_
  refine o_ldI cx X526 (v := (.int (0 : Int32))) d1_112 A470 0 (by decide) rfl rfl ?_
  refine o_dup_x2 cx X526 d1_113 rfl rfl rfl ?_
  refine o_iconst cx X526 (z := (1 : Int32)) d1_114 rfl ?_
  refine o_iadd cx X526 (z := (1 : Int32)) d1_115 rfl ?_
  refine o_stI cx X526 d1_116 A470 0 (by decide) rfl (Nat.le_of_ble_eq_true rfl) ge472 fun T529 h531 X530 W532 A470 => ?_
  have A510 := A510.other W532 (Ne.symm ne_b465_b505)
  have KK := KK.wr W532 (Or.inr sz_b465)
  have A470 : own_Ar Z h531 b465 .int [(.int (1 : Int32)), (.int (1 : Int32)), (.int (3 : Int32)), (.int (4 : Int32)), (.int (4 : Int32))] := A470
  refine o_iload cx X530 d1_117 rfl ?_
  refine o_stI cx X530 d1_119 A510 0 (by decide) rfl (Nat.le_of_ble_eq_true rfl) ge512 fun T533 h535 X534 W536 A510 => ?_
  have A470 := A470.other W536 ne_b465_b505
  have KK := KK.wr W536 (Or.inr sz_b505)
  have A510 : own_Ar Z h535 b505 .int [(.int (2 : Int32)), (.int (0 : Int32)), (.int (0 : Int32)), (.int (1 : Int32))] := A510
  refine o_iinc cx X534 (z := (3 : Int32)) (Ls' := #[rv aa, iv (Int32.ofNat nn), iv 4, rv rk, rv tx, rv pl, s6, rv b465, rv b505, iv 3, iv 4, iv 1, .unset, .unset, .unset]) d1_120 rfl rfl rfl ?_
  refine o_goto cx X534 94 d1_123 (by decide) (by decide) ?_
  refine o_iload cx X534 d1_94 rfl ?_
  refine o_aload cx X534 d1_96 rfl rfl ?_
  refine o_len cx X534 (z := (4 : Int32)) d1_98 (At.keep KK nin0) rfl ?_
  refine o_icmpNo cx X534 d1_99 (by decide) ?_
  refine o_aload cx X534 d1_102 rfl rfl ?_
  refine o_aload cx X534 d1_104 rfl rfl ?_
  refine o_aload cx X534 d1_106 rfl rfl ?_
  refine o_iload cx X534 d1_108 rfl ?_
  refine o_ldI cx X534 (v := (.int (1 : Int32))) d1_110 (At.keep KK nin0) 3 (by decide) rfl rfl ?_
  refine o_dup2 cx X534 d1_111 rfl rfl ?_
  refine o_ldI cx X534 (v := (.int (1 : Int32))) d1_112 A470 1 (by decide) rfl rfl ?_
  refine o_dup_x2 cx X534 d1_113 rfl rfl rfl ?_
  refine o_iconst cx X534 (z := (1 : Int32)) d1_114 rfl ?_
  refine o_iadd cx X534 (z := (2 : Int32)) d1_115 rfl ?_
  refine o_stI cx X534 d1_116 A470 1 (by decide) rfl (Nat.le_of_ble_eq_true rfl) ge472 fun T537 h539 X538 W540 A470 => ?_
  have A510 := A510.other W540 (Ne.symm ne_b465_b505)
  have KK := KK.wr W540 (Or.inr sz_b465)
  have A470 : own_Ar Z h539 b465 .int [(.int (1 : Int32)), (.int (2 : Int32)), (.int (3 : Int32)), (.int (4 : Int32)), (.int (4 : Int32))] := A470
  refine o_iload cx X538 d1_117 rfl ?_
  refine o_stI cx X538 d1_119 A510 1 (by decide) rfl (Nat.le_of_ble_eq_true rfl) ge512 fun T541 h543 X542 W544 A510 => ?_
  have A470 := A470.other W544 ne_b465_b505
  have KK := KK.wr W544 (Or.inr sz_b505)
  have A510 : own_Ar Z h543 b505 .int [(.int (2 : Int32)), (.int (3 : Int32)), (.int (0 : Int32)), (.int (1 : Int32))] := A510
  refine o_iinc cx X542 (z := (4 : Int32)) (Ls' := #[rv aa, iv (Int32.ofNat nn), iv 4, rv rk, rv tx, rv pl, s6, rv b465, rv b505, iv 4, iv 4, iv 1, .unset, .unset, .unset]) d1_120 rfl rfl rfl ?_
  refine o_goto cx X542 94 d1_123 (by decide) (by decide) ?_
  refine o_iload cx X542 d1_94 rfl ?_
  refine o_aload cx X542 d1_96 rfl rfl ?_
  refine o_len cx X542 (z := (4 : Int32)) d1_98 (At.keep KK nin0) rfl ?_
  refine o_icmpYes cx X542 126 d1_99 (by decide) (by decide) (by decide) ?_
  have ne_aa_b505 : aa ≠ b505 := Nat.ne_of_lt (Nat.lt_of_lt_of_le E0.lt sz_b505)
  exact kk _ _ b465 b505 (4 : Int32) (4 : Int32) (1 : Int32) (X542.more (by decide) (by decide)) ge512 ne_aa_b505  (E0.keep KK) (F0.keep KK nin0) (F1.keep KK nin0) (F2.keep KK nin0) (F3.keep KK nin0) (Ar.keep KK nin0) (At.keep KK nin0) (Ap.keep KK nin0) (Ac.keep KK nin0) A510
set_option maxRecDepth 65536 in
set_option maxHeartbeats 40000000 in
theorem segA_4_3 {p : Program} {l : Launch} {e : Env} {s : State} {m : MethodId} {below : List Frame} {meth : Method} {c : Code} {n0 : Nat} {T0 : State} {h0 : Heap} {Z : State} {a0 : Array Value} {args : Array Value} {P : State → Outcome → Prop} (hw : ∀ d ∈ tables_1, d.before a0 Z = true) (aa rk tx pl : Addr) (nn k0 k1 k2 k3 : Nat) (v0 v1 v2 v3 : Int32) (s6 : Slot) (cv : Addr) (vcs : List Value) (cx : own_Cx p s m meth c Z prog_28_method_2_code 15 (⟨"com/example/rough_dedup/roughdedup/ShingleIndex$Postings", "<init>", "(II[I[I[I[I)V"⟩ : MethodName) none) (X0 : own_Sd p l e ({ frames := 2, cells := 7, slots := 41, locals := 74 } : Room) s m args below meth c n0 T0 h0 0 0) (ga : n0 ≤ aa) (ne_aa_rk : aa ≠ rk) (ne_aa_tx : aa ≠ tx) (ne_aa_pl : aa ≠ pl) (E0 : Exa Z h0 aa "com/example/rough_dedup/roughdedup/ShingleIndex$Postings") (F0 : Fld Z h0 aa "com/example/rough_dedup/roughdedup/ShingleIndex$Postings" "starts" "[I" .null) (F1 : Fld Z h0 aa "com/example/rough_dedup/roughdedup/ShingleIndex$Postings" "texts" "[I" .null) (F2 : Fld Z h0 aa "com/example/rough_dedup/roughdedup/ShingleIndex$Postings" "places" "[I" .null) (F3 : Fld Z h0 aa "com/example/rough_dedup/roughdedup/ShingleIndex$Postings" "covered" "[I" .null) (Ar : own_Ar Z h0 rk .int [(.int (Int32.ofNat k0)), (.int (Int32.ofNat k1)), (.int (Int32.ofNat k2)), (.int (Int32.ofNat k3))]) (At : own_Ar Z h0 tx .int [(.int (3 : Int32)), (.int (0 : Int32)), (.int (1 : Int32)), (.int (2 : Int32))]) (Ap : own_Ar Z h0 pl .int [(.int v0), (.int v1), (.int v2), (.int v3)]) (Ac : own_Ar Z h0 cv .int vcs) (kk : ∀ (T : State) (h : Heap) (ts bt : Addr) (x9 x10 x11 : Int32), own_Sd p l e ({ frames := 2, cells := 7, slots := 41, locals := 74 } : Room) s m args below meth c n0 T h 2 12 → n0 ≤ bt → aa ≠ bt → Exa Z h aa "com/example/rough_dedup/roughdedup/ShingleIndex$Postings" → Fld Z h aa "com/example/rough_dedup/roughdedup/ShingleIndex$Postings" "starts" "[I" .null → Fld Z h aa "com/example/rough_dedup/roughdedup/ShingleIndex$Postings" "texts" "[I" .null → Fld Z h aa "com/example/rough_dedup/roughdedup/ShingleIndex$Postings" "places" "[I" .null → Fld Z h aa "com/example/rough_dedup/roughdedup/ShingleIndex$Postings" "covered" "[I" .null → own_Ar Z h rk .int [(.int (Int32.ofNat k0)), (.int (Int32.ofNat k1)), (.int (Int32.ofNat k2)), (.int (Int32.ofNat k3))] → own_Ar Z h tx .int [(.int (3 : Int32)), (.int (0 : Int32)), (.int (1 : Int32)), (.int (2 : Int32))] → own_Ar Z h pl .int [(.int v0), (.int v1), (.int v2), (.int v3)] → own_Ar Z h cv .int vcs → own_Ar Z h bt .int [(.int (1 : Int32)), (.int (2 : Int32)), (.int (3 : Int32)), (.int (0 : Int32))] → own_Go p e below P (T.setTop (mkF m 126 #[rv aa, iv (Int32.ofNat nn), iv 4, rv rk, rv tx, rv pl, s6, .val (.ref ts), .val (.ref bt), .val (.int x9), .val (.int x10), .val (.int x11), .unset, .unset, .unset] []))) :
    own_Go p e below P (T0.setTop (mkF m 0 #[rv aa, iv (Int32.ofNat nn), iv 4, rv rk, rv tx, rv pl, s6, .unset, .unset, .unset, .unset, .unset, .unset, .unset, .unset] [])) := by
  have KK := Keep.refl h0 []
  refine o_aloadN cx X0 d1_0 rfl rfl ?_
  refine o_initO cx X0 d1_1 (o_w hw 9 rfl) (o_w hw 10 rfl) (o_w hw 11 rfl) rfl (by decide) 0 rfl (by decide) fun T545 X546 => ?_
  refine o_iloadN cx X546 d1_4 rfl ?_
  refine o_iconst cx X546 (z := (1 : Int32)) d1_5 rfl ?_
  refine o_iadd cx X546 (z := (5 : Int32)) d1_6 rfl ?_
  refine o_newP cx X546 d1_7 (o_w hw 1 rfl) (by decide) 5 5 rfl (Nat.le_refl _) (by decide) (by decide) (by decide) fun T548 h550 b547 gb553 ge554 X549 E551 A552 => ?_
  have sz_b547 : h0.size ≤ b547 := by rw [gb553]; exact KK.1
  have KK := KK.ext E551
  have A552 : own_Ar Z h550 b547 .int [(.int (0 : Int32)), (.int (0 : Int32)), (.int (0 : Int32)), (.int (0 : Int32)), (.int (0 : Int32))] := A552
  refine o_astore cx X549 (Ls' := #[rv aa, iv (Int32.ofNat nn), iv 4, rv rk, rv tx, rv pl, s6, rv b547, .unset, .unset, .unset, .unset, .unset, .unset, .unset]) d1_9 rfl rfl ?_
  refine o_aload cx X549 d1_11 rfl rfl ?_
  refine o_astore cx X549 (Ls' := #[rv aa, iv (Int32.ofNat nn), iv 4, rv rk, rv tx, rv pl, s6, rv b547, rv tx, .unset, .unset, .unset, .unset, .unset, .unset]) d1_13 rfl rfl ?_
  refine o_aload cx X549 d1_15 rfl rfl ?_
  refine o_len cx X549 (z := (4 : Int32)) d1_17 (At.keep KK nin0) rfl ?_
  refine o_istore cx X549 (Ls' := #[rv aa, iv (Int32.ofNat nn), iv 4, rv rk, rv tx, rv pl, s6, rv b547, rv tx, iv 4, .unset, .unset, .unset, .unset, .unset]) d1_18 rfl ?_
  refine o_iconst cx X549 (z := (0 : Int32)) d1_20 rfl ?_
  refine o_istore cx X549 (Ls' := #[rv aa, iv (Int32.ofNat nn), iv 4, rv rk, rv tx, rv pl, s6, rv b547, rv tx, iv 4, iv 0, .unset, .unset, .unset, .unset]) d1_21 rfl ?_
  refine o_iload cx X549 d1_23 rfl ?_
  refine o_iload cx X549 d1_25 rfl ?_
  refine o_icmpNo cx X549 d1_27 (by decide) ?_
  refine o_aload cx X549 d1_30 rfl rfl ?_
  refine o_iload cx X549 d1_32 rfl ?_
  refine o_ldI cx X549 (v := (.int (3 : Int32))) d1_34 (At.keep KK nin0) 0 (by decide) rfl rfl ?_
  refine o_istore cx X549 (Ls' := #[rv aa, iv (Int32.ofNat nn), iv 4, rv rk, rv tx, rv pl, s6, rv b547, rv tx, iv 4, iv 0, iv 3, .unset, .unset, .unset]) d1_35 rfl ?_
  refine o_aload cx X549 d1_37 rfl rfl ?_
  refine o_iload cx X549 d1_39 rfl ?_
  refine o_iconst cx X549 (z := (1 : Int32)) d1_41 rfl ?_
  refine o_iadd cx X549 (z := (4 : Int32)) d1_42 rfl ?_
  refine o_dup2 cx X549 d1_43 rfl rfl ?_
  refine o_ldI cx X549 (v := (.int (0 : Int32))) d1_44 A552 4 (by decide) rfl rfl ?_
  refine o_iconst cx X549 (z := (1 : Int32)) d1_45 rfl ?_
  refine o_iadd cx X549 (z := (1 : Int32)) d1_46 rfl ?_
  refine o_stI cx X549 d1_47 A552 4 (by decide) rfl (Nat.le_of_ble_eq_true rfl) ge554 fun T555 h557 X556 W558 A552 => ?_
  have KK := KK.wr W558 (Or.inr sz_b547)
  have A552 : own_Ar Z h557 b547 .int [(.int (0 : Int32)), (.int (0 : Int32)), (.int (0 : Int32)), (.int (0 : Int32)), (.int (1 : Int32))] := A552
  refine o_iinc cx X556 (z := (1 : Int32)) (Ls' := #[rv aa, iv (Int32.ofNat nn), iv 4, rv rk, rv tx, rv pl, s6, rv b547, rv tx, iv 4, iv 1, iv 3, .unset, .unset, .unset]) d1_48 rfl rfl rfl ?_
  refine o_goto cx X556 23 d1_51 (by decide) (by decide) ?_
  refine o_iload cx X556 d1_23 rfl ?_
  refine o_iload cx X556 d1_25 rfl ?_
  refine o_icmpNo cx X556 d1_27 (by decide) ?_
  refine o_aload cx X556 d1_30 rfl rfl ?_
  refine o_iload cx X556 d1_32 rfl ?_
  refine o_ldI cx X556 (v := (.int (0 : Int32))) d1_34 (At.keep KK nin0) 1 (by decide) rfl rfl ?_
  refine o_istore cx X556 (Ls' := #[rv aa, iv (Int32.ofNat nn), iv 4, rv rk, rv tx, rv pl, s6, rv b547, rv tx, iv 4, iv 1, iv 0, .unset, .unset, .unset]) d1_35 rfl ?_
  refine o_aload cx X556 d1_37 rfl rfl ?_
  refine o_iload cx X556 d1_39 rfl ?_
  refine o_iconst cx X556 (z := (1 : Int32)) d1_41 rfl ?_
  refine o_iadd cx X556 (z := (1 : Int32)) d1_42 rfl ?_
  refine o_dup2 cx X556 d1_43 rfl rfl ?_
  refine o_ldI cx X556 (v := (.int (0 : Int32))) d1_44 A552 1 (by decide) rfl rfl ?_
  refine o_iconst cx X556 (z := (1 : Int32)) d1_45 rfl ?_
  refine o_iadd cx X556 (z := (1 : Int32)) d1_46 rfl ?_
  refine o_stI cx X556 d1_47 A552 1 (by decide) rfl (Nat.le_of_ble_eq_true rfl) ge554 fun T559 h561 X560 W562 A552 => ?_
  have KK := KK.wr W562 (Or.inr sz_b547)
  have A552 : own_Ar Z h561 b547 .int [(.int (0 : Int32)), (.int (1 : Int32)), (.int (0 : Int32)), (.int (0 : Int32)), (.int (1 : Int32))] := A552
  refine o_iinc cx X560 (z := (2 : Int32)) (Ls' := #[rv aa, iv (Int32.ofNat nn), iv 4, rv rk, rv tx, rv pl, s6, rv b547, rv tx, iv 4, iv 2, iv 0, .unset, .unset, .unset]) d1_48 rfl rfl rfl ?_
  refine o_goto cx X560 23 d1_51 (by decide) (by decide) ?_
  refine o_iload cx X560 d1_23 rfl ?_
  refine o_iload cx X560 d1_25 rfl ?_
  refine o_icmpNo cx X560 d1_27 (by decide) ?_
  refine o_aload cx X560 d1_30 rfl rfl ?_
  refine o_iload cx X560 d1_32 rfl ?_
  refine o_ldI cx X560 (v := (.int (1 : Int32))) d1_34 (At.keep KK nin0) 2 (by decide) rfl rfl ?_
  refine o_istore cx X560 (Ls' := #[rv aa, iv (Int32.ofNat nn), iv 4, rv rk, rv tx, rv pl, s6, rv b547, rv tx, iv 4, iv 2, iv 1, .unset, .unset, .unset]) d1_35 rfl ?_
  refine o_aload cx X560 d1_37 rfl rfl ?_
  refine o_iload cx X560 d1_39 rfl ?_
  refine o_iconst cx X560 (z := (1 : Int32)) d1_41 rfl ?_
  refine o_iadd cx X560 (z := (2 : Int32)) d1_42 rfl ?_
  refine o_dup2 cx X560 d1_43 rfl rfl ?_
  refine o_ldI cx X560 (v := (.int (0 : Int32))) d1_44 A552 2 (by decide) rfl rfl ?_
  refine o_iconst cx X560 (z := (1 : Int32)) d1_45 rfl ?_
  refine o_iadd cx X560 (z := (1 : Int32)) d1_46 rfl ?_
  refine o_stI cx X560 d1_47 A552 2 (by decide) rfl (Nat.le_of_ble_eq_true rfl) ge554 fun T563 h565 X564 W566 A552 => ?_
  have KK := KK.wr W566 (Or.inr sz_b547)
  have A552 : own_Ar Z h565 b547 .int [(.int (0 : Int32)), (.int (1 : Int32)), (.int (1 : Int32)), (.int (0 : Int32)), (.int (1 : Int32))] := A552
  refine o_iinc cx X564 (z := (3 : Int32)) (Ls' := #[rv aa, iv (Int32.ofNat nn), iv 4, rv rk, rv tx, rv pl, s6, rv b547, rv tx, iv 4, iv 3, iv 1, .unset, .unset, .unset]) d1_48 rfl rfl rfl ?_
  refine o_goto cx X564 23 d1_51 (by decide) (by decide) ?_
  refine o_iload cx X564 d1_23 rfl ?_
  refine o_iload cx X564 d1_25 rfl ?_
  refine o_icmpNo cx X564 d1_27 (by decide) ?_
  refine o_aload cx X564 d1_30 rfl rfl ?_
  refine o_iload cx X564 d1_32 rfl ?_
  refine o_ldI cx X564 (v := (.int (2 : Int32))) d1_34 (At.keep KK nin0) 3 (by decide) rfl rfl ?_
  refine o_istore cx X564 (Ls' := #[rv aa, iv (Int32.ofNat nn), iv 4, rv rk, rv tx, rv pl, s6, rv b547, rv tx, iv 4, iv 3, iv 2, .unset, .unset, .unset]) d1_35 rfl ?_
  refine o_aload cx X564 d1_37 rfl rfl ?_
  refine o_iload cx X564 d1_39 rfl ?_
  refine o_iconst cx X564 (z := (1 : Int32)) d1_41 rfl ?_
  refine o_iadd cx X564 (z := (3 : Int32)) d1_42 rfl ?_
  refine o_dup2 cx X564 d1_43 rfl rfl ?_
  refine o_ldI cx X564 (v := (.int (0 : Int32))) d1_44 A552 3 (by decide) rfl rfl ?_
  refine o_iconst cx X564 (z := (1 : Int32)) d1_45 rfl ?_
  refine o_iadd cx X564 (z := (1 : Int32)) d1_46 rfl ?_
  refine o_stI cx X564 d1_47 A552 3 (by decide) rfl (Nat.le_of_ble_eq_true rfl) ge554 fun T567 h569 X568 W570 A552 => ?_
  have KK := KK.wr W570 (Or.inr sz_b547)
  have A552 : own_Ar Z h569 b547 .int [(.int (0 : Int32)), (.int (1 : Int32)), (.int (1 : Int32)), (.int (1 : Int32)), (.int (1 : Int32))] := A552
  refine o_iinc cx X568 (z := (4 : Int32)) (Ls' := #[rv aa, iv (Int32.ofNat nn), iv 4, rv rk, rv tx, rv pl, s6, rv b547, rv tx, iv 4, iv 4, iv 2, .unset, .unset, .unset]) d1_48 rfl rfl rfl ?_
  refine o_goto cx X568 23 d1_51 (by decide) (by decide) ?_
  refine o_iload cx X568 d1_23 rfl ?_
  refine o_iload cx X568 d1_25 rfl ?_
  refine o_icmpYes cx X568 54 d1_27 (by decide) (by decide) (by decide) ?_
  refine o_iconst cx X568 (z := (0 : Int32)) d1_54 rfl ?_
  refine o_istore cx X568 (Ls' := #[rv aa, iv (Int32.ofNat nn), iv 4, rv rk, rv tx, rv pl, s6, rv b547, iv 0, iv 4, iv 4, iv 2, .unset, .unset, .unset]) d1_55 rfl ?_
  refine o_iload cx X568 d1_57 rfl ?_
  refine o_iloadN cx X568 d1_59 rfl ?_
  refine o_icmpNo cx X568 d1_60 (by decide) ?_
  refine o_aload cx X568 d1_63 rfl rfl ?_
  refine o_iload cx X568 d1_65 rfl ?_
  refine o_iconst cx X568 (z := (1 : Int32)) d1_67 rfl ?_
  refine o_iadd cx X568 (z := (1 : Int32)) d1_68 rfl ?_
  refine o_dup2 cx X568 d1_69 rfl rfl ?_
  refine o_ldI cx X568 (v := (.int (1 : Int32))) d1_70 A552 1 (by decide) rfl rfl ?_
  refine o_aload cx X568 d1_71 rfl rfl ?_
  refine o_iload cx X568 d1_73 rfl ?_
  refine o_ldI cx X568 (v := (.int (0 : Int32))) d1_75 A552 0 (by decide) rfl rfl ?_
  refine o_iadd cx X568 (z := (1 : Int32)) d1_76 rfl ?_
  refine o_stI cx X568 d1_77 A552 1 (by decide) rfl (Nat.le_of_ble_eq_true rfl) ge554 fun T571 h573 X572 W574 A552 => ?_
  have KK := KK.wr W574 (Or.inr sz_b547)
  have A552 : own_Ar Z h573 b547 .int [(.int (0 : Int32)), (.int (1 : Int32)), (.int (1 : Int32)), (.int (1 : Int32)), (.int (1 : Int32))] := A552
  refine o_iinc cx X572 (z := (1 : Int32)) (Ls' := #[rv aa, iv (Int32.ofNat nn), iv 4, rv rk, rv tx, rv pl, s6, rv b547, iv 1, iv 4, iv 4, iv 2, .unset, .unset, .unset]) d1_78 rfl rfl rfl ?_
  refine o_goto cx X572 57 d1_81 (by decide) (by decide) ?_
  refine o_iload cx X572 d1_57 rfl ?_
  refine o_iloadN cx X572 d1_59 rfl ?_
  refine o_icmpNo cx X572 d1_60 (by decide) ?_
  refine o_aload cx X572 d1_63 rfl rfl ?_
  refine o_iload cx X572 d1_65 rfl ?_
  refine o_iconst cx X572 (z := (1 : Int32)) d1_67 rfl ?_
  refine o_iadd cx X572 (z := (2 : Int32)) d1_68 rfl ?_
  refine o_dup2 cx X572 d1_69 rfl rfl ?_
  refine o_ldI cx X572 (v := (.int (1 : Int32))) d1_70 A552 2 (by decide) rfl rfl ?_
  refine o_aload cx X572 d1_71 rfl rfl ?_
  refine o_iload cx X572 d1_73 rfl ?_
  refine o_ldI cx X572 (v := (.int (1 : Int32))) d1_75 A552 1 (by decide) rfl rfl ?_
  refine o_iadd cx X572 (z := (2 : Int32)) d1_76 rfl ?_
  refine o_stI cx X572 d1_77 A552 2 (by decide) rfl (Nat.le_of_ble_eq_true rfl) ge554 fun T575 h577 X576 W578 A552 => ?_
  have KK := KK.wr W578 (Or.inr sz_b547)
  have A552 : own_Ar Z h577 b547 .int [(.int (0 : Int32)), (.int (1 : Int32)), (.int (2 : Int32)), (.int (1 : Int32)), (.int (1 : Int32))] := A552
  refine o_iinc cx X576 (z := (2 : Int32)) (Ls' := #[rv aa, iv (Int32.ofNat nn), iv 4, rv rk, rv tx, rv pl, s6, rv b547, iv 2, iv 4, iv 4, iv 2, .unset, .unset, .unset]) d1_78 rfl rfl rfl ?_
  refine o_goto cx X576 57 d1_81 (by decide) (by decide) ?_
  refine o_iload cx X576 d1_57 rfl ?_
  refine o_iloadN cx X576 d1_59 rfl ?_
  refine o_icmpNo cx X576 d1_60 (by decide) ?_
  refine o_aload cx X576 d1_63 rfl rfl ?_
  refine o_iload cx X576 d1_65 rfl ?_
  refine o_iconst cx X576 (z := (1 : Int32)) d1_67 rfl ?_
  refine o_iadd cx X576 (z := (3 : Int32)) d1_68 rfl ?_
  refine o_dup2 cx X576 d1_69 rfl rfl ?_
  refine o_ldI cx X576 (v := (.int (1 : Int32))) d1_70 A552 3 (by decide) rfl rfl ?_
  refine o_aload cx X576 d1_71 rfl rfl ?_
  refine o_iload cx X576 d1_73 rfl ?_
  refine o_ldI cx X576 (v := (.int (2 : Int32))) d1_75 A552 2 (by decide) rfl rfl ?_
  refine o_iadd cx X576 (z := (3 : Int32)) d1_76 rfl ?_
  refine o_stI cx X576 d1_77 A552 3 (by decide) rfl (Nat.le_of_ble_eq_true rfl) ge554 fun T579 h581 X580 W582 A552 => ?_
  have KK := KK.wr W582 (Or.inr sz_b547)
  have A552 : own_Ar Z h581 b547 .int [(.int (0 : Int32)), (.int (1 : Int32)), (.int (2 : Int32)), (.int (3 : Int32)), (.int (1 : Int32))] := A552
  refine o_iinc cx X580 (z := (3 : Int32)) (Ls' := #[rv aa, iv (Int32.ofNat nn), iv 4, rv rk, rv tx, rv pl, s6, rv b547, iv 3, iv 4, iv 4, iv 2, .unset, .unset, .unset]) d1_78 rfl rfl rfl ?_
  refine o_goto cx X580 57 d1_81 (by decide) (by decide) ?_
  refine o_iload cx X580 d1_57 rfl ?_
  refine o_iloadN cx X580 d1_59 rfl ?_
  refine o_icmpNo cx X580 d1_60 (by decide) ?_
  refine o_aload cx X580 d1_63 rfl rfl ?_
  refine o_iload cx X580 d1_65 rfl ?_
  refine o_iconst cx X580 (z := (1 : Int32)) d1_67 rfl ?_
  refine o_iadd cx X580 (z := (4 : Int32)) d1_68 rfl ?_
  refine o_dup2 cx X580 d1_69 rfl rfl ?_
  refine o_ldI cx X580 (v := (.int (1 : Int32))) d1_70 A552 4 (by decide) rfl rfl ?_
  refine o_aload cx X580 d1_71 rfl rfl ?_
  refine o_iload cx X580 d1_73 rfl ?_
  refine o_ldI cx X580 (v := (.int (3 : Int32))) d1_75 A552 3 (by decide) rfl rfl ?_
  refine o_iadd cx X580 (z := (4 : Int32)) d1_76 rfl ?_
  refine o_stI cx X580 d1_77 A552 4 (by decide) rfl (Nat.le_of_ble_eq_true rfl) ge554 fun T583 h585 X584 W586 A552 => ?_
  have KK := KK.wr W586 (Or.inr sz_b547)
  have A552 : own_Ar Z h585 b547 .int [(.int (0 : Int32)), (.int (1 : Int32)), (.int (2 : Int32)), (.int (3 : Int32)), (.int (4 : Int32))] := A552
  refine o_iinc cx X584 (z := (4 : Int32)) (Ls' := #[rv aa, iv (Int32.ofNat nn), iv 4, rv rk, rv tx, rv pl, s6, rv b547, iv 4, iv 4, iv 4, iv 2, .unset, .unset, .unset]) d1_78 rfl rfl rfl ?_
  refine o_goto cx X584 57 d1_81 (by decide) (by decide) ?_
  refine o_iload cx X584 d1_57 rfl ?_
  refine o_iloadN cx X584 d1_59 rfl ?_
  refine o_icmpYes cx X584 84 d1_60 (by decide) (by decide) (by decide) ?_
  refine o_aload cx X584 d1_84 rfl rfl ?_
  refine o_len cx X584 (z := (4 : Int32)) d1_86 (At.keep KK nin0) rfl ?_
  refine o_newP cx X584 d1_87 (o_w hw 1 rfl) (by decide) 4 4 rfl (Nat.le_refl _) (by decide) (by decide) (by decide) fun T588 h590 b587 gb593 ge594 X589 E591 A592 => ?_
  have ne_b547_b587 : b547 ≠ b587 := by rw [gb593]; exact Nat.ne_of_lt A552.lt
  have sz_b587 : h0.size ≤ b587 := by rw [gb593]; exact KK.1
  have A552 := A552.ext E591
  have KK := KK.ext E591
  have A592 : own_Ar Z h590 b587 .int [(.int (0 : Int32)), (.int (0 : Int32)), (.int (0 : Int32)), (.int (0 : Int32))] := A592
  refine o_astore cx X589 (Ls' := #[rv aa, iv (Int32.ofNat nn), iv 4, rv rk, rv tx, rv pl, s6, rv b547, rv b587, iv 4, iv 4, iv 2, .unset, .unset, .unset]) d1_89 rfl rfl ?_
  refine o_iconst cx X589 (z := (0 : Int32)) d1_91 rfl ?_
  refine o_istore cx X589 (Ls' := #[rv aa, iv (Int32.ofNat nn), iv 4, rv rk, rv tx, rv pl, s6, rv b547, rv b587, iv 0, iv 4, iv 2, .unset, .unset, .unset]) d1_92 rfl ?_
  refine o_iload cx X589 d1_94 rfl ?_
  refine o_aload cx X589 d1_96 rfl rfl ?_
  refine o_len cx X589 (z := (4 : Int32)) d1_98 (At.keep KK nin0) rfl ?_
  refine o_icmpNo cx X589 d1_99 (by decide) ?_
  refine o_aload cx X589 d1_102 rfl rfl ?_
  refine o_aload cx X589 d1_104 rfl rfl ?_
  refine o_aload cx X589 d1_106 rfl rfl ?_
  refine o_iload cx X589 d1_108 rfl ?_
  refine o_ldI cx X589 (v := (.int (3 : Int32))) d1_110 (At.keep KK nin0) 0 (by decide) rfl rfl ?_
  refine o_dup2 cx X589 d1_111 rfl rfl ?_
  refine o_ldI cx X589 (v := (.int (3 : Int32))) d1_112 A552 3 (by decide) rfl rfl ?_
  refine o_dup_x2 cx X589 d1_113 rfl rfl rfl ?_
  refine o_iconst cx X589 (z := (1 : Int32)) d1_114 rfl ?_
  refine o_iadd cx X589 (z := (4 : Int32)) d1_115 rfl ?_
  refine o_stI cx X589 d1_116 A552 3 (by decide) rfl (Nat.le_of_ble_eq_true rfl) ge554 fun T595 h597 X596 W598 A552 => ?_
  have A592 := A592.other W598 (Ne.symm ne_b547_b587)
  have KK := KK.wr W598 (Or.inr sz_b547)
  have A552 : own_Ar Z h597 b547 .int [(.int (0 : Int32)), (.int (1 : Int32)), (.int (2 : Int32)), (.int (4 : Int32)), (.int (4 : Int32))] := A552
  refine o_iload cx X596 d1_117 rfl ?_
  refine o_stI cx X596 d1_119 A592 3 (by decide) rfl (Nat.le_of_ble_eq_true rfl) ge594 fun T599 h601 X600 W602 A592 => ?_
  have A552 := A552.other W602 ne_b547_b587
  have KK := KK.wr W602 (Or.inr sz_b587)
  have A592 : own_Ar Z h601 b587 .int [(.int (0 : Int32)), (.int (0 : Int32)), (.int (0 : Int32)), (.int (0 : Int32))] := A592
  refine o_iinc cx X600 (z := (1 : Int32)) (Ls' := #[rv aa, iv (Int32.ofNat nn), iv 4, rv rk, rv tx, rv pl, s6, rv b547, rv b587, iv 1, iv 4, iv 2, .unset, .unset, .unset]) d1_120 rfl rfl rfl ?_
  refine o_goto cx X600 94 d1_123 (by decide) (by decide) ?_
  refine o_iload cx X600 d1_94 rfl ?_
  refine o_aload cx X600 d1_96 rfl rfl ?_
  refine o_len cx X600 (z := (4 : Int32)) d1_98 (At.keep KK nin0) rfl ?_
  refine o_icmpNo cx X600 d1_99 (by decide) ?_
  refine o_aload cx X600 d1_102 rfl rfl ?_
  refine o_aload cx X600 d1_104 rfl rfl ?_
  refine o_aload cx X600 d1_106 rfl rfl ?_
  refine o_iload cx X600 d1_108 rfl ?_
  refine o_ldI cx X600 (v := (.int (0 : Int32))) d1_110 (At.keep KK nin0) 1 (by decide) rfl rfl ?_
  refine o_dup2 cx X600 d1_111 rfl rfl ?_
  refine o_ldI cx X600 (v := (.int (0 : Int32))) d1_112 A552 0 (by decide) rfl rfl ?_
  refine o_dup_x2 cx X600 d1_113 rfl rfl rfl ?_
  refine o_iconst cx X600 (z := (1 : Int32)) d1_114 rfl ?_
  refine o_iadd cx X600 (z := (1 : Int32)) d1_115 rfl ?_
  refine o_stI cx X600 d1_116 A552 0 (by decide) rfl (Nat.le_of_ble_eq_true rfl) ge554 fun T603 h605 X604 W606 A552 => ?_
  have A592 := A592.other W606 (Ne.symm ne_b547_b587)
  have KK := KK.wr W606 (Or.inr sz_b547)
  have A552 : own_Ar Z h605 b547 .int [(.int (1 : Int32)), (.int (1 : Int32)), (.int (2 : Int32)), (.int (4 : Int32)), (.int (4 : Int32))] := A552
  refine o_iload cx X604 d1_117 rfl ?_
  refine o_stI cx X604 d1_119 A592 0 (by decide) rfl (Nat.le_of_ble_eq_true rfl) ge594 fun T607 h609 X608 W610 A592 => ?_
  have A552 := A552.other W610 ne_b547_b587
  have KK := KK.wr W610 (Or.inr sz_b587)
  have A592 : own_Ar Z h609 b587 .int [(.int (1 : Int32)), (.int (0 : Int32)), (.int (0 : Int32)), (.int (0 : Int32))] := A592
  refine o_iinc cx X608 (z := (2 : Int32)) (Ls' := #[rv aa, iv (Int32.ofNat nn), iv 4, rv rk, rv tx, rv pl, s6, rv b547, rv b587, iv 2, iv 4, iv 2, .unset, .unset, .unset]) d1_120 rfl rfl rfl ?_
  refine o_goto cx X608 94 d1_123 (by decide) (by decide) ?_
  refine o_iload cx X608 d1_94 rfl ?_
  refine o_aload cx X608 d1_96 rfl rfl ?_
  refine o_len cx X608 (z := (4 : Int32)) d1_98 (At.keep KK nin0) rfl ?_
  refine o_icmpNo cx X608 d1_99 (by decide) ?_
  refine o_aload cx X608 d1_102 rfl rfl ?_
  refine o_aload cx X608 d1_104 rfl rfl ?_
  refine o_aload cx X608 d1_106 rfl rfl ?_
  refine o_iload cx X608 d1_108 rfl ?_
  refine o_ldI cx X608 (v := (.int (1 : Int32))) d1_110 (At.keep KK nin0) 2 (by decide) rfl rfl ?_
  refine o_dup2 cx X608 d1_111 rfl rfl ?_
  refine o_ldI cx X608 (v := (.int (1 : Int32))) d1_112 A552 1 (by decide) rfl rfl ?_
  refine o_dup_x2 cx X608 d1_113 rfl rfl rfl ?_
  refine o_iconst cx X608 (z := (1 : Int32)) d1_114 rfl ?_
  refine o_iadd cx X608 (z := (2 : Int32)) d1_115 rfl ?_
  refine o_stI cx X608 d1_116 A552 1 (by decide) rfl (Nat.le_of_ble_eq_true rfl) ge554 fun T611 h613 X612 W614 A552 => ?_
  have A592 := A592.other W614 (Ne.symm ne_b547_b587)
  have KK := KK.wr W614 (Or.inr sz_b547)
  have A552 : own_Ar Z h613 b547 .int [(.int (1 : Int32)), (.int (2 : Int32)), (.int (2 : Int32)), (.int (4 : Int32)), (.int (4 : Int32))] := A552
  refine o_iload cx X612 d1_117 rfl ?_
  refine o_stI cx X612 d1_119 A592 1 (by decide) rfl (Nat.le_of_ble_eq_true rfl) ge594 fun T615 h617 X616 W618 A592 => ?_
  have A552 := A552.other W618 ne_b547_b587
  have KK := KK.wr W618 (Or.inr sz_b587)
  have A592 : own_Ar Z h617 b587 .int [(.int (1 : Int32)), (.int (2 : Int32)), (.int (0 : Int32)), (.int (0 : Int32))] := A592
  refine o_iinc cx X616 (z := (3 : Int32)) (Ls' := #[rv aa, iv (Int32.ofNat nn), iv 4, rv rk, rv tx, rv pl, s6, rv b547, rv b587, iv 3, iv 4, iv 2, .unset, .unset, .unset]) d1_120 rfl rfl rfl ?_
  refine o_goto cx X616 94 d1_123 (by decide) (by decide) ?_
  refine o_iload cx X616 d1_94 rfl ?_
  refine o_aload cx X616 d1_96 rfl rfl ?_
  refine o_len cx X616 (z := (4 : Int32)) d1_98 (At.keep KK nin0) rfl ?_
  refine o_icmpNo cx X616 d1_99 (by decide) ?_
  refine o_aload cx X616 d1_102 rfl rfl ?_
  refine o_aload cx X616 d1_104 rfl rfl ?_
  refine o_aload cx X616 d1_106 rfl rfl ?_
  refine o_iload cx X616 d1_108 rfl ?_
  refine o_ldI cx X616 (v := (.int (2 : Int32))) d1_110 (At.keep KK nin0) 3 (by decide) rfl rfl ?_
  refine o_dup2 cx X616 d1_111 rfl rfl ?_
  refine o_ldI cx X616 (v := (.int (2 : Int32))) d1_112 A552 2 (by decide) rfl rfl ?_
  refine o_dup_x2 cx X616 d1_113 rfl rfl rfl ?_
  refine o_iconst cx X616 (z := (1 : Int32)) d1_114 rfl ?_
  refine o_iadd cx X616 (z := (3 : Int32)) d1_115 rfl ?_
  refine o_stI cx X616 d1_116 A552 2 (by decide) rfl (Nat.le_of_ble_eq_true rfl) ge554 fun T619 h621 X620 W622 A552 => ?_
  have A592 := A592.other W622 (Ne.symm ne_b547_b587)
  have KK := KK.wr W622 (Or.inr sz_b547)
  have A552 : own_Ar Z h621 b547 .int [(.int (1 : Int32)), (.int (2 : Int32)), (.int (3 : Int32)), (.int (4 : Int32)), (.int (4 : Int32))] := A552
  refine o_iload cx X620 d1_117 rfl ?_
  refine o_stI cx X620 d1_119 A592 2 (by decide) rfl (Nat.le_of_ble_eq_true rfl) ge594 fun T623 h625 X624 W626 A592 => ?_
  have A552 := A552.other W626 ne_b547_b587
  have KK := KK.wr W626 (Or.inr sz_b587)
  have A592 : own_Ar Z h625 b587 .int [(.int (1 : Int32)), (.int (2 : Int32)), (.int (3 : Int32)), (.int (0 : Int32))] := A592
  refine o_iinc cx X624 (z := (4 : Int32)) (Ls' := #[rv aa, iv (Int32.ofNat nn), iv 4, rv rk, rv tx, rv pl, s6, rv b547, rv b587, iv 4, iv 4, iv 2, .unset, .unset, .unset]) d1_120 rfl rfl rfl ?_
  refine o_goto cx X624 94 d1_123 (by decide) (by decide) ?_
  refine o_iload cx X624 d1_94 rfl ?_
  refine o_aload cx X624 d1_96 rfl rfl ?_
  refine o_len cx X624 (z := (4 : Int32)) d1_98 (At.keep KK nin0) rfl ?_
  refine o_icmpYes cx X624 126 d1_99 (by decide) (by decide) (by decide) ?_
  have ne_aa_b587 : aa ≠ b587 := Nat.ne_of_lt (Nat.lt_of_lt_of_le E0.lt sz_b587)
  exact kk _ _ b547 b587 (4 : Int32) (4 : Int32) (2 : Int32) (X624.more (by decide) (by decide)) ge594 ne_aa_b587  (E0.keep KK) (F0.keep KK nin0) (F1.keep KK nin0) (F2.keep KK nin0) (F3.keep KK nin0) (Ar.keep KK nin0) (At.keep KK nin0) (Ap.keep KK nin0) (Ac.keep KK nin0) A592
set_option maxRecDepth 65536 in
set_option maxHeartbeats 40000000 in
theorem segA_5_0 {p : Program} {l : Launch} {e : Env} {s : State} {m : MethodId} {below : List Frame} {meth : Method} {c : Code} {n0 : Nat} {T0 : State} {h0 : Heap} {Z : State} {a0 : Array Value} {args : Array Value} {P : State → Outcome → Prop} (hw : ∀ d ∈ tables_1, d.before a0 Z = true) (aa rk tx pl : Addr) (nn k0 k1 k2 k3 : Nat) (v0 v1 v2 v3 : Int32) (s6 : Slot) (cv : Addr) (vcs : List Value) (cx : own_Cx p s m meth c Z prog_28_method_2_code 15 (⟨"com/example/rough_dedup/roughdedup/ShingleIndex$Postings", "<init>", "(II[I[I[I[I)V"⟩ : MethodName) none) (X0 : own_Sd p l e ({ frames := 2, cells := 7, slots := 41, locals := 74 } : Room) s m args below meth c n0 T0 h0 0 0) (ga : n0 ≤ aa) (ne_aa_rk : aa ≠ rk) (ne_aa_tx : aa ≠ tx) (ne_aa_pl : aa ≠ pl) (E0 : Exa Z h0 aa "com/example/rough_dedup/roughdedup/ShingleIndex$Postings") (F0 : Fld Z h0 aa "com/example/rough_dedup/roughdedup/ShingleIndex$Postings" "starts" "[I" .null) (F1 : Fld Z h0 aa "com/example/rough_dedup/roughdedup/ShingleIndex$Postings" "texts" "[I" .null) (F2 : Fld Z h0 aa "com/example/rough_dedup/roughdedup/ShingleIndex$Postings" "places" "[I" .null) (F3 : Fld Z h0 aa "com/example/rough_dedup/roughdedup/ShingleIndex$Postings" "covered" "[I" .null) (Ar : own_Ar Z h0 rk .int [(.int (Int32.ofNat k0)), (.int (Int32.ofNat k1)), (.int (Int32.ofNat k2)), (.int (Int32.ofNat k3))]) (At : own_Ar Z h0 tx .int [(.int (0 : Int32)), (.int (1 : Int32)), (.int (2 : Int32)), (.int (3 : Int32))]) (Ap : own_Ar Z h0 pl .int [(.int v0), (.int v1), (.int v2), (.int v3)]) (Ac : own_Ar Z h0 cv .int vcs) (kk : ∀ (T : State) (h : Heap) (ts bt : Addr) (x9 x10 x11 : Int32), own_Sd p l e ({ frames := 2, cells := 7, slots := 41, locals := 74 } : Room) s m args below meth c n0 T h 2 12 → n0 ≤ bt → aa ≠ bt → Exa Z h aa "com/example/rough_dedup/roughdedup/ShingleIndex$Postings" → Fld Z h aa "com/example/rough_dedup/roughdedup/ShingleIndex$Postings" "starts" "[I" .null → Fld Z h aa "com/example/rough_dedup/roughdedup/ShingleIndex$Postings" "texts" "[I" .null → Fld Z h aa "com/example/rough_dedup/roughdedup/ShingleIndex$Postings" "places" "[I" .null → Fld Z h aa "com/example/rough_dedup/roughdedup/ShingleIndex$Postings" "covered" "[I" .null → own_Ar Z h rk .int [(.int (Int32.ofNat k0)), (.int (Int32.ofNat k1)), (.int (Int32.ofNat k2)), (.int (Int32.ofNat k3))] → own_Ar Z h tx .int [(.int (0 : Int32)), (.int (1 : Int32)), (.int (2 : Int32)), (.int (3 : Int32))] → own_Ar Z h pl .int [(.int v0), (.int v1), (.int v2), (.int v3)] → own_Ar Z h cv .int vcs → own_Ar Z h bt .int [(.int (0 : Int32)), (.int (1 : Int32)), (.int (2 : Int32)), (.int (3 : Int32))] → own_Go p e below P (T.setTop (mkF m 126 #[rv aa, iv (Int32.ofNat nn), iv 5, rv rk, rv tx, rv pl, s6, .val (.ref ts), .val (.ref bt), .val (.int x9), .val (.int x10), .val (.int x11), .unset, .unset, .unset] []))) :
    own_Go p e below P (T0.setTop (mkF m 0 #[rv aa, iv (Int32.ofNat nn), iv 5, rv rk, rv tx, rv pl, s6, .unset, .unset, .unset, .unset, .unset, .unset, .unset, .unset] [])) := by
  have KK := Keep.refl h0 []
  refine o_aloadN cx X0 d1_0 rfl rfl ?_
  refine o_initO cx X0 d1_1 (o_w hw 9 rfl) (o_w hw 10 rfl) (o_w hw 11 rfl) rfl (by decide) 0 rfl (by decide) fun T627 X628 => ?_
  refine o_iloadN cx X628 d1_4 rfl ?_
  refine o_iconst cx X628 (z := (1 : Int32)) d1_5 rfl ?_
  refine o_iadd cx X628 (z := (6 : Int32)) d1_6 rfl ?_
  refine o_newP cx X628 d1_7 (o_w hw 1 rfl) (by decide) 6 6 rfl (Nat.le_refl _) (by decide) (by decide) (by decide) fun T630 h632 b629 gb635 ge636 X631 E633 A634 => ?_
  have sz_b629 : h0.size ≤ b629 := by rw [gb635]; exact KK.1
  have KK := KK.ext E633
  have A634 : own_Ar Z h632 b629 .int [(.int (0 : Int32)), (.int (0 : Int32)), (.int (0 : Int32)), (.int (0 : Int32)), (.int (0 : Int32)), (.int (0 : Int32))] := A634
  refine o_astore cx X631 (Ls' := #[rv aa, iv (Int32.ofNat nn), iv 5, rv rk, rv tx, rv pl, s6, rv b629, .unset, .unset, .unset, .unset, .unset, .unset, .unset]) d1_9 rfl rfl ?_
  refine o_aload cx X631 d1_11 rfl rfl ?_
  refine o_astore cx X631 (Ls' := #[rv aa, iv (Int32.ofNat nn), iv 5, rv rk, rv tx, rv pl, s6, rv b629, rv tx, .unset, .unset, .unset, .unset, .unset, .unset]) d1_13 rfl rfl ?_
  refine o_aload cx X631 d1_15 rfl rfl ?_
  refine o_len cx X631 (z := (4 : Int32)) d1_17 (At.keep KK nin0) rfl ?_
  refine o_istore cx X631 (Ls' := #[rv aa, iv (Int32.ofNat nn), iv 5, rv rk, rv tx, rv pl, s6, rv b629, rv tx, iv 4, .unset, .unset, .unset, .unset, .unset]) d1_18 rfl ?_
  refine o_iconst cx X631 (z := (0 : Int32)) d1_20 rfl ?_
  refine o_istore cx X631 (Ls' := #[rv aa, iv (Int32.ofNat nn), iv 5, rv rk, rv tx, rv pl, s6, rv b629, rv tx, iv 4, iv 0, .unset, .unset, .unset, .unset]) d1_21 rfl ?_
  refine o_iload cx X631 d1_23 rfl ?_
  refine o_iload cx X631 d1_25 rfl ?_
  refine o_icmpNo cx X631 d1_27 (by decide) ?_
  refine o_aload cx X631 d1_30 rfl rfl ?_
  refine o_iload cx X631 d1_32 rfl ?_
  refine o_ldI cx X631 (v := (.int (0 : Int32))) d1_34 (At.keep KK nin0) 0 (by decide) rfl rfl ?_
  refine o_istore cx X631 (Ls' := #[rv aa, iv (Int32.ofNat nn), iv 5, rv rk, rv tx, rv pl, s6, rv b629, rv tx, iv 4, iv 0, iv 0, .unset, .unset, .unset]) d1_35 rfl ?_
  refine o_aload cx X631 d1_37 rfl rfl ?_
  refine o_iload cx X631 d1_39 rfl ?_
  refine o_iconst cx X631 (z := (1 : Int32)) d1_41 rfl ?_
  refine o_iadd cx X631 (z := (1 : Int32)) d1_42 rfl ?_
  refine o_dup2 cx X631 d1_43 rfl rfl ?_
  refine o_ldI cx X631 (v := (.int (0 : Int32))) d1_44 A634 1 (by decide) rfl rfl ?_
  refine o_iconst cx X631 (z := (1 : Int32)) d1_45 rfl ?_
  refine o_iadd cx X631 (z := (1 : Int32)) d1_46 rfl ?_
  refine o_stI cx X631 d1_47 A634 1 (by decide) rfl (Nat.le_of_ble_eq_true rfl) ge636 fun T637 h639 X638 W640 A634 => ?_
  have KK := KK.wr W640 (Or.inr sz_b629)
  have A634 : own_Ar Z h639 b629 .int [(.int (0 : Int32)), (.int (1 : Int32)), (.int (0 : Int32)), (.int (0 : Int32)), (.int (0 : Int32)), (.int (0 : Int32))] := A634
  refine o_iinc cx X638 (z := (1 : Int32)) (Ls' := #[rv aa, iv (Int32.ofNat nn), iv 5, rv rk, rv tx, rv pl, s6, rv b629, rv tx, iv 4, iv 1, iv 0, .unset, .unset, .unset]) d1_48 rfl rfl rfl ?_
  refine o_goto cx X638 23 d1_51 (by decide) (by decide) ?_
  refine o_iload cx X638 d1_23 rfl ?_
  refine o_iload cx X638 d1_25 rfl ?_
  refine o_icmpNo cx X638 d1_27 (by decide) ?_
  refine o_aload cx X638 d1_30 rfl rfl ?_
  refine o_iload cx X638 d1_32 rfl ?_
  refine o_ldI cx X638 (v := (.int (1 : Int32))) d1_34 (At.keep KK nin0) 1 (by decide) rfl rfl ?_
  refine o_istore cx X638 (Ls' := #[rv aa, iv (Int32.ofNat nn), iv 5, rv rk, rv tx, rv pl, s6, rv b629, rv tx, iv 4, iv 1, iv 1, .unset, .unset, .unset]) d1_35 rfl ?_
  refine o_aload cx X638 d1_37 rfl rfl ?_
  refine o_iload cx X638 d1_39 rfl ?_
  refine o_iconst cx X638 (z := (1 : Int32)) d1_41 rfl ?_
  refine o_iadd cx X638 (z := (2 : Int32)) d1_42 rfl ?_
  refine o_dup2 cx X638 d1_43 rfl rfl ?_
  refine o_ldI cx X638 (v := (.int (0 : Int32))) d1_44 A634 2 (by decide) rfl rfl ?_
  refine o_iconst cx X638 (z := (1 : Int32)) d1_45 rfl ?_
  refine o_iadd cx X638 (z := (1 : Int32)) d1_46 rfl ?_
  refine o_stI cx X638 d1_47 A634 2 (by decide) rfl (Nat.le_of_ble_eq_true rfl) ge636 fun T641 h643 X642 W644 A634 => ?_
  have KK := KK.wr W644 (Or.inr sz_b629)
  have A634 : own_Ar Z h643 b629 .int [(.int (0 : Int32)), (.int (1 : Int32)), (.int (1 : Int32)), (.int (0 : Int32)), (.int (0 : Int32)), (.int (0 : Int32))] := A634
  refine o_iinc cx X642 (z := (2 : Int32)) (Ls' := #[rv aa, iv (Int32.ofNat nn), iv 5, rv rk, rv tx, rv pl, s6, rv b629, rv tx, iv 4, iv 2, iv 1, .unset, .unset, .unset]) d1_48 rfl rfl rfl ?_
  refine o_goto cx X642 23 d1_51 (by decide) (by decide) ?_
  refine o_iload cx X642 d1_23 rfl ?_
  refine o_iload cx X642 d1_25 rfl ?_
  refine o_icmpNo cx X642 d1_27 (by decide) ?_
  refine o_aload cx X642 d1_30 rfl rfl ?_
  refine o_iload cx X642 d1_32 rfl ?_
  refine o_ldI cx X642 (v := (.int (2 : Int32))) d1_34 (At.keep KK nin0) 2 (by decide) rfl rfl ?_
  refine o_istore cx X642 (Ls' := #[rv aa, iv (Int32.ofNat nn), iv 5, rv rk, rv tx, rv pl, s6, rv b629, rv tx, iv 4, iv 2, iv 2, .unset, .unset, .unset]) d1_35 rfl ?_
  refine o_aload cx X642 d1_37 rfl rfl ?_
  refine o_iload cx X642 d1_39 rfl ?_
  refine o_iconst cx X642 (z := (1 : Int32)) d1_41 rfl ?_
  refine o_iadd cx X642 (z := (3 : Int32)) d1_42 rfl ?_
  refine o_dup2 cx X642 d1_43 rfl rfl ?_
  refine o_ldI cx X642 (v := (.int (0 : Int32))) d1_44 A634 3 (by decide) rfl rfl ?_
  refine o_iconst cx X642 (z := (1 : Int32)) d1_45 rfl ?_
  refine o_iadd cx X642 (z := (1 : Int32)) d1_46 rfl ?_
  refine o_stI cx X642 d1_47 A634 3 (by decide) rfl (Nat.le_of_ble_eq_true rfl) ge636 fun T645 h647 X646 W648 A634 => ?_
  have KK := KK.wr W648 (Or.inr sz_b629)
  have A634 : own_Ar Z h647 b629 .int [(.int (0 : Int32)), (.int (1 : Int32)), (.int (1 : Int32)), (.int (1 : Int32)), (.int (0 : Int32)), (.int (0 : Int32))] := A634
  refine o_iinc cx X646 (z := (3 : Int32)) (Ls' := #[rv aa, iv (Int32.ofNat nn), iv 5, rv rk, rv tx, rv pl, s6, rv b629, rv tx, iv 4, iv 3, iv 2, .unset, .unset, .unset]) d1_48 rfl rfl rfl ?_
  refine o_goto cx X646 23 d1_51 (by decide) (by decide) ?_
  refine o_iload cx X646 d1_23 rfl ?_
  refine o_iload cx X646 d1_25 rfl ?_
  refine o_icmpNo cx X646 d1_27 (by decide) ?_
  refine o_aload cx X646 d1_30 rfl rfl ?_
  refine o_iload cx X646 d1_32 rfl ?_
  refine o_ldI cx X646 (v := (.int (3 : Int32))) d1_34 (At.keep KK nin0) 3 (by decide) rfl rfl ?_
  refine o_istore cx X646 (Ls' := #[rv aa, iv (Int32.ofNat nn), iv 5, rv rk, rv tx, rv pl, s6, rv b629, rv tx, iv 4, iv 3, iv 3, .unset, .unset, .unset]) d1_35 rfl ?_
  refine o_aload cx X646 d1_37 rfl rfl ?_
  refine o_iload cx X646 d1_39 rfl ?_
  refine o_iconst cx X646 (z := (1 : Int32)) d1_41 rfl ?_
  refine o_iadd cx X646 (z := (4 : Int32)) d1_42 rfl ?_
  refine o_dup2 cx X646 d1_43 rfl rfl ?_
  refine o_ldI cx X646 (v := (.int (0 : Int32))) d1_44 A634 4 (by decide) rfl rfl ?_
  refine o_iconst cx X646 (z := (1 : Int32)) d1_45 rfl ?_
  refine o_iadd cx X646 (z := (1 : Int32)) d1_46 rfl ?_
  refine o_stI cx X646 d1_47 A634 4 (by decide) rfl (Nat.le_of_ble_eq_true rfl) ge636 fun T649 h651 X650 W652 A634 => ?_
  have KK := KK.wr W652 (Or.inr sz_b629)
  have A634 : own_Ar Z h651 b629 .int [(.int (0 : Int32)), (.int (1 : Int32)), (.int (1 : Int32)), (.int (1 : Int32)), (.int (1 : Int32)), (.int (0 : Int32))] := A634
  refine o_iinc cx X650 (z := (4 : Int32)) (Ls' := #[rv aa, iv (Int32.ofNat nn), iv 5, rv rk, rv tx, rv pl, s6, rv b629, rv tx, iv 4, iv 4, iv 3, .unset, .unset, .unset]) d1_48 rfl rfl rfl ?_
  refine o_goto cx X650 23 d1_51 (by decide) (by decide) ?_
  refine o_iload cx X650 d1_23 rfl ?_
  refine o_iload cx X650 d1_25 rfl ?_
  refine o_icmpYes cx X650 54 d1_27 (by decide) (by decide) (by decide) ?_
  refine o_iconst cx X650 (z := (0 : Int32)) d1_54 rfl ?_
  refine o_istore cx X650 (Ls' := #[rv aa, iv (Int32.ofNat nn), iv 5, rv rk, rv tx, rv pl, s6, rv b629, iv 0, iv 4, iv 4, iv 3, .unset, .unset, .unset]) d1_55 rfl ?_
  refine o_iload cx X650 d1_57 rfl ?_
  refine o_iloadN cx X650 d1_59 rfl ?_
  refine o_icmpNo cx X650 d1_60 (by decide) ?_
  refine o_aload cx X650 d1_63 rfl rfl ?_
  refine o_iload cx X650 d1_65 rfl ?_
  refine o_iconst cx X650 (z := (1 : Int32)) d1_67 rfl ?_
  refine o_iadd cx X650 (z := (1 : Int32)) d1_68 rfl ?_
  refine o_dup2 cx X650 d1_69 rfl rfl ?_
  refine o_ldI cx X650 (v := (.int (1 : Int32))) d1_70 A634 1 (by decide) rfl rfl ?_
  refine o_aload cx X650 d1_71 rfl rfl ?_
  refine o_iload cx X650 d1_73 rfl ?_
  refine o_ldI cx X650 (v := (.int (0 : Int32))) d1_75 A634 0 (by decide) rfl rfl ?_
  refine o_iadd cx X650 (z := (1 : Int32)) d1_76 rfl ?_
  refine o_stI cx X650 d1_77 A634 1 (by decide) rfl (Nat.le_of_ble_eq_true rfl) ge636 fun T653 h655 X654 W656 A634 => ?_
  have KK := KK.wr W656 (Or.inr sz_b629)
  have A634 : own_Ar Z h655 b629 .int [(.int (0 : Int32)), (.int (1 : Int32)), (.int (1 : Int32)), (.int (1 : Int32)), (.int (1 : Int32)), (.int (0 : Int32))] := A634
  refine o_iinc cx X654 (z := (1 : Int32)) (Ls' := #[rv aa, iv (Int32.ofNat nn), iv 5, rv rk, rv tx, rv pl, s6, rv b629, iv 1, iv 4, iv 4, iv 3, .unset, .unset, .unset]) d1_78 rfl rfl rfl ?_
  refine o_goto cx X654 57 d1_81 (by decide) (by decide) ?_
  refine o_iload cx X654 d1_57 rfl ?_
  refine o_iloadN cx X654 d1_59 rfl ?_
  refine o_icmpNo cx X654 d1_60 (by decide) ?_
  refine o_aload cx X654 d1_63 rfl rfl ?_
  refine o_iload cx X654 d1_65 rfl ?_
  refine o_iconst cx X654 (z := (1 : Int32)) d1_67 rfl ?_
  refine o_iadd cx X654 (z := (2 : Int32)) d1_68 rfl ?_
  refine o_dup2 cx X654 d1_69 rfl rfl ?_
  refine o_ldI cx X654 (v := (.int (1 : Int32))) d1_70 A634 2 (by decide) rfl rfl ?_
  refine o_aload cx X654 d1_71 rfl rfl ?_
  refine o_iload cx X654 d1_73 rfl ?_
  refine o_ldI cx X654 (v := (.int (1 : Int32))) d1_75 A634 1 (by decide) rfl rfl ?_
  refine o_iadd cx X654 (z := (2 : Int32)) d1_76 rfl ?_
  refine o_stI cx X654 d1_77 A634 2 (by decide) rfl (Nat.le_of_ble_eq_true rfl) ge636 fun T657 h659 X658 W660 A634 => ?_
  have KK := KK.wr W660 (Or.inr sz_b629)
  have A634 : own_Ar Z h659 b629 .int [(.int (0 : Int32)), (.int (1 : Int32)), (.int (2 : Int32)), (.int (1 : Int32)), (.int (1 : Int32)), (.int (0 : Int32))] := A634
  refine o_iinc cx X658 (z := (2 : Int32)) (Ls' := #[rv aa, iv (Int32.ofNat nn), iv 5, rv rk, rv tx, rv pl, s6, rv b629, iv 2, iv 4, iv 4, iv 3, .unset, .unset, .unset]) d1_78 rfl rfl rfl ?_
  refine o_goto cx X658 57 d1_81 (by decide) (by decide) ?_
  refine o_iload cx X658 d1_57 rfl ?_
  refine o_iloadN cx X658 d1_59 rfl ?_
  refine o_icmpNo cx X658 d1_60 (by decide) ?_
  refine o_aload cx X658 d1_63 rfl rfl ?_
  refine o_iload cx X658 d1_65 rfl ?_
  refine o_iconst cx X658 (z := (1 : Int32)) d1_67 rfl ?_
  refine o_iadd cx X658 (z := (3 : Int32)) d1_68 rfl ?_
  refine o_dup2 cx X658 d1_69 rfl rfl ?_
  refine o_ldI cx X658 (v := (.int (1 : Int32))) d1_70 A634 3 (by decide) rfl rfl ?_
  refine o_aload cx X658 d1_71 rfl rfl ?_
  refine o_iload cx X658 d1_73 rfl ?_
  refine o_ldI cx X658 (v := (.int (2 : Int32))) d1_75 A634 2 (by decide) rfl rfl ?_
  refine o_iadd cx X658 (z := (3 : Int32)) d1_76 rfl ?_
  refine o_stI cx X658 d1_77 A634 3 (by decide) rfl (Nat.le_of_ble_eq_true rfl) ge636 fun T661 h663 X662 W664 A634 => ?_
  have KK := KK.wr W664 (Or.inr sz_b629)
  have A634 : own_Ar Z h663 b629 .int [(.int (0 : Int32)), (.int (1 : Int32)), (.int (2 : Int32)), (.int (3 : Int32)), (.int (1 : Int32)), (.int (0 : Int32))] := A634
  refine o_iinc cx X662 (z := (3 : Int32)) (Ls' := #[rv aa, iv (Int32.ofNat nn), iv 5, rv rk, rv tx, rv pl, s6, rv b629, iv 3, iv 4, iv 4, iv 3, .unset, .unset, .unset]) d1_78 rfl rfl rfl ?_
  refine o_goto cx X662 57 d1_81 (by decide) (by decide) ?_
  refine o_iload cx X662 d1_57 rfl ?_
  refine o_iloadN cx X662 d1_59 rfl ?_
  refine o_icmpNo cx X662 d1_60 (by decide) ?_
  refine o_aload cx X662 d1_63 rfl rfl ?_
  refine o_iload cx X662 d1_65 rfl ?_
  refine o_iconst cx X662 (z := (1 : Int32)) d1_67 rfl ?_
  refine o_iadd cx X662 (z := (4 : Int32)) d1_68 rfl ?_
  refine o_dup2 cx X662 d1_69 rfl rfl ?_
  refine o_ldI cx X662 (v := (.int (1 : Int32))) d1_70 A634 4 (by decide) rfl rfl ?_
  refine o_aload cx X662 d1_71 rfl rfl ?_
  refine o_iload cx X662 d1_73 rfl ?_
  refine o_ldI cx X662 (v := (.int (3 : Int32))) d1_75 A634 3 (by decide) rfl rfl ?_
  refine o_iadd cx X662 (z := (4 : Int32)) d1_76 rfl ?_
  refine o_stI cx X662 d1_77 A634 4 (by decide) rfl (Nat.le_of_ble_eq_true rfl) ge636 fun T665 h667 X666 W668 A634 => ?_
  have KK := KK.wr W668 (Or.inr sz_b629)
  have A634 : own_Ar Z h667 b629 .int [(.int (0 : Int32)), (.int (1 : Int32)), (.int (2 : Int32)), (.int (3 : Int32)), (.int (4 : Int32)), (.int (0 : Int32))] := A634
  refine o_iinc cx X666 (z := (4 : Int32)) (Ls' := #[rv aa, iv (Int32.ofNat nn), iv 5, rv rk, rv tx, rv pl, s6, rv b629, iv 4, iv 4, iv 4, iv 3, .unset, .unset, .unset]) d1_78 rfl rfl rfl ?_
  refine o_goto cx X666 57 d1_81 (by decide) (by decide) ?_
  refine o_iload cx X666 d1_57 rfl ?_
  refine o_iloadN cx X666 d1_59 rfl ?_
  refine o_icmpNo cx X666 d1_60 (by decide) ?_
  refine o_aload cx X666 d1_63 rfl rfl ?_
  refine o_iload cx X666 d1_65 rfl ?_
  refine o_iconst cx X666 (z := (1 : Int32)) d1_67 rfl ?_
  refine o_iadd cx X666 (z := (5 : Int32)) d1_68 rfl ?_
  refine o_dup2 cx X666 d1_69 rfl rfl ?_
  refine o_ldI cx X666 (v := (.int (0 : Int32))) d1_70 A634 5 (by decide) rfl rfl ?_
  refine o_aload cx X666 d1_71 rfl rfl ?_
  refine o_iload cx X666 d1_73 rfl ?_
  refine o_ldI cx X666 (v := (.int (4 : Int32))) d1_75 A634 4 (by decide) rfl rfl ?_
  refine o_iadd cx X666 (z := (4 : Int32)) d1_76 rfl ?_
  refine o_stI cx X666 d1_77 A634 5 (by decide) rfl (Nat.le_of_ble_eq_true rfl) ge636 fun T669 h671 X670 W672 A634 => ?_
  have KK := KK.wr W672 (Or.inr sz_b629)
  have A634 : own_Ar Z h671 b629 .int [(.int (0 : Int32)), (.int (1 : Int32)), (.int (2 : Int32)), (.int (3 : Int32)), (.int (4 : Int32)), (.int (4 : Int32))] := A634
  refine o_iinc cx X670 (z := (5 : Int32)) (Ls' := #[rv aa, iv (Int32.ofNat nn), iv 5, rv rk, rv tx, rv pl, s6, rv b629, iv 5, iv 4, iv 4, iv 3, .unset, .unset, .unset]) d1_78 rfl rfl rfl ?_
  refine o_goto cx X670 57 d1_81 (by decide) (by decide) ?_
  refine o_iload cx X670 d1_57 rfl ?_
  refine o_iloadN cx X670 d1_59 rfl ?_
  refine o_icmpYes cx X670 84 d1_60 (by decide) (by decide) (by decide) ?_
  refine o_aload cx X670 d1_84 rfl rfl ?_
  refine o_len cx X670 (z := (4 : Int32)) d1_86 (At.keep KK nin0) rfl ?_
  refine o_newP cx X670 d1_87 (o_w hw 1 rfl) (by decide) 4 4 rfl (Nat.le_refl _) (by decide) (by decide) (by decide) fun T674 h676 b673 gb679 ge680 X675 E677 A678 => ?_
  have ne_b629_b673 : b629 ≠ b673 := by rw [gb679]; exact Nat.ne_of_lt A634.lt
  have sz_b673 : h0.size ≤ b673 := by rw [gb679]; exact KK.1
  have A634 := A634.ext E677
  have KK := KK.ext E677
  have A678 : own_Ar Z h676 b673 .int [(.int (0 : Int32)), (.int (0 : Int32)), (.int (0 : Int32)), (.int (0 : Int32))] := A678
  refine o_astore cx X675 (Ls' := #[rv aa, iv (Int32.ofNat nn), iv 5, rv rk, rv tx, rv pl, s6, rv b629, rv b673, iv 4, iv 4, iv 3, .unset, .unset, .unset]) d1_89 rfl rfl ?_
  refine o_iconst cx X675 (z := (0 : Int32)) d1_91 rfl ?_
  refine o_istore cx X675 (Ls' := #[rv aa, iv (Int32.ofNat nn), iv 5, rv rk, rv tx, rv pl, s6, rv b629, rv b673, iv 0, iv 4, iv 3, .unset, .unset, .unset]) d1_92 rfl ?_
  refine o_iload cx X675 d1_94 rfl ?_
  refine o_aload cx X675 d1_96 rfl rfl ?_
  refine o_len cx X675 (z := (4 : Int32)) d1_98 (At.keep KK nin0) rfl ?_
  refine o_icmpNo cx X675 d1_99 (by decide) ?_
  refine o_aload cx X675 d1_102 rfl rfl ?_
  refine o_aload cx X675 d1_104 rfl rfl ?_
  refine o_aload cx X675 d1_106 rfl rfl ?_
  refine o_iload cx X675 d1_108 rfl ?_
  refine o_ldI cx X675 (v := (.int (0 : Int32))) d1_110 (At.keep KK nin0) 0 (by decide) rfl rfl ?_
  refine o_dup2 cx X675 d1_111 rfl rfl ?_
  refine o_ldI cx X675 (v := (.int (0 : Int32))) d1_112 A634 0 (by decide) rfl rfl ?_
  refine o_dup_x2 cx X675 d1_113 rfl rfl rfl ?_
  refine o_iconst cx X675 (z := (1 : Int32)) d1_114 rfl ?_
  refine o_iadd cx X675 (z := (1 : Int32)) d1_115 rfl ?_
  refine o_stI cx X675 d1_116 A634 0 (by decide) rfl (Nat.le_of_ble_eq_true rfl) ge636 fun T681 h683 X682 W684 A634 => ?_
  have A678 := A678.other W684 (Ne.symm ne_b629_b673)
  have KK := KK.wr W684 (Or.inr sz_b629)
  have A634 : own_Ar Z h683 b629 .int [(.int (1 : Int32)), (.int (1 : Int32)), (.int (2 : Int32)), (.int (3 : Int32)), (.int (4 : Int32)), (.int (4 : Int32))] := A634
  refine o_iload cx X682 d1_117 rfl ?_
  refine o_stI cx X682 d1_119 A678 0 (by decide) rfl (Nat.le_of_ble_eq_true rfl) ge680 fun T685 h687 X686 W688 A678 => ?_
  have A634 := A634.other W688 ne_b629_b673
  have KK := KK.wr W688 (Or.inr sz_b673)
  have A678 : own_Ar Z h687 b673 .int [(.int (0 : Int32)), (.int (0 : Int32)), (.int (0 : Int32)), (.int (0 : Int32))] := A678
  refine o_iinc cx X686 (z := (1 : Int32)) (Ls' := #[rv aa, iv (Int32.ofNat nn), iv 5, rv rk, rv tx, rv pl, s6, rv b629, rv b673, iv 1, iv 4, iv 3, .unset, .unset, .unset]) d1_120 rfl rfl rfl ?_
  refine o_goto cx X686 94 d1_123 (by decide) (by decide) ?_
  refine o_iload cx X686 d1_94 rfl ?_
  refine o_aload cx X686 d1_96 rfl rfl ?_
  refine o_len cx X686 (z := (4 : Int32)) d1_98 (At.keep KK nin0) rfl ?_
  refine o_icmpNo cx X686 d1_99 (by decide) ?_
  refine o_aload cx X686 d1_102 rfl rfl ?_
  refine o_aload cx X686 d1_104 rfl rfl ?_
  refine o_aload cx X686 d1_106 rfl rfl ?_
  refine o_iload cx X686 d1_108 rfl ?_
  refine o_ldI cx X686 (v := (.int (1 : Int32))) d1_110 (At.keep KK nin0) 1 (by decide) rfl rfl ?_
  refine o_dup2 cx X686 d1_111 rfl rfl ?_
  refine o_ldI cx X686 (v := (.int (1 : Int32))) d1_112 A634 1 (by decide) rfl rfl ?_
  refine o_dup_x2 cx X686 d1_113 rfl rfl rfl ?_
  refine o_iconst cx X686 (z := (1 : Int32)) d1_114 rfl ?_
  refine o_iadd cx X686 (z := (2 : Int32)) d1_115 rfl ?_
  refine o_stI cx X686 d1_116 A634 1 (by decide) rfl (Nat.le_of_ble_eq_true rfl) ge636 fun T689 h691 X690 W692 A634 => ?_
  have A678 := A678.other W692 (Ne.symm ne_b629_b673)
  have KK := KK.wr W692 (Or.inr sz_b629)
  have A634 : own_Ar Z h691 b629 .int [(.int (1 : Int32)), (.int (2 : Int32)), (.int (2 : Int32)), (.int (3 : Int32)), (.int (4 : Int32)), (.int (4 : Int32))] := A634
  refine o_iload cx X690 d1_117 rfl ?_
  refine o_stI cx X690 d1_119 A678 1 (by decide) rfl (Nat.le_of_ble_eq_true rfl) ge680 fun T693 h695 X694 W696 A678 => ?_
  have A634 := A634.other W696 ne_b629_b673
  have KK := KK.wr W696 (Or.inr sz_b673)
  have A678 : own_Ar Z h695 b673 .int [(.int (0 : Int32)), (.int (1 : Int32)), (.int (0 : Int32)), (.int (0 : Int32))] := A678
  refine o_iinc cx X694 (z := (2 : Int32)) (Ls' := #[rv aa, iv (Int32.ofNat nn), iv 5, rv rk, rv tx, rv pl, s6, rv b629, rv b673, iv 2, iv 4, iv 3, .unset, .unset, .unset]) d1_120 rfl rfl rfl ?_
  refine o_goto cx X694 94 d1_123 (by decide) (by decide) ?_
  refine o_iload cx X694 d1_94 rfl ?_
  refine o_aload cx X694 d1_96 rfl rfl ?_
  refine o_len cx X694 (z := (4 : Int32)) d1_98 (At.keep KK nin0) rfl ?_
  refine o_icmpNo cx X694 d1_99 (by decide) ?_
  refine o_aload cx X694 d1_102 rfl rfl ?_
  refine o_aload cx X694 d1_104 rfl rfl ?_
  refine o_aload cx X694 d1_106 rfl rfl ?_
  refine o_iload cx X694 d1_108 rfl ?_
  refine o_ldI cx X694 (v := (.int (2 : Int32))) d1_110 (At.keep KK nin0) 2 (by decide) rfl rfl ?_
  refine o_dup2 cx X694 d1_111 rfl rfl ?_
  refine o_ldI cx X694 (v := (.int (2 : Int32))) d1_112 A634 2 (by decide) rfl rfl ?_
  refine o_dup_x2 cx X694 d1_113 rfl rfl rfl ?_
  refine o_iconst cx X694 (z := (1 : Int32)) d1_114 rfl ?_
  refine o_iadd cx X694 (z := (3 : Int32)) d1_115 rfl ?_
  refine o_stI cx X694 d1_116 A634 2 (by decide) rfl (Nat.le_of_ble_eq_true rfl) ge636 fun T697 h699 X698 W700 A634 => ?_
  have A678 := A678.other W700 (Ne.symm ne_b629_b673)
  have KK := KK.wr W700 (Or.inr sz_b629)
  have A634 : own_Ar Z h699 b629 .int [(.int (1 : Int32)), (.int (2 : Int32)), (.int (3 : Int32)), (.int (3 : Int32)), (.int (4 : Int32)), (.int (4 : Int32))] := A634
  refine o_iload cx X698 d1_117 rfl ?_
  refine o_stI cx X698 d1_119 A678 2 (by decide) rfl (Nat.le_of_ble_eq_true rfl) ge680 fun T701 h703 X702 W704 A678 => ?_
  have A634 := A634.other W704 ne_b629_b673
  have KK := KK.wr W704 (Or.inr sz_b673)
  have A678 : own_Ar Z h703 b673 .int [(.int (0 : Int32)), (.int (1 : Int32)), (.int (2 : Int32)), (.int (0 : Int32))] := A678
  refine o_iinc cx X702 (z := (3 : Int32)) (Ls' := #[rv aa, iv (Int32.ofNat nn), iv 5, rv rk, rv tx, rv pl, s6, rv b629, rv b673, iv 3, iv 4, iv 3, .unset, .unset, .unset]) d1_120 rfl rfl rfl ?_
  refine o_goto cx X702 94 d1_123 (by decide) (by decide) ?_
  refine o_iload cx X702 d1_94 rfl ?_
  refine o_aload cx X702 d1_96 rfl rfl ?_
  refine o_len cx X702 (z := (4 : Int32)) d1_98 (At.keep KK nin0) rfl ?_
  refine o_icmpNo cx X702 d1_99 (by decide) ?_
  refine o_aload cx X702 d1_102 rfl rfl ?_
  refine o_aload cx X702 d1_104 rfl rfl ?_
  refine o_aload cx X702 d1_106 rfl rfl ?_
  refine o_iload cx X702 d1_108 rfl ?_
  refine o_ldI cx X702 (v := (.int (3 : Int32))) d1_110 (At.keep KK nin0) 3 (by decide) rfl rfl ?_
  refine o_dup2 cx X702 d1_111 rfl rfl ?_
  refine o_ldI cx X702 (v := (.int (3 : Int32))) d1_112 A634 3 (by decide) rfl rfl ?_
  refine o_dup_x2 cx X702 d1_113 rfl rfl rfl ?_
  refine o_iconst cx X702 (z := (1 : Int32)) d1_114 rfl ?_
  refine o_iadd cx X702 (z := (4 : Int32)) d1_115 rfl ?_
  refine o_stI cx X702 d1_116 A634 3 (by decide) rfl (Nat.le_of_ble_eq_true rfl) ge636 fun T705 h707 X706 W708 A634 => ?_
  have A678 := A678.other W708 (Ne.symm ne_b629_b673)
  have KK := KK.wr W708 (Or.inr sz_b629)
  have A634 : own_Ar Z h707 b629 .int [(.int (1 : Int32)), (.int (2 : Int32)), (.int (3 : Int32)), (.int (4 : Int32)), (.int (4 : Int32)), (.int (4 : Int32))] := A634
  refine o_iload cx X706 d1_117 rfl ?_
  refine o_stI cx X706 d1_119 A678 3 (by decide) rfl (Nat.le_of_ble_eq_true rfl) ge680 fun T709 h711 X710 W712 A678 => ?_
  have A634 := A634.other W712 ne_b629_b673
  have KK := KK.wr W712 (Or.inr sz_b673)
  have A678 : own_Ar Z h711 b673 .int [(.int (0 : Int32)), (.int (1 : Int32)), (.int (2 : Int32)), (.int (3 : Int32))] := A678
  refine o_iinc cx X710 (z := (4 : Int32)) (Ls' := #[rv aa, iv (Int32.ofNat nn), iv 5, rv rk, rv tx, rv pl, s6, rv b629, rv b673, iv 4, iv 4, iv 3, .unset, .unset, .unset]) d1_120 rfl rfl rfl ?_
  refine o_goto cx X710 94 d1_123 (by decide) (by decide) ?_
  refine o_iload cx X710 d1_94 rfl ?_
  refine o_aload cx X710 d1_96 rfl rfl ?_
  refine o_len cx X710 (z := (4 : Int32)) d1_98 (At.keep KK nin0) rfl ?_
  refine o_icmpYes cx X710 126 d1_99 (by decide) (by decide) (by decide) ?_
  have ne_aa_b673 : aa ≠ b673 := Nat.ne_of_lt (Nat.lt_of_lt_of_le E0.lt sz_b673)
  exact kk _ _ b629 b673 (4 : Int32) (4 : Int32) (3 : Int32) (X710.more (by decide) (by decide)) ge680 ne_aa_b673  (E0.keep KK) (F0.keep KK nin0) (F1.keep KK nin0) (F2.keep KK nin0) (F3.keep KK nin0) (Ar.keep KK nin0) (At.keep KK nin0) (Ap.keep KK nin0) (Ac.keep KK nin0) A678
set_option maxRecDepth 65536 in
set_option maxHeartbeats 40000000 in
theorem segA_5_1 {p : Program} {l : Launch} {e : Env} {s : State} {m : MethodId} {below : List Frame} {meth : Method} {c : Code} {n0 : Nat} {T0 : State} {h0 : Heap} {Z : State} {a0 : Array Value} {args : Array Value} {P : State → Outcome → Prop} (hw : ∀ d ∈ tables_1, d.before a0 Z = true) (aa rk tx pl : Addr) (nn k0 k1 k2 k3 : Nat) (v0 v1 v2 v3 : Int32) (s6 : Slot) (cv : Addr) (vcs : List Value) (cx : own_Cx p s m meth c Z prog_28_method_2_code 15 (⟨"com/example/rough_dedup/roughdedup/ShingleIndex$Postings", "<init>", "(II[I[I[I[I)V"⟩ : MethodName) none) (X0 : own_Sd p l e ({ frames := 2, cells := 7, slots := 41, locals := 74 } : Room) s m args below meth c n0 T0 h0 0 0) (ga : n0 ≤ aa) (ne_aa_rk : aa ≠ rk) (ne_aa_tx : aa ≠ tx) (ne_aa_pl : aa ≠ pl) (E0 : Exa Z h0 aa "com/example/rough_dedup/roughdedup/ShingleIndex$Postings") (F0 : Fld Z h0 aa "com/example/rough_dedup/roughdedup/ShingleIndex$Postings" "starts" "[I" .null) (F1 : Fld Z h0 aa "com/example/rough_dedup/roughdedup/ShingleIndex$Postings" "texts" "[I" .null) (F2 : Fld Z h0 aa "com/example/rough_dedup/roughdedup/ShingleIndex$Postings" "places" "[I" .null) (F3 : Fld Z h0 aa "com/example/rough_dedup/roughdedup/ShingleIndex$Postings" "covered" "[I" .null) (Ar : own_Ar Z h0 rk .int [(.int (Int32.ofNat k0)), (.int (Int32.ofNat k1)), (.int (Int32.ofNat k2)), (.int (Int32.ofNat k3))]) (At : own_Ar Z h0 tx .int [(.int (1 : Int32)), (.int (2 : Int32)), (.int (3 : Int32)), (.int (4 : Int32))]) (Ap : own_Ar Z h0 pl .int [(.int v0), (.int v1), (.int v2), (.int v3)]) (Ac : own_Ar Z h0 cv .int vcs) (kk : ∀ (T : State) (h : Heap) (ts bt : Addr) (x9 x10 x11 : Int32), own_Sd p l e ({ frames := 2, cells := 7, slots := 41, locals := 74 } : Room) s m args below meth c n0 T h 2 12 → n0 ≤ bt → aa ≠ bt → Exa Z h aa "com/example/rough_dedup/roughdedup/ShingleIndex$Postings" → Fld Z h aa "com/example/rough_dedup/roughdedup/ShingleIndex$Postings" "starts" "[I" .null → Fld Z h aa "com/example/rough_dedup/roughdedup/ShingleIndex$Postings" "texts" "[I" .null → Fld Z h aa "com/example/rough_dedup/roughdedup/ShingleIndex$Postings" "places" "[I" .null → Fld Z h aa "com/example/rough_dedup/roughdedup/ShingleIndex$Postings" "covered" "[I" .null → own_Ar Z h rk .int [(.int (Int32.ofNat k0)), (.int (Int32.ofNat k1)), (.int (Int32.ofNat k2)), (.int (Int32.ofNat k3))] → own_Ar Z h tx .int [(.int (1 : Int32)), (.int (2 : Int32)), (.int (3 : Int32)), (.int (4 : Int32))] → own_Ar Z h pl .int [(.int v0), (.int v1), (.int v2), (.int v3)] → own_Ar Z h cv .int vcs → own_Ar Z h bt .int [(.int (0 : Int32)), (.int (1 : Int32)), (.int (2 : Int32)), (.int (3 : Int32))] → own_Go p e below P (T.setTop (mkF m 126 #[rv aa, iv (Int32.ofNat nn), iv 5, rv rk, rv tx, rv pl, s6, .val (.ref ts), .val (.ref bt), .val (.int x9), .val (.int x10), .val (.int x11), .unset, .unset, .unset] []))) :
    own_Go p e below P (T0.setTop (mkF m 0 #[rv aa, iv (Int32.ofNat nn), iv 5, rv rk, rv tx, rv pl, s6, .unset, .unset, .unset, .unset, .unset, .unset, .unset, .unset] [])) := by
  have KK := Keep.refl h0 []
  refine o_aloadN cx X0 d1_0 rfl rfl ?_
  refine o_initO cx X0 d1_1 (o_w hw 9 rfl) (o_w hw 10 rfl) (o_w hw 11 rfl) rfl (by decide) 0 rfl (by decide) fun T713 X714 => ?_
  refine o_iloadN cx X714 d1_4 rfl ?_
  refine o_iconst cx X714 (z := (1 : Int32)) d1_5 rfl ?_
  refine o_iadd cx X714 (z := (6 : Int32)) d1_6 rfl ?_
  refine o_newP cx X714 d1_7 (o_w hw 1 rfl) (by decide) 6 6 rfl (Nat.le_refl _) (by decide) (by decide) (by decide) fun T716 h718 b715 gb721 ge722 X717 E719 A720 => ?_
  have sz_b715 : h0.size ≤ b715 := by rw [gb721]; exact KK.1
  have KK := KK.ext E719
  have A720 : own_Ar Z h718 b715 .int [(.int (0 : Int32)), (.int (0 : Int32)), (.int (0 : Int32)), (.int (0 : Int32)), (.int (0 : Int32)), (.int (0 : Int32))] := A720
  refine o_astore cx X717 (Ls' := #[rv aa, iv (Int32.ofNat nn), iv 5, rv rk, rv tx, rv pl, s6, rv b715, .unset, .unset, .unset, .unset, .unset, .unset, .unset]) d1_9 rfl rfl ?_
  refine o_aload cx X717 d1_11 rfl rfl ?_
  refine o_astore cx X717 (Ls' := #[rv aa, iv (Int32.ofNat nn), iv 5, rv rk, rv tx, rv pl, s6, rv b715, rv tx, .unset, .unset, .unset, .unset, .unset, .unset]) d1_13 rfl rfl ?_
  refine o_aload cx X717 d1_15 rfl rfl ?_
  refine o_len cx X717 (z := (4 : Int32)) d1_17 (At.keep KK nin0) rfl ?_
  refine o_istore cx X717 (Ls' := #[rv aa, iv (Int32.ofNat nn), iv 5, rv rk, rv tx, rv pl, s6, rv b715, rv tx, iv 4, .unset, .unset, .unset, .unset, .unset]) d1_18 rfl ?_
  refine o_iconst cx X717 (z := (0 : Int32)) d1_20 rfl ?_
  refine o_istore cx X717 (Ls' := #[rv aa, iv (Int32.ofNat nn), iv 5, rv rk, rv tx, rv pl, s6, rv b715, rv tx, iv 4, iv 0, .unset, .unset, .unset, .unset]) d1_21 rfl ?_
  refine o_iload cx X717 d1_23 rfl ?_
  refine o_iload cx X717 d1_25 rfl ?_
  refine o_icmpNo cx X717 d1_27 (by decide) ?_
  refine o_aload cx X717 d1_30 rfl rfl ?_
  refine o_iload cx X717 d1_32 rfl ?_
  refine o_ldI cx X717 (v := (.int (1 : Int32))) d1_34 (At.keep KK nin0) 0 (by decide) rfl rfl ?_
  refine o_istore cx X717 (Ls' := #[rv aa, iv (Int32.ofNat nn), iv 5, rv rk, rv tx, rv pl, s6, rv b715, rv tx, iv 4, iv 0, iv 1, .unset, .unset, .unset]) d1_35 rfl ?_
  refine o_aload cx X717 d1_37 rfl rfl ?_
  refine o_iload cx X717 d1_39 rfl ?_
  refine o_iconst cx X717 (z := (1 : Int32)) d1_41 rfl ?_
  refine o_iadd cx X717 (z := (2 : Int32)) d1_42 rfl ?_
  refine o_dup2 cx X717 d1_43 rfl rfl ?_
  refine o_ldI cx X717 (v := (.int (0 : Int32))) d1_44 A720 2 (by decide) rfl rfl ?_
  refine o_iconst cx X717 (z := (1 : Int32)) d1_45 rfl ?_
  refine o_iadd cx X717 (z := (1 : Int32)) d1_46 rfl ?_
  refine o_stI cx X717 d1_47 A720 2 (by decide) rfl (Nat.le_of_ble_eq_true rfl) ge722 fun T723 h725 X724 W726 A720 => ?_
  have KK := KK.wr W726 (Or.inr sz_b715)
  have A720 : own_Ar Z h725 b715 .int [(.int (0 : Int32)), (.int (0 : Int32)), (.int (1 : Int32)), (.int (0 : Int32)), (.int (0 : Int32)), (.int (0 : Int32))] := A720
  refine o_iinc cx X724 (z := (1 : Int32)) (Ls' := #[rv aa, iv (Int32.ofNat nn), iv 5, rv rk, rv tx, rv pl, s6, rv b715, rv tx, iv 4, iv 1, iv 1, .unset, .unset, .unset]) d1_48 rfl rfl rfl ?_
  refine o_goto cx X724 23 d1_51 (by decide) (by decide) ?_
  refine o_iload cx X724 d1_23 rfl ?_
  refine o_iload cx X724 d1_25 rfl ?_
  refine o_icmpNo cx X724 d1_27 (by decide) ?_
  refine o_aload cx X724 d1_30 rfl rfl ?_
  refine o_iload cx X724 d1_32 rfl ?_
  refine o_ldI cx X724 (v := (.int (2 : Int32))) d1_34 (At.keep KK nin0) 1 (by decide) rfl rfl ?_
  refine o_istore cx X724 (Ls' := #[rv aa, iv (Int32.ofNat nn), iv 5, rv rk, rv tx, rv pl, s6, rv b715, rv tx, iv 4, iv 1, iv 2, .unset, .unset, .unset]) d1_35 rfl ?_
  refine o_aload cx X724 d1_37 rfl rfl ?_
  refine o_iload cx X724 d1_39 rfl ?_
  refine o_iconst cx X724 (z := (1 : Int32)) d1_41 rfl ?_
  refine o_iadd cx X724 (z := (3 : Int32)) d1_42 rfl ?_
  refine o_dup2 cx X724 d1_43 rfl rfl ?_
  refine o_ldI cx X724 (v := (.int (0 : Int32))) d1_44 A720 3 (by decide) rfl rfl ?_
  refine o_iconst cx X724 (z := (1 : Int32)) d1_45 rfl ?_
  refine o_iadd cx X724 (z := (1 : Int32)) d1_46 rfl ?_
  refine o_stI cx X724 d1_47 A720 3 (by decide) rfl (Nat.le_of_ble_eq_true rfl) ge722 fun T727 h729 X728 W730 A720 => ?_
  have KK := KK.wr W730 (Or.inr sz_b715)
  have A720 : own_Ar Z h729 b715 .int [(.int (0 : Int32)), (.int (0 : Int32)), (.int (1 : Int32)), (.int (1 : Int32)), (.int (0 : Int32)), (.int (0 : Int32))] := A720
  refine o_iinc cx X728 (z := (2 : Int32)) (Ls' := #[rv aa, iv (Int32.ofNat nn), iv 5, rv rk, rv tx, rv pl, s6, rv b715, rv tx, iv 4, iv 2, iv 2, .unset, .unset, .unset]) d1_48 rfl rfl rfl ?_
  refine o_goto cx X728 23 d1_51 (by decide) (by decide) ?_
  refine o_iload cx X728 d1_23 rfl ?_
  refine o_iload cx X728 d1_25 rfl ?_
  refine o_icmpNo cx X728 d1_27 (by decide) ?_
  refine o_aload cx X728 d1_30 rfl rfl ?_
  refine o_iload cx X728 d1_32 rfl ?_
  refine o_ldI cx X728 (v := (.int (3 : Int32))) d1_34 (At.keep KK nin0) 2 (by decide) rfl rfl ?_
  refine o_istore cx X728 (Ls' := #[rv aa, iv (Int32.ofNat nn), iv 5, rv rk, rv tx, rv pl, s6, rv b715, rv tx, iv 4, iv 2, iv 3, .unset, .unset, .unset]) d1_35 rfl ?_
  refine o_aload cx X728 d1_37 rfl rfl ?_
  refine o_iload cx X728 d1_39 rfl ?_
  refine o_iconst cx X728 (z := (1 : Int32)) d1_41 rfl ?_
  refine o_iadd cx X728 (z := (4 : Int32)) d1_42 rfl ?_
  refine o_dup2 cx X728 d1_43 rfl rfl ?_
  refine o_ldI cx X728 (v := (.int (0 : Int32))) d1_44 A720 4 (by decide) rfl rfl ?_
  refine o_iconst cx X728 (z := (1 : Int32)) d1_45 rfl ?_
  refine o_iadd cx X728 (z := (1 : Int32)) d1_46 rfl ?_
  refine o_stI cx X728 d1_47 A720 4 (by decide) rfl (Nat.le_of_ble_eq_true rfl) ge722 fun T731 h733 X732 W734 A720 => ?_
  have KK := KK.wr W734 (Or.inr sz_b715)
  have A720 : own_Ar Z h733 b715 .int [(.int (0 : Int32)), (.int (0 : Int32)), (.int (1 : Int32)), (.int (1 : Int32)), (.int (1 : Int32)), (.int (0 : Int32))] := A720
  refine o_iinc cx X732 (z := (3 : Int32)) (Ls' := #[rv aa, iv (Int32.ofNat nn), iv 5, rv rk, rv tx, rv pl, s6, rv b715, rv tx, iv 4, iv 3, iv 3, .unset, .unset, .unset]) d1_48 rfl rfl rfl ?_
  refine o_goto cx X732 23 d1_51 (by decide) (by decide) ?_
  refine o_iload cx X732 d1_23 rfl ?_
  refine o_iload cx X732 d1_25 rfl ?_
  refine o_icmpNo cx X732 d1_27 (by decide) ?_
  refine o_aload cx X732 d1_30 rfl rfl ?_
  refine o_iload cx X732 d1_32 rfl ?_
  refine o_ldI cx X732 (v := (.int (4 : Int32))) d1_34 (At.keep KK nin0) 3 (by decide) rfl rfl ?_
  refine o_istore cx X732 (Ls' := #[rv aa, iv (Int32.ofNat nn), iv 5, rv rk, rv tx, rv pl, s6, rv b715, rv tx, iv 4, iv 3, iv 4, .unset, .unset, .unset]) d1_35 rfl ?_
  refine o_aload cx X732 d1_37 rfl rfl ?_
  refine o_iload cx X732 d1_39 rfl ?_
  refine o_iconst cx X732 (z := (1 : Int32)) d1_41 rfl ?_
  refine o_iadd cx X732 (z := (5 : Int32)) d1_42 rfl ?_
  refine o_dup2 cx X732 d1_43 rfl rfl ?_
  refine o_ldI cx X732 (v := (.int (0 : Int32))) d1_44 A720 5 (by decide) rfl rfl ?_
  refine o_iconst cx X732 (z := (1 : Int32)) d1_45 rfl ?_
  refine o_iadd cx X732 (z := (1 : Int32)) d1_46 rfl ?_
  refine o_stI cx X732 d1_47 A720 5 (by decide) rfl (Nat.le_of_ble_eq_true rfl) ge722 fun T735 h737 X736 W738 A720 => ?_
  have KK := KK.wr W738 (Or.inr sz_b715)
  have A720 : own_Ar Z h737 b715 .int [(.int (0 : Int32)), (.int (0 : Int32)), (.int (1 : Int32)), (.int (1 : Int32)), (.int (1 : Int32)), (.int (1 : Int32))] := A720
  refine o_iinc cx X736 (z := (4 : Int32)) (Ls' := #[rv aa, iv (Int32.ofNat nn), iv 5, rv rk, rv tx, rv pl, s6, rv b715, rv tx, iv 4, iv 4, iv 4, .unset, .unset, .unset]) d1_48 rfl rfl rfl ?_
  refine o_goto cx X736 23 d1_51 (by decide) (by decide) ?_
  refine o_iload cx X736 d1_23 rfl ?_
  refine o_iload cx X736 d1_25 rfl ?_
  refine o_icmpYes cx X736 54 d1_27 (by decide) (by decide) (by decide) ?_
  refine o_iconst cx X736 (z := (0 : Int32)) d1_54 rfl ?_
  refine o_istore cx X736 (Ls' := #[rv aa, iv (Int32.ofNat nn), iv 5, rv rk, rv tx, rv pl, s6, rv b715, iv 0, iv 4, iv 4, iv 4, .unset, .unset, .unset]) d1_55 rfl ?_
  refine o_iload cx X736 d1_57 rfl ?_
  refine o_iloadN cx X736 d1_59 rfl ?_
  refine o_icmpNo cx X736 d1_60 (by decide) ?_
  refine o_aload cx X736 d1_63 rfl rfl ?_
  refine o_iload cx X736 d1_65 rfl ?_
  refine o_iconst cx X736 (z := (1 : Int32)) d1_67 rfl ?_
  refine o_iadd cx X736 (z := (1 : Int32)) d1_68 rfl ?_
  refine o_dup2 cx X736 d1_69 rfl rfl ?_
  refine o_ldI cx X736 (v := (.int (0 : Int32))) d1_70 A720 1 (by decide) rfl rfl ?_
  refine o_aload cx X736 d1_71 rfl rfl ?_
  refine o_iload cx X736 d1_73 rfl ?_
  refine o_ldI cx X736 (v := (.int (0 : Int32))) d1_75 A720 0 (by decide) rfl rfl ?_
  refine o_iadd cx X736 (z := (0 : Int32)) d1_76 rfl ?_
  refine o_stI cx X736 d1_77 A720 1 (by decide) rfl (Nat.le_of_ble_eq_true rfl) ge722 fun T739 h741 X740 W742 A720 => ?_
  have KK := KK.wr W742 (Or.inr sz_b715)
  have A720 : own_Ar Z h741 b715 .int [(.int (0 : Int32)), (.int (0 : Int32)), (.int (1 : Int32)), (.int (1 : Int32)), (.int (1 : Int32)), (.int (1 : Int32))] := A720
  refine o_iinc cx X740 (z := (1 : Int32)) (Ls' := #[rv aa, iv (Int32.ofNat nn), iv 5, rv rk, rv tx, rv pl, s6, rv b715, iv 1, iv 4, iv 4, iv 4, .unset, .unset, .unset]) d1_78 rfl rfl rfl ?_
  refine o_goto cx X740 57 d1_81 (by decide) (by decide) ?_
  refine o_iload cx X740 d1_57 rfl ?_
  refine o_iloadN cx X740 d1_59 rfl ?_
  refine o_icmpNo cx X740 d1_60 (by decide) ?_
  refine o_aload cx X740 d1_63 rfl rfl ?_
  refine o_iload cx X740 d1_65 rfl ?_
  refine o_iconst cx X740 (z := (1 : Int32)) d1_67 rfl ?_
  refine o_iadd cx X740 (z := (2 : Int32)) d1_68 rfl ?_
  refine o_dup2 cx X740 d1_69 rfl rfl ?_
  refine o_ldI cx X740 (v := (.int (1 : Int32))) d1_70 A720 2 (by decide) rfl rfl ?_
  refine o_aload cx X740 d1_71 rfl rfl ?_
  refine o_iload cx X740 d1_73 rfl ?_
  refine o_ldI cx X740 (v := (.int (0 : Int32))) d1_75 A720 1 (by decide) rfl rfl ?_
  refine o_iadd cx X740 (z := (1 : Int32)) d1_76 rfl ?_
  refine o_stI cx X740 d1_77 A720 2 (by decide) rfl (Nat.le_of_ble_eq_true rfl) ge722 fun T743 h745 X744 W746 A720 => ?_
  have KK := KK.wr W746 (Or.inr sz_b715)
  have A720 : own_Ar Z h745 b715 .int [(.int (0 : Int32)), (.int (0 : Int32)), (.int (1 : Int32)), (.int (1 : Int32)), (.int (1 : Int32)), (.int (1 : Int32))] := A720
  refine o_iinc cx X744 (z := (2 : Int32)) (Ls' := #[rv aa, iv (Int32.ofNat nn), iv 5, rv rk, rv tx, rv pl, s6, rv b715, iv 2, iv 4, iv 4, iv 4, .unset, .unset, .unset]) d1_78 rfl rfl rfl ?_
  refine o_goto cx X744 57 d1_81 (by decide) (by decide) ?_
  refine o_iload cx X744 d1_57 rfl ?_
  refine o_iloadN cx X744 d1_59 rfl ?_
  refine o_icmpNo cx X744 d1_60 (by decide) ?_
  refine o_aload cx X744 d1_63 rfl rfl ?_
  refine o_iload cx X744 d1_65 rfl ?_
  refine o_iconst cx X744 (z := (1 : Int32)) d1_67 rfl ?_
  refine o_iadd cx X744 (z := (3 : Int32)) d1_68 rfl ?_
  refine o_dup2 cx X744 d1_69 rfl rfl ?_
  refine o_ldI cx X744 (v := (.int (1 : Int32))) d1_70 A720 3 (by decide) rfl rfl ?_
  refine o_aload cx X744 d1_71 rfl rfl ?_
  refine o_iload cx X744 d1_73 rfl ?_
  refine o_ldI cx X744 (v := (.int (1 : Int32))) d1_75 A720 2 (by decide) rfl rfl ?_
  refine o_iadd cx X744 (z := (2 : Int32)) d1_76 rfl ?_
  refine o_stI cx X744 d1_77 A720 3 (by decide) rfl (Nat.le_of_ble_eq_true rfl) ge722 fun T747 h749 X748 W750 A720 => ?_
  have KK := KK.wr W750 (Or.inr sz_b715)
  have A720 : own_Ar Z h749 b715 .int [(.int (0 : Int32)), (.int (0 : Int32)), (.int (1 : Int32)), (.int (2 : Int32)), (.int (1 : Int32)), (.int (1 : Int32))] := A720
  refine o_iinc cx X748 (z := (3 : Int32)) (Ls' := #[rv aa, iv (Int32.ofNat nn), iv 5, rv rk, rv tx, rv pl, s6, rv b715, iv 3, iv 4, iv 4, iv 4, .unset, .unset, .unset]) d1_78 rfl rfl rfl ?_
  refine o_goto cx X748 57 d1_81 (by decide) (by decide) ?_
  refine o_iload cx X748 d1_57 rfl ?_
  refine o_iloadN cx X748 d1_59 rfl ?_
  refine o_icmpNo cx X748 d1_60 (by decide) ?_
  refine o_aload cx X748 d1_63 rfl rfl ?_
  refine o_iload cx X748 d1_65 rfl ?_
  refine o_iconst cx X748 (z := (1 : Int32)) d1_67 rfl ?_
  refine o_iadd cx X748 (z := (4 : Int32)) d1_68 rfl ?_
  refine o_dup2 cx X748 d1_69 rfl rfl ?_
  refine o_ldI cx X748 (v := (.int (1 : Int32))) d1_70 A720 4 (by decide) rfl rfl ?_
  refine o_aload cx X748 d1_71 rfl rfl ?_
  refine o_iload cx X748 d1_73 rfl ?_
  refine o_ldI cx X748 (v := (.int (2 : Int32))) d1_75 A720 3 (by decide) rfl rfl ?_
  refine o_iadd cx X748 (z := (3 : Int32)) d1_76 rfl ?_
  refine o_stI cx X748 d1_77 A720 4 (by decide) rfl (Nat.le_of_ble_eq_true rfl) ge722 fun T751 h753 X752 W754 A720 => ?_
  have KK := KK.wr W754 (Or.inr sz_b715)
  have A720 : own_Ar Z h753 b715 .int [(.int (0 : Int32)), (.int (0 : Int32)), (.int (1 : Int32)), (.int (2 : Int32)), (.int (3 : Int32)), (.int (1 : Int32))] := A720
  refine o_iinc cx X752 (z := (4 : Int32)) (Ls' := #[rv aa, iv (Int32.ofNat nn), iv 5, rv rk, rv tx, rv pl, s6, rv b715, iv 4, iv 4, iv 4, iv 4, .unset, .unset, .unset]) d1_78 rfl rfl rfl ?_
  refine o_goto cx X752 57 d1_81 (by decide) (by decide) ?_
  refine o_iload cx X752 d1_57 rfl ?_
  refine o_iloadN cx X752 d1_59 rfl ?_
  refine o_icmpNo cx X752 d1_60 (by decide) ?_
  refine o_aload cx X752 d1_63 rfl rfl ?_
  refine o_iload cx X752 d1_65 rfl ?_
  refine o_iconst cx X752 (z := (1 : Int32)) d1_67 rfl ?_
  refine o_iadd cx X752 (z := (5 : Int32)) d1_68 rfl ?_
  refine o_dup2 cx X752 d1_69 rfl rfl ?_
  refine o_ldI cx X752 (v := (.int (1 : Int32))) d1_70 A720 5 (by decide) rfl rfl ?_
  refine o_aload cx X752 d1_71 rfl rfl ?_
  refine o_iload cx X752 d1_73 rfl ?_
  refine o_ldI cx X752 (v := (.int (3 : Int32))) d1_75 A720 4 (by decide) rfl rfl ?_
  refine o_iadd cx X752 (z := (4 : Int32)) d1_76 rfl ?_
  refine o_stI cx X752 d1_77 A720 5 (by decide) rfl (Nat.le_of_ble_eq_true rfl) ge722 fun T755 h757 X756 W758 A720 => ?_
  have KK := KK.wr W758 (Or.inr sz_b715)
  have A720 : own_Ar Z h757 b715 .int [(.int (0 : Int32)), (.int (0 : Int32)), (.int (1 : Int32)), (.int (2 : Int32)), (.int (3 : Int32)), (.int (4 : Int32))] := A720
  refine o_iinc cx X756 (z := (5 : Int32)) (Ls' := #[rv aa, iv (Int32.ofNat nn), iv 5, rv rk, rv tx, rv pl, s6, rv b715, iv 5, iv 4, iv 4, iv 4, .unset, .unset, .unset]) d1_78 rfl rfl rfl ?_
  refine o_goto cx X756 57 d1_81 (by decide) (by decide) ?_
  refine o_iload cx X756 d1_57 rfl ?_
  refine o_iloadN cx X756 d1_59 rfl ?_
  refine o_icmpYes cx X756 84 d1_60 (by decide) (by decide) (by decide) ?_
  refine o_aload cx X756 d1_84 rfl rfl ?_
  refine o_len cx X756 (z := (4 : Int32)) d1_86 (At.keep KK nin0) rfl ?_
  refine o_newP cx X756 d1_87 (o_w hw 1 rfl) (by decide) 4 4 rfl (Nat.le_refl _) (by decide) (by decide) (by decide) fun T760 h762 b759 gb765 ge766 X761 E763 A764 => ?_
  have ne_b715_b759 : b715 ≠ b759 := by rw [gb765]; exact Nat.ne_of_lt A720.lt
  have sz_b759 : h0.size ≤ b759 := by rw [gb765]; exact KK.1
  have A720 := A720.ext E763
  have KK := KK.ext E763
  have A764 : own_Ar Z h762 b759 .int [(.int (0 : Int32)), (.int (0 : Int32)), (.int (0 : Int32)), (.int (0 : Int32))] := A764
  refine o_astore cx X761 (Ls' := #[rv aa, iv (Int32.ofNat nn), iv 5, rv rk, rv tx, rv pl, s6, rv b715, rv b759, iv 4, iv 4, iv 4, .unset, .unset, .unset]) d1_89 rfl rfl ?_
  refine o_iconst cx X761 (z := (0 : Int32)) d1_91 rfl ?_
  refine o_istore cx X761 (Ls' := #[rv aa, iv (Int32.ofNat nn), iv 5, rv rk, rv tx, rv pl, s6, rv b715, rv b759, iv 0, iv 4, iv 4, .unset, .unset, .unset]) d1_92 rfl ?_
  refine o_iload cx X761 d1_94 rfl ?_
  refine o_aload cx X761 d1_96 rfl rfl ?_
  refine o_len cx X761 (z := (4 : Int32)) d1_98 (At.keep KK nin0) rfl ?_
  refine o_icmpNo cx X761 d1_99 (by decide) ?_
  refine o_aload cx X761 d1_102 rfl rfl ?_
  refine o_aload cx X761 d1_104 rfl rfl ?_
  refine o_aload cx X761 d1_106 rfl rfl ?_
  refine o_iload cx X761 d1_108 rfl ?_
  refine o_ldI cx X761 (v := (.int (1 : Int32))) d1_110 (At.keep KK nin0) 0 (by decide) rfl rfl ?_
  refine o_dup2 cx X761 d1_111 rfl rfl ?_
  refine o_ldI cx X761 (v := (.int (0 : Int32))) d1_112 A720 1 (by decide) rfl rfl ?_
  refine o_dup_x2 cx X761 d1_113 rfl rfl rfl ?_
  refine o_iconst cx X761 (z := (1 : Int32)) d1_114 rfl ?_
  refine o_iadd cx X761 (z := (1 : Int32)) d1_115 rfl ?_
  refine o_stI cx X761 d1_116 A720 1 (by decide) rfl (Nat.le_of_ble_eq_true rfl) ge722 fun T767 h769 X768 W770 A720 => ?_
  have A764 := A764.other W770 (Ne.symm ne_b715_b759)
  have KK := KK.wr W770 (Or.inr sz_b715)
  have A720 : own_Ar Z h769 b715 .int [(.int (0 : Int32)), (.int (1 : Int32)), (.int (1 : Int32)), (.int (2 : Int32)), (.int (3 : Int32)), (.int (4 : Int32))] := A720
  refine o_iload cx X768 d1_117 rfl ?_
  refine o_stI cx X768 d1_119 A764 0 (by decide) rfl (Nat.le_of_ble_eq_true rfl) ge766 fun T771 h773 X772 W774 A764 => ?_
  have A720 := A720.other W774 ne_b715_b759
  have KK := KK.wr W774 (Or.inr sz_b759)
  have A764 : own_Ar Z h773 b759 .int [(.int (0 : Int32)), (.int (0 : Int32)), (.int (0 : Int32)), (.int (0 : Int32))] := A764
  refine o_iinc cx X772 (z := (1 : Int32)) (Ls' := #[rv aa, iv (Int32.ofNat nn), iv 5, rv rk, rv tx, rv pl, s6, rv b715, rv b759, iv 1, iv 4, iv 4, .unset, .unset, .unset]) d1_120 rfl rfl rfl ?_
  refine o_goto cx X772 94 d1_123 (by decide) (by decide) ?_
  refine o_iload cx X772 d1_94 rfl ?_
  refine o_aload cx X772 d1_96 rfl rfl ?_
  refine o_len cx X772 (z := (4 : Int32)) d1_98 (At.keep KK nin0) rfl ?_
  refine o_icmpNo cx X772 d1_99 (by decide) ?_
  refine o_aload cx X772 d1_102 rfl rfl ?_
  refine o_aload cx X772 d1_104 rfl rfl ?_
  refine o_aload cx X772 d1_106 rfl rfl ?_
  refine o_iload cx X772 d1_108 rfl ?_
  refine o_ldI cx X772 (v := (.int (2 : Int32))) d1_110 (At.keep KK nin0) 1 (by decide) rfl rfl ?_
  refine o_dup2 cx X772 d1_111 rfl rfl ?_
  refine o_ldI cx X772 (v := (.int (1 : Int32))) d1_112 A720 2 (by decide) rfl rfl ?_
  refine o_dup_x2 cx X772 d1_113 rfl rfl rfl ?_
  refine o_iconst cx X772 (z := (1 : Int32)) d1_114 rfl ?_
  refine o_iadd cx X772 (z := (2 : Int32)) d1_115 rfl ?_
  refine o_stI cx X772 d1_116 A720 2 (by decide) rfl (Nat.le_of_ble_eq_true rfl) ge722 fun T775 h777 X776 W778 A720 => ?_
  have A764 := A764.other W778 (Ne.symm ne_b715_b759)
  have KK := KK.wr W778 (Or.inr sz_b715)
  have A720 : own_Ar Z h777 b715 .int [(.int (0 : Int32)), (.int (1 : Int32)), (.int (2 : Int32)), (.int (2 : Int32)), (.int (3 : Int32)), (.int (4 : Int32))] := A720
  refine o_iload cx X776 d1_117 rfl ?_
  refine o_stI cx X776 d1_119 A764 1 (by decide) rfl (Nat.le_of_ble_eq_true rfl) ge766 fun T779 h781 X780 W782 A764 => ?_
  have A720 := A720.other W782 ne_b715_b759
  have KK := KK.wr W782 (Or.inr sz_b759)
  have A764 : own_Ar Z h781 b759 .int [(.int (0 : Int32)), (.int (1 : Int32)), (.int (0 : Int32)), (.int (0 : Int32))] := A764
  refine o_iinc cx X780 (z := (2 : Int32)) (Ls' := #[rv aa, iv (Int32.ofNat nn), iv 5, rv rk, rv tx, rv pl, s6, rv b715, rv b759, iv 2, iv 4, iv 4, .unset, .unset, .unset]) d1_120 rfl rfl rfl ?_
  refine o_goto cx X780 94 d1_123 (by decide) (by decide) ?_
  refine o_iload cx X780 d1_94 rfl ?_
  refine o_aload cx X780 d1_96 rfl rfl ?_
  refine o_len cx X780 (z := (4 : Int32)) d1_98 (At.keep KK nin0) rfl ?_
  refine o_icmpNo cx X780 d1_99 (by decide) ?_
  refine o_aload cx X780 d1_102 rfl rfl ?_
  refine o_aload cx X780 d1_104 rfl rfl ?_
  refine o_aload cx X780 d1_106 rfl rfl ?_
  refine o_iload cx X780 d1_108 rfl ?_
  refine o_ldI cx X780 (v := (.int (3 : Int32))) d1_110 (At.keep KK nin0) 2 (by decide) rfl rfl ?_
  refine o_dup2 cx X780 d1_111 rfl rfl ?_
  refine o_ldI cx X780 (v := (.int (2 : Int32))) d1_112 A720 3 (by decide) rfl rfl ?_
  refine o_dup_x2 cx X780 d1_113 rfl rfl rfl ?_
  refine o_iconst cx X780 (z := (1 : Int32)) d1_114 rfl ?_
  refine o_iadd cx X780 (z := (3 : Int32)) d1_115 rfl ?_
  refine o_stI cx X780 d1_116 A720 3 (by decide) rfl (Nat.le_of_ble_eq_true rfl) ge722 fun T783 h785 X784 W786 A720 => ?_
  have A764 := A764.other W786 (Ne.symm ne_b715_b759)
  have KK := KK.wr W786 (Or.inr sz_b715)
  have A720 : own_Ar Z h785 b715 .int [(.int (0 : Int32)), (.int (1 : Int32)), (.int (2 : Int32)), (.int (3 : Int32)), (.int (3 : Int32)), (.int (4 : Int32))] := A720
  refine o_iload cx X784 d1_117 rfl ?_
  refine o_stI cx X784 d1_119 A764 2 (by decide) rfl (Nat.le_of_ble_eq_true rfl) ge766 fun T787 h789 X788 W790 A764 => ?_
  have A720 := A720.other W790 ne_b715_b759
  have KK := KK.wr W790 (Or.inr sz_b759)
  have A764 : own_Ar Z h789 b759 .int [(.int (0 : Int32)), (.int (1 : Int32)), (.int (2 : Int32)), (.int (0 : Int32))] := A764
  refine o_iinc cx X788 (z := (3 : Int32)) (Ls' := #[rv aa, iv (Int32.ofNat nn), iv 5, rv rk, rv tx, rv pl, s6, rv b715, rv b759, iv 3, iv 4, iv 4, .unset, .unset, .unset]) d1_120 rfl rfl rfl ?_
  refine o_goto cx X788 94 d1_123 (by decide) (by decide) ?_
  refine o_iload cx X788 d1_94 rfl ?_
  refine o_aload cx X788 d1_96 rfl rfl ?_
  refine o_len cx X788 (z := (4 : Int32)) d1_98 (At.keep KK nin0) rfl ?_
  refine o_icmpNo cx X788 d1_99 (by decide) ?_
  refine o_aload cx X788 d1_102 rfl rfl ?_
  refine o_aload cx X788 d1_104 rfl rfl ?_
  refine o_aload cx X788 d1_106 rfl rfl ?_
  refine o_iload cx X788 d1_108 rfl ?_
  refine o_ldI cx X788 (v := (.int (4 : Int32))) d1_110 (At.keep KK nin0) 3 (by decide) rfl rfl ?_
  refine o_dup2 cx X788 d1_111 rfl rfl ?_
  refine o_ldI cx X788 (v := (.int (3 : Int32))) d1_112 A720 4 (by decide) rfl rfl ?_
  refine o_dup_x2 cx X788 d1_113 rfl rfl rfl ?_
  refine o_iconst cx X788 (z := (1 : Int32)) d1_114 rfl ?_
  refine o_iadd cx X788 (z := (4 : Int32)) d1_115 rfl ?_
  refine o_stI cx X788 d1_116 A720 4 (by decide) rfl (Nat.le_of_ble_eq_true rfl) ge722 fun T791 h793 X792 W794 A720 => ?_
  have A764 := A764.other W794 (Ne.symm ne_b715_b759)
  have KK := KK.wr W794 (Or.inr sz_b715)
  have A720 : own_Ar Z h793 b715 .int [(.int (0 : Int32)), (.int (1 : Int32)), (.int (2 : Int32)), (.int (3 : Int32)), (.int (4 : Int32)), (.int (4 : Int32))] := A720
  refine o_iload cx X792 d1_117 rfl ?_
  refine o_stI cx X792 d1_119 A764 3 (by decide) rfl (Nat.le_of_ble_eq_true rfl) ge766 fun T795 h797 X796 W798 A764 => ?_
  have A720 := A720.other W798 ne_b715_b759
  have KK := KK.wr W798 (Or.inr sz_b759)
  have A764 : own_Ar Z h797 b759 .int [(.int (0 : Int32)), (.int (1 : Int32)), (.int (2 : Int32)), (.int (3 : Int32))] := A764
  refine o_iinc cx X796 (z := (4 : Int32)) (Ls' := #[rv aa, iv (Int32.ofNat nn), iv 5, rv rk, rv tx, rv pl, s6, rv b715, rv b759, iv 4, iv 4, iv 4, .unset, .unset, .unset]) d1_120 rfl rfl rfl ?_
  refine o_goto cx X796 94 d1_123 (by decide) (by decide) ?_
  refine o_iload cx X796 d1_94 rfl ?_
  refine o_aload cx X796 d1_96 rfl rfl ?_
  refine o_len cx X796 (z := (4 : Int32)) d1_98 (At.keep KK nin0) rfl ?_
  refine o_icmpYes cx X796 126 d1_99 (by decide) (by decide) (by decide) ?_
  have ne_aa_b759 : aa ≠ b759 := Nat.ne_of_lt (Nat.lt_of_lt_of_le E0.lt sz_b759)
  exact kk _ _ b715 b759 (4 : Int32) (4 : Int32) (4 : Int32) (X796.more (by decide) (by decide)) ge766 ne_aa_b759  (E0.keep KK) (F0.keep KK nin0) (F1.keep KK nin0) (F2.keep KK nin0) (F3.keep KK nin0) (Ar.keep KK nin0) (At.keep KK nin0) (Ap.keep KK nin0) (Ac.keep KK nin0) A764
set_option maxRecDepth 65536 in
set_option maxHeartbeats 40000000 in
theorem segA_5_2 {p : Program} {l : Launch} {e : Env} {s : State} {m : MethodId} {below : List Frame} {meth : Method} {c : Code} {n0 : Nat} {T0 : State} {h0 : Heap} {Z : State} {a0 : Array Value} {args : Array Value} {P : State → Outcome → Prop} (hw : ∀ d ∈ tables_1, d.before a0 Z = true) (aa rk tx pl : Addr) (nn k0 k1 k2 k3 : Nat) (v0 v1 v2 v3 : Int32) (s6 : Slot) (cv : Addr) (vcs : List Value) (cx : own_Cx p s m meth c Z prog_28_method_2_code 15 (⟨"com/example/rough_dedup/roughdedup/ShingleIndex$Postings", "<init>", "(II[I[I[I[I)V"⟩ : MethodName) none) (X0 : own_Sd p l e ({ frames := 2, cells := 7, slots := 41, locals := 74 } : Room) s m args below meth c n0 T0 h0 0 0) (ga : n0 ≤ aa) (ne_aa_rk : aa ≠ rk) (ne_aa_tx : aa ≠ tx) (ne_aa_pl : aa ≠ pl) (E0 : Exa Z h0 aa "com/example/rough_dedup/roughdedup/ShingleIndex$Postings") (F0 : Fld Z h0 aa "com/example/rough_dedup/roughdedup/ShingleIndex$Postings" "starts" "[I" .null) (F1 : Fld Z h0 aa "com/example/rough_dedup/roughdedup/ShingleIndex$Postings" "texts" "[I" .null) (F2 : Fld Z h0 aa "com/example/rough_dedup/roughdedup/ShingleIndex$Postings" "places" "[I" .null) (F3 : Fld Z h0 aa "com/example/rough_dedup/roughdedup/ShingleIndex$Postings" "covered" "[I" .null) (Ar : own_Ar Z h0 rk .int [(.int (Int32.ofNat k0)), (.int (Int32.ofNat k1)), (.int (Int32.ofNat k2)), (.int (Int32.ofNat k3))]) (At : own_Ar Z h0 tx .int [(.int (2 : Int32)), (.int (3 : Int32)), (.int (4 : Int32)), (.int (0 : Int32))]) (Ap : own_Ar Z h0 pl .int [(.int v0), (.int v1), (.int v2), (.int v3)]) (Ac : own_Ar Z h0 cv .int vcs) (kk : ∀ (T : State) (h : Heap) (ts bt : Addr) (x9 x10 x11 : Int32), own_Sd p l e ({ frames := 2, cells := 7, slots := 41, locals := 74 } : Room) s m args below meth c n0 T h 2 12 → n0 ≤ bt → aa ≠ bt → Exa Z h aa "com/example/rough_dedup/roughdedup/ShingleIndex$Postings" → Fld Z h aa "com/example/rough_dedup/roughdedup/ShingleIndex$Postings" "starts" "[I" .null → Fld Z h aa "com/example/rough_dedup/roughdedup/ShingleIndex$Postings" "texts" "[I" .null → Fld Z h aa "com/example/rough_dedup/roughdedup/ShingleIndex$Postings" "places" "[I" .null → Fld Z h aa "com/example/rough_dedup/roughdedup/ShingleIndex$Postings" "covered" "[I" .null → own_Ar Z h rk .int [(.int (Int32.ofNat k0)), (.int (Int32.ofNat k1)), (.int (Int32.ofNat k2)), (.int (Int32.ofNat k3))] → own_Ar Z h tx .int [(.int (2 : Int32)), (.int (3 : Int32)), (.int (4 : Int32)), (.int (0 : Int32))] → own_Ar Z h pl .int [(.int v0), (.int v1), (.int v2), (.int v3)] → own_Ar Z h cv .int vcs → own_Ar Z h bt .int [(.int (3 : Int32)), (.int (0 : Int32)), (.int (1 : Int32)), (.int (2 : Int32))] → own_Go p e below P (T.setTop (mkF m 126 #[rv aa, iv (Int32.ofNat nn), iv 5, rv rk, rv tx, rv pl, s6, .val (.ref ts), .val (.ref bt), .val (.int x9), .val (.int x10), .val (.int x11), .unset, .unset, .unset] []))) :
    own_Go p e below P (T0.setTop (mkF m 0 #[rv aa, iv (Int32.ofNat nn), iv 5, rv rk, rv tx, rv pl, s6, .unset, .unset, .unset, .unset, .unset, .unset, .unset, .unset] [])) := by
  have KK := Keep.refl h0 []
  refine o_aloadN cx X0 d1_0 rfl rfl ?_
  refine o_initO cx X0 d1_1 (o_w hw 9 rfl) (o_w hw 10 rfl) (o_w hw 11 rfl) rfl (by decide) 0 rfl (by decide) fun T799 X800 => ?_
  refine o_iloadN cx X800 d1_4 rfl ?_
  refine o_iconst cx X800 (z := (1 : Int32)) d1_5 rfl ?_
  refine o_iadd cx X800 (z := (6 : Int32)) d1_6 rfl ?_
  refine o_newP cx X800 d1_7 (o_w hw 1 rfl) (by decide) 6 6 rfl (Nat.le_refl _) (by decide) (by decide) (by decide) fun T802 h804 b801 gb807 ge808 X803 E805 A806 => ?_
  have sz_b801 : h0.size ≤ b801 := by rw [gb807]; exact KK.1
  have KK := KK.ext E805
  have A806 : own_Ar Z h804 b801 .int [(.int (0 : Int32)), (.int (0 : Int32)), (.int (0 : Int32)), (.int (0 : Int32)), (.int (0 : Int32)), (.int (0 : Int32))] := A806
  refine o_astore cx X803 (Ls' := #[rv aa, iv (Int32.ofNat nn), iv 5, rv rk, rv tx, rv pl, s6, rv b801, .unset, .unset, .unset, .unset, .unset, .unset, .unset]) d1_9 rfl rfl ?_
  refine o_aload cx X803 d1_11 rfl rfl ?_
  refine o_astore cx X803 (Ls' := #[rv aa, iv (Int32.ofNat nn), iv 5, rv rk, rv tx, rv pl, s6, rv b801, rv tx, .unset, .unset, .unset, .unset, .unset, .unset]) d1_13 rfl rfl ?_
  refine o_aload cx X803 d1_15 rfl rfl ?_
  refine o_len cx X803 (z := (4 : Int32)) d1_17 (At.keep KK nin0) rfl ?_
  refine o_istore cx X803 (Ls' := #[rv aa, iv (Int32.ofNat nn), iv 5, rv rk, rv tx, rv pl, s6, rv b801, rv tx, iv 4, .unset, .unset, .unset, .unset, .unset]) d1_18 rfl ?_
  refine o_iconst cx X803 (z := (0 : Int32)) d1_20 rfl ?_
  refine o_istore cx X803 (Ls' := #[rv aa, iv (Int32.ofNat nn), iv 5, rv rk, rv tx, rv pl, s6, rv b801, rv tx, iv 4, iv 0, .unset, .unset, .unset, .unset]) d1_21 rfl ?_
  refine o_iload cx X803 d1_23 rfl ?_
  refine o_iload cx X803 d1_25 rfl ?_
  refine o_icmpNo cx X803 d1_27 (by decide) ?_
  refine o_aload cx X803 d1_30 rfl rfl ?_
  refine o_iload cx X803 d1_32 rfl ?_
  refine o_ldI cx X803 (v := (.int (2 : Int32))) d1_34 (At.keep KK nin0) 0 (by decide) rfl rfl ?_
  refine o_istore cx X803 (Ls' := #[rv aa, iv (Int32.ofNat nn), iv 5, rv rk, rv tx, rv pl, s6, rv b801, rv tx, iv 4, iv 0, iv 2, .unset, .unset, .unset]) d1_35 rfl ?_
  refine o_aload cx X803 d1_37 rfl rfl ?_
  refine o_iload cx X803 d1_39 rfl ?_
  refine o_iconst cx X803 (z := (1 : Int32)) d1_41 rfl ?_
  refine o_iadd cx X803 (z := (3 : Int32)) d1_42 rfl ?_
  refine o_dup2 cx X803 d1_43 rfl rfl ?_
  refine o_ldI cx X803 (v := (.int (0 : Int32))) d1_44 A806 3 (by decide) rfl rfl ?_
  refine o_iconst cx X803 (z := (1 : Int32)) d1_45 rfl ?_
  refine o_iadd cx X803 (z := (1 : Int32)) d1_46 rfl ?_
  refine o_stI cx X803 d1_47 A806 3 (by decide) rfl (Nat.le_of_ble_eq_true rfl) ge808 fun T809 h811 X810 W812 A806 => ?_
  have KK := KK.wr W812 (Or.inr sz_b801)
  have A806 : own_Ar Z h811 b801 .int [(.int (0 : Int32)), (.int (0 : Int32)), (.int (0 : Int32)), (.int (1 : Int32)), (.int (0 : Int32)), (.int (0 : Int32))] := A806
  refine o_iinc cx X810 (z := (1 : Int32)) (Ls' := #[rv aa, iv (Int32.ofNat nn), iv 5, rv rk, rv tx, rv pl, s6, rv b801, rv tx, iv 4, iv 1, iv 2, .unset, .unset, .unset]) d1_48 rfl rfl rfl ?_
  refine o_goto cx X810 23 d1_51 (by decide) (by decide) ?_
  refine o_iload cx X810 d1_23 rfl ?_
  refine o_iload cx X810 d1_25 rfl ?_
  refine o_icmpNo cx X810 d1_27 (by decide) ?_
  refine o_aload cx X810 d1_30 rfl rfl ?_
  refine o_iload cx X810 d1_32 rfl ?_
  refine o_ldI cx X810 (v := (.int (3 : Int32))) d1_34 (At.keep KK nin0) 1 (by decide) rfl rfl ?_
  refine o_istore cx X810 (Ls' := #[rv aa, iv (Int32.ofNat nn), iv 5, rv rk, rv tx, rv pl, s6, rv b801, rv tx, iv 4, iv 1, iv 3, .unset, .unset, .unset]) d1_35 rfl ?_
  refine o_aload cx X810 d1_37 rfl rfl ?_
  refine o_iload cx X810 d1_39 rfl ?_
  refine o_iconst cx X810 (z := (1 : Int32)) d1_41 rfl ?_
  refine o_iadd cx X810 (z := (4 : Int32)) d1_42 rfl ?_
  refine o_dup2 cx X810 d1_43 rfl rfl ?_
  refine o_ldI cx X810 (v := (.int (0 : Int32))) d1_44 A806 4 (by decide) rfl rfl ?_
  refine o_iconst cx X810 (z := (1 : Int32)) d1_45 rfl ?_
  refine o_iadd cx X810 (z := (1 : Int32)) d1_46 rfl ?_
  refine o_stI cx X810 d1_47 A806 4 (by decide) rfl (Nat.le_of_ble_eq_true rfl) ge808 fun T813 h815 X814 W816 A806 => ?_
  have KK := KK.wr W816 (Or.inr sz_b801)
  have A806 : own_Ar Z h815 b801 .int [(.int (0 : Int32)), (.int (0 : Int32)), (.int (0 : Int32)), (.int (1 : Int32)), (.int (1 : Int32)), (.int (0 : Int32))] := A806
  refine o_iinc cx X814 (z := (2 : Int32)) (Ls' := #[rv aa, iv (Int32.ofNat nn), iv 5, rv rk, rv tx, rv pl, s6, rv b801, rv tx, iv 4, iv 2, iv 3, .unset, .unset, .unset]) d1_48 rfl rfl rfl ?_
  refine o_goto cx X814 23 d1_51 (by decide) (by decide) ?_
  refine o_iload cx X814 d1_23 rfl ?_
  refine o_iload cx X814 d1_25 rfl ?_
  refine o_icmpNo cx X814 d1_27 (by decide) ?_
  refine o_aload cx X814 d1_30 rfl rfl ?_
  refine o_iload cx X814 d1_32 rfl ?_
  refine o_ldI cx X814 (v := (.int (4 : Int32))) d1_34 (At.keep KK nin0) 2 (by decide) rfl rfl ?_
  refine o_istore cx X814 (Ls' := #[rv aa, iv (Int32.ofNat nn), iv 5, rv rk, rv tx, rv pl, s6, rv b801, rv tx, iv 4, iv 2, iv 4, .unset, .unset, .unset]) d1_35 rfl ?_
  refine o_aload cx X814 d1_37 rfl rfl ?_
  refine o_iload cx X814 d1_39 rfl ?_
  refine o_iconst cx X814 (z := (1 : Int32)) d1_41 rfl ?_
  refine o_iadd cx X814 (z := (5 : Int32)) d1_42 rfl ?_
  refine o_dup2 cx X814 d1_43 rfl rfl ?_
  refine o_ldI cx X814 (v := (.int (0 : Int32))) d1_44 A806 5 (by decide) rfl rfl ?_
  refine o_iconst cx X814 (z := (1 : Int32)) d1_45 rfl ?_
  refine o_iadd cx X814 (z := (1 : Int32)) d1_46 rfl ?_
  refine o_stI cx X814 d1_47 A806 5 (by decide) rfl (Nat.le_of_ble_eq_true rfl) ge808 fun T817 h819 X818 W820 A806 => ?_
  have KK := KK.wr W820 (Or.inr sz_b801)
  have A806 : own_Ar Z h819 b801 .int [(.int (0 : Int32)), (.int (0 : Int32)), (.int (0 : Int32)), (.int (1 : Int32)), (.int (1 : Int32)), (.int (1 : Int32))] := A806
  refine o_iinc cx X818 (z := (3 : Int32)) (Ls' := #[rv aa, iv (Int32.ofNat nn), iv 5, rv rk, rv tx, rv pl, s6, rv b801, rv tx, iv 4, iv 3, iv 4, .unset, .unset, .unset]) d1_48 rfl rfl rfl ?_
  refine o_goto cx X818 23 d1_51 (by decide) (by decide) ?_
  refine o_iload cx X818 d1_23 rfl ?_
  refine o_iload cx X818 d1_25 rfl ?_
  refine o_icmpNo cx X818 d1_27 (by decide) ?_
  refine o_aload cx X818 d1_30 rfl rfl ?_
  refine o_iload cx X818 d1_32 rfl ?_
  refine o_ldI cx X818 (v := (.int (0 : Int32))) d1_34 (At.keep KK nin0) 3 (by decide) rfl rfl ?_
  refine o_istore cx X818 (Ls' := #[rv aa, iv (Int32.ofNat nn), iv 5, rv rk, rv tx, rv pl, s6, rv b801, rv tx, iv 4, iv 3, iv 0, .unset, .unset, .unset]) d1_35 rfl ?_
  refine o_aload cx X818 d1_37 rfl rfl ?_
  refine o_iload cx X818 d1_39 rfl ?_
  refine o_iconst cx X818 (z := (1 : Int32)) d1_41 rfl ?_
  refine o_iadd cx X818 (z := (1 : Int32)) d1_42 rfl ?_
  refine o_dup2 cx X818 d1_43 rfl rfl ?_
  refine o_ldI cx X818 (v := (.int (0 : Int32))) d1_44 A806 1 (by decide) rfl rfl ?_
  refine o_iconst cx X818 (z := (1 : Int32)) d1_45 rfl ?_
  refine o_iadd cx X818 (z := (1 : Int32)) d1_46 rfl ?_
  refine o_stI cx X818 d1_47 A806 1 (by decide) rfl (Nat.le_of_ble_eq_true rfl) ge808 fun T821 h823 X822 W824 A806 => ?_
  have KK := KK.wr W824 (Or.inr sz_b801)
  have A806 : own_Ar Z h823 b801 .int [(.int (0 : Int32)), (.int (1 : Int32)), (.int (0 : Int32)), (.int (1 : Int32)), (.int (1 : Int32)), (.int (1 : Int32))] := A806
  refine o_iinc cx X822 (z := (4 : Int32)) (Ls' := #[rv aa, iv (Int32.ofNat nn), iv 5, rv rk, rv tx, rv pl, s6, rv b801, rv tx, iv 4, iv 4, iv 0, .unset, .unset, .unset]) d1_48 rfl rfl rfl ?_
  refine o_goto cx X822 23 d1_51 (by decide) (by decide) ?_
  refine o_iload cx X822 d1_23 rfl ?_
  refine o_iload cx X822 d1_25 rfl ?_
  refine o_icmpYes cx X822 54 d1_27 (by decide) (by decide) (by decide) ?_
  refine o_iconst cx X822 (z := (0 : Int32)) d1_54 rfl ?_
  refine o_istore cx X822 (Ls' := #[rv aa, iv (Int32.ofNat nn), iv 5, rv rk, rv tx, rv pl, s6, rv b801, iv 0, iv 4, iv 4, iv 0, .unset, .unset, .unset]) d1_55 rfl ?_
  refine o_iload cx X822 d1_57 rfl ?_
  refine o_iloadN cx X822 d1_59 rfl ?_
  refine o_icmpNo cx X822 d1_60 (by decide) ?_
  refine o_aload cx X822 d1_63 rfl rfl ?_
  refine o_iload cx X822 d1_65 rfl ?_
  refine o_iconst cx X822 (z := (1 : Int32)) d1_67 rfl ?_
  refine o_iadd cx X822 (z := (1 : Int32)) d1_68 rfl ?_
  refine o_dup2 cx X822 d1_69 rfl rfl ?_
  refine o_ldI cx X822 (v := (.int (1 : Int32))) d1_70 A806 1 (by decide) rfl rfl ?_
  refine o_aload cx X822 d1_71 rfl rfl ?_
  refine o_iload cx X822 d1_73 rfl ?_
  refine o_ldI cx X822 (v := (.int (0 : Int32))) d1_75 A806 0 (by decide) rfl rfl ?_
  refine o_iadd cx X822 (z := (1 : Int32)) d1_76 rfl ?_
  refine o_stI cx X822 d1_77 A806 1 (by decide) rfl (Nat.le_of_ble_eq_true rfl) ge808 fun T825 h827 X826 W828 A806 => ?_
  have KK := KK.wr W828 (Or.inr sz_b801)
  have A806 : own_Ar Z h827 b801 .int [(.int (0 : Int32)), (.int (1 : Int32)), (.int (0 : Int32)), (.int (1 : Int32)), (.int (1 : Int32)), (.int (1 : Int32))] := A806
  refine o_iinc cx X826 (z := (1 : Int32)) (Ls' := #[rv aa, iv (Int32.ofNat nn), iv 5, rv rk, rv tx, rv pl, s6, rv b801, iv 1, iv 4, iv 4, iv 0, .unset, .unset, .unset]) d1_78 rfl rfl rfl ?_
  refine o_goto cx X826 57 d1_81 (by decide) (by decide) ?_
  refine o_iload cx X826 d1_57 rfl ?_
  refine o_iloadN cx X826 d1_59 rfl ?_
  refine o_icmpNo cx X826 d1_60 (by decide) ?_
  refine o_aload cx X826 d1_63 rfl rfl ?_
  refine o_iload cx X826 d1_65 rfl ?_
  refine o_iconst cx X826 (z := (1 : Int32)) d1_67 rfl ?_
  refine o_iadd cx X826 (z := (2 : Int32)) d1_68 rfl ?_
  refine o_dup2 cx X826 d1_69 rfl rfl ?_
  refine o_ldI cx X826 (v := (.int (0 : Int32))) d1_70 A806 2 (by decide) rfl rfl ?_
  refine o_aload cx X826 d1_71 rfl rfl ?_
  refine o_iload cx X826 d1_73 rfl ?_
  refine o_ldI cx X826 (v := (.int (1 : Int32))) d1_75 A806 1 (by decide) rfl rfl ?_
  refine o_iadd cx X826 (z := (1 : Int32)) d1_76 rfl ?_
  refine o_stI cx X826 d1_77 A806 2 (by decide) rfl (Nat.le_of_ble_eq_true rfl) ge808 fun T829 h831 X830 W832 A806 => ?_
  have KK := KK.wr W832 (Or.inr sz_b801)
  have A806 : own_Ar Z h831 b801 .int [(.int (0 : Int32)), (.int (1 : Int32)), (.int (1 : Int32)), (.int (1 : Int32)), (.int (1 : Int32)), (.int (1 : Int32))] := A806
  refine o_iinc cx X830 (z := (2 : Int32)) (Ls' := #[rv aa, iv (Int32.ofNat nn), iv 5, rv rk, rv tx, rv pl, s6, rv b801, iv 2, iv 4, iv 4, iv 0, .unset, .unset, .unset]) d1_78 rfl rfl rfl ?_
  refine o_goto cx X830 57 d1_81 (by decide) (by decide) ?_
  refine o_iload cx X830 d1_57 rfl ?_
  refine o_iloadN cx X830 d1_59 rfl ?_
  refine o_icmpNo cx X830 d1_60 (by decide) ?_
  refine o_aload cx X830 d1_63 rfl rfl ?_
  refine o_iload cx X830 d1_65 rfl ?_
  refine o_iconst cx X830 (z := (1 : Int32)) d1_67 rfl ?_
  refine o_iadd cx X830 (z := (3 : Int32)) d1_68 rfl ?_
  refine o_dup2 cx X830 d1_69 rfl rfl ?_
  refine o_ldI cx X830 (v := (.int (1 : Int32))) d1_70 A806 3 (by decide) rfl rfl ?_
  refine o_aload cx X830 d1_71 rfl rfl ?_
  refine o_iload cx X830 d1_73 rfl ?_
  refine o_ldI cx X830 (v := (.int (1 : Int32))) d1_75 A806 2 (by decide) rfl rfl ?_
  refine o_iadd cx X830 (z := (2 : Int32)) d1_76 rfl ?_
  refine o_stI cx X830 d1_77 A806 3 (by decide) rfl (Nat.le_of_ble_eq_true rfl) ge808 fun T833 h835 X834 W836 A806 => ?_
  have KK := KK.wr W836 (Or.inr sz_b801)
  have A806 : own_Ar Z h835 b801 .int [(.int (0 : Int32)), (.int (1 : Int32)), (.int (1 : Int32)), (.int (2 : Int32)), (.int (1 : Int32)), (.int (1 : Int32))] := A806
  refine o_iinc cx X834 (z := (3 : Int32)) (Ls' := #[rv aa, iv (Int32.ofNat nn), iv 5, rv rk, rv tx, rv pl, s6, rv b801, iv 3, iv 4, iv 4, iv 0, .unset, .unset, .unset]) d1_78 rfl rfl rfl ?_
  refine o_goto cx X834 57 d1_81 (by decide) (by decide) ?_
  refine o_iload cx X834 d1_57 rfl ?_
  refine o_iloadN cx X834 d1_59 rfl ?_
  refine o_icmpNo cx X834 d1_60 (by decide) ?_
  refine o_aload cx X834 d1_63 rfl rfl ?_
  refine o_iload cx X834 d1_65 rfl ?_
  refine o_iconst cx X834 (z := (1 : Int32)) d1_67 rfl ?_
  refine o_iadd cx X834 (z := (4 : Int32)) d1_68 rfl ?_
  refine o_dup2 cx X834 d1_69 rfl rfl ?_
  refine o_ldI cx X834 (v := (.int (1 : Int32))) d1_70 A806 4 (by decide) rfl rfl ?_
  refine o_aload cx X834 d1_71 rfl rfl ?_
  refine o_iload cx X834 d1_73 rfl ?_
  refine o_ldI cx X834 (v := (.int (2 : Int32))) d1_75 A806 3 (by decide) rfl rfl ?_
  refine o_iadd cx X834 (z := (3 : Int32)) d1_76 rfl ?_
  refine o_stI cx X834 d1_77 A806 4 (by decide) rfl (Nat.le_of_ble_eq_true rfl) ge808 fun T837 h839 X838 W840 A806 => ?_
  have KK := KK.wr W840 (Or.inr sz_b801)
  have A806 : own_Ar Z h839 b801 .int [(.int (0 : Int32)), (.int (1 : Int32)), (.int (1 : Int32)), (.int (2 : Int32)), (.int (3 : Int32)), (.int (1 : Int32))] := A806
  refine o_iinc cx X838 (z := (4 : Int32)) (Ls' := #[rv aa, iv (Int32.ofNat nn), iv 5, rv rk, rv tx, rv pl, s6, rv b801, iv 4, iv 4, iv 4, iv 0, .unset, .unset, .unset]) d1_78 rfl rfl rfl ?_
  refine o_goto cx X838 57 d1_81 (by decide) (by decide) ?_
  refine o_iload cx X838 d1_57 rfl ?_
  refine o_iloadN cx X838 d1_59 rfl ?_
  refine o_icmpNo cx X838 d1_60 (by decide) ?_
  refine o_aload cx X838 d1_63 rfl rfl ?_
  refine o_iload cx X838 d1_65 rfl ?_
  refine o_iconst cx X838 (z := (1 : Int32)) d1_67 rfl ?_
  refine o_iadd cx X838 (z := (5 : Int32)) d1_68 rfl ?_
  refine o_dup2 cx X838 d1_69 rfl rfl ?_
  refine o_ldI cx X838 (v := (.int (1 : Int32))) d1_70 A806 5 (by decide) rfl rfl ?_
  refine o_aload cx X838 d1_71 rfl rfl ?_
  refine o_iload cx X838 d1_73 rfl ?_
  refine o_ldI cx X838 (v := (.int (3 : Int32))) d1_75 A806 4 (by decide) rfl rfl ?_
  refine o_iadd cx X838 (z := (4 : Int32)) d1_76 rfl ?_
  refine o_stI cx X838 d1_77 A806 5 (by decide) rfl (Nat.le_of_ble_eq_true rfl) ge808 fun T841 h843 X842 W844 A806 => ?_
  have KK := KK.wr W844 (Or.inr sz_b801)
  have A806 : own_Ar Z h843 b801 .int [(.int (0 : Int32)), (.int (1 : Int32)), (.int (1 : Int32)), (.int (2 : Int32)), (.int (3 : Int32)), (.int (4 : Int32))] := A806
  refine o_iinc cx X842 (z := (5 : Int32)) (Ls' := #[rv aa, iv (Int32.ofNat nn), iv 5, rv rk, rv tx, rv pl, s6, rv b801, iv 5, iv 4, iv 4, iv 0, .unset, .unset, .unset]) d1_78 rfl rfl rfl ?_
  refine o_goto cx X842 57 d1_81 (by decide) (by decide) ?_
  refine o_iload cx X842 d1_57 rfl ?_
  refine o_iloadN cx X842 d1_59 rfl ?_
  refine o_icmpYes cx X842 84 d1_60 (by decide) (by decide) (by decide) ?_
  refine o_aload cx X842 d1_84 rfl rfl ?_
  refine o_len cx X842 (z := (4 : Int32)) d1_86 (At.keep KK nin0) rfl ?_
  refine o_newP cx X842 d1_87 (o_w hw 1 rfl) (by decide) 4 4 rfl (Nat.le_refl _) (by decide) (by decide) (by decide) fun T846 h848 b845 gb851 ge852 X847 E849 A850 => ?_
  have ne_b801_b845 : b801 ≠ b845 := by rw [gb851]; exact Nat.ne_of_lt A806.lt
  have sz_b845 : h0.size ≤ b845 := by rw [gb851]; exact KK.1
  have A806 := A806.ext E849
  have KK := KK.ext E849
  have A850 : own_Ar Z h848 b845 .int [(.int (0 : Int32)), (.int (0 : Int32)), (.int (0 : Int32)), (.int (0 : Int32))] := A850
  refine o_astore cx X847 (Ls' := #[rv aa, iv (Int32.ofNat nn), iv 5, rv rk, rv tx, rv pl, s6, rv b801, rv b845, iv 4, iv 4, iv 0, .unset, .unset, .unset]) d1_89 rfl rfl ?_
  refine o_iconst cx X847 (z := (0 : Int32)) d1_91 rfl ?_
  refine o_istore cx X847 (Ls' := #[rv aa, iv (Int32.ofNat nn), iv 5, rv rk, rv tx, rv pl, s6, rv b801, rv b845, iv 0, iv 4, iv 0, .unset, .unset, .unset]) d1_92 rfl ?_
  refine o_iload cx X847 d1_94 rfl ?_
  refine o_aload cx X847 d1_96 rfl rfl ?_
  refine o_len cx X847 (z := (4 : Int32)) d1_98 (At.keep KK nin0) rfl ?_
  refine o_icmpNo cx X847 d1_99 (by decide) ?_
  refine o_aload cx X847 d1_102 rfl rfl ?_
  refine o_aload cx X847 d1_104 rfl rfl ?_
  refine o_aload cx X847 d1_106 rfl rfl ?_
  refine o_iload cx X847 d1_108 rfl ?_
  refine o_ldI cx X847 (v := (.int (2 : Int32))) d1_110 (At.keep KK nin0) 0 (by decide) rfl rfl ?_
  refine o_dup2 cx X847 d1_111 rfl rfl ?_
  refine o_ldI cx X847 (v := (.int (1 : Int32))) d1_112 A806 2 (by decide) rfl rfl ?_
  refine o_dup_x2 cx X847 d1_113 rfl rfl rfl ?_
  refine o_iconst cx X847 (z := (1 : Int32)) d1_114 rfl ?_
  refine o_iadd cx X847 (z := (2 : Int32)) d1_115 rfl ?_
  refine o_stI cx X847 d1_116 A806 2 (by decide) rfl (Nat.le_of_ble_eq_true rfl) ge808 fun T853 h855 X854 W856 A806 => ?_
  have A850 := A850.other W856 (Ne.symm ne_b801_b845)
  have KK := KK.wr W856 (Or.inr sz_b801)
  have A806 : own_Ar Z h855 b801 .int [(.int (0 : Int32)), (.int (1 : Int32)), (.int (2 : Int32)), (.int (2 : Int32)), (.int (3 : Int32)), (.int (4 : Int32))] := A806
  refine o_iload cx X854 d1_117 rfl ?_
  refine o_stI cx X854 d1_119 A850 1 (by decide) rfl (Nat.le_of_ble_eq_true rfl) ge852 fun T857 h859 X858 W860 A850 => ?_
  have A806 := A806.other W860 ne_b801_b845
  have KK := KK.wr W860 (Or.inr sz_b845)
  have A850 : own_Ar Z h859 b845 .int [(.int (0 : Int32)), (.int (0 : Int32)), (.int (0 : Int32)), (.int (0 : Int32))] := A850
  refine o_iinc cx X858 (z := (1 : Int32)) (Ls' := #[rv aa, iv (Int32.ofNat nn), iv 5, rv rk, rv tx, rv pl, s6, rv b801, rv b845, iv 1, iv 4, iv 0, .unset, .unset, .unset]) d1_120 rfl rfl rfl ?_
  refine o_goto cx X858 94 d1_123 (by decide) (by decide) ?_
  refine o_iload cx X858 d1_94 rfl ?_
  refine o_aload cx X858 d1_96 rfl rfl ?_
  refine o_len cx X858 (z := (4 : Int32)) d1_98 (At.keep KK nin0) rfl ?_
  refine o_icmpNo cx X858 d1_99 (by decide) ?_
  refine o_aload cx X858 d1_102 rfl rfl ?_
  refine o_aload cx X858 d1_104 rfl rfl ?_
  refine o_aload cx X858 d1_106 rfl rfl ?_
  refine o_iload cx X858 d1_108 rfl ?_
  refine o_ldI cx X858 (v := (.int (3 : Int32))) d1_110 (At.keep KK nin0) 1 (by decide) rfl rfl ?_
  refine o_dup2 cx X858 d1_111 rfl rfl ?_
  refine o_ldI cx X858 (v := (.int (2 : Int32))) d1_112 A806 3 (by decide) rfl rfl ?_
  refine o_dup_x2 cx X858 d1_113 rfl rfl rfl ?_
  refine o_iconst cx X858 (z := (1 : Int32)) d1_114 rfl ?_
  refine o_iadd cx X858 (z := (3 : Int32)) d1_115 rfl ?_
  refine o_stI cx X858 d1_116 A806 3 (by decide) rfl (Nat.le_of_ble_eq_true rfl) ge808 fun T861 h863 X862 W864 A806 => ?_
  have A850 := A850.other W864 (Ne.symm ne_b801_b845)
  have KK := KK.wr W864 (Or.inr sz_b801)
  have A806 : own_Ar Z h863 b801 .int [(.int (0 : Int32)), (.int (1 : Int32)), (.int (2 : Int32)), (.int (3 : Int32)), (.int (3 : Int32)), (.int (4 : Int32))] := A806
  refine o_iload cx X862 d1_117 rfl ?_
  refine o_stI cx X862 d1_119 A850 2 (by decide) rfl (Nat.le_of_ble_eq_true rfl) ge852 fun T865 h867 X866 W868 A850 => ?_
  have A806 := A806.other W868 ne_b801_b845
  have KK := KK.wr W868 (Or.inr sz_b845)
  have A850 : own_Ar Z h867 b845 .int [(.int (0 : Int32)), (.int (0 : Int32)), (.int (1 : Int32)), (.int (0 : Int32))] := A850
  refine o_iinc cx X866 (z := (2 : Int32)) (Ls' := #[rv aa, iv (Int32.ofNat nn), iv 5, rv rk, rv tx, rv pl, s6, rv b801, rv b845, iv 2, iv 4, iv 0, .unset, .unset, .unset]) d1_120 rfl rfl rfl ?_
  refine o_goto cx X866 94 d1_123 (by decide) (by decide) ?_
  refine o_iload cx X866 d1_94 rfl ?_
  refine o_aload cx X866 d1_96 rfl rfl ?_
  refine o_len cx X866 (z := (4 : Int32)) d1_98 (At.keep KK nin0) rfl ?_
  refine o_icmpNo cx X866 d1_99 (by decide) ?_
  refine o_aload cx X866 d1_102 rfl rfl ?_
  refine o_aload cx X866 d1_104 rfl rfl ?_
  refine o_aload cx X866 d1_106 rfl rfl ?_
  refine o_iload cx X866 d1_108 rfl ?_
  refine o_ldI cx X866 (v := (.int (4 : Int32))) d1_110 (At.keep KK nin0) 2 (by decide) rfl rfl ?_
  refine o_dup2 cx X866 d1_111 rfl rfl ?_
  refine o_ldI cx X866 (v := (.int (3 : Int32))) d1_112 A806 4 (by decide) rfl rfl ?_
  refine o_dup_x2 cx X866 d1_113 rfl rfl rfl ?_
  refine o_iconst cx X866 (z := (1 : Int32)) d1_114 rfl ?_
  refine o_iadd cx X866 (z := (4 : Int32)) d1_115 rfl ?_
  refine o_stI cx X866 d1_116 A806 4 (by decide) rfl (Nat.le_of_ble_eq_true rfl) ge808 fun T869 h871 X870 W872 A806 => ?_
  have A850 := A850.other W872 (Ne.symm ne_b801_b845)
  have KK := KK.wr W872 (Or.inr sz_b801)
  have A806 : own_Ar Z h871 b801 .int [(.int (0 : Int32)), (.int (1 : Int32)), (.int (2 : Int32)), (.int (3 : Int32)), (.int (4 : Int32)), (.int (4 : Int32))] := A806
  refine o_iload cx X870 d1_117 rfl ?_
  refine o_stI cx X870 d1_119 A850 3 (by decide) rfl (Nat.le_of_ble_eq_true rfl) ge852 fun T873 h875 X874 W876 A850 => ?_
  have A806 := A806.other W876 ne_b801_b845
  have KK := KK.wr W876 (Or.inr sz_b845)
  have A850 : own_Ar Z h875 b845 .int [(.int (0 : Int32)), (.int (0 : Int32)), (.int (1 : Int32)), (.int (2 : Int32))] := A850
  refine o_iinc cx X874 (z := (3 : Int32)) (Ls' := #[rv aa, iv (Int32.ofNat nn), iv 5, rv rk, rv tx, rv pl, s6, rv b801, rv b845, iv 3, iv 4, iv 0, .unset, .unset, .unset]) d1_120 rfl rfl rfl ?_
  refine o_goto cx X874 94 d1_123 (by decide) (by decide) ?_
  refine o_iload cx X874 d1_94 rfl ?_
  refine o_aload cx X874 d1_96 rfl rfl ?_
  refine o_len cx X874 (z := (4 : Int32)) d1_98 (At.keep KK nin0) rfl ?_
  refine o_icmpNo cx X874 d1_99 (by decide) ?_
  refine o_aload cx X874 d1_102 rfl rfl ?_
  refine o_aload cx X874 d1_104 rfl rfl ?_
  refine o_aload cx X874 d1_106 rfl rfl ?_
  refine o_iload cx X874 d1_108 rfl ?_
  refine o_ldI cx X874 (v := (.int (0 : Int32))) d1_110 (At.keep KK nin0) 3 (by decide) rfl rfl ?_
  refine o_dup2 cx X874 d1_111 rfl rfl ?_
  refine o_ldI cx X874 (v := (.int (0 : Int32))) d1_112 A806 0 (by decide) rfl rfl ?_
  refine o_dup_x2 cx X874 d1_113 rfl rfl rfl ?_
  refine o_iconst cx X874 (z := (1 : Int32)) d1_114 rfl ?_
  refine o_iadd cx X874 (z := (1 : Int32)) d1_115 rfl ?_
  refine o_stI cx X874 d1_116 A806 0 (by decide) rfl (Nat.le_of_ble_eq_true rfl) ge808 fun T877 h879 X878 W880 A806 => ?_
  have A850 := A850.other W880 (Ne.symm ne_b801_b845)
  have KK := KK.wr W880 (Or.inr sz_b801)
  have A806 : own_Ar Z h879 b801 .int [(.int (1 : Int32)), (.int (1 : Int32)), (.int (2 : Int32)), (.int (3 : Int32)), (.int (4 : Int32)), (.int (4 : Int32))] := A806
  refine o_iload cx X878 d1_117 rfl ?_
  refine o_stI cx X878 d1_119 A850 0 (by decide) rfl (Nat.le_of_ble_eq_true rfl) ge852 fun T881 h883 X882 W884 A850 => ?_
  have A806 := A806.other W884 ne_b801_b845
  have KK := KK.wr W884 (Or.inr sz_b845)
  have A850 : own_Ar Z h883 b845 .int [(.int (3 : Int32)), (.int (0 : Int32)), (.int (1 : Int32)), (.int (2 : Int32))] := A850
  refine o_iinc cx X882 (z := (4 : Int32)) (Ls' := #[rv aa, iv (Int32.ofNat nn), iv 5, rv rk, rv tx, rv pl, s6, rv b801, rv b845, iv 4, iv 4, iv 0, .unset, .unset, .unset]) d1_120 rfl rfl rfl ?_
  refine o_goto cx X882 94 d1_123 (by decide) (by decide) ?_
  refine o_iload cx X882 d1_94 rfl ?_
  refine o_aload cx X882 d1_96 rfl rfl ?_
  refine o_len cx X882 (z := (4 : Int32)) d1_98 (At.keep KK nin0) rfl ?_
  refine o_icmpYes cx X882 126 d1_99 (by decide) (by decide) (by decide) ?_
  have ne_aa_b845 : aa ≠ b845 := Nat.ne_of_lt (Nat.lt_of_lt_of_le E0.lt sz_b845)
  exact kk _ _ b801 b845 (4 : Int32) (4 : Int32) (0 : Int32) (X882.more (by decide) (by decide)) ge852 ne_aa_b845  (E0.keep KK) (F0.keep KK nin0) (F1.keep KK nin0) (F2.keep KK nin0) (F3.keep KK nin0) (Ar.keep KK nin0) (At.keep KK nin0) (Ap.keep KK nin0) (Ac.keep KK nin0) A850
set_option maxRecDepth 65536 in
set_option maxHeartbeats 40000000 in
theorem segA_5_3 {p : Program} {l : Launch} {e : Env} {s : State} {m : MethodId} {below : List Frame} {meth : Method} {c : Code} {n0 : Nat} {T0 : State} {h0 : Heap} {Z : State} {a0 : Array Value} {args : Array Value} {P : State → Outcome → Prop} (hw : ∀ d ∈ tables_1, d.before a0 Z = true) (aa rk tx pl : Addr) (nn k0 k1 k2 k3 : Nat) (v0 v1 v2 v3 : Int32) (s6 : Slot) (cv : Addr) (vcs : List Value) (cx : own_Cx p s m meth c Z prog_28_method_2_code 15 (⟨"com/example/rough_dedup/roughdedup/ShingleIndex$Postings", "<init>", "(II[I[I[I[I)V"⟩ : MethodName) none) (X0 : own_Sd p l e ({ frames := 2, cells := 7, slots := 41, locals := 74 } : Room) s m args below meth c n0 T0 h0 0 0) (ga : n0 ≤ aa) (ne_aa_rk : aa ≠ rk) (ne_aa_tx : aa ≠ tx) (ne_aa_pl : aa ≠ pl) (E0 : Exa Z h0 aa "com/example/rough_dedup/roughdedup/ShingleIndex$Postings") (F0 : Fld Z h0 aa "com/example/rough_dedup/roughdedup/ShingleIndex$Postings" "starts" "[I" .null) (F1 : Fld Z h0 aa "com/example/rough_dedup/roughdedup/ShingleIndex$Postings" "texts" "[I" .null) (F2 : Fld Z h0 aa "com/example/rough_dedup/roughdedup/ShingleIndex$Postings" "places" "[I" .null) (F3 : Fld Z h0 aa "com/example/rough_dedup/roughdedup/ShingleIndex$Postings" "covered" "[I" .null) (Ar : own_Ar Z h0 rk .int [(.int (Int32.ofNat k0)), (.int (Int32.ofNat k1)), (.int (Int32.ofNat k2)), (.int (Int32.ofNat k3))]) (At : own_Ar Z h0 tx .int [(.int (3 : Int32)), (.int (4 : Int32)), (.int (0 : Int32)), (.int (1 : Int32))]) (Ap : own_Ar Z h0 pl .int [(.int v0), (.int v1), (.int v2), (.int v3)]) (Ac : own_Ar Z h0 cv .int vcs) (kk : ∀ (T : State) (h : Heap) (ts bt : Addr) (x9 x10 x11 : Int32), own_Sd p l e ({ frames := 2, cells := 7, slots := 41, locals := 74 } : Room) s m args below meth c n0 T h 2 12 → n0 ≤ bt → aa ≠ bt → Exa Z h aa "com/example/rough_dedup/roughdedup/ShingleIndex$Postings" → Fld Z h aa "com/example/rough_dedup/roughdedup/ShingleIndex$Postings" "starts" "[I" .null → Fld Z h aa "com/example/rough_dedup/roughdedup/ShingleIndex$Postings" "texts" "[I" .null → Fld Z h aa "com/example/rough_dedup/roughdedup/ShingleIndex$Postings" "places" "[I" .null → Fld Z h aa "com/example/rough_dedup/roughdedup/ShingleIndex$Postings" "covered" "[I" .null → own_Ar Z h rk .int [(.int (Int32.ofNat k0)), (.int (Int32.ofNat k1)), (.int (Int32.ofNat k2)), (.int (Int32.ofNat k3))] → own_Ar Z h tx .int [(.int (3 : Int32)), (.int (4 : Int32)), (.int (0 : Int32)), (.int (1 : Int32))] → own_Ar Z h pl .int [(.int v0), (.int v1), (.int v2), (.int v3)] → own_Ar Z h cv .int vcs → own_Ar Z h bt .int [(.int (2 : Int32)), (.int (3 : Int32)), (.int (0 : Int32)), (.int (1 : Int32))] → own_Go p e below P (T.setTop (mkF m 126 #[rv aa, iv (Int32.ofNat nn), iv 5, rv rk, rv tx, rv pl, s6, .val (.ref ts), .val (.ref bt), .val (.int x9), .val (.int x10), .val (.int x11), .unset, .unset, .unset] []))) :
    own_Go p e below P (T0.setTop (mkF m 0 #[rv aa, iv (Int32.ofNat nn), iv 5, rv rk, rv tx, rv pl, s6, .unset, .unset, .unset, .unset, .unset, .unset, .unset, .unset] [])) := by
  have KK := Keep.refl h0 []
  refine o_aloadN cx X0 d1_0 rfl rfl ?_
  refine o_initO cx X0 d1_1 (o_w hw 9 rfl) (o_w hw 10 rfl) (o_w hw 11 rfl) rfl (by decide) 0 rfl (by decide) fun T885 X886 => ?_
  refine o_iloadN cx X886 d1_4 rfl ?_
  refine o_iconst cx X886 (z := (1 : Int32)) d1_5 rfl ?_
  refine o_iadd cx X886 (z := (6 : Int32)) d1_6 rfl ?_
  refine o_newP cx X886 d1_7 (o_w hw 1 rfl) (by decide) 6 6 rfl (Nat.le_refl _) (by decide) (by decide) (by decide) fun T888 h890 b887 gb893 ge894 X889 E891 A892 => ?_
  have sz_b887 : h0.size ≤ b887 := by rw [gb893]; exact KK.1
  have KK := KK.ext E891
  have A892 : own_Ar Z h890 b887 .int [(.int (0 : Int32)), (.int (0 : Int32)), (.int (0 : Int32)), (.int (0 : Int32)), (.int (0 : Int32)), (.int (0 : Int32))] := A892
  refine o_astore cx X889 (Ls' := #[rv aa, iv (Int32.ofNat nn), iv 5, rv rk, rv tx, rv pl, s6, rv b887, .unset, .unset, .unset, .unset, .unset, .unset, .unset]) d1_9 rfl rfl ?_
  refine o_aload cx X889 d1_11 rfl rfl ?_
  refine o_astore cx X889 (Ls' := #[rv aa, iv (Int32.ofNat nn), iv 5, rv rk, rv tx, rv pl, s6, rv b887, rv tx, .unset, .unset, .unset, .unset, .unset, .unset]) d1_13 rfl rfl ?_
  refine o_aload cx X889 d1_15 rfl rfl ?_
  refine o_len cx X889 (z := (4 : Int32)) d1_17 (At.keep KK nin0) rfl ?_
  refine o_istore cx X889 (Ls' := #[rv aa, iv (Int32.ofNat nn), iv 5, rv rk, rv tx, rv pl, s6, rv b887, rv tx, iv 4, .unset, .unset, .unset, .unset, .unset]) d1_18 rfl ?_
  refine o_iconst cx X889 (z := (0 : Int32)) d1_20 rfl ?_
  refine o_istore cx X889 (Ls' := #[rv aa, iv (Int32.ofNat nn), iv 5, rv rk, rv tx, rv pl, s6, rv b887, rv tx, iv 4, iv 0, .unset, .unset, .unset, .unset]) d1_21 rfl ?_
  refine o_iload cx X889 d1_23 rfl ?_
  refine o_iload cx X889 d1_25 rfl ?_
  refine o_icmpNo cx X889 d1_27 (by decide) ?_
  refine o_aload cx X889 d1_30 rfl rfl ?_
  refine o_iload cx X889 d1_32 rfl ?_
  refine o_ldI cx X889 (v := (.int (3 : Int32))) d1_34 (At.keep KK nin0) 0 (by decide) rfl rfl ?_
  refine o_istore cx X889 (Ls' := #[rv aa, iv (Int32.ofNat nn), iv 5, rv rk, rv tx, rv pl, s6, rv b887, rv tx, iv 4, iv 0, iv 3, .unset, .unset, .unset]) d1_35 rfl ?_
  refine o_aload cx X889 d1_37 rfl rfl ?_
  refine o_iload cx X889 d1_39 rfl ?_
  refine o_iconst cx X889 (z := (1 : Int32)) d1_41 rfl ?_
  refine o_iadd cx X889 (z := (4 : Int32)) d1_42 rfl ?_
  refine o_dup2 cx X889 d1_43 rfl rfl ?_
  refine o_ldI cx X889 (v := (.int (0 : Int32))) d1_44 A892 4 (by decide) rfl rfl ?_
  refine o_iconst cx X889 (z := (1 : Int32)) d1_45 rfl ?_
  refine o_iadd cx X889 (z := (1 : Int32)) d1_46 rfl ?_
  refine o_stI cx X889 d1_47 A892 4 (by decide) rfl (Nat.le_of_ble_eq_true rfl) ge894 fun T895 h897 X896 W898 A892 => ?_
  have KK := KK.wr W898 (Or.inr sz_b887)
  have A892 : own_Ar Z h897 b887 .int [(.int (0 : Int32)), (.int (0 : Int32)), (.int (0 : Int32)), (.int (0 : Int32)), (.int (1 : Int32)), (.int (0 : Int32))] := A892
  refine o_iinc cx X896 (z := (1 : Int32)) (Ls' := #[rv aa, iv (Int32.ofNat nn), iv 5, rv rk, rv tx, rv pl, s6, rv b887, rv tx, iv 4, iv 1, iv 3, .unset, .unset, .unset]) d1_48 rfl rfl rfl ?_
  refine o_goto cx X896 23 d1_51 (by decide) (by decide) ?_
  refine o_iload cx X896 d1_23 rfl ?_
  refine o_iload cx X896 d1_25 rfl ?_
  refine o_icmpNo cx X896 d1_27 (by decide) ?_
  refine o_aload cx X896 d1_30 rfl rfl ?_
  refine o_iload cx X896 d1_32 rfl ?_
  refine o_ldI cx X896 (v := (.int (4 : Int32))) d1_34 (At.keep KK nin0) 1 (by decide) rfl rfl ?_
  refine o_istore cx X896 (Ls' := #[rv aa, iv (Int32.ofNat nn), iv 5, rv rk, rv tx, rv pl, s6, rv b887, rv tx, iv 4, iv 1, iv 4, .unset, .unset, .unset]) d1_35 rfl ?_
  refine o_aload cx X896 d1_37 rfl rfl ?_
  refine o_iload cx X896 d1_39 rfl ?_
  refine o_iconst cx X896 (z := (1 : Int32)) d1_41 rfl ?_
  refine o_iadd cx X896 (z := (5 : Int32)) d1_42 rfl ?_
  refine o_dup2 cx X896 d1_43 rfl rfl ?_
  refine o_ldI cx X896 (v := (.int (0 : Int32))) d1_44 A892 5 (by decide) rfl rfl ?_
  refine o_iconst cx X896 (z := (1 : Int32)) d1_45 rfl ?_
  refine o_iadd cx X896 (z := (1 : Int32)) d1_46 rfl ?_
  refine o_stI cx X896 d1_47 A892 5 (by decide) rfl (Nat.le_of_ble_eq_true rfl) ge894 fun T899 h901 X900 W902 A892 => ?_
  have KK := KK.wr W902 (Or.inr sz_b887)
  have A892 : own_Ar Z h901 b887 .int [(.int (0 : Int32)), (.int (0 : Int32)), (.int (0 : Int32)), (.int (0 : Int32)), (.int (1 : Int32)), (.int (1 : Int32))] := A892
  refine o_iinc cx X900 (z := (2 : Int32)) (Ls' := #[rv aa, iv (Int32.ofNat nn), iv 5, rv rk, rv tx, rv pl, s6, rv b887, rv tx, iv 4, iv 2, iv 4, .unset, .unset, .unset]) d1_48 rfl rfl rfl ?_
  refine o_goto cx X900 23 d1_51 (by decide) (by decide) ?_
  refine o_iload cx X900 d1_23 rfl ?_
  refine o_iload cx X900 d1_25 rfl ?_
  refine o_icmpNo cx X900 d1_27 (by decide) ?_
  refine o_aload cx X900 d1_30 rfl rfl ?_
  refine o_iload cx X900 d1_32 rfl ?_
  refine o_ldI cx X900 (v := (.int (0 : Int32))) d1_34 (At.keep KK nin0) 2 (by decide) rfl rfl ?_
  refine o_istore cx X900 (Ls' := #[rv aa, iv (Int32.ofNat nn), iv 5, rv rk, rv tx, rv pl, s6, rv b887, rv tx, iv 4, iv 2, iv 0, .unset, .unset, .unset]) d1_35 rfl ?_
  refine o_aload cx X900 d1_37 rfl rfl ?_
  refine o_iload cx X900 d1_39 rfl ?_
  refine o_iconst cx X900 (z := (1 : Int32)) d1_41 rfl ?_
  refine o_iadd cx X900 (z := (1 : Int32)) d1_42 rfl ?_
  refine o_dup2 cx X900 d1_43 rfl rfl ?_
  refine o_ldI cx X900 (v := (.int (0 : Int32))) d1_44 A892 1 (by decide) rfl rfl ?_
  refine o_iconst cx X900 (z := (1 : Int32)) d1_45 rfl ?_
  refine o_iadd cx X900 (z := (1 : Int32)) d1_46 rfl ?_
  refine o_stI cx X900 d1_47 A892 1 (by decide) rfl (Nat.le_of_ble_eq_true rfl) ge894 fun T903 h905 X904 W906 A892 => ?_
  have KK := KK.wr W906 (Or.inr sz_b887)
  have A892 : own_Ar Z h905 b887 .int [(.int (0 : Int32)), (.int (1 : Int32)), (.int (0 : Int32)), (.int (0 : Int32)), (.int (1 : Int32)), (.int (1 : Int32))] := A892
  refine o_iinc cx X904 (z := (3 : Int32)) (Ls' := #[rv aa, iv (Int32.ofNat nn), iv 5, rv rk, rv tx, rv pl, s6, rv b887, rv tx, iv 4, iv 3, iv 0, .unset, .unset, .unset]) d1_48 rfl rfl rfl ?_
  refine o_goto cx X904 23 d1_51 (by decide) (by decide) ?_
  refine o_iload cx X904 d1_23 rfl ?_
  refine o_iload cx X904 d1_25 rfl ?_
  refine o_icmpNo cx X904 d1_27 (by decide) ?_
  refine o_aload cx X904 d1_30 rfl rfl ?_
  refine o_iload cx X904 d1_32 rfl ?_
  refine o_ldI cx X904 (v := (.int (1 : Int32))) d1_34 (At.keep KK nin0) 3 (by decide) rfl rfl ?_
  refine o_istore cx X904 (Ls' := #[rv aa, iv (Int32.ofNat nn), iv 5, rv rk, rv tx, rv pl, s6, rv b887, rv tx, iv 4, iv 3, iv 1, .unset, .unset, .unset]) d1_35 rfl ?_
  refine o_aload cx X904 d1_37 rfl rfl ?_
  refine o_iload cx X904 d1_39 rfl ?_
  refine o_iconst cx X904 (z := (1 : Int32)) d1_41 rfl ?_
  refine o_iadd cx X904 (z := (2 : Int32)) d1_42 rfl ?_
  refine o_dup2 cx X904 d1_43 rfl rfl ?_
  refine o_ldI cx X904 (v := (.int (0 : Int32))) d1_44 A892 2 (by decide) rfl rfl ?_
  refine o_iconst cx X904 (z := (1 : Int32)) d1_45 rfl ?_
  refine o_iadd cx X904 (z := (1 : Int32)) d1_46 rfl ?_
  refine o_stI cx X904 d1_47 A892 2 (by decide) rfl (Nat.le_of_ble_eq_true rfl) ge894 fun T907 h909 X908 W910 A892 => ?_
  have KK := KK.wr W910 (Or.inr sz_b887)
  have A892 : own_Ar Z h909 b887 .int [(.int (0 : Int32)), (.int (1 : Int32)), (.int (1 : Int32)), (.int (0 : Int32)), (.int (1 : Int32)), (.int (1 : Int32))] := A892
  refine o_iinc cx X908 (z := (4 : Int32)) (Ls' := #[rv aa, iv (Int32.ofNat nn), iv 5, rv rk, rv tx, rv pl, s6, rv b887, rv tx, iv 4, iv 4, iv 1, .unset, .unset, .unset]) d1_48 rfl rfl rfl ?_
  refine o_goto cx X908 23 d1_51 (by decide) (by decide) ?_
  refine o_iload cx X908 d1_23 rfl ?_
  refine o_iload cx X908 d1_25 rfl ?_
  refine o_icmpYes cx X908 54 d1_27 (by decide) (by decide) (by decide) ?_
  refine o_iconst cx X908 (z := (0 : Int32)) d1_54 rfl ?_
  refine o_istore cx X908 (Ls' := #[rv aa, iv (Int32.ofNat nn), iv 5, rv rk, rv tx, rv pl, s6, rv b887, iv 0, iv 4, iv 4, iv 1, .unset, .unset, .unset]) d1_55 rfl ?_
  refine o_iload cx X908 d1_57 rfl ?_
  refine o_iloadN cx X908 d1_59 rfl ?_
  refine o_icmpNo cx X908 d1_60 (by decide) ?_
  refine o_aload cx X908 d1_63 rfl rfl ?_
  refine o_iload cx X908 d1_65 rfl ?_
  refine o_iconst cx X908 (z := (1 : Int32)) d1_67 rfl ?_
  refine o_iadd cx X908 (z := (1 : Int32)) d1_68 rfl ?_
  refine o_dup2 cx X908 d1_69 rfl rfl ?_
  refine o_ldI cx X908 (v := (.int (1 : Int32))) d1_70 A892 1 (by decide) rfl rfl ?_
  refine o_aload cx X908 d1_71 rfl rfl ?_
  refine o_iload cx X908 d1_73 rfl ?_
  refine o_ldI cx X908 (v := (.int (0 : Int32))) d1_75 A892 0 (by decide) rfl rfl ?_
  refine o_iadd cx X908 (z := (1 : Int32)) d1_76 rfl ?_
  refine o_stI cx X908 d1_77 A892 1 (by decide) rfl (Nat.le_of_ble_eq_true rfl) ge894 fun T911 h913 X912 W914 A892 => ?_
  have KK := KK.wr W914 (Or.inr sz_b887)
  have A892 : own_Ar Z h913 b887 .int [(.int (0 : Int32)), (.int (1 : Int32)), (.int (1 : Int32)), (.int (0 : Int32)), (.int (1 : Int32)), (.int (1 : Int32))] := A892
  refine o_iinc cx X912 (z := (1 : Int32)) (Ls' := #[rv aa, iv (Int32.ofNat nn), iv 5, rv rk, rv tx, rv pl, s6, rv b887, iv 1, iv 4, iv 4, iv 1, .unset, .unset, .unset]) d1_78 rfl rfl rfl ?_
  refine o_goto cx X912 57 d1_81 (by decide) (by decide) ?_
  refine o_iload cx X912 d1_57 rfl ?_
  refine o_iloadN cx X912 d1_59 rfl ?_
  refine o_icmpNo cx X912 d1_60 (by decide) ?_
  refine o_aload cx X912 d1_63 rfl rfl ?_
  refine o_iload cx X912 d1_65 rfl ?_
  refine o_iconst cx X912 (z := (1 : Int32)) d1_67 rfl ?_
  refine o_iadd cx X912 (z := (2 : Int32)) d1_68 rfl ?_
  refine o_dup2 cx X912 d1_69 rfl rfl ?_
  refine o_ldI cx X912 (v := (.int (1 : Int32))) d1_70 A892 2 (by decide) rfl rfl ?_
  refine o_aload cx X912 d1_71 rfl rfl ?_
  refine o_iload cx X912 d1_73 rfl ?_
  refine o_ldI cx X912 (v := (.int (1 : Int32))) d1_75 A892 1 (by decide) rfl rfl ?_
  refine o_iadd cx X912 (z := (2 : Int32)) d1_76 rfl ?_
  refine o_stI cx X912 d1_77 A892 2 (by decide) rfl (Nat.le_of_ble_eq_true rfl) ge894 fun T915 h917 X916 W918 A892 => ?_
  have KK := KK.wr W918 (Or.inr sz_b887)
  have A892 : own_Ar Z h917 b887 .int [(.int (0 : Int32)), (.int (1 : Int32)), (.int (2 : Int32)), (.int (0 : Int32)), (.int (1 : Int32)), (.int (1 : Int32))] := A892
  refine o_iinc cx X916 (z := (2 : Int32)) (Ls' := #[rv aa, iv (Int32.ofNat nn), iv 5, rv rk, rv tx, rv pl, s6, rv b887, iv 2, iv 4, iv 4, iv 1, .unset, .unset, .unset]) d1_78 rfl rfl rfl ?_
  refine o_goto cx X916 57 d1_81 (by decide) (by decide) ?_
  refine o_iload cx X916 d1_57 rfl ?_
  refine o_iloadN cx X916 d1_59 rfl ?_
  refine o_icmpNo cx X916 d1_60 (by decide) ?_
  refine o_aload cx X916 d1_63 rfl rfl ?_
  refine o_iload cx X916 d1_65 rfl ?_
  refine o_iconst cx X916 (z := (1 : Int32)) d1_67 rfl ?_
  refine o_iadd cx X916 (z := (3 : Int32)) d1_68 rfl ?_
  refine o_dup2 cx X916 d1_69 rfl rfl ?_
  refine o_ldI cx X916 (v := (.int (0 : Int32))) d1_70 A892 3 (by decide) rfl rfl ?_
  refine o_aload cx X916 d1_71 rfl rfl ?_
  refine o_iload cx X916 d1_73 rfl ?_
  refine o_ldI cx X916 (v := (.int (2 : Int32))) d1_75 A892 2 (by decide) rfl rfl ?_
  refine o_iadd cx X916 (z := (2 : Int32)) d1_76 rfl ?_
  refine o_stI cx X916 d1_77 A892 3 (by decide) rfl (Nat.le_of_ble_eq_true rfl) ge894 fun T919 h921 X920 W922 A892 => ?_
  have KK := KK.wr W922 (Or.inr sz_b887)
  have A892 : own_Ar Z h921 b887 .int [(.int (0 : Int32)), (.int (1 : Int32)), (.int (2 : Int32)), (.int (2 : Int32)), (.int (1 : Int32)), (.int (1 : Int32))] := A892
  refine o_iinc cx X920 (z := (3 : Int32)) (Ls' := #[rv aa, iv (Int32.ofNat nn), iv 5, rv rk, rv tx, rv pl, s6, rv b887, iv 3, iv 4, iv 4, iv 1, .unset, .unset, .unset]) d1_78 rfl rfl rfl ?_
  refine o_goto cx X920 57 d1_81 (by decide) (by decide) ?_
  refine o_iload cx X920 d1_57 rfl ?_
  refine o_iloadN cx X920 d1_59 rfl ?_
  refine o_icmpNo cx X920 d1_60 (by decide) ?_
  refine o_aload cx X920 d1_63 rfl rfl ?_
  refine o_iload cx X920 d1_65 rfl ?_
  refine o_iconst cx X920 (z := (1 : Int32)) d1_67 rfl ?_
  refine o_iadd cx X920 (z := (4 : Int32)) d1_68 rfl ?_
  refine o_dup2 cx X920 d1_69 rfl rfl ?_
  refine o_ldI cx X920 (v := (.int (1 : Int32))) d1_70 A892 4 (by decide) rfl rfl ?_
  refine o_aload cx X920 d1_71 rfl rfl ?_
  refine o_iload cx X920 d1_73 rfl ?_
  refine o_ldI cx X920 (v := (.int (2 : Int32))) d1_75 A892 3 (by decide) rfl rfl ?_
  refine o_iadd cx X920 (z := (3 : Int32)) d1_76 rfl ?_
  refine o_stI cx X920 d1_77 A892 4 (by decide) rfl (Nat.le_of_ble_eq_true rfl) ge894 fun T923 h925 X924 W926 A892 => ?_
  have KK := KK.wr W926 (Or.inr sz_b887)
  have A892 : own_Ar Z h925 b887 .int [(.int (0 : Int32)), (.int (1 : Int32)), (.int (2 : Int32)), (.int (2 : Int32)), (.int (3 : Int32)), (.int (1 : Int32))] := A892
  refine o_iinc cx X924 (z := (4 : Int32)) (Ls' := #[rv aa, iv (Int32.ofNat nn), iv 5, rv rk, rv tx, rv pl, s6, rv b887, iv 4, iv 4, iv 4, iv 1, .unset, .unset, .unset]) d1_78 rfl rfl rfl ?_
  refine o_goto cx X924 57 d1_81 (by decide) (by decide) ?_
  refine o_iload cx X924 d1_57 rfl ?_
  refine o_iloadN cx X924 d1_59 rfl ?_
  refine o_icmpNo cx X924 d1_60 (by decide) ?_
  refine o_aload cx X924 d1_63 rfl rfl ?_
  refine o_iload cx X924 d1_65 rfl ?_
  refine o_iconst cx X924 (z := (1 : Int32)) d1_67 rfl ?_
  refine o_iadd cx X924 (z := (5 : Int32)) d1_68 rfl ?_
  refine o_dup2 cx X924 d1_69 rfl rfl ?_
  refine o_ldI cx X924 (v := (.int (1 : Int32))) d1_70 A892 5 (by decide) rfl rfl ?_
  refine o_aload cx X924 d1_71 rfl rfl ?_
  refine o_iload cx X924 d1_73 rfl ?_
  refine o_ldI cx X924 (v := (.int (3 : Int32))) d1_75 A892 4 (by decide) rfl rfl ?_
  refine o_iadd cx X924 (z := (4 : Int32)) d1_76 rfl ?_
  refine o_stI cx X924 d1_77 A892 5 (by decide) rfl (Nat.le_of_ble_eq_true rfl) ge894 fun T927 h929 X928 W930 A892 => ?_
  have KK := KK.wr W930 (Or.inr sz_b887)
  have A892 : own_Ar Z h929 b887 .int [(.int (0 : Int32)), (.int (1 : Int32)), (.int (2 : Int32)), (.int (2 : Int32)), (.int (3 : Int32)), (.int (4 : Int32))] := A892
  refine o_iinc cx X928 (z := (5 : Int32)) (Ls' := #[rv aa, iv (Int32.ofNat nn), iv 5, rv rk, rv tx, rv pl, s6, rv b887, iv 5, iv 4, iv 4, iv 1, .unset, .unset, .unset]) d1_78 rfl rfl rfl ?_
  refine o_goto cx X928 57 d1_81 (by decide) (by decide) ?_
  refine o_iload cx X928 d1_57 rfl ?_
  refine o_iloadN cx X928 d1_59 rfl ?_
  refine o_icmpYes cx X928 84 d1_60 (by decide) (by decide) (by decide) ?_
  refine o_aload cx X928 d1_84 rfl rfl ?_
  refine o_len cx X928 (z := (4 : Int32)) d1_86 (At.keep KK nin0) rfl ?_
  refine o_newP cx X928 d1_87 (o_w hw 1 rfl) (by decide) 4 4 rfl (Nat.le_refl _) (by decide) (by decide) (by decide) fun T932 h934 b931 gb937 ge938 X933 E935 A936 => ?_
  have ne_b887_b931 : b887 ≠ b931 := by rw [gb937]; exact Nat.ne_of_lt A892.lt
  have sz_b931 : h0.size ≤ b931 := by rw [gb937]; exact KK.1
  have A892 := A892.ext E935
  have KK := KK.ext E935
  have A936 : own_Ar Z h934 b931 .int [(.int (0 : Int32)), (.int (0 : Int32)), (.int (0 : Int32)), (.int (0 : Int32))] := A936
  refine o_astore cx X933 (Ls' := #[rv aa, iv (Int32.ofNat nn), iv 5, rv rk, rv tx, rv pl, s6, rv b887, rv b931, iv 4, iv 4, iv 1, .unset, .unset, .unset]) d1_89 rfl rfl ?_
  refine o_iconst cx X933 (z := (0 : Int32)) d1_91 rfl ?_
  refine o_istore cx X933 (Ls' := #[rv aa, iv (Int32.ofNat nn), iv 5, rv rk, rv tx, rv pl, s6, rv b887, rv b931, iv 0, iv 4, iv 1, .unset, .unset, .unset]) d1_92 rfl ?_
  refine o_iload cx X933 d1_94 rfl ?_
  refine o_aload cx X933 d1_96 rfl rfl ?_
  refine o_len cx X933 (z := (4 : Int32)) d1_98 (At.keep KK nin0) rfl ?_
  refine o_icmpNo cx X933 d1_99 (by decide) ?_
  refine o_aload cx X933 d1_102 rfl rfl ?_
  refine o_aload cx X933 d1_104 rfl rfl ?_
  refine o_aload cx X933 d1_106 rfl rfl ?_
  refine o_iload cx X933 d1_108 rfl ?_
  refine o_ldI cx X933 (v := (.int (3 : Int32))) d1_110 (At.keep KK nin0) 0 (by decide) rfl rfl ?_
  refine o_dup2 cx X933 d1_111 rfl rfl ?_
  refine o_ldI cx X933 (v := (.int (2 : Int32))) d1_112 A892 3 (by decide) rfl rfl ?_
  refine o_dup_x2 cx X933 d1_113 rfl rfl rfl ?_
  refine o_iconst cx X933 (z := (1 : Int32)) d1_114 rfl ?_
  refine o_iadd cx X933 (z := (3 : Int32)) d1_115 rfl ?_
  refine o_stI cx X933 d1_116 A892 3 (by decide) rfl (Nat.le_of_ble_eq_true rfl) ge894 fun T939 h941 X940 W942 A892 => ?_
  have A936 := A936.other W942 (Ne.symm ne_b887_b931)
  have KK := KK.wr W942 (Or.inr sz_b887)
  have A892 : own_Ar Z h941 b887 .int [(.int (0 : Int32)), (.int (1 : Int32)), (.int (2 : Int32)), (.int (3 : Int32)), (.int (3 : Int32)), (.int (4 : Int32))] := A892
  refine o_iload cx X940 d1_117 rfl ?_
  refine o_stI cx X940 d1_119 A936 2 (by decide) rfl (Nat.le_of_ble_eq_true rfl) ge938 fun T943 h945 X944 W946 A936 => ?_
  have A892 := A892.other W946 ne_b887_b931
  have KK := KK.wr W946 (Or.inr sz_b931)
  have A936 : own_Ar Z h945 b931 .int [(.int (0 : Int32)), (.int (0 : Int32)), (.int (0 : Int32)), (.int (0 : Int32))] := A936
  refine o_iinc cx X944 (z := (1 : Int32)) (Ls' := #[rv aa, iv (Int32.ofNat nn), iv 5, rv rk, rv tx, rv pl, s6, rv b887, rv b931, iv 1, iv 4, iv 1, .unset, .unset, .unset]) d1_120 rfl rfl rfl ?_
  refine o_goto cx X944 94 d1_123 (by decide) (by decide) ?_
  refine o_iload cx X944 d1_94 rfl ?_
  refine o_aload cx X944 d1_96 rfl rfl ?_
  refine o_len cx X944 (z := (4 : Int32)) d1_98 (At.keep KK nin0) rfl ?_
  refine o_icmpNo cx X944 d1_99 (by decide) ?_
  refine o_aload cx X944 d1_102 rfl rfl ?_
  refine o_aload cx X944 d1_104 rfl rfl ?_
  refine o_aload cx X944 d1_106 rfl rfl ?_
  refine o_iload cx X944 d1_108 rfl ?_
  refine o_ldI cx X944 (v := (.int (4 : Int32))) d1_110 (At.keep KK nin0) 1 (by decide) rfl rfl ?_
  refine o_dup2 cx X944 d1_111 rfl rfl ?_
  refine o_ldI cx X944 (v := (.int (3 : Int32))) d1_112 A892 4 (by decide) rfl rfl ?_
  refine o_dup_x2 cx X944 d1_113 rfl rfl rfl ?_
  refine o_iconst cx X944 (z := (1 : Int32)) d1_114 rfl ?_
  refine o_iadd cx X944 (z := (4 : Int32)) d1_115 rfl ?_
  refine o_stI cx X944 d1_116 A892 4 (by decide) rfl (Nat.le_of_ble_eq_true rfl) ge894 fun T947 h949 X948 W950 A892 => ?_
  have A936 := A936.other W950 (Ne.symm ne_b887_b931)
  have KK := KK.wr W950 (Or.inr sz_b887)
  have A892 : own_Ar Z h949 b887 .int [(.int (0 : Int32)), (.int (1 : Int32)), (.int (2 : Int32)), (.int (3 : Int32)), (.int (4 : Int32)), (.int (4 : Int32))] := A892
  refine o_iload cx X948 d1_117 rfl ?_
  refine o_stI cx X948 d1_119 A936 3 (by decide) rfl (Nat.le_of_ble_eq_true rfl) ge938 fun T951 h953 X952 W954 A936 => ?_
  have A892 := A892.other W954 ne_b887_b931
  have KK := KK.wr W954 (Or.inr sz_b931)
  have A936 : own_Ar Z h953 b931 .int [(.int (0 : Int32)), (.int (0 : Int32)), (.int (0 : Int32)), (.int (1 : Int32))] := A936
  refine o_iinc cx X952 (z := (2 : Int32)) (Ls' := #[rv aa, iv (Int32.ofNat nn), iv 5, rv rk, rv tx, rv pl, s6, rv b887, rv b931, iv 2, iv 4, iv 1, .unset, .unset, .unset]) d1_120 rfl rfl rfl ?_
  refine o_goto cx X952 94 d1_123 (by decide) (by decide) ?_
  refine o_iload cx X952 d1_94 rfl ?_
  refine o_aload cx X952 d1_96 rfl rfl ?_
  refine o_len cx X952 (z := (4 : Int32)) d1_98 (At.keep KK nin0) rfl ?_
  refine o_icmpNo cx X952 d1_99 (by decide) ?_
  refine o_aload cx X952 d1_102 rfl rfl ?_
  refine o_aload cx X952 d1_104 rfl rfl ?_
  refine o_aload cx X952 d1_106 rfl rfl ?_
  refine o_iload cx X952 d1_108 rfl ?_
  refine o_ldI cx X952 (v := (.int (0 : Int32))) d1_110 (At.keep KK nin0) 2 (by decide) rfl rfl ?_
  refine o_dup2 cx X952 d1_111 rfl rfl ?_
  refine o_ldI cx X952 (v := (.int (0 : Int32))) d1_112 A892 0 (by decide) rfl rfl ?_
  refine o_dup_x2 cx X952 d1_113 rfl rfl rfl ?_
  refine o_iconst cx X952 (z := (1 : Int32)) d1_114 rfl ?_
  refine o_iadd cx X952 (z := (1 : Int32)) d1_115 rfl ?_
  refine o_stI cx X952 d1_116 A892 0 (by decide) rfl (Nat.le_of_ble_eq_true rfl) ge894 fun T955 h957 X956 W958 A892 => ?_
  have A936 := A936.other W958 (Ne.symm ne_b887_b931)
  have KK := KK.wr W958 (Or.inr sz_b887)
  have A892 : own_Ar Z h957 b887 .int [(.int (1 : Int32)), (.int (1 : Int32)), (.int (2 : Int32)), (.int (3 : Int32)), (.int (4 : Int32)), (.int (4 : Int32))] := A892
  refine o_iload cx X956 d1_117 rfl ?_
  refine o_stI cx X956 d1_119 A936 0 (by decide) rfl (Nat.le_of_ble_eq_true rfl) ge938 fun T959 h961 X960 W962 A936 => ?_
  have A892 := A892.other W962 ne_b887_b931
  have KK := KK.wr W962 (Or.inr sz_b931)
  have A936 : own_Ar Z h961 b931 .int [(.int (2 : Int32)), (.int (0 : Int32)), (.int (0 : Int32)), (.int (1 : Int32))] := A936
  refine o_iinc cx X960 (z := (3 : Int32)) (Ls' := #[rv aa, iv (Int32.ofNat nn), iv 5, rv rk, rv tx, rv pl, s6, rv b887, rv b931, iv 3, iv 4, iv 1, .unset, .unset, .unset]) d1_120 rfl rfl rfl ?_
  refine o_goto cx X960 94 d1_123 (by decide) (by decide) ?_
  refine o_iload cx X960 d1_94 rfl ?_
  refine o_aload cx X960 d1_96 rfl rfl ?_
  refine o_len cx X960 (z := (4 : Int32)) d1_98 (At.keep KK nin0) rfl ?_
  refine o_icmpNo cx X960 d1_99 (by decide) ?_
  refine o_aload cx X960 d1_102 rfl rfl ?_
  refine o_aload cx X960 d1_104 rfl rfl ?_
  refine o_aload cx X960 d1_106 rfl rfl ?_
  refine o_iload cx X960 d1_108 rfl ?_
  refine o_ldI cx X960 (v := (.int (1 : Int32))) d1_110 (At.keep KK nin0) 3 (by decide) rfl rfl ?_
  refine o_dup2 cx X960 d1_111 rfl rfl ?_
  refine o_ldI cx X960 (v := (.int (1 : Int32))) d1_112 A892 1 (by decide) rfl rfl ?_
  refine o_dup_x2 cx X960 d1_113 rfl rfl rfl ?_
  refine o_iconst cx X960 (z := (1 : Int32)) d1_114 rfl ?_
  refine o_iadd cx X960 (z := (2 : Int32)) d1_115 rfl ?_
  refine o_stI cx X960 d1_116 A892 1 (by decide) rfl (Nat.le_of_ble_eq_true rfl) ge894 fun T963 h965 X964 W966 A892 => ?_
  have A936 := A936.other W966 (Ne.symm ne_b887_b931)
  have KK := KK.wr W966 (Or.inr sz_b887)
  have A892 : own_Ar Z h965 b887 .int [(.int (1 : Int32)), (.int (2 : Int32)), (.int (2 : Int32)), (.int (3 : Int32)), (.int (4 : Int32)), (.int (4 : Int32))] := A892
  refine o_iload cx X964 d1_117 rfl ?_
  refine o_stI cx X964 d1_119 A936 1 (by decide) rfl (Nat.le_of_ble_eq_true rfl) ge938 fun T967 h969 X968 W970 A936 => ?_
  have A892 := A892.other W970 ne_b887_b931
  have KK := KK.wr W970 (Or.inr sz_b931)
  have A936 : own_Ar Z h969 b931 .int [(.int (2 : Int32)), (.int (3 : Int32)), (.int (0 : Int32)), (.int (1 : Int32))] := A936
  refine o_iinc cx X968 (z := (4 : Int32)) (Ls' := #[rv aa, iv (Int32.ofNat nn), iv 5, rv rk, rv tx, rv pl, s6, rv b887, rv b931, iv 4, iv 4, iv 1, .unset, .unset, .unset]) d1_120 rfl rfl rfl ?_
  refine o_goto cx X968 94 d1_123 (by decide) (by decide) ?_
  refine o_iload cx X968 d1_94 rfl ?_
  refine o_aload cx X968 d1_96 rfl rfl ?_
  refine o_len cx X968 (z := (4 : Int32)) d1_98 (At.keep KK nin0) rfl ?_
  refine o_icmpYes cx X968 126 d1_99 (by decide) (by decide) (by decide) ?_
  have ne_aa_b931 : aa ≠ b931 := Nat.ne_of_lt (Nat.lt_of_lt_of_le E0.lt sz_b931)
  exact kk _ _ b887 b931 (4 : Int32) (4 : Int32) (1 : Int32) (X968.more (by decide) (by decide)) ge938 ne_aa_b931  (E0.keep KK) (F0.keep KK nin0) (F1.keep KK nin0) (F2.keep KK nin0) (F3.keep KK nin0) (Ar.keep KK nin0) (At.keep KK nin0) (Ap.keep KK nin0) (Ac.keep KK nin0) A936
set_option maxRecDepth 65536 in
set_option maxHeartbeats 40000000 in
theorem segA_6_0 {p : Program} {l : Launch} {e : Env} {s : State} {m : MethodId} {below : List Frame} {meth : Method} {c : Code} {n0 : Nat} {T0 : State} {h0 : Heap} {Z : State} {a0 : Array Value} {args : Array Value} {P : State → Outcome → Prop} (hw : ∀ d ∈ tables_1, d.before a0 Z = true) (aa rk tx pl : Addr) (nn k0 k1 k2 k3 : Nat) (v0 v1 v2 v3 : Int32) (s6 : Slot) (cv : Addr) (vcs : List Value) (cx : own_Cx p s m meth c Z prog_28_method_2_code 15 (⟨"com/example/rough_dedup/roughdedup/ShingleIndex$Postings", "<init>", "(II[I[I[I[I)V"⟩ : MethodName) none) (X0 : own_Sd p l e ({ frames := 2, cells := 7, slots := 41, locals := 74 } : Room) s m args below meth c n0 T0 h0 0 0) (ga : n0 ≤ aa) (ne_aa_rk : aa ≠ rk) (ne_aa_tx : aa ≠ tx) (ne_aa_pl : aa ≠ pl) (E0 : Exa Z h0 aa "com/example/rough_dedup/roughdedup/ShingleIndex$Postings") (F0 : Fld Z h0 aa "com/example/rough_dedup/roughdedup/ShingleIndex$Postings" "starts" "[I" .null) (F1 : Fld Z h0 aa "com/example/rough_dedup/roughdedup/ShingleIndex$Postings" "texts" "[I" .null) (F2 : Fld Z h0 aa "com/example/rough_dedup/roughdedup/ShingleIndex$Postings" "places" "[I" .null) (F3 : Fld Z h0 aa "com/example/rough_dedup/roughdedup/ShingleIndex$Postings" "covered" "[I" .null) (Ar : own_Ar Z h0 rk .int [(.int (Int32.ofNat k0)), (.int (Int32.ofNat k1)), (.int (Int32.ofNat k2)), (.int (Int32.ofNat k3))]) (At : own_Ar Z h0 tx .int [(.int (0 : Int32)), (.int (1 : Int32)), (.int (2 : Int32)), (.int (3 : Int32))]) (Ap : own_Ar Z h0 pl .int [(.int v0), (.int v1), (.int v2), (.int v3)]) (Ac : own_Ar Z h0 cv .int vcs) (kk : ∀ (T : State) (h : Heap) (ts bt : Addr) (x9 x10 x11 : Int32), own_Sd p l e ({ frames := 2, cells := 7, slots := 41, locals := 74 } : Room) s m args below meth c n0 T h 2 12 → n0 ≤ bt → aa ≠ bt → Exa Z h aa "com/example/rough_dedup/roughdedup/ShingleIndex$Postings" → Fld Z h aa "com/example/rough_dedup/roughdedup/ShingleIndex$Postings" "starts" "[I" .null → Fld Z h aa "com/example/rough_dedup/roughdedup/ShingleIndex$Postings" "texts" "[I" .null → Fld Z h aa "com/example/rough_dedup/roughdedup/ShingleIndex$Postings" "places" "[I" .null → Fld Z h aa "com/example/rough_dedup/roughdedup/ShingleIndex$Postings" "covered" "[I" .null → own_Ar Z h rk .int [(.int (Int32.ofNat k0)), (.int (Int32.ofNat k1)), (.int (Int32.ofNat k2)), (.int (Int32.ofNat k3))] → own_Ar Z h tx .int [(.int (0 : Int32)), (.int (1 : Int32)), (.int (2 : Int32)), (.int (3 : Int32))] → own_Ar Z h pl .int [(.int v0), (.int v1), (.int v2), (.int v3)] → own_Ar Z h cv .int vcs → own_Ar Z h bt .int [(.int (0 : Int32)), (.int (1 : Int32)), (.int (2 : Int32)), (.int (3 : Int32))] → own_Go p e below P (T.setTop (mkF m 126 #[rv aa, iv (Int32.ofNat nn), iv 6, rv rk, rv tx, rv pl, s6, .val (.ref ts), .val (.ref bt), .val (.int x9), .val (.int x10), .val (.int x11), .unset, .unset, .unset] []))) :
    own_Go p e below P (T0.setTop (mkF m 0 #[rv aa, iv (Int32.ofNat nn), iv 6, rv rk, rv tx, rv pl, s6, .unset, .unset, .unset, .unset, .unset, .unset, .unset, .unset] [])) := by
  have KK := Keep.refl h0 []
  refine o_aloadN cx X0 d1_0 rfl rfl ?_
  refine o_initO cx X0 d1_1 (o_w hw 9 rfl) (o_w hw 10 rfl) (o_w hw 11 rfl) rfl (by decide) 0 rfl (by decide) fun T971 X972 => ?_
  refine o_iloadN cx X972 d1_4 rfl ?_
  refine o_iconst cx X972 (z := (1 : Int32)) d1_5 rfl ?_
  refine o_iadd cx X972 (z := (7 : Int32)) d1_6 rfl ?_
  refine o_newP cx X972 d1_7 (o_w hw 1 rfl) (by decide) 7 7 rfl (Nat.le_refl _) (by decide) (by decide) (by decide) fun T974 h976 b973 gb979 ge980 X975 E977 A978 => ?_
  have sz_b973 : h0.size ≤ b973 := by rw [gb979]; exact KK.1
  have KK := KK.ext E977
  have A978 : own_Ar Z h976 b973 .int [(.int (0 : Int32)), (.int (0 : Int32)), (.int (0 : Int32)), (.int (0 : Int32)), (.int (0 : Int32)), (.int (0 : Int32)), (.int (0 : Int32))] := A978
  refine o_astore cx X975 (Ls' := #[rv aa, iv (Int32.ofNat nn), iv 6, rv rk, rv tx, rv pl, s6, rv b973, .unset, .unset, .unset, .unset, .unset, .unset, .unset]) d1_9 rfl rfl ?_
  refine o_aload cx X975 d1_11 rfl rfl ?_
  refine o_astore cx X975 (Ls' := #[rv aa, iv (Int32.ofNat nn), iv 6, rv rk, rv tx, rv pl, s6, rv b973, rv tx, .unset, .unset, .unset, .unset, .unset, .unset]) d1_13 rfl rfl ?_
  refine o_aload cx X975 d1_15 rfl rfl ?_
  refine o_len cx X975 (z := (4 : Int32)) d1_17 (At.keep KK nin0) rfl ?_
  refine o_istore cx X975 (Ls' := #[rv aa, iv (Int32.ofNat nn), iv 6, rv rk, rv tx, rv pl, s6, rv b973, rv tx, iv 4, .unset, .unset, .unset, .unset, .unset]) d1_18 rfl ?_
  refine o_iconst cx X975 (z := (0 : Int32)) d1_20 rfl ?_
  refine o_istore cx X975 (Ls' := #[rv aa, iv (Int32.ofNat nn), iv 6, rv rk, rv tx, rv pl, s6, rv b973, rv tx, iv 4, iv 0, .unset, .unset, .unset, .unset]) d1_21 rfl ?_
  refine o_iload cx X975 d1_23 rfl ?_
  refine o_iload cx X975 d1_25 rfl ?_
  refine o_icmpNo cx X975 d1_27 (by decide) ?_
  refine o_aload cx X975 d1_30 rfl rfl ?_
  refine o_iload cx X975 d1_32 rfl ?_
  refine o_ldI cx X975 (v := (.int (0 : Int32))) d1_34 (At.keep KK nin0) 0 (by decide) rfl rfl ?_
  refine o_istore cx X975 (Ls' := #[rv aa, iv (Int32.ofNat nn), iv 6, rv rk, rv tx, rv pl, s6, rv b973, rv tx, iv 4, iv 0, iv 0, .unset, .unset, .unset]) d1_35 rfl ?_
  refine o_aload cx X975 d1_37 rfl rfl ?_
  refine o_iload cx X975 d1_39 rfl ?_
  refine o_iconst cx X975 (z := (1 : Int32)) d1_41 rfl ?_
  refine o_iadd cx X975 (z := (1 : Int32)) d1_42 rfl ?_
  refine o_dup2 cx X975 d1_43 rfl rfl ?_
  refine o_ldI cx X975 (v := (.int (0 : Int32))) d1_44 A978 1 (by decide) rfl rfl ?_
  refine o_iconst cx X975 (z := (1 : Int32)) d1_45 rfl ?_
  refine o_iadd cx X975 (z := (1 : Int32)) d1_46 rfl ?_
  refine o_stI cx X975 d1_47 A978 1 (by decide) rfl (Nat.le_of_ble_eq_true rfl) ge980 fun T981 h983 X982 W984 A978 => ?_
  have KK := KK.wr W984 (Or.inr sz_b973)
  have A978 : own_Ar Z h983 b973 .int [(.int (0 : Int32)), (.int (1 : Int32)), (.int (0 : Int32)), (.int (0 : Int32)), (.int (0 : Int32)), (.int (0 : Int32)), (.int (0 : Int32))] := A978
  refine o_iinc cx X982 (z := (1 : Int32)) (Ls' := #[rv aa, iv (Int32.ofNat nn), iv 6, rv rk, rv tx, rv pl, s6, rv b973, rv tx, iv 4, iv 1, iv 0, .unset, .unset, .unset]) d1_48 rfl rfl rfl ?_
  refine o_goto cx X982 23 d1_51 (by decide) (by decide) ?_
  refine o_iload cx X982 d1_23 rfl ?_
  refine o_iload cx X982 d1_25 rfl ?_
  refine o_icmpNo cx X982 d1_27 (by decide) ?_
  refine o_aload cx X982 d1_30 rfl rfl ?_
  refine o_iload cx X982 d1_32 rfl ?_
  refine o_ldI cx X982 (v := (.int (1 : Int32))) d1_34 (At.keep KK nin0) 1 (by decide) rfl rfl ?_
  refine o_istore cx X982 (Ls' := #[rv aa, iv (Int32.ofNat nn), iv 6, rv rk, rv tx, rv pl, s6, rv b973, rv tx, iv 4, iv 1, iv 1, .unset, .unset, .unset]) d1_35 rfl ?_
  refine o_aload cx X982 d1_37 rfl rfl ?_
  refine o_iload cx X982 d1_39 rfl ?_
  refine o_iconst cx X982 (z := (1 : Int32)) d1_41 rfl ?_
  refine o_iadd cx X982 (z := (2 : Int32)) d1_42 rfl ?_
  refine o_dup2 cx X982 d1_43 rfl rfl ?_
  refine o_ldI cx X982 (v := (.int (0 : Int32))) d1_44 A978 2 (by decide) rfl rfl ?_
  refine o_iconst cx X982 (z := (1 : Int32)) d1_45 rfl ?_
  refine o_iadd cx X982 (z := (1 : Int32)) d1_46 rfl ?_
  refine o_stI cx X982 d1_47 A978 2 (by decide) rfl (Nat.le_of_ble_eq_true rfl) ge980 fun T985 h987 X986 W988 A978 => ?_
  have KK := KK.wr W988 (Or.inr sz_b973)
  have A978 : own_Ar Z h987 b973 .int [(.int (0 : Int32)), (.int (1 : Int32)), (.int (1 : Int32)), (.int (0 : Int32)), (.int (0 : Int32)), (.int (0 : Int32)), (.int (0 : Int32))] := A978
  refine o_iinc cx X986 (z := (2 : Int32)) (Ls' := #[rv aa, iv (Int32.ofNat nn), iv 6, rv rk, rv tx, rv pl, s6, rv b973, rv tx, iv 4, iv 2, iv 1, .unset, .unset, .unset]) d1_48 rfl rfl rfl ?_
  refine o_goto cx X986 23 d1_51 (by decide) (by decide) ?_
  refine o_iload cx X986 d1_23 rfl ?_
  refine o_iload cx X986 d1_25 rfl ?_
  refine o_icmpNo cx X986 d1_27 (by decide) ?_
  refine o_aload cx X986 d1_30 rfl rfl ?_
  refine o_iload cx X986 d1_32 rfl ?_
  refine o_ldI cx X986 (v := (.int (2 : Int32))) d1_34 (At.keep KK nin0) 2 (by decide) rfl rfl ?_
  refine o_istore cx X986 (Ls' := #[rv aa, iv (Int32.ofNat nn), iv 6, rv rk, rv tx, rv pl, s6, rv b973, rv tx, iv 4, iv 2, iv 2, .unset, .unset, .unset]) d1_35 rfl ?_
  refine o_aload cx X986 d1_37 rfl rfl ?_
  refine o_iload cx X986 d1_39 rfl ?_
  refine o_iconst cx X986 (z := (1 : Int32)) d1_41 rfl ?_
  refine o_iadd cx X986 (z := (3 : Int32)) d1_42 rfl ?_
  refine o_dup2 cx X986 d1_43 rfl rfl ?_
  refine o_ldI cx X986 (v := (.int (0 : Int32))) d1_44 A978 3 (by decide) rfl rfl ?_
  refine o_iconst cx X986 (z := (1 : Int32)) d1_45 rfl ?_
  refine o_iadd cx X986 (z := (1 : Int32)) d1_46 rfl ?_
  refine o_stI cx X986 d1_47 A978 3 (by decide) rfl (Nat.le_of_ble_eq_true rfl) ge980 fun T989 h991 X990 W992 A978 => ?_
  have KK := KK.wr W992 (Or.inr sz_b973)
  have A978 : own_Ar Z h991 b973 .int [(.int (0 : Int32)), (.int (1 : Int32)), (.int (1 : Int32)), (.int (1 : Int32)), (.int (0 : Int32)), (.int (0 : Int32)), (.int (0 : Int32))] := A978
  refine o_iinc cx X990 (z := (3 : Int32)) (Ls' := #[rv aa, iv (Int32.ofNat nn), iv 6, rv rk, rv tx, rv pl, s6, rv b973, rv tx, iv 4, iv 3, iv 2, .unset, .unset, .unset]) d1_48 rfl rfl rfl ?_
  refine o_goto cx X990 23 d1_51 (by decide) (by decide) ?_
  refine o_iload cx X990 d1_23 rfl ?_
  refine o_iload cx X990 d1_25 rfl ?_
  refine o_icmpNo cx X990 d1_27 (by decide) ?_
  refine o_aload cx X990 d1_30 rfl rfl ?_
  refine o_iload cx X990 d1_32 rfl ?_
  refine o_ldI cx X990 (v := (.int (3 : Int32))) d1_34 (At.keep KK nin0) 3 (by decide) rfl rfl ?_
  refine o_istore cx X990 (Ls' := #[rv aa, iv (Int32.ofNat nn), iv 6, rv rk, rv tx, rv pl, s6, rv b973, rv tx, iv 4, iv 3, iv 3, .unset, .unset, .unset]) d1_35 rfl ?_
  refine o_aload cx X990 d1_37 rfl rfl ?_
  refine o_iload cx X990 d1_39 rfl ?_
  refine o_iconst cx X990 (z := (1 : Int32)) d1_41 rfl ?_
  refine o_iadd cx X990 (z := (4 : Int32)) d1_42 rfl ?_
  refine o_dup2 cx X990 d1_43 rfl rfl ?_
  refine o_ldI cx X990 (v := (.int (0 : Int32))) d1_44 A978 4 (by decide) rfl rfl ?_
  refine o_iconst cx X990 (z := (1 : Int32)) d1_45 rfl ?_
  refine o_iadd cx X990 (z := (1 : Int32)) d1_46 rfl ?_
  refine o_stI cx X990 d1_47 A978 4 (by decide) rfl (Nat.le_of_ble_eq_true rfl) ge980 fun T993 h995 X994 W996 A978 => ?_
  have KK := KK.wr W996 (Or.inr sz_b973)
  have A978 : own_Ar Z h995 b973 .int [(.int (0 : Int32)), (.int (1 : Int32)), (.int (1 : Int32)), (.int (1 : Int32)), (.int (1 : Int32)), (.int (0 : Int32)), (.int (0 : Int32))] := A978
  refine o_iinc cx X994 (z := (4 : Int32)) (Ls' := #[rv aa, iv (Int32.ofNat nn), iv 6, rv rk, rv tx, rv pl, s6, rv b973, rv tx, iv 4, iv 4, iv 3, .unset, .unset, .unset]) d1_48 rfl rfl rfl ?_
  refine o_goto cx X994 23 d1_51 (by decide) (by decide) ?_
  refine o_iload cx X994 d1_23 rfl ?_
  refine o_iload cx X994 d1_25 rfl ?_
  refine o_icmpYes cx X994 54 d1_27 (by decide) (by decide) (by decide) ?_
  refine o_iconst cx X994 (z := (0 : Int32)) d1_54 rfl ?_
  refine o_istore cx X994 (Ls' := #[rv aa, iv (Int32.ofNat nn), iv 6, rv rk, rv tx, rv pl, s6, rv b973, iv 0, iv 4, iv 4, iv 3, .unset, .unset, .unset]) d1_55 rfl ?_
  refine o_iload cx X994 d1_57 rfl ?_
  refine o_iloadN cx X994 d1_59 rfl ?_
  refine o_icmpNo cx X994 d1_60 (by decide) ?_
  refine o_aload cx X994 d1_63 rfl rfl ?_
  refine o_iload cx X994 d1_65 rfl ?_
  refine o_iconst cx X994 (z := (1 : Int32)) d1_67 rfl ?_
  refine o_iadd cx X994 (z := (1 : Int32)) d1_68 rfl ?_
  refine o_dup2 cx X994 d1_69 rfl rfl ?_
  refine o_ldI cx X994 (v := (.int (1 : Int32))) d1_70 A978 1 (by decide) rfl rfl ?_
  refine o_aload cx X994 d1_71 rfl rfl ?_
  refine o_iload cx X994 d1_73 rfl ?_
  refine o_ldI cx X994 (v := (.int (0 : Int32))) d1_75 A978 0 (by decide) rfl rfl ?_
  refine o_iadd cx X994 (z := (1 : Int32)) d1_76 rfl ?_
  refine o_stI cx X994 d1_77 A978 1 (by decide) rfl (Nat.le_of_ble_eq_true rfl) ge980 fun T997 h999 X998 W1000 A978 => ?_
  have KK := KK.wr W1000 (Or.inr sz_b973)
  have A978 : own_Ar Z h999 b973 .int [(.int (0 : Int32)), (.int (1 : Int32)), (.int (1 : Int32)), (.int (1 : Int32)), (.int (1 : Int32)), (.int (0 : Int32)), (.int (0 : Int32))] := A978
  refine o_iinc cx X998 (z := (1 : Int32)) (Ls' := #[rv aa, iv (Int32.ofNat nn), iv 6, rv rk, rv tx, rv pl, s6, rv b973, iv 1, iv 4, iv 4, iv 3, .unset, .unset, .unset]) d1_78 rfl rfl rfl ?_
  refine o_goto cx X998 57 d1_81 (by decide) (by decide) ?_
  refine o_iload cx X998 d1_57 rfl ?_
  refine o_iloadN cx X998 d1_59 rfl ?_
  refine o_icmpNo cx X998 d1_60 (by decide) ?_
  refine o_aload cx X998 d1_63 rfl rfl ?_
  refine o_iload cx X998 d1_65 rfl ?_
  refine o_iconst cx X998 (z := (1 : Int32)) d1_67 rfl ?_
  refine o_iadd cx X998 (z := (2 : Int32)) d1_68 rfl ?_
  refine o_dup2 cx X998 d1_69 rfl rfl ?_
  refine o_ldI cx X998 (v := (.int (1 : Int32))) d1_70 A978 2 (by decide) rfl rfl ?_
  refine o_aload cx X998 d1_71 rfl rfl ?_
  refine o_iload cx X998 d1_73 rfl ?_
  refine o_ldI cx X998 (v := (.int (1 : Int32))) d1_75 A978 1 (by decide) rfl rfl ?_
  refine o_iadd cx X998 (z := (2 : Int32)) d1_76 rfl ?_
  refine o_stI cx X998 d1_77 A978 2 (by decide) rfl (Nat.le_of_ble_eq_true rfl) ge980 fun T1001 h1003 X1002 W1004 A978 => ?_
  have KK := KK.wr W1004 (Or.inr sz_b973)
  have A978 : own_Ar Z h1003 b973 .int [(.int (0 : Int32)), (.int (1 : Int32)), (.int (2 : Int32)), (.int (1 : Int32)), (.int (1 : Int32)), (.int (0 : Int32)), (.int (0 : Int32))] := A978
  refine o_iinc cx X1002 (z := (2 : Int32)) (Ls' := #[rv aa, iv (Int32.ofNat nn), iv 6, rv rk, rv tx, rv pl, s6, rv b973, iv 2, iv 4, iv 4, iv 3, .unset, .unset, .unset]) d1_78 rfl rfl rfl ?_
  refine o_goto cx X1002 57 d1_81 (by decide) (by decide) ?_
  refine o_iload cx X1002 d1_57 rfl ?_
  refine o_iloadN cx X1002 d1_59 rfl ?_
  refine o_icmpNo cx X1002 d1_60 (by decide) ?_
  refine o_aload cx X1002 d1_63 rfl rfl ?_
  refine o_iload cx X1002 d1_65 rfl ?_
  refine o_iconst cx X1002 (z := (1 : Int32)) d1_67 rfl ?_
  refine o_iadd cx X1002 (z := (3 : Int32)) d1_68 rfl ?_
  refine o_dup2 cx X1002 d1_69 rfl rfl ?_
  refine o_ldI cx X1002 (v := (.int (1 : Int32))) d1_70 A978 3 (by decide) rfl rfl ?_
  refine o_aload cx X1002 d1_71 rfl rfl ?_
  refine o_iload cx X1002 d1_73 rfl ?_
  refine o_ldI cx X1002 (v := (.int (2 : Int32))) d1_75 A978 2 (by decide) rfl rfl ?_
  refine o_iadd cx X1002 (z := (3 : Int32)) d1_76 rfl ?_
  refine o_stI cx X1002 d1_77 A978 3 (by decide) rfl (Nat.le_of_ble_eq_true rfl) ge980 fun T1005 h1007 X1006 W1008 A978 => ?_
  have KK := KK.wr W1008 (Or.inr sz_b973)
  have A978 : own_Ar Z h1007 b973 .int [(.int (0 : Int32)), (.int (1 : Int32)), (.int (2 : Int32)), (.int (3 : Int32)), (.int (1 : Int32)), (.int (0 : Int32)), (.int (0 : Int32))] := A978
  refine o_iinc cx X1006 (z := (3 : Int32)) (Ls' := #[rv aa, iv (Int32.ofNat nn), iv 6, rv rk, rv tx, rv pl, s6, rv b973, iv 3, iv 4, iv 4, iv 3, .unset, .unset, .unset]) d1_78 rfl rfl rfl ?_
  refine o_goto cx X1006 57 d1_81 (by decide) (by decide) ?_
  refine o_iload cx X1006 d1_57 rfl ?_
  refine o_iloadN cx X1006 d1_59 rfl ?_
  refine o_icmpNo cx X1006 d1_60 (by decide) ?_
  refine o_aload cx X1006 d1_63 rfl rfl ?_
  refine o_iload cx X1006 d1_65 rfl ?_
  refine o_iconst cx X1006 (z := (1 : Int32)) d1_67 rfl ?_
  refine o_iadd cx X1006 (z := (4 : Int32)) d1_68 rfl ?_
  refine o_dup2 cx X1006 d1_69 rfl rfl ?_
  refine o_ldI cx X1006 (v := (.int (1 : Int32))) d1_70 A978 4 (by decide) rfl rfl ?_
  refine o_aload cx X1006 d1_71 rfl rfl ?_
  refine o_iload cx X1006 d1_73 rfl ?_
  refine o_ldI cx X1006 (v := (.int (3 : Int32))) d1_75 A978 3 (by decide) rfl rfl ?_
  refine o_iadd cx X1006 (z := (4 : Int32)) d1_76 rfl ?_
  refine o_stI cx X1006 d1_77 A978 4 (by decide) rfl (Nat.le_of_ble_eq_true rfl) ge980 fun T1009 h1011 X1010 W1012 A978 => ?_
  have KK := KK.wr W1012 (Or.inr sz_b973)
  have A978 : own_Ar Z h1011 b973 .int [(.int (0 : Int32)), (.int (1 : Int32)), (.int (2 : Int32)), (.int (3 : Int32)), (.int (4 : Int32)), (.int (0 : Int32)), (.int (0 : Int32))] := A978
  refine o_iinc cx X1010 (z := (4 : Int32)) (Ls' := #[rv aa, iv (Int32.ofNat nn), iv 6, rv rk, rv tx, rv pl, s6, rv b973, iv 4, iv 4, iv 4, iv 3, .unset, .unset, .unset]) d1_78 rfl rfl rfl ?_
  refine o_goto cx X1010 57 d1_81 (by decide) (by decide) ?_
  refine o_iload cx X1010 d1_57 rfl ?_
  refine o_iloadN cx X1010 d1_59 rfl ?_
  refine o_icmpNo cx X1010 d1_60 (by decide) ?_
  refine o_aload cx X1010 d1_63 rfl rfl ?_
  refine o_iload cx X1010 d1_65 rfl ?_
  refine o_iconst cx X1010 (z := (1 : Int32)) d1_67 rfl ?_
  refine o_iadd cx X1010 (z := (5 : Int32)) d1_68 rfl ?_
  refine o_dup2 cx X1010 d1_69 rfl rfl ?_
  refine o_ldI cx X1010 (v := (.int (0 : Int32))) d1_70 A978 5 (by decide) rfl rfl ?_
  refine o_aload cx X1010 d1_71 rfl rfl ?_
  refine o_iload cx X1010 d1_73 rfl ?_
  refine o_ldI cx X1010 (v := (.int (4 : Int32))) d1_75 A978 4 (by decide) rfl rfl ?_
  refine o_iadd cx X1010 (z := (4 : Int32)) d1_76 rfl ?_
  refine o_stI cx X1010 d1_77 A978 5 (by decide) rfl (Nat.le_of_ble_eq_true rfl) ge980 fun T1013 h1015 X1014 W1016 A978 => ?_
  have KK := KK.wr W1016 (Or.inr sz_b973)
  have A978 : own_Ar Z h1015 b973 .int [(.int (0 : Int32)), (.int (1 : Int32)), (.int (2 : Int32)), (.int (3 : Int32)), (.int (4 : Int32)), (.int (4 : Int32)), (.int (0 : Int32))] := A978
  refine o_iinc cx X1014 (z := (5 : Int32)) (Ls' := #[rv aa, iv (Int32.ofNat nn), iv 6, rv rk, rv tx, rv pl, s6, rv b973, iv 5, iv 4, iv 4, iv 3, .unset, .unset, .unset]) d1_78 rfl rfl rfl ?_
  refine o_goto cx X1014 57 d1_81 (by decide) (by decide) ?_
  refine o_iload cx X1014 d1_57 rfl ?_
  refine o_iloadN cx X1014 d1_59 rfl ?_
  refine o_icmpNo cx X1014 d1_60 (by decide) ?_
  refine o_aload cx X1014 d1_63 rfl rfl ?_
  refine o_iload cx X1014 d1_65 rfl ?_
  refine o_iconst cx X1014 (z := (1 : Int32)) d1_67 rfl ?_
  refine o_iadd cx X1014 (z := (6 : Int32)) d1_68 rfl ?_
  refine o_dup2 cx X1014 d1_69 rfl rfl ?_
  refine o_ldI cx X1014 (v := (.int (0 : Int32))) d1_70 A978 6 (by decide) rfl rfl ?_
  refine o_aload cx X1014 d1_71 rfl rfl ?_
  refine o_iload cx X1014 d1_73 rfl ?_
  refine o_ldI cx X1014 (v := (.int (4 : Int32))) d1_75 A978 5 (by decide) rfl rfl ?_
  refine o_iadd cx X1014 (z := (4 : Int32)) d1_76 rfl ?_
  refine o_stI cx X1014 d1_77 A978 6 (by decide) rfl (Nat.le_of_ble_eq_true rfl) ge980 fun T1017 h1019 X1018 W1020 A978 => ?_
  have KK := KK.wr W1020 (Or.inr sz_b973)
  have A978 : own_Ar Z h1019 b973 .int [(.int (0 : Int32)), (.int (1 : Int32)), (.int (2 : Int32)), (.int (3 : Int32)), (.int (4 : Int32)), (.int (4 : Int32)), (.int (4 : Int32))] := A978
  refine o_iinc cx X1018 (z := (6 : Int32)) (Ls' := #[rv aa, iv (Int32.ofNat nn), iv 6, rv rk, rv tx, rv pl, s6, rv b973, iv 6, iv 4, iv 4, iv 3, .unset, .unset, .unset]) d1_78 rfl rfl rfl ?_
  refine o_goto cx X1018 57 d1_81 (by decide) (by decide) ?_
  refine o_iload cx X1018 d1_57 rfl ?_
  refine o_iloadN cx X1018 d1_59 rfl ?_
  refine o_icmpYes cx X1018 84 d1_60 (by decide) (by decide) (by decide) ?_
  refine o_aload cx X1018 d1_84 rfl rfl ?_
  refine o_len cx X1018 (z := (4 : Int32)) d1_86 (At.keep KK nin0) rfl ?_
  refine o_newP cx X1018 d1_87 (o_w hw 1 rfl) (by decide) 4 4 rfl (Nat.le_refl _) (by decide) (by decide) (by decide) fun T1022 h1024 b1021 gb1027 ge1028 X1023 E1025 A1026 => ?_
  have ne_b973_b1021 : b973 ≠ b1021 := by rw [gb1027]; exact Nat.ne_of_lt A978.lt
  have sz_b1021 : h0.size ≤ b1021 := by rw [gb1027]; exact KK.1
  have A978 := A978.ext E1025
  have KK := KK.ext E1025
  have A1026 : own_Ar Z h1024 b1021 .int [(.int (0 : Int32)), (.int (0 : Int32)), (.int (0 : Int32)), (.int (0 : Int32))] := A1026
  refine o_astore cx X1023 (Ls' := #[rv aa, iv (Int32.ofNat nn), iv 6, rv rk, rv tx, rv pl, s6, rv b973, rv b1021, iv 4, iv 4, iv 3, .unset, .unset, .unset]) d1_89 rfl rfl ?_
  refine o_iconst cx X1023 (z := (0 : Int32)) d1_91 rfl ?_
  refine o_istore cx X1023 (Ls' := #[rv aa, iv (Int32.ofNat nn), iv 6, rv rk, rv tx, rv pl, s6, rv b973, rv b1021, iv 0, iv 4, iv 3, .unset, .unset, .unset]) d1_92 rfl ?_
  refine o_iload cx X1023 d1_94 rfl ?_
  refine o_aload cx X1023 d1_96 rfl rfl ?_
  refine o_len cx X1023 (z := (4 : Int32)) d1_98 (At.keep KK nin0) rfl ?_
  refine o_icmpNo cx X1023 d1_99 (by decide) ?_
  refine o_aload cx X1023 d1_102 rfl rfl ?_
  refine o_aload cx X1023 d1_104 rfl rfl ?_
  refine o_aload cx X1023 d1_106 rfl rfl ?_
  refine o_iload cx X1023 d1_108 rfl ?_
  refine o_ldI cx X1023 (v := (.int (0 : Int32))) d1_110 (At.keep KK nin0) 0 (by decide) rfl rfl ?_
  refine o_dup2 cx X1023 d1_111 rfl rfl ?_
  refine o_ldI cx X1023 (v := (.int (0 : Int32))) d1_112 A978 0 (by decide) rfl rfl ?_
  refine o_dup_x2 cx X1023 d1_113 rfl rfl rfl ?_
  refine o_iconst cx X1023 (z := (1 : Int32)) d1_114 rfl ?_
  refine o_iadd cx X1023 (z := (1 : Int32)) d1_115 rfl ?_
  refine o_stI cx X1023 d1_116 A978 0 (by decide) rfl (Nat.le_of_ble_eq_true rfl) ge980 fun T1029 h1031 X1030 W1032 A978 => ?_
  have A1026 := A1026.other W1032 (Ne.symm ne_b973_b1021)
  have KK := KK.wr W1032 (Or.inr sz_b973)
  have A978 : own_Ar Z h1031 b973 .int [(.int (1 : Int32)), (.int (1 : Int32)), (.int (2 : Int32)), (.int (3 : Int32)), (.int (4 : Int32)), (.int (4 : Int32)), (.int (4 : Int32))] := A978
  refine o_iload cx X1030 d1_117 rfl ?_
  refine o_stI cx X1030 d1_119 A1026 0 (by decide) rfl (Nat.le_of_ble_eq_true rfl) ge1028 fun T1033 h1035 X1034 W1036 A1026 => ?_
  have A978 := A978.other W1036 ne_b973_b1021
  have KK := KK.wr W1036 (Or.inr sz_b1021)
  have A1026 : own_Ar Z h1035 b1021 .int [(.int (0 : Int32)), (.int (0 : Int32)), (.int (0 : Int32)), (.int (0 : Int32))] := A1026
  refine o_iinc cx X1034 (z := (1 : Int32)) (Ls' := #[rv aa, iv (Int32.ofNat nn), iv 6, rv rk, rv tx, rv pl, s6, rv b973, rv b1021, iv 1, iv 4, iv 3, .unset, .unset, .unset]) d1_120 rfl rfl rfl ?_
  refine o_goto cx X1034 94 d1_123 (by decide) (by decide) ?_
  refine o_iload cx X1034 d1_94 rfl ?_
  refine o_aload cx X1034 d1_96 rfl rfl ?_
  refine o_len cx X1034 (z := (4 : Int32)) d1_98 (At.keep KK nin0) rfl ?_
  refine o_icmpNo cx X1034 d1_99 (by decide) ?_
  refine o_aload cx X1034 d1_102 rfl rfl ?_
  refine o_aload cx X1034 d1_104 rfl rfl ?_
  refine o_aload cx X1034 d1_106 rfl rfl ?_
  refine o_iload cx X1034 d1_108 rfl ?_
  refine o_ldI cx X1034 (v := (.int (1 : Int32))) d1_110 (At.keep KK nin0) 1 (by decide) rfl rfl ?_
  refine o_dup2 cx X1034 d1_111 rfl rfl ?_
  refine o_ldI cx X1034 (v := (.int (1 : Int32))) d1_112 A978 1 (by decide) rfl rfl ?_
  refine o_dup_x2 cx X1034 d1_113 rfl rfl rfl ?_
  refine o_iconst cx X1034 (z := (1 : Int32)) d1_114 rfl ?_
  refine o_iadd cx X1034 (z := (2 : Int32)) d1_115 rfl ?_
  refine o_stI cx X1034 d1_116 A978 1 (by decide) rfl (Nat.le_of_ble_eq_true rfl) ge980 fun T1037 h1039 X1038 W1040 A978 => ?_
  have A1026 := A1026.other W1040 (Ne.symm ne_b973_b1021)
  have KK := KK.wr W1040 (Or.inr sz_b973)
  have A978 : own_Ar Z h1039 b973 .int [(.int (1 : Int32)), (.int (2 : Int32)), (.int (2 : Int32)), (.int (3 : Int32)), (.int (4 : Int32)), (.int (4 : Int32)), (.int (4 : Int32))] := A978
  refine o_iload cx X1038 d1_117 rfl ?_
  refine o_stI cx X1038 d1_119 A1026 1 (by decide) rfl (Nat.le_of_ble_eq_true rfl) ge1028 fun T1041 h1043 X1042 W1044 A1026 => ?_
  have A978 := A978.other W1044 ne_b973_b1021
  have KK := KK.wr W1044 (Or.inr sz_b1021)
  have A1026 : own_Ar Z h1043 b1021 .int [(.int (0 : Int32)), (.int (1 : Int32)), (.int (0 : Int32)), (.int (0 : Int32))] := A1026
  refine o_iinc cx X1042 (z := (2 : Int32)) (Ls' := #[rv aa, iv (Int32.ofNat nn), iv 6, rv rk, rv tx, rv pl, s6, rv b973, rv b1021, iv 2, iv 4, iv 3, .unset, .unset, .unset]) d1_120 rfl rfl rfl ?_
  refine o_goto cx X1042 94 d1_123 (by decide) (by decide) ?_
  refine o_iload cx X1042 d1_94 rfl ?_
  refine o_aload cx X1042 d1_96 rfl rfl ?_
  refine o_len cx X1042 (z := (4 : Int32)) d1_98 (At.keep KK nin0) rfl ?_
  refine o_icmpNo cx X1042 d1_99 (by decide) ?_
  refine o_aload cx X1042 d1_102 rfl rfl ?_
  refine o_aload cx X1042 d1_104 rfl rfl ?_
  refine o_aload cx X1042 d1_106 rfl rfl ?_
  refine o_iload cx X1042 d1_108 rfl ?_
  refine o_ldI cx X1042 (v := (.int (2 : Int32))) d1_110 (At.keep KK nin0) 2 (by decide) rfl rfl ?_
  refine o_dup2 cx X1042 d1_111 rfl rfl ?_
  refine o_ldI cx X1042 (v := (.int (2 : Int32))) d1_112 A978 2 (by decide) rfl rfl ?_
  refine o_dup_x2 cx X1042 d1_113 rfl rfl rfl ?_
  refine o_iconst cx X1042 (z := (1 : Int32)) d1_114 rfl ?_
  refine o_iadd cx X1042 (z := (3 : Int32)) d1_115 rfl ?_
  refine o_stI cx X1042 d1_116 A978 2 (by decide) rfl (Nat.le_of_ble_eq_true rfl) ge980 fun T1045 h1047 X1046 W1048 A978 => ?_
  have A1026 := A1026.other W1048 (Ne.symm ne_b973_b1021)
  have KK := KK.wr W1048 (Or.inr sz_b973)
  have A978 : own_Ar Z h1047 b973 .int [(.int (1 : Int32)), (.int (2 : Int32)), (.int (3 : Int32)), (.int (3 : Int32)), (.int (4 : Int32)), (.int (4 : Int32)), (.int (4 : Int32))] := A978
  refine o_iload cx X1046 d1_117 rfl ?_
  refine o_stI cx X1046 d1_119 A1026 2 (by decide) rfl (Nat.le_of_ble_eq_true rfl) ge1028 fun T1049 h1051 X1050 W1052 A1026 => ?_
  have A978 := A978.other W1052 ne_b973_b1021
  have KK := KK.wr W1052 (Or.inr sz_b1021)
  have A1026 : own_Ar Z h1051 b1021 .int [(.int (0 : Int32)), (.int (1 : Int32)), (.int (2 : Int32)), (.int (0 : Int32))] := A1026
  refine o_iinc cx X1050 (z := (3 : Int32)) (Ls' := #[rv aa, iv (Int32.ofNat nn), iv 6, rv rk, rv tx, rv pl, s6, rv b973, rv b1021, iv 3, iv 4, iv 3, .unset, .unset, .unset]) d1_120 rfl rfl rfl ?_
  refine o_goto cx X1050 94 d1_123 (by decide) (by decide) ?_
  refine o_iload cx X1050 d1_94 rfl ?_
  refine o_aload cx X1050 d1_96 rfl rfl ?_
  refine o_len cx X1050 (z := (4 : Int32)) d1_98 (At.keep KK nin0) rfl ?_
  refine o_icmpNo cx X1050 d1_99 (by decide) ?_
  refine o_aload cx X1050 d1_102 rfl rfl ?_
  refine o_aload cx X1050 d1_104 rfl rfl ?_
  refine o_aload cx X1050 d1_106 rfl rfl ?_
  refine o_iload cx X1050 d1_108 rfl ?_
  refine o_ldI cx X1050 (v := (.int (3 : Int32))) d1_110 (At.keep KK nin0) 3 (by decide) rfl rfl ?_
  refine o_dup2 cx X1050 d1_111 rfl rfl ?_
  refine o_ldI cx X1050 (v := (.int (3 : Int32))) d1_112 A978 3 (by decide) rfl rfl ?_
  refine o_dup_x2 cx X1050 d1_113 rfl rfl rfl ?_
  refine o_iconst cx X1050 (z := (1 : Int32)) d1_114 rfl ?_
  refine o_iadd cx X1050 (z := (4 : Int32)) d1_115 rfl ?_
  refine o_stI cx X1050 d1_116 A978 3 (by decide) rfl (Nat.le_of_ble_eq_true rfl) ge980 fun T1053 h1055 X1054 W1056 A978 => ?_
  have A1026 := A1026.other W1056 (Ne.symm ne_b973_b1021)
  have KK := KK.wr W1056 (Or.inr sz_b973)
  have A978 : own_Ar Z h1055 b973 .int [(.int (1 : Int32)), (.int (2 : Int32)), (.int (3 : Int32)), (.int (4 : Int32)), (.int (4 : Int32)), (.int (4 : Int32)), (.int (4 : Int32))] := A978
  refine o_iload cx X1054 d1_117 rfl ?_
  refine o_stI cx X1054 d1_119 A1026 3 (by decide) rfl (Nat.le_of_ble_eq_true rfl) ge1028 fun T1057 h1059 X1058 W1060 A1026 => ?_
  have A978 := A978.other W1060 ne_b973_b1021
  have KK := KK.wr W1060 (Or.inr sz_b1021)
  have A1026 : own_Ar Z h1059 b1021 .int [(.int (0 : Int32)), (.int (1 : Int32)), (.int (2 : Int32)), (.int (3 : Int32))] := A1026
  refine o_iinc cx X1058 (z := (4 : Int32)) (Ls' := #[rv aa, iv (Int32.ofNat nn), iv 6, rv rk, rv tx, rv pl, s6, rv b973, rv b1021, iv 4, iv 4, iv 3, .unset, .unset, .unset]) d1_120 rfl rfl rfl ?_
  refine o_goto cx X1058 94 d1_123 (by decide) (by decide) ?_
  refine o_iload cx X1058 d1_94 rfl ?_
  refine o_aload cx X1058 d1_96 rfl rfl ?_
  refine o_len cx X1058 (z := (4 : Int32)) d1_98 (At.keep KK nin0) rfl ?_
  refine o_icmpYes cx X1058 126 d1_99 (by decide) (by decide) (by decide) ?_
  have ne_aa_b1021 : aa ≠ b1021 := Nat.ne_of_lt (Nat.lt_of_lt_of_le E0.lt sz_b1021)
  exact kk _ _ b973 b1021 (4 : Int32) (4 : Int32) (3 : Int32) (X1058.more (by decide) (by decide)) ge1028 ne_aa_b1021  (E0.keep KK) (F0.keep KK nin0) (F1.keep KK nin0) (F2.keep KK nin0) (F3.keep KK nin0) (Ar.keep KK nin0) (At.keep KK nin0) (Ap.keep KK nin0) (Ac.keep KK nin0) A1026
set_option maxRecDepth 65536 in
set_option maxHeartbeats 40000000 in
theorem segA_6_1 {p : Program} {l : Launch} {e : Env} {s : State} {m : MethodId} {below : List Frame} {meth : Method} {c : Code} {n0 : Nat} {T0 : State} {h0 : Heap} {Z : State} {a0 : Array Value} {args : Array Value} {P : State → Outcome → Prop} (hw : ∀ d ∈ tables_1, d.before a0 Z = true) (aa rk tx pl : Addr) (nn k0 k1 k2 k3 : Nat) (v0 v1 v2 v3 : Int32) (s6 : Slot) (cv : Addr) (vcs : List Value) (cx : own_Cx p s m meth c Z prog_28_method_2_code 15 (⟨"com/example/rough_dedup/roughdedup/ShingleIndex$Postings", "<init>", "(II[I[I[I[I)V"⟩ : MethodName) none) (X0 : own_Sd p l e ({ frames := 2, cells := 7, slots := 41, locals := 74 } : Room) s m args below meth c n0 T0 h0 0 0) (ga : n0 ≤ aa) (ne_aa_rk : aa ≠ rk) (ne_aa_tx : aa ≠ tx) (ne_aa_pl : aa ≠ pl) (E0 : Exa Z h0 aa "com/example/rough_dedup/roughdedup/ShingleIndex$Postings") (F0 : Fld Z h0 aa "com/example/rough_dedup/roughdedup/ShingleIndex$Postings" "starts" "[I" .null) (F1 : Fld Z h0 aa "com/example/rough_dedup/roughdedup/ShingleIndex$Postings" "texts" "[I" .null) (F2 : Fld Z h0 aa "com/example/rough_dedup/roughdedup/ShingleIndex$Postings" "places" "[I" .null) (F3 : Fld Z h0 aa "com/example/rough_dedup/roughdedup/ShingleIndex$Postings" "covered" "[I" .null) (Ar : own_Ar Z h0 rk .int [(.int (Int32.ofNat k0)), (.int (Int32.ofNat k1)), (.int (Int32.ofNat k2)), (.int (Int32.ofNat k3))]) (At : own_Ar Z h0 tx .int [(.int (1 : Int32)), (.int (2 : Int32)), (.int (3 : Int32)), (.int (4 : Int32))]) (Ap : own_Ar Z h0 pl .int [(.int v0), (.int v1), (.int v2), (.int v3)]) (Ac : own_Ar Z h0 cv .int vcs) (kk : ∀ (T : State) (h : Heap) (ts bt : Addr) (x9 x10 x11 : Int32), own_Sd p l e ({ frames := 2, cells := 7, slots := 41, locals := 74 } : Room) s m args below meth c n0 T h 2 12 → n0 ≤ bt → aa ≠ bt → Exa Z h aa "com/example/rough_dedup/roughdedup/ShingleIndex$Postings" → Fld Z h aa "com/example/rough_dedup/roughdedup/ShingleIndex$Postings" "starts" "[I" .null → Fld Z h aa "com/example/rough_dedup/roughdedup/ShingleIndex$Postings" "texts" "[I" .null → Fld Z h aa "com/example/rough_dedup/roughdedup/ShingleIndex$Postings" "places" "[I" .null → Fld Z h aa "com/example/rough_dedup/roughdedup/ShingleIndex$Postings" "covered" "[I" .null → own_Ar Z h rk .int [(.int (Int32.ofNat k0)), (.int (Int32.ofNat k1)), (.int (Int32.ofNat k2)), (.int (Int32.ofNat k3))] → own_Ar Z h tx .int [(.int (1 : Int32)), (.int (2 : Int32)), (.int (3 : Int32)), (.int (4 : Int32))] → own_Ar Z h pl .int [(.int v0), (.int v1), (.int v2), (.int v3)] → own_Ar Z h cv .int vcs → own_Ar Z h bt .int [(.int (0 : Int32)), (.int (1 : Int32)), (.int (2 : Int32)), (.int (3 : Int32))] → own_Go p e below P (T.setTop (mkF m 126 #[rv aa, iv (Int32.ofNat nn), iv 6, rv rk, rv tx, rv pl, s6, .val (.ref ts), .val (.ref bt), .val (.int x9), .val (.int x10), .val (.int x11), .unset, .unset, .unset] []))) :
    own_Go p e below P (T0.setTop (mkF m 0 #[rv aa, iv (Int32.ofNat nn), iv 6, rv rk, rv tx, rv pl, s6, .unset, .unset, .unset, .unset, .unset, .unset, .unset, .unset] [])) := by
  have KK := Keep.refl h0 []
  refine o_aloadN cx X0 d1_0 rfl rfl ?_
  refine o_initO cx X0 d1_1 (o_w hw 9 rfl) (o_w hw 10 rfl) (o_w hw 11 rfl) rfl (by decide) 0 rfl (by decide) fun T1061 X1062 => ?_
  refine o_iloadN cx X1062 d1_4 rfl ?_
  refine o_iconst cx X1062 (z := (1 : Int32)) d1_5 rfl ?_
  refine o_iadd cx X1062 (z := (7 : Int32)) d1_6 rfl ?_
  refine o_newP cx X1062 d1_7 (o_w hw 1 rfl) (by decide) 7 7 rfl (Nat.le_refl _) (by decide) (by decide) (by decide) fun T1064 h1066 b1063 gb1069 ge1070 X1065 E1067 A1068 => ?_
  have sz_b1063 : h0.size ≤ b1063 := by rw [gb1069]; exact KK.1
  have KK := KK.ext E1067
  have A1068 : own_Ar Z h1066 b1063 .int [(.int (0 : Int32)), (.int (0 : Int32)), (.int (0 : Int32)), (.int (0 : Int32)), (.int (0 : Int32)), (.int (0 : Int32)), (.int (0 : Int32))] := A1068
  refine o_astore cx X1065 (Ls' := #[rv aa, iv (Int32.ofNat nn), iv 6, rv rk, rv tx, rv pl, s6, rv b1063, .unset, .unset, .unset, .unset, .unset, .unset, .unset]) d1_9 rfl rfl ?_
  refine o_aload cx X1065 d1_11 rfl rfl ?_
  refine o_astore cx X1065 (Ls' := #[rv aa, iv (Int32.ofNat nn), iv 6, rv rk, rv tx, rv pl, s6, rv b1063, rv tx, .unset, .unset, .unset, .unset, .unset, .unset]) d1_13 rfl rfl ?_
  refine o_aload cx X1065 d1_15 rfl rfl ?_
  refine o_len cx X1065 (z := (4 : Int32)) d1_17 (At.keep KK nin0) rfl ?_
  refine o_istore cx X1065 (Ls' := #[rv aa, iv (Int32.ofNat nn), iv 6, rv rk, rv tx, rv pl, s6, rv b1063, rv tx, iv 4, .unset, .unset, .unset, .unset, .unset]) d1_18 rfl ?_
  refine o_iconst cx X1065 (z := (0 : Int32)) d1_20 rfl ?_
  refine o_istore cx X1065 (Ls' := #[rv aa, iv (Int32.ofNat nn), iv 6, rv rk, rv tx, rv pl, s6, rv b1063, rv tx, iv 4, iv 0, .unset, .unset, .unset, .unset]) d1_21 rfl ?_
  refine o_iload cx X1065 d1_23 rfl ?_
  refine o_iload cx X1065 d1_25 rfl ?_
  refine o_icmpNo cx X1065 d1_27 (by decide) ?_
  refine o_aload cx X1065 d1_30 rfl rfl ?_
  refine o_iload cx X1065 d1_32 rfl ?_
  refine o_ldI cx X1065 (v := (.int (1 : Int32))) d1_34 (At.keep KK nin0) 0 (by decide) rfl rfl ?_
  refine o_istore cx X1065 (Ls' := #[rv aa, iv (Int32.ofNat nn), iv 6, rv rk, rv tx, rv pl, s6, rv b1063, rv tx, iv 4, iv 0, iv 1, .unset, .unset, .unset]) d1_35 rfl ?_
  refine o_aload cx X1065 d1_37 rfl rfl ?_
  refine o_iload cx X1065 d1_39 rfl ?_
  refine o_iconst cx X1065 (z := (1 : Int32)) d1_41 rfl ?_
  refine o_iadd cx X1065 (z := (2 : Int32)) d1_42 rfl ?_
  refine o_dup2 cx X1065 d1_43 rfl rfl ?_
  refine o_ldI cx X1065 (v := (.int (0 : Int32))) d1_44 A1068 2 (by decide) rfl rfl ?_
  refine o_iconst cx X1065 (z := (1 : Int32)) d1_45 rfl ?_
  refine o_iadd cx X1065 (z := (1 : Int32)) d1_46 rfl ?_
  refine o_stI cx X1065 d1_47 A1068 2 (by decide) rfl (Nat.le_of_ble_eq_true rfl) ge1070 fun T1071 h1073 X1072 W1074 A1068 => ?_
  have KK := KK.wr W1074 (Or.inr sz_b1063)
  have A1068 : own_Ar Z h1073 b1063 .int [(.int (0 : Int32)), (.int (0 : Int32)), (.int (1 : Int32)), (.int (0 : Int32)), (.int (0 : Int32)), (.int (0 : Int32)), (.int (0 : Int32))] := A1068
  refine o_iinc cx X1072 (z := (1 : Int32)) (Ls' := #[rv aa, iv (Int32.ofNat nn), iv 6, rv rk, rv tx, rv pl, s6, rv b1063, rv tx, iv 4, iv 1, iv 1, .unset, .unset, .unset]) d1_48 rfl rfl rfl ?_
  refine o_goto cx X1072 23 d1_51 (by decide) (by decide) ?_
  refine o_iload cx X1072 d1_23 rfl ?_
  refine o_iload cx X1072 d1_25 rfl ?_
  refine o_icmpNo cx X1072 d1_27 (by decide) ?_
  refine o_aload cx X1072 d1_30 rfl rfl ?_
  refine o_iload cx X1072 d1_32 rfl ?_
  refine o_ldI cx X1072 (v := (.int (2 : Int32))) d1_34 (At.keep KK nin0) 1 (by decide) rfl rfl ?_
  refine o_istore cx X1072 (Ls' := #[rv aa, iv (Int32.ofNat nn), iv 6, rv rk, rv tx, rv pl, s6, rv b1063, rv tx, iv 4, iv 1, iv 2, .unset, .unset, .unset]) d1_35 rfl ?_
  refine o_aload cx X1072 d1_37 rfl rfl ?_
  refine o_iload cx X1072 d1_39 rfl ?_
  refine o_iconst cx X1072 (z := (1 : Int32)) d1_41 rfl ?_
  refine o_iadd cx X1072 (z := (3 : Int32)) d1_42 rfl ?_
  refine o_dup2 cx X1072 d1_43 rfl rfl ?_
  refine o_ldI cx X1072 (v := (.int (0 : Int32))) d1_44 A1068 3 (by decide) rfl rfl ?_
  refine o_iconst cx X1072 (z := (1 : Int32)) d1_45 rfl ?_
  refine o_iadd cx X1072 (z := (1 : Int32)) d1_46 rfl ?_
  refine o_stI cx X1072 d1_47 A1068 3 (by decide) rfl (Nat.le_of_ble_eq_true rfl) ge1070 fun T1075 h1077 X1076 W1078 A1068 => ?_
  have KK := KK.wr W1078 (Or.inr sz_b1063)
  have A1068 : own_Ar Z h1077 b1063 .int [(.int (0 : Int32)), (.int (0 : Int32)), (.int (1 : Int32)), (.int (1 : Int32)), (.int (0 : Int32)), (.int (0 : Int32)), (.int (0 : Int32))] := A1068
  refine o_iinc cx X1076 (z := (2 : Int32)) (Ls' := #[rv aa, iv (Int32.ofNat nn), iv 6, rv rk, rv tx, rv pl, s6, rv b1063, rv tx, iv 4, iv 2, iv 2, .unset, .unset, .unset]) d1_48 rfl rfl rfl ?_
  refine o_goto cx X1076 23 d1_51 (by decide) (by decide) ?_
  refine o_iload cx X1076 d1_23 rfl ?_
  refine o_iload cx X1076 d1_25 rfl ?_
  refine o_icmpNo cx X1076 d1_27 (by decide) ?_
  refine o_aload cx X1076 d1_30 rfl rfl ?_
  refine o_iload cx X1076 d1_32 rfl ?_
  refine o_ldI cx X1076 (v := (.int (3 : Int32))) d1_34 (At.keep KK nin0) 2 (by decide) rfl rfl ?_
  refine o_istore cx X1076 (Ls' := #[rv aa, iv (Int32.ofNat nn), iv 6, rv rk, rv tx, rv pl, s6, rv b1063, rv tx, iv 4, iv 2, iv 3, .unset, .unset, .unset]) d1_35 rfl ?_
  refine o_aload cx X1076 d1_37 rfl rfl ?_
  refine o_iload cx X1076 d1_39 rfl ?_
  refine o_iconst cx X1076 (z := (1 : Int32)) d1_41 rfl ?_
  refine o_iadd cx X1076 (z := (4 : Int32)) d1_42 rfl ?_
  refine o_dup2 cx X1076 d1_43 rfl rfl ?_
  refine o_ldI cx X1076 (v := (.int (0 : Int32))) d1_44 A1068 4 (by decide) rfl rfl ?_
  refine o_iconst cx X1076 (z := (1 : Int32)) d1_45 rfl ?_
  refine o_iadd cx X1076 (z := (1 : Int32)) d1_46 rfl ?_
  refine o_stI cx X1076 d1_47 A1068 4 (by decide) rfl (Nat.le_of_ble_eq_true rfl) ge1070 fun T1079 h1081 X1080 W1082 A1068 => ?_
  have KK := KK.wr W1082 (Or.inr sz_b1063)
  have A1068 : own_Ar Z h1081 b1063 .int [(.int (0 : Int32)), (.int (0 : Int32)), (.int (1 : Int32)), (.int (1 : Int32)), (.int (1 : Int32)), (.int (0 : Int32)), (.int (0 : Int32))] := A1068
  refine o_iinc cx X1080 (z := (3 : Int32)) (Ls' := #[rv aa, iv (Int32.ofNat nn), iv 6, rv rk, rv tx, rv pl, s6, rv b1063, rv tx, iv 4, iv 3, iv 3, .unset, .unset, .unset]) d1_48 rfl rfl rfl ?_
  refine o_goto cx X1080 23 d1_51 (by decide) (by decide) ?_
  refine o_iload cx X1080 d1_23 rfl ?_
  refine o_iload cx X1080 d1_25 rfl ?_
  refine o_icmpNo cx X1080 d1_27 (by decide) ?_
  refine o_aload cx X1080 d1_30 rfl rfl ?_
  refine o_iload cx X1080 d1_32 rfl ?_
  refine o_ldI cx X1080 (v := (.int (4 : Int32))) d1_34 (At.keep KK nin0) 3 (by decide) rfl rfl ?_
  refine o_istore cx X1080 (Ls' := #[rv aa, iv (Int32.ofNat nn), iv 6, rv rk, rv tx, rv pl, s6, rv b1063, rv tx, iv 4, iv 3, iv 4, .unset, .unset, .unset]) d1_35 rfl ?_
  refine o_aload cx X1080 d1_37 rfl rfl ?_
  refine o_iload cx X1080 d1_39 rfl ?_
  refine o_iconst cx X1080 (z := (1 : Int32)) d1_41 rfl ?_
  refine o_iadd cx X1080 (z := (5 : Int32)) d1_42 rfl ?_
  refine o_dup2 cx X1080 d1_43 rfl rfl ?_
  refine o_ldI cx X1080 (v := (.int (0 : Int32))) d1_44 A1068 5 (by decide) rfl rfl ?_
  refine o_iconst cx X1080 (z := (1 : Int32)) d1_45 rfl ?_
  refine o_iadd cx X1080 (z := (1 : Int32)) d1_46 rfl ?_
  refine o_stI cx X1080 d1_47 A1068 5 (by decide) rfl (Nat.le_of_ble_eq_true rfl) ge1070 fun T1083 h1085 X1084 W1086 A1068 => ?_
  have KK := KK.wr W1086 (Or.inr sz_b1063)
  have A1068 : own_Ar Z h1085 b1063 .int [(.int (0 : Int32)), (.int (0 : Int32)), (.int (1 : Int32)), (.int (1 : Int32)), (.int (1 : Int32)), (.int (1 : Int32)), (.int (0 : Int32))] := A1068
  refine o_iinc cx X1084 (z := (4 : Int32)) (Ls' := #[rv aa, iv (Int32.ofNat nn), iv 6, rv rk, rv tx, rv pl, s6, rv b1063, rv tx, iv 4, iv 4, iv 4, .unset, .unset, .unset]) d1_48 rfl rfl rfl ?_
  refine o_goto cx X1084 23 d1_51 (by decide) (by decide) ?_
  refine o_iload cx X1084 d1_23 rfl ?_
  refine o_iload cx X1084 d1_25 rfl ?_
  refine o_icmpYes cx X1084 54 d1_27 (by decide) (by decide) (by decide) ?_
  refine o_iconst cx X1084 (z := (0 : Int32)) d1_54 rfl ?_
  refine o_istore cx X1084 (Ls' := #[rv aa, iv (Int32.ofNat nn), iv 6, rv rk, rv tx, rv pl, s6, rv b1063, iv 0, iv 4, iv 4, iv 4, .unset, .unset, .unset]) d1_55 rfl ?_
  refine o_iload cx X1084 d1_57 rfl ?_
  refine o_iloadN cx X1084 d1_59 rfl ?_
  refine o_icmpNo cx X1084 d1_60 (by decide) ?_
  refine o_aload cx X1084 d1_63 rfl rfl ?_
  refine o_iload cx X1084 d1_65 rfl ?_
  refine o_iconst cx X1084 (z := (1 : Int32)) d1_67 rfl ?_
  refine o_iadd cx X1084 (z := (1 : Int32)) d1_68 rfl ?_
  refine o_dup2 cx X1084 d1_69 rfl rfl ?_
  refine o_ldI cx X1084 (v := (.int (0 : Int32))) d1_70 A1068 1 (by decide) rfl rfl ?_
  refine o_aload cx X1084 d1_71 rfl rfl ?_
  refine o_iload cx X1084 d1_73 rfl ?_
  refine o_ldI cx X1084 (v := (.int (0 : Int32))) d1_75 A1068 0 (by decide) rfl rfl ?_
  refine o_iadd cx X1084 (z := (0 : Int32)) d1_76 rfl ?_
  refine o_stI cx X1084 d1_77 A1068 1 (by decide) rfl (Nat.le_of_ble_eq_true rfl) ge1070 fun T1087 h1089 X1088 W1090 A1068 => ?_
  have KK := KK.wr W1090 (Or.inr sz_b1063)
  have A1068 : own_Ar Z h1089 b1063 .int [(.int (0 : Int32)), (.int (0 : Int32)), (.int (1 : Int32)), (.int (1 : Int32)), (.int (1 : Int32)), (.int (1 : Int32)), (.int (0 : Int32))] := A1068
  refine o_iinc cx X1088 (z := (1 : Int32)) (Ls' := #[rv aa, iv (Int32.ofNat nn), iv 6, rv rk, rv tx, rv pl, s6, rv b1063, iv 1, iv 4, iv 4, iv 4, .unset, .unset, .unset]) d1_78 rfl rfl rfl ?_
  refine o_goto cx X1088 57 d1_81 (by decide) (by decide) ?_
  refine o_iload cx X1088 d1_57 rfl ?_
  refine o_iloadN cx X1088 d1_59 rfl ?_
  refine o_icmpNo cx X1088 d1_60 (by decide) ?_
  refine o_aload cx X1088 d1_63 rfl rfl ?_
  refine o_iload cx X1088 d1_65 rfl ?_
  refine o_iconst cx X1088 (z := (1 : Int32)) d1_67 rfl ?_
  refine o_iadd cx X1088 (z := (2 : Int32)) d1_68 rfl ?_
  refine o_dup2 cx X1088 d1_69 rfl rfl ?_
  refine o_ldI cx X1088 (v := (.int (1 : Int32))) d1_70 A1068 2 (by decide) rfl rfl ?_
  refine o_aload cx X1088 d1_71 rfl rfl ?_
  refine o_iload cx X1088 d1_73 rfl ?_
  refine o_ldI cx X1088 (v := (.int (0 : Int32))) d1_75 A1068 1 (by decide) rfl rfl ?_
  refine o_iadd cx X1088 (z := (1 : Int32)) d1_76 rfl ?_
  refine o_stI cx X1088 d1_77 A1068 2 (by decide) rfl (Nat.le_of_ble_eq_true rfl) ge1070 fun T1091 h1093 X1092 W1094 A1068 => ?_
  have KK := KK.wr W1094 (Or.inr sz_b1063)
  have A1068 : own_Ar Z h1093 b1063 .int [(.int (0 : Int32)), (.int (0 : Int32)), (.int (1 : Int32)), (.int (1 : Int32)), (.int (1 : Int32)), (.int (1 : Int32)), (.int (0 : Int32))] := A1068
  refine o_iinc cx X1092 (z := (2 : Int32)) (Ls' := #[rv aa, iv (Int32.ofNat nn), iv 6, rv rk, rv tx, rv pl, s6, rv b1063, iv 2, iv 4, iv 4, iv 4, .unset, .unset, .unset]) d1_78 rfl rfl rfl ?_
  refine o_goto cx X1092 57 d1_81 (by decide) (by decide) ?_
  refine o_iload cx X1092 d1_57 rfl ?_
  refine o_iloadN cx X1092 d1_59 rfl ?_
  refine o_icmpNo cx X1092 d1_60 (by decide) ?_
  refine o_aload cx X1092 d1_63 rfl rfl ?_
  refine o_iload cx X1092 d1_65 rfl ?_
  refine o_iconst cx X1092 (z := (1 : Int32)) d1_67 rfl ?_
  refine o_iadd cx X1092 (z := (3 : Int32)) d1_68 rfl ?_
  refine o_dup2 cx X1092 d1_69 rfl rfl ?_
  refine o_ldI cx X1092 (v := (.int (1 : Int32))) d1_70 A1068 3 (by decide) rfl rfl ?_
  refine o_aload cx X1092 d1_71 rfl rfl ?_
  refine o_iload cx X1092 d1_73 rfl ?_
  refine o_ldI cx X1092 (v := (.int (1 : Int32))) d1_75 A1068 2 (by decide) rfl rfl ?_
  refine o_iadd cx X1092 (z := (2 : Int32)) d1_76 rfl ?_
  refine o_stI cx X1092 d1_77 A1068 3 (by decide) rfl (Nat.le_of_ble_eq_true rfl) ge1070 fun T1095 h1097 X1096 W1098 A1068 => ?_
  have KK := KK.wr W1098 (Or.inr sz_b1063)
  have A1068 : own_Ar Z h1097 b1063 .int [(.int (0 : Int32)), (.int (0 : Int32)), (.int (1 : Int32)), (.int (2 : Int32)), (.int (1 : Int32)), (.int (1 : Int32)), (.int (0 : Int32))] := A1068
  refine o_iinc cx X1096 (z := (3 : Int32)) (Ls' := #[rv aa, iv (Int32.ofNat nn), iv 6, rv rk, rv tx, rv pl, s6, rv b1063, iv 3, iv 4, iv 4, iv 4, .unset, .unset, .unset]) d1_78 rfl rfl rfl ?_
  refine o_goto cx X1096 57 d1_81 (by decide) (by decide) ?_
  refine o_iload cx X1096 d1_57 rfl ?_
  refine o_iloadN cx X1096 d1_59 rfl ?_
  refine o_icmpNo cx X1096 d1_60 (by decide) ?_
  refine o_aload cx X1096 d1_63 rfl rfl ?_
  refine o_iload cx X1096 d1_65 rfl ?_
  refine o_iconst cx X1096 (z := (1 : Int32)) d1_67 rfl ?_
  refine o_iadd cx X1096 (z := (4 : Int32)) d1_68 rfl ?_
  refine o_dup2 cx X1096 d1_69 rfl rfl ?_
  refine o_ldI cx X1096 (v := (.int (1 : Int32))) d1_70 A1068 4 (by decide) rfl rfl ?_
  refine o_aload cx X1096 d1_71 rfl rfl ?_
  refine o_iload cx X1096 d1_73 rfl ?_
  refine o_ldI cx X1096 (v := (.int (2 : Int32))) d1_75 A1068 3 (by decide) rfl rfl ?_
  refine o_iadd cx X1096 (z := (3 : Int32)) d1_76 rfl ?_
  refine o_stI cx X1096 d1_77 A1068 4 (by decide) rfl (Nat.le_of_ble_eq_true rfl) ge1070 fun T1099 h1101 X1100 W1102 A1068 => ?_
  have KK := KK.wr W1102 (Or.inr sz_b1063)
  have A1068 : own_Ar Z h1101 b1063 .int [(.int (0 : Int32)), (.int (0 : Int32)), (.int (1 : Int32)), (.int (2 : Int32)), (.int (3 : Int32)), (.int (1 : Int32)), (.int (0 : Int32))] := A1068
  refine o_iinc cx X1100 (z := (4 : Int32)) (Ls' := #[rv aa, iv (Int32.ofNat nn), iv 6, rv rk, rv tx, rv pl, s6, rv b1063, iv 4, iv 4, iv 4, iv 4, .unset, .unset, .unset]) d1_78 rfl rfl rfl ?_
  refine o_goto cx X1100 57 d1_81 (by decide) (by decide) ?_
  refine o_iload cx X1100 d1_57 rfl ?_
  refine o_iloadN cx X1100 d1_59 rfl ?_
  refine o_icmpNo cx X1100 d1_60 (by decide) ?_
  refine o_aload cx X1100 d1_63 rfl rfl ?_
  refine o_iload cx X1100 d1_65 rfl ?_
  refine o_iconst cx X1100 (z := (1 : Int32)) d1_67 rfl ?_
  refine o_iadd cx X1100 (z := (5 : Int32)) d1_68 rfl ?_
  refine o_dup2 cx X1100 d1_69 rfl rfl ?_
  refine o_ldI cx X1100 (v := (.int (1 : Int32))) d1_70 A1068 5 (by decide) rfl rfl ?_
  refine o_aload cx X1100 d1_71 rfl rfl ?_
  refine o_iload cx X1100 d1_73 rfl ?_
  refine o_ldI cx X1100 (v := (.int (3 : Int32))) d1_75 A1068 4 (by decide) rfl rfl ?_
  refine o_iadd cx X1100 (z := (4 : Int32)) d1_76 rfl ?_
  refine o_stI cx X1100 d1_77 A1068 5 (by decide) rfl (Nat.le_of_ble_eq_true rfl) ge1070 fun T1103 h1105 X1104 W1106 A1068 => ?_
  have KK := KK.wr W1106 (Or.inr sz_b1063)
  have A1068 : own_Ar Z h1105 b1063 .int [(.int (0 : Int32)), (.int (0 : Int32)), (.int (1 : Int32)), (.int (2 : Int32)), (.int (3 : Int32)), (.int (4 : Int32)), (.int (0 : Int32))] := A1068
  refine o_iinc cx X1104 (z := (5 : Int32)) (Ls' := #[rv aa, iv (Int32.ofNat nn), iv 6, rv rk, rv tx, rv pl, s6, rv b1063, iv 5, iv 4, iv 4, iv 4, .unset, .unset, .unset]) d1_78 rfl rfl rfl ?_
  refine o_goto cx X1104 57 d1_81 (by decide) (by decide) ?_
  refine o_iload cx X1104 d1_57 rfl ?_
  refine o_iloadN cx X1104 d1_59 rfl ?_
  refine o_icmpNo cx X1104 d1_60 (by decide) ?_
  refine o_aload cx X1104 d1_63 rfl rfl ?_
  refine o_iload cx X1104 d1_65 rfl ?_
  refine o_iconst cx X1104 (z := (1 : Int32)) d1_67 rfl ?_
  refine o_iadd cx X1104 (z := (6 : Int32)) d1_68 rfl ?_
  refine o_dup2 cx X1104 d1_69 rfl rfl ?_
  refine o_ldI cx X1104 (v := (.int (0 : Int32))) d1_70 A1068 6 (by decide) rfl rfl ?_
  refine o_aload cx X1104 d1_71 rfl rfl ?_
  refine o_iload cx X1104 d1_73 rfl ?_
  refine o_ldI cx X1104 (v := (.int (4 : Int32))) d1_75 A1068 5 (by decide) rfl rfl ?_
  refine o_iadd cx X1104 (z := (4 : Int32)) d1_76 rfl ?_
  refine o_stI cx X1104 d1_77 A1068 6 (by decide) rfl (Nat.le_of_ble_eq_true rfl) ge1070 fun T1107 h1109 X1108 W1110 A1068 => ?_
  have KK := KK.wr W1110 (Or.inr sz_b1063)
  have A1068 : own_Ar Z h1109 b1063 .int [(.int (0 : Int32)), (.int (0 : Int32)), (.int (1 : Int32)), (.int (2 : Int32)), (.int (3 : Int32)), (.int (4 : Int32)), (.int (4 : Int32))] := A1068
  refine o_iinc cx X1108 (z := (6 : Int32)) (Ls' := #[rv aa, iv (Int32.ofNat nn), iv 6, rv rk, rv tx, rv pl, s6, rv b1063, iv 6, iv 4, iv 4, iv 4, .unset, .unset, .unset]) d1_78 rfl rfl rfl ?_
  refine o_goto cx X1108 57 d1_81 (by decide) (by decide) ?_
  refine o_iload cx X1108 d1_57 rfl ?_
  refine o_iloadN cx X1108 d1_59 rfl ?_
  refine o_icmpYes cx X1108 84 d1_60 (by decide) (by decide) (by decide) ?_
  refine o_aload cx X1108 d1_84 rfl rfl ?_
  refine o_len cx X1108 (z := (4 : Int32)) d1_86 (At.keep KK nin0) rfl ?_
  refine o_newP cx X1108 d1_87 (o_w hw 1 rfl) (by decide) 4 4 rfl (Nat.le_refl _) (by decide) (by decide) (by decide) fun T1112 h1114 b1111 gb1117 ge1118 X1113 E1115 A1116 => ?_
  have ne_b1063_b1111 : b1063 ≠ b1111 := by rw [gb1117]; exact Nat.ne_of_lt A1068.lt
  have sz_b1111 : h0.size ≤ b1111 := by rw [gb1117]; exact KK.1
  have A1068 := A1068.ext E1115
  have KK := KK.ext E1115
  have A1116 : own_Ar Z h1114 b1111 .int [(.int (0 : Int32)), (.int (0 : Int32)), (.int (0 : Int32)), (.int (0 : Int32))] := A1116
  refine o_astore cx X1113 (Ls' := #[rv aa, iv (Int32.ofNat nn), iv 6, rv rk, rv tx, rv pl, s6, rv b1063, rv b1111, iv 4, iv 4, iv 4, .unset, .unset, .unset]) d1_89 rfl rfl ?_
  refine o_iconst cx X1113 (z := (0 : Int32)) d1_91 rfl ?_
  refine o_istore cx X1113 (Ls' := #[rv aa, iv (Int32.ofNat nn), iv 6, rv rk, rv tx, rv pl, s6, rv b1063, rv b1111, iv 0, iv 4, iv 4, .unset, .unset, .unset]) d1_92 rfl ?_
  refine o_iload cx X1113 d1_94 rfl ?_
  refine o_aload cx X1113 d1_96 rfl rfl ?_
  refine o_len cx X1113 (z := (4 : Int32)) d1_98 (At.keep KK nin0) rfl ?_
  refine o_icmpNo cx X1113 d1_99 (by decide) ?_
  refine o_aload cx X1113 d1_102 rfl rfl ?_
  refine o_aload cx X1113 d1_104 rfl rfl ?_
  refine o_aload cx X1113 d1_106 rfl rfl ?_
  refine o_iload cx X1113 d1_108 rfl ?_
  refine o_ldI cx X1113 (v := (.int (1 : Int32))) d1_110 (At.keep KK nin0) 0 (by decide) rfl rfl ?_
  refine o_dup2 cx X1113 d1_111 rfl rfl ?_
  refine o_ldI cx X1113 (v := (.int (0 : Int32))) d1_112 A1068 1 (by decide) rfl rfl ?_
  refine o_dup_x2 cx X1113 d1_113 rfl rfl rfl ?_
  refine o_iconst cx X1113 (z := (1 : Int32)) d1_114 rfl ?_
  refine o_iadd cx X1113 (z := (1 : Int32)) d1_115 rfl ?_
  refine o_stI cx X1113 d1_116 A1068 1 (by decide) rfl (Nat.le_of_ble_eq_true rfl) ge1070 fun T1119 h1121 X1120 W1122 A1068 => ?_
  have A1116 := A1116.other W1122 (Ne.symm ne_b1063_b1111)
  have KK := KK.wr W1122 (Or.inr sz_b1063)
  have A1068 : own_Ar Z h1121 b1063 .int [(.int (0 : Int32)), (.int (1 : Int32)), (.int (1 : Int32)), (.int (2 : Int32)), (.int (3 : Int32)), (.int (4 : Int32)), (.int (4 : Int32))] := A1068
  refine o_iload cx X1120 d1_117 rfl ?_
  refine o_stI cx X1120 d1_119 A1116 0 (by decide) rfl (Nat.le_of_ble_eq_true rfl) ge1118 fun T1123 h1125 X1124 W1126 A1116 => ?_
  have A1068 := A1068.other W1126 ne_b1063_b1111
  have KK := KK.wr W1126 (Or.inr sz_b1111)
  have A1116 : own_Ar Z h1125 b1111 .int [(.int (0 : Int32)), (.int (0 : Int32)), (.int (0 : Int32)), (.int (0 : Int32))] := A1116
  refine o_iinc cx X1124 (z := (1 : Int32)) (Ls' := #[rv aa, iv (Int32.ofNat nn), iv 6, rv rk, rv tx, rv pl, s6, rv b1063, rv b1111, iv 1, iv 4, iv 4, .unset, .unset, .unset]) d1_120 rfl rfl rfl ?_
  refine o_goto cx X1124 94 d1_123 (by decide) (by decide) ?_
  refine o_iload cx X1124 d1_94 rfl ?_
  refine o_aload cx X1124 d1_96 rfl rfl ?_
  refine o_len cx X1124 (z := (4 : Int32)) d1_98 (At.keep KK nin0) rfl ?_
  refine o_icmpNo cx X1124 d1_99 (by decide) ?_
  refine o_aload cx X1124 d1_102 rfl rfl ?_
  refine o_aload cx X1124 d1_104 rfl rfl ?_
  refine o_aload cx X1124 d1_106 rfl rfl ?_
  refine o_iload cx X1124 d1_108 rfl ?_
  refine o_ldI cx X1124 (v := (.int (2 : Int32))) d1_110 (At.keep KK nin0) 1 (by decide) rfl rfl ?_
  refine o_dup2 cx X1124 d1_111 rfl rfl ?_
  refine o_ldI cx X1124 (v := (.int (1 : Int32))) d1_112 A1068 2 (by decide) rfl rfl ?_
  refine o_dup_x2 cx X1124 d1_113 rfl rfl rfl ?_
  refine o_iconst cx X1124 (z := (1 : Int32)) d1_114 rfl ?_
  refine o_iadd cx X1124 (z := (2 : Int32)) d1_115 rfl ?_
  refine o_stI cx X1124 d1_116 A1068 2 (by decide) rfl (Nat.le_of_ble_eq_true rfl) ge1070 fun T1127 h1129 X1128 W1130 A1068 => ?_
  have A1116 := A1116.other W1130 (Ne.symm ne_b1063_b1111)
  have KK := KK.wr W1130 (Or.inr sz_b1063)
  have A1068 : own_Ar Z h1129 b1063 .int [(.int (0 : Int32)), (.int (1 : Int32)), (.int (2 : Int32)), (.int (2 : Int32)), (.int (3 : Int32)), (.int (4 : Int32)), (.int (4 : Int32))] := A1068
  refine o_iload cx X1128 d1_117 rfl ?_
  refine o_stI cx X1128 d1_119 A1116 1 (by decide) rfl (Nat.le_of_ble_eq_true rfl) ge1118 fun T1131 h1133 X1132 W1134 A1116 => ?_
  have A1068 := A1068.other W1134 ne_b1063_b1111
  have KK := KK.wr W1134 (Or.inr sz_b1111)
  have A1116 : own_Ar Z h1133 b1111 .int [(.int (0 : Int32)), (.int (1 : Int32)), (.int (0 : Int32)), (.int (0 : Int32))] := A1116
  refine o_iinc cx X1132 (z := (2 : Int32)) (Ls' := #[rv aa, iv (Int32.ofNat nn), iv 6, rv rk, rv tx, rv pl, s6, rv b1063, rv b1111, iv 2, iv 4, iv 4, .unset, .unset, .unset]) d1_120 rfl rfl rfl ?_
  refine o_goto cx X1132 94 d1_123 (by decide) (by decide) ?_
  refine o_iload cx X1132 d1_94 rfl ?_
  refine o_aload cx X1132 d1_96 rfl rfl ?_
  refine o_len cx X1132 (z := (4 : Int32)) d1_98 (At.keep KK nin0) rfl ?_
  refine o_icmpNo cx X1132 d1_99 (by decide) ?_
  refine o_aload cx X1132 d1_102 rfl rfl ?_
  refine o_aload cx X1132 d1_104 rfl rfl ?_
  refine o_aload cx X1132 d1_106 rfl rfl ?_
  refine o_iload cx X1132 d1_108 rfl ?_
  refine o_ldI cx X1132 (v := (.int (3 : Int32))) d1_110 (At.keep KK nin0) 2 (by decide) rfl rfl ?_
  refine o_dup2 cx X1132 d1_111 rfl rfl ?_
  refine o_ldI cx X1132 (v := (.int (2 : Int32))) d1_112 A1068 3 (by decide) rfl rfl ?_
  refine o_dup_x2 cx X1132 d1_113 rfl rfl rfl ?_
  refine o_iconst cx X1132 (z := (1 : Int32)) d1_114 rfl ?_
  refine o_iadd cx X1132 (z := (3 : Int32)) d1_115 rfl ?_
  refine o_stI cx X1132 d1_116 A1068 3 (by decide) rfl (Nat.le_of_ble_eq_true rfl) ge1070 fun T1135 h1137 X1136 W1138 A1068 => ?_
  have A1116 := A1116.other W1138 (Ne.symm ne_b1063_b1111)
  have KK := KK.wr W1138 (Or.inr sz_b1063)
  have A1068 : own_Ar Z h1137 b1063 .int [(.int (0 : Int32)), (.int (1 : Int32)), (.int (2 : Int32)), (.int (3 : Int32)), (.int (3 : Int32)), (.int (4 : Int32)), (.int (4 : Int32))] := A1068
  refine o_iload cx X1136 d1_117 rfl ?_
  refine o_stI cx X1136 d1_119 A1116 2 (by decide) rfl (Nat.le_of_ble_eq_true rfl) ge1118 fun T1139 h1141 X1140 W1142 A1116 => ?_
  have A1068 := A1068.other W1142 ne_b1063_b1111
  have KK := KK.wr W1142 (Or.inr sz_b1111)
  have A1116 : own_Ar Z h1141 b1111 .int [(.int (0 : Int32)), (.int (1 : Int32)), (.int (2 : Int32)), (.int (0 : Int32))] := A1116
  refine o_iinc cx X1140 (z := (3 : Int32)) (Ls' := #[rv aa, iv (Int32.ofNat nn), iv 6, rv rk, rv tx, rv pl, s6, rv b1063, rv b1111, iv 3, iv 4, iv 4, .unset, .unset, .unset]) d1_120 rfl rfl rfl ?_
  refine o_goto cx X1140 94 d1_123 (by decide) (by decide) ?_
  refine o_iload cx X1140 d1_94 rfl ?_
  refine o_aload cx X1140 d1_96 rfl rfl ?_
  refine o_len cx X1140 (z := (4 : Int32)) d1_98 (At.keep KK nin0) rfl ?_
  refine o_icmpNo cx X1140 d1_99 (by decide) ?_
  refine o_aload cx X1140 d1_102 rfl rfl ?_
  refine o_aload cx X1140 d1_104 rfl rfl ?_
  refine o_aload cx X1140 d1_106 rfl rfl ?_
  refine o_iload cx X1140 d1_108 rfl ?_
  refine o_ldI cx X1140 (v := (.int (4 : Int32))) d1_110 (At.keep KK nin0) 3 (by decide) rfl rfl ?_
  refine o_dup2 cx X1140 d1_111 rfl rfl ?_
  refine o_ldI cx X1140 (v := (.int (3 : Int32))) d1_112 A1068 4 (by decide) rfl rfl ?_
  refine o_dup_x2 cx X1140 d1_113 rfl rfl rfl ?_
  refine o_iconst cx X1140 (z := (1 : Int32)) d1_114 rfl ?_
  refine o_iadd cx X1140 (z := (4 : Int32)) d1_115 rfl ?_
  refine o_stI cx X1140 d1_116 A1068 4 (by decide) rfl (Nat.le_of_ble_eq_true rfl) ge1070 fun T1143 h1145 X1144 W1146 A1068 => ?_
  have A1116 := A1116.other W1146 (Ne.symm ne_b1063_b1111)
  have KK := KK.wr W1146 (Or.inr sz_b1063)
  have A1068 : own_Ar Z h1145 b1063 .int [(.int (0 : Int32)), (.int (1 : Int32)), (.int (2 : Int32)), (.int (3 : Int32)), (.int (4 : Int32)), (.int (4 : Int32)), (.int (4 : Int32))] := A1068
  refine o_iload cx X1144 d1_117 rfl ?_
  refine o_stI cx X1144 d1_119 A1116 3 (by decide) rfl (Nat.le_of_ble_eq_true rfl) ge1118 fun T1147 h1149 X1148 W1150 A1116 => ?_
  have A1068 := A1068.other W1150 ne_b1063_b1111
  have KK := KK.wr W1150 (Or.inr sz_b1111)
  have A1116 : own_Ar Z h1149 b1111 .int [(.int (0 : Int32)), (.int (1 : Int32)), (.int (2 : Int32)), (.int (3 : Int32))] := A1116
  refine o_iinc cx X1148 (z := (4 : Int32)) (Ls' := #[rv aa, iv (Int32.ofNat nn), iv 6, rv rk, rv tx, rv pl, s6, rv b1063, rv b1111, iv 4, iv 4, iv 4, .unset, .unset, .unset]) d1_120 rfl rfl rfl ?_
  refine o_goto cx X1148 94 d1_123 (by decide) (by decide) ?_
  refine o_iload cx X1148 d1_94 rfl ?_
  refine o_aload cx X1148 d1_96 rfl rfl ?_
  refine o_len cx X1148 (z := (4 : Int32)) d1_98 (At.keep KK nin0) rfl ?_
  refine o_icmpYes cx X1148 126 d1_99 (by decide) (by decide) (by decide) ?_
  have ne_aa_b1111 : aa ≠ b1111 := Nat.ne_of_lt (Nat.lt_of_lt_of_le E0.lt sz_b1111)
  exact kk _ _ b1063 b1111 (4 : Int32) (4 : Int32) (4 : Int32) (X1148.more (by decide) (by decide)) ge1118 ne_aa_b1111  (E0.keep KK) (F0.keep KK nin0) (F1.keep KK nin0) (F2.keep KK nin0) (F3.keep KK nin0) (Ar.keep KK nin0) (At.keep KK nin0) (Ap.keep KK nin0) (Ac.keep KK nin0) A1116
set_option maxRecDepth 65536 in
set_option maxHeartbeats 40000000 in
theorem segA_6_2 {p : Program} {l : Launch} {e : Env} {s : State} {m : MethodId} {below : List Frame} {meth : Method} {c : Code} {n0 : Nat} {T0 : State} {h0 : Heap} {Z : State} {a0 : Array Value} {args : Array Value} {P : State → Outcome → Prop} (hw : ∀ d ∈ tables_1, d.before a0 Z = true) (aa rk tx pl : Addr) (nn k0 k1 k2 k3 : Nat) (v0 v1 v2 v3 : Int32) (s6 : Slot) (cv : Addr) (vcs : List Value) (cx : own_Cx p s m meth c Z prog_28_method_2_code 15 (⟨"com/example/rough_dedup/roughdedup/ShingleIndex$Postings", "<init>", "(II[I[I[I[I)V"⟩ : MethodName) none) (X0 : own_Sd p l e ({ frames := 2, cells := 7, slots := 41, locals := 74 } : Room) s m args below meth c n0 T0 h0 0 0) (ga : n0 ≤ aa) (ne_aa_rk : aa ≠ rk) (ne_aa_tx : aa ≠ tx) (ne_aa_pl : aa ≠ pl) (E0 : Exa Z h0 aa "com/example/rough_dedup/roughdedup/ShingleIndex$Postings") (F0 : Fld Z h0 aa "com/example/rough_dedup/roughdedup/ShingleIndex$Postings" "starts" "[I" .null) (F1 : Fld Z h0 aa "com/example/rough_dedup/roughdedup/ShingleIndex$Postings" "texts" "[I" .null) (F2 : Fld Z h0 aa "com/example/rough_dedup/roughdedup/ShingleIndex$Postings" "places" "[I" .null) (F3 : Fld Z h0 aa "com/example/rough_dedup/roughdedup/ShingleIndex$Postings" "covered" "[I" .null) (Ar : own_Ar Z h0 rk .int [(.int (Int32.ofNat k0)), (.int (Int32.ofNat k1)), (.int (Int32.ofNat k2)), (.int (Int32.ofNat k3))]) (At : own_Ar Z h0 tx .int [(.int (2 : Int32)), (.int (3 : Int32)), (.int (4 : Int32)), (.int (5 : Int32))]) (Ap : own_Ar Z h0 pl .int [(.int v0), (.int v1), (.int v2), (.int v3)]) (Ac : own_Ar Z h0 cv .int vcs) (kk : ∀ (T : State) (h : Heap) (ts bt : Addr) (x9 x10 x11 : Int32), own_Sd p l e ({ frames := 2, cells := 7, slots := 41, locals := 74 } : Room) s m args below meth c n0 T h 2 12 → n0 ≤ bt → aa ≠ bt → Exa Z h aa "com/example/rough_dedup/roughdedup/ShingleIndex$Postings" → Fld Z h aa "com/example/rough_dedup/roughdedup/ShingleIndex$Postings" "starts" "[I" .null → Fld Z h aa "com/example/rough_dedup/roughdedup/ShingleIndex$Postings" "texts" "[I" .null → Fld Z h aa "com/example/rough_dedup/roughdedup/ShingleIndex$Postings" "places" "[I" .null → Fld Z h aa "com/example/rough_dedup/roughdedup/ShingleIndex$Postings" "covered" "[I" .null → own_Ar Z h rk .int [(.int (Int32.ofNat k0)), (.int (Int32.ofNat k1)), (.int (Int32.ofNat k2)), (.int (Int32.ofNat k3))] → own_Ar Z h tx .int [(.int (2 : Int32)), (.int (3 : Int32)), (.int (4 : Int32)), (.int (5 : Int32))] → own_Ar Z h pl .int [(.int v0), (.int v1), (.int v2), (.int v3)] → own_Ar Z h cv .int vcs → own_Ar Z h bt .int [(.int (0 : Int32)), (.int (1 : Int32)), (.int (2 : Int32)), (.int (3 : Int32))] → own_Go p e below P (T.setTop (mkF m 126 #[rv aa, iv (Int32.ofNat nn), iv 6, rv rk, rv tx, rv pl, s6, .val (.ref ts), .val (.ref bt), .val (.int x9), .val (.int x10), .val (.int x11), .unset, .unset, .unset] []))) :
    own_Go p e below P (T0.setTop (mkF m 0 #[rv aa, iv (Int32.ofNat nn), iv 6, rv rk, rv tx, rv pl, s6, .unset, .unset, .unset, .unset, .unset, .unset, .unset, .unset] [])) := by
  have KK := Keep.refl h0 []
  refine o_aloadN cx X0 d1_0 rfl rfl ?_
  refine o_initO cx X0 d1_1 (o_w hw 9 rfl) (o_w hw 10 rfl) (o_w hw 11 rfl) rfl (by decide) 0 rfl (by decide) fun T1151 X1152 => ?_
  refine o_iloadN cx X1152 d1_4 rfl ?_
  refine o_iconst cx X1152 (z := (1 : Int32)) d1_5 rfl ?_
  refine o_iadd cx X1152 (z := (7 : Int32)) d1_6 rfl ?_
  refine o_newP cx X1152 d1_7 (o_w hw 1 rfl) (by decide) 7 7 rfl (Nat.le_refl _) (by decide) (by decide) (by decide) fun T1154 h1156 b1153 gb1159 ge1160 X1155 E1157 A1158 => ?_
  have sz_b1153 : h0.size ≤ b1153 := by rw [gb1159]; exact KK.1
  have KK := KK.ext E1157
  have A1158 : own_Ar Z h1156 b1153 .int [(.int (0 : Int32)), (.int (0 : Int32)), (.int (0 : Int32)), (.int (0 : Int32)), (.int (0 : Int32)), (.int (0 : Int32)), (.int (0 : Int32))] := A1158
  refine o_astore cx X1155 (Ls' := #[rv aa, iv (Int32.ofNat nn), iv 6, rv rk, rv tx, rv pl, s6, rv b1153, .unset, .unset, .unset, .unset, .unset, .unset, .unset]) d1_9 rfl rfl ?_
  refine o_aload cx X1155 d1_11 rfl rfl ?_
  refine o_astore cx X1155 (Ls' := #[rv aa, iv (Int32.ofNat nn), iv 6, rv rk, rv tx, rv pl, s6, rv b1153, rv tx, .unset, .unset, .unset, .unset, .unset, .unset]) d1_13 rfl rfl ?_
  refine o_aload cx X1155 d1_15 rfl rfl ?_
  refine o_len cx X1155 (z := (4 : Int32)) d1_17 (At.keep KK nin0) rfl ?_
  refine o_istore cx X1155 (Ls' := #[rv aa, iv (Int32.ofNat nn), iv 6, rv rk, rv tx, rv pl, s6, rv b1153, rv tx, iv 4, .unset, .unset, .unset, .unset, .unset]) d1_18 rfl ?_
  refine o_iconst cx X1155 (z := (0 : Int32)) d1_20 rfl ?_
  refine o_istore cx X1155 (Ls' := #[rv aa, iv (Int32.ofNat nn), iv 6, rv rk, rv tx, rv pl, s6, rv b1153, rv tx, iv 4, iv 0, .unset, .unset, .unset, .unset]) d1_21 rfl ?_
  refine o_iload cx X1155 d1_23 rfl ?_
  refine o_iload cx X1155 d1_25 rfl ?_
  refine o_icmpNo cx X1155 d1_27 (by decide) ?_
  refine o_aload cx X1155 d1_30 rfl rfl ?_
  refine o_iload cx X1155 d1_32 rfl ?_
  refine o_ldI cx X1155 (v := (.int (2 : Int32))) d1_34 (At.keep KK nin0) 0 (by decide) rfl rfl ?_
  refine o_istore cx X1155 (Ls' := #[rv aa, iv (Int32.ofNat nn), iv 6, rv rk, rv tx, rv pl, s6, rv b1153, rv tx, iv 4, iv 0, iv 2, .unset, .unset, .unset]) d1_35 rfl ?_
  refine o_aload cx X1155 d1_37 rfl rfl ?_
  refine o_iload cx X1155 d1_39 rfl ?_
  refine o_iconst cx X1155 (z := (1 : Int32)) d1_41 rfl ?_
  refine o_iadd cx X1155 (z := (3 : Int32)) d1_42 rfl ?_
  refine o_dup2 cx X1155 d1_43 rfl rfl ?_
  refine o_ldI cx X1155 (v := (.int (0 : Int32))) d1_44 A1158 3 (by decide) rfl rfl ?_
  refine o_iconst cx X1155 (z := (1 : Int32)) d1_45 rfl ?_
  refine o_iadd cx X1155 (z := (1 : Int32)) d1_46 rfl ?_
  refine o_stI cx X1155 d1_47 A1158 3 (by decide) rfl (Nat.le_of_ble_eq_true rfl) ge1160 fun T1161 h1163 X1162 W1164 A1158 => ?_
  have KK := KK.wr W1164 (Or.inr sz_b1153)
  have A1158 : own_Ar Z h1163 b1153 .int [(.int (0 : Int32)), (.int (0 : Int32)), (.int (0 : Int32)), (.int (1 : Int32)), (.int (0 : Int32)), (.int (0 : Int32)), (.int (0 : Int32))] := A1158
  refine o_iinc cx X1162 (z := (1 : Int32)) (Ls' := #[rv aa, iv (Int32.ofNat nn), iv 6, rv rk, rv tx, rv pl, s6, rv b1153, rv tx, iv 4, iv 1, iv 2, .unset, .unset, .unset]) d1_48 rfl rfl rfl ?_
  refine o_goto cx X1162 23 d1_51 (by decide) (by decide) ?_
  refine o_iload cx X1162 d1_23 rfl ?_
  refine o_iload cx X1162 d1_25 rfl ?_
  refine o_icmpNo cx X1162 d1_27 (by decide) ?_
  refine o_aload cx X1162 d1_30 rfl rfl ?_
  refine o_iload cx X1162 d1_32 rfl ?_
  refine o_ldI cx X1162 (v := (.int (3 : Int32))) d1_34 (At.keep KK nin0) 1 (by decide) rfl rfl ?_
  refine o_istore cx X1162 (Ls' := #[rv aa, iv (Int32.ofNat nn), iv 6, rv rk, rv tx, rv pl, s6, rv b1153, rv tx, iv 4, iv 1, iv 3, .unset, .unset, .unset]) d1_35 rfl ?_
  refine o_aload cx X1162 d1_37 rfl rfl ?_
  refine o_iload cx X1162 d1_39 rfl ?_
  refine o_iconst cx X1162 (z := (1 : Int32)) d1_41 rfl ?_
  refine o_iadd cx X1162 (z := (4 : Int32)) d1_42 rfl ?_
  refine o_dup2 cx X1162 d1_43 rfl rfl ?_
  refine o_ldI cx X1162 (v := (.int (0 : Int32))) d1_44 A1158 4 (by decide) rfl rfl ?_
  refine o_iconst cx X1162 (z := (1 : Int32)) d1_45 rfl ?_
  refine o_iadd cx X1162 (z := (1 : Int32)) d1_46 rfl ?_
  refine o_stI cx X1162 d1_47 A1158 4 (by decide) rfl (Nat.le_of_ble_eq_true rfl) ge1160 fun T1165 h1167 X1166 W1168 A1158 => ?_
  have KK := KK.wr W1168 (Or.inr sz_b1153)
  have A1158 : own_Ar Z h1167 b1153 .int [(.int (0 : Int32)), (.int (0 : Int32)), (.int (0 : Int32)), (.int (1 : Int32)), (.int (1 : Int32)), (.int (0 : Int32)), (.int (0 : Int32))] := A1158
  refine o_iinc cx X1166 (z := (2 : Int32)) (Ls' := #[rv aa, iv (Int32.ofNat nn), iv 6, rv rk, rv tx, rv pl, s6, rv b1153, rv tx, iv 4, iv 2, iv 3, .unset, .unset, .unset]) d1_48 rfl rfl rfl ?_
  refine o_goto cx X1166 23 d1_51 (by decide) (by decide) ?_
  refine o_iload cx X1166 d1_23 rfl ?_
  refine o_iload cx X1166 d1_25 rfl ?_
  refine o_icmpNo cx X1166 d1_27 (by decide) ?_
  refine o_aload cx X1166 d1_30 rfl rfl ?_
  refine o_iload cx X1166 d1_32 rfl ?_
  refine o_ldI cx X1166 (v := (.int (4 : Int32))) d1_34 (At.keep KK nin0) 2 (by decide) rfl rfl ?_
  refine o_istore cx X1166 (Ls' := #[rv aa, iv (Int32.ofNat nn), iv 6, rv rk, rv tx, rv pl, s6, rv b1153, rv tx, iv 4, iv 2, iv 4, .unset, .unset, .unset]) d1_35 rfl ?_
  refine o_aload cx X1166 d1_37 rfl rfl ?_
  refine o_iload cx X1166 d1_39 rfl ?_
  refine o_iconst cx X1166 (z := (1 : Int32)) d1_41 rfl ?_
  refine o_iadd cx X1166 (z := (5 : Int32)) d1_42 rfl ?_
  refine o_dup2 cx X1166 d1_43 rfl rfl ?_
  refine o_ldI cx X1166 (v := (.int (0 : Int32))) d1_44 A1158 5 (by decide) rfl rfl ?_
  refine o_iconst cx X1166 (z := (1 : Int32)) d1_45 rfl ?_
  refine o_iadd cx X1166 (z := (1 : Int32)) d1_46 rfl ?_
  refine o_stI cx X1166 d1_47 A1158 5 (by decide) rfl (Nat.le_of_ble_eq_true rfl) ge1160 fun T1169 h1171 X1170 W1172 A1158 => ?_
  have KK := KK.wr W1172 (Or.inr sz_b1153)
  have A1158 : own_Ar Z h1171 b1153 .int [(.int (0 : Int32)), (.int (0 : Int32)), (.int (0 : Int32)), (.int (1 : Int32)), (.int (1 : Int32)), (.int (1 : Int32)), (.int (0 : Int32))] := A1158
  refine o_iinc cx X1170 (z := (3 : Int32)) (Ls' := #[rv aa, iv (Int32.ofNat nn), iv 6, rv rk, rv tx, rv pl, s6, rv b1153, rv tx, iv 4, iv 3, iv 4, .unset, .unset, .unset]) d1_48 rfl rfl rfl ?_
  refine o_goto cx X1170 23 d1_51 (by decide) (by decide) ?_
  refine o_iload cx X1170 d1_23 rfl ?_
  refine o_iload cx X1170 d1_25 rfl ?_
  refine o_icmpNo cx X1170 d1_27 (by decide) ?_
  refine o_aload cx X1170 d1_30 rfl rfl ?_
  refine o_iload cx X1170 d1_32 rfl ?_
  refine o_ldI cx X1170 (v := (.int (5 : Int32))) d1_34 (At.keep KK nin0) 3 (by decide) rfl rfl ?_
  refine o_istore cx X1170 (Ls' := #[rv aa, iv (Int32.ofNat nn), iv 6, rv rk, rv tx, rv pl, s6, rv b1153, rv tx, iv 4, iv 3, iv 5, .unset, .unset, .unset]) d1_35 rfl ?_
  refine o_aload cx X1170 d1_37 rfl rfl ?_
  refine o_iload cx X1170 d1_39 rfl ?_
  refine o_iconst cx X1170 (z := (1 : Int32)) d1_41 rfl ?_
  refine o_iadd cx X1170 (z := (6 : Int32)) d1_42 rfl ?_
  refine o_dup2 cx X1170 d1_43 rfl rfl ?_
  refine o_ldI cx X1170 (v := (.int (0 : Int32))) d1_44 A1158 6 (by decide) rfl rfl ?_
  refine o_iconst cx X1170 (z := (1 : Int32)) d1_45 rfl ?_
  refine o_iadd cx X1170 (z := (1 : Int32)) d1_46 rfl ?_
  refine o_stI cx X1170 d1_47 A1158 6 (by decide) rfl (Nat.le_of_ble_eq_true rfl) ge1160 fun T1173 h1175 X1174 W1176 A1158 => ?_
  have KK := KK.wr W1176 (Or.inr sz_b1153)
  have A1158 : own_Ar Z h1175 b1153 .int [(.int (0 : Int32)), (.int (0 : Int32)), (.int (0 : Int32)), (.int (1 : Int32)), (.int (1 : Int32)), (.int (1 : Int32)), (.int (1 : Int32))] := A1158
  refine o_iinc cx X1174 (z := (4 : Int32)) (Ls' := #[rv aa, iv (Int32.ofNat nn), iv 6, rv rk, rv tx, rv pl, s6, rv b1153, rv tx, iv 4, iv 4, iv 5, .unset, .unset, .unset]) d1_48 rfl rfl rfl ?_
  refine o_goto cx X1174 23 d1_51 (by decide) (by decide) ?_
  refine o_iload cx X1174 d1_23 rfl ?_
  refine o_iload cx X1174 d1_25 rfl ?_
  refine o_icmpYes cx X1174 54 d1_27 (by decide) (by decide) (by decide) ?_
  refine o_iconst cx X1174 (z := (0 : Int32)) d1_54 rfl ?_
  refine o_istore cx X1174 (Ls' := #[rv aa, iv (Int32.ofNat nn), iv 6, rv rk, rv tx, rv pl, s6, rv b1153, iv 0, iv 4, iv 4, iv 5, .unset, .unset, .unset]) d1_55 rfl ?_
  refine o_iload cx X1174 d1_57 rfl ?_
  refine o_iloadN cx X1174 d1_59 rfl ?_
  refine o_icmpNo cx X1174 d1_60 (by decide) ?_
  refine o_aload cx X1174 d1_63 rfl rfl ?_
  refine o_iload cx X1174 d1_65 rfl ?_
  refine o_iconst cx X1174 (z := (1 : Int32)) d1_67 rfl ?_
  refine o_iadd cx X1174 (z := (1 : Int32)) d1_68 rfl ?_
  refine o_dup2 cx X1174 d1_69 rfl rfl ?_
  refine o_ldI cx X1174 (v := (.int (0 : Int32))) d1_70 A1158 1 (by decide) rfl rfl ?_
  refine o_aload cx X1174 d1_71 rfl rfl ?_
  refine o_iload cx X1174 d1_73 rfl ?_
  refine o_ldI cx X1174 (v := (.int (0 : Int32))) d1_75 A1158 0 (by decide) rfl rfl ?_
  refine o_iadd cx X1174 (z := (0 : Int32)) d1_76 rfl ?_
  refine o_stI cx X1174 d1_77 A1158 1 (by decide) rfl (Nat.le_of_ble_eq_true rfl) ge1160 fun T1177 h1179 X1178 W1180 A1158 => ?_
  have KK := KK.wr W1180 (Or.inr sz_b1153)
  have A1158 : own_Ar Z h1179 b1153 .int [(.int (0 : Int32)), (.int (0 : Int32)), (.int (0 : Int32)), (.int (1 : Int32)), (.int (1 : Int32)), (.int (1 : Int32)), (.int (1 : Int32))] := A1158
  refine o_iinc cx X1178 (z := (1 : Int32)) (Ls' := #[rv aa, iv (Int32.ofNat nn), iv 6, rv rk, rv tx, rv pl, s6, rv b1153, iv 1, iv 4, iv 4, iv 5, .unset, .unset, .unset]) d1_78 rfl rfl rfl ?_
  refine o_goto cx X1178 57 d1_81 (by decide) (by decide) ?_
  refine o_iload cx X1178 d1_57 rfl ?_
  refine o_iloadN cx X1178 d1_59 rfl ?_
  refine o_icmpNo cx X1178 d1_60 (by decide) ?_
  refine o_aload cx X1178 d1_63 rfl rfl ?_
  refine o_iload cx X1178 d1_65 rfl ?_
  refine o_iconst cx X1178 (z := (1 : Int32)) d1_67 rfl ?_
  refine o_iadd cx X1178 (z := (2 : Int32)) d1_68 rfl ?_
  refine o_dup2 cx X1178 d1_69 rfl rfl ?_
  refine o_ldI cx X1178 (v := (.int (0 : Int32))) d1_70 A1158 2 (by decide) rfl rfl ?_
  refine o_aload cx X1178 d1_71 rfl rfl ?_
  refine o_iload cx X1178 d1_73 rfl ?_
  refine o_ldI cx X1178 (v := (.int (0 : Int32))) d1_75 A1158 1 (by decide) rfl rfl ?_
  refine o_iadd cx X1178 (z := (0 : Int32)) d1_76 rfl ?_
  refine o_stI cx X1178 d1_77 A1158 2 (by decide) rfl (Nat.le_of_ble_eq_true rfl) ge1160 fun T1181 h1183 X1182 W1184 A1158 => ?_
  have KK := KK.wr W1184 (Or.inr sz_b1153)
  have A1158 : own_Ar Z h1183 b1153 .int [(.int (0 : Int32)), (.int (0 : Int32)), (.int (0 : Int32)), (.int (1 : Int32)), (.int (1 : Int32)), (.int (1 : Int32)), (.int (1 : Int32))] := A1158
  refine o_iinc cx X1182 (z := (2 : Int32)) (Ls' := #[rv aa, iv (Int32.ofNat nn), iv 6, rv rk, rv tx, rv pl, s6, rv b1153, iv 2, iv 4, iv 4, iv 5, .unset, .unset, .unset]) d1_78 rfl rfl rfl ?_
  refine o_goto cx X1182 57 d1_81 (by decide) (by decide) ?_
  refine o_iload cx X1182 d1_57 rfl ?_
  refine o_iloadN cx X1182 d1_59 rfl ?_
  refine o_icmpNo cx X1182 d1_60 (by decide) ?_
  refine o_aload cx X1182 d1_63 rfl rfl ?_
  refine o_iload cx X1182 d1_65 rfl ?_
  refine o_iconst cx X1182 (z := (1 : Int32)) d1_67 rfl ?_
  refine o_iadd cx X1182 (z := (3 : Int32)) d1_68 rfl ?_
  refine o_dup2 cx X1182 d1_69 rfl rfl ?_
  refine o_ldI cx X1182 (v := (.int (1 : Int32))) d1_70 A1158 3 (by decide) rfl rfl ?_
  refine o_aload cx X1182 d1_71 rfl rfl ?_
  refine o_iload cx X1182 d1_73 rfl ?_
  refine o_ldI cx X1182 (v := (.int (0 : Int32))) d1_75 A1158 2 (by decide) rfl rfl ?_
  refine o_iadd cx X1182 (z := (1 : Int32)) d1_76 rfl ?_
  refine o_stI cx X1182 d1_77 A1158 3 (by decide) rfl (Nat.le_of_ble_eq_true rfl) ge1160 fun T1185 h1187 X1186 W1188 A1158 => ?_
  have KK := KK.wr W1188 (Or.inr sz_b1153)
  have A1158 : own_Ar Z h1187 b1153 .int [(.int (0 : Int32)), (.int (0 : Int32)), (.int (0 : Int32)), (.int (1 : Int32)), (.int (1 : Int32)), (.int (1 : Int32)), (.int (1 : Int32))] := A1158
  refine o_iinc cx X1186 (z := (3 : Int32)) (Ls' := #[rv aa, iv (Int32.ofNat nn), iv 6, rv rk, rv tx, rv pl, s6, rv b1153, iv 3, iv 4, iv 4, iv 5, .unset, .unset, .unset]) d1_78 rfl rfl rfl ?_
  refine o_goto cx X1186 57 d1_81 (by decide) (by decide) ?_
  refine o_iload cx X1186 d1_57 rfl ?_
  refine o_iloadN cx X1186 d1_59 rfl ?_
  refine o_icmpNo cx X1186 d1_60 (by decide) ?_
  refine o_aload cx X1186 d1_63 rfl rfl ?_
  refine o_iload cx X1186 d1_65 rfl ?_
  refine o_iconst cx X1186 (z := (1 : Int32)) d1_67 rfl ?_
  refine o_iadd cx X1186 (z := (4 : Int32)) d1_68 rfl ?_
  refine o_dup2 cx X1186 d1_69 rfl rfl ?_
  refine o_ldI cx X1186 (v := (.int (1 : Int32))) d1_70 A1158 4 (by decide) rfl rfl ?_
  refine o_aload cx X1186 d1_71 rfl rfl ?_
  refine o_iload cx X1186 d1_73 rfl ?_
  refine o_ldI cx X1186 (v := (.int (1 : Int32))) d1_75 A1158 3 (by decide) rfl rfl ?_
  refine o_iadd cx X1186 (z := (2 : Int32)) d1_76 rfl ?_
  refine o_stI cx X1186 d1_77 A1158 4 (by decide) rfl (Nat.le_of_ble_eq_true rfl) ge1160 fun T1189 h1191 X1190 W1192 A1158 => ?_
  have KK := KK.wr W1192 (Or.inr sz_b1153)
  have A1158 : own_Ar Z h1191 b1153 .int [(.int (0 : Int32)), (.int (0 : Int32)), (.int (0 : Int32)), (.int (1 : Int32)), (.int (2 : Int32)), (.int (1 : Int32)), (.int (1 : Int32))] := A1158
  refine o_iinc cx X1190 (z := (4 : Int32)) (Ls' := #[rv aa, iv (Int32.ofNat nn), iv 6, rv rk, rv tx, rv pl, s6, rv b1153, iv 4, iv 4, iv 4, iv 5, .unset, .unset, .unset]) d1_78 rfl rfl rfl ?_
  refine o_goto cx X1190 57 d1_81 (by decide) (by decide) ?_
  refine o_iload cx X1190 d1_57 rfl ?_
  refine o_iloadN cx X1190 d1_59 rfl ?_
  refine o_icmpNo cx X1190 d1_60 (by decide) ?_
  refine o_aload cx X1190 d1_63 rfl rfl ?_
  refine o_iload cx X1190 d1_65 rfl ?_
  refine o_iconst cx X1190 (z := (1 : Int32)) d1_67 rfl ?_
  refine o_iadd cx X1190 (z := (5 : Int32)) d1_68 rfl ?_
  refine o_dup2 cx X1190 d1_69 rfl rfl ?_
  refine o_ldI cx X1190 (v := (.int (1 : Int32))) d1_70 A1158 5 (by decide) rfl rfl ?_
  refine o_aload cx X1190 d1_71 rfl rfl ?_
  refine o_iload cx X1190 d1_73 rfl ?_
  refine o_ldI cx X1190 (v := (.int (2 : Int32))) d1_75 A1158 4 (by decide) rfl rfl ?_
  refine o_iadd cx X1190 (z := (3 : Int32)) d1_76 rfl ?_
  refine o_stI cx X1190 d1_77 A1158 5 (by decide) rfl (Nat.le_of_ble_eq_true rfl) ge1160 fun T1193 h1195 X1194 W1196 A1158 => ?_
  have KK := KK.wr W1196 (Or.inr sz_b1153)
  have A1158 : own_Ar Z h1195 b1153 .int [(.int (0 : Int32)), (.int (0 : Int32)), (.int (0 : Int32)), (.int (1 : Int32)), (.int (2 : Int32)), (.int (3 : Int32)), (.int (1 : Int32))] := A1158
  refine o_iinc cx X1194 (z := (5 : Int32)) (Ls' := #[rv aa, iv (Int32.ofNat nn), iv 6, rv rk, rv tx, rv pl, s6, rv b1153, iv 5, iv 4, iv 4, iv 5, .unset, .unset, .unset]) d1_78 rfl rfl rfl ?_
  refine o_goto cx X1194 57 d1_81 (by decide) (by decide) ?_
  refine o_iload cx X1194 d1_57 rfl ?_
  refine o_iloadN cx X1194 d1_59 rfl ?_
  refine o_icmpNo cx X1194 d1_60 (by decide) ?_
  refine o_aload cx X1194 d1_63 rfl rfl ?_
  refine o_iload cx X1194 d1_65 rfl ?_
  refine o_iconst cx X1194 (z := (1 : Int32)) d1_67 rfl ?_
  refine o_iadd cx X1194 (z := (6 : Int32)) d1_68 rfl ?_
  refine o_dup2 cx X1194 d1_69 rfl rfl ?_
  refine o_ldI cx X1194 (v := (.int (1 : Int32))) d1_70 A1158 6 (by decide) rfl rfl ?_
  refine o_aload cx X1194 d1_71 rfl rfl ?_
  refine o_iload cx X1194 d1_73 rfl ?_
  refine o_ldI cx X1194 (v := (.int (3 : Int32))) d1_75 A1158 5 (by decide) rfl rfl ?_
  refine o_iadd cx X1194 (z := (4 : Int32)) d1_76 rfl ?_
  refine o_stI cx X1194 d1_77 A1158 6 (by decide) rfl (Nat.le_of_ble_eq_true rfl) ge1160 fun T1197 h1199 X1198 W1200 A1158 => ?_
  have KK := KK.wr W1200 (Or.inr sz_b1153)
  have A1158 : own_Ar Z h1199 b1153 .int [(.int (0 : Int32)), (.int (0 : Int32)), (.int (0 : Int32)), (.int (1 : Int32)), (.int (2 : Int32)), (.int (3 : Int32)), (.int (4 : Int32))] := A1158
  refine o_iinc cx X1198 (z := (6 : Int32)) (Ls' := #[rv aa, iv (Int32.ofNat nn), iv 6, rv rk, rv tx, rv pl, s6, rv b1153, iv 6, iv 4, iv 4, iv 5, .unset, .unset, .unset]) d1_78 rfl rfl rfl ?_
  refine o_goto cx X1198 57 d1_81 (by decide) (by decide) ?_
  refine o_iload cx X1198 d1_57 rfl ?_
  refine o_iloadN cx X1198 d1_59 rfl ?_
  refine o_icmpYes cx X1198 84 d1_60 (by decide) (by decide) (by decide) ?_
  refine o_aload cx X1198 d1_84 rfl rfl ?_
  refine o_len cx X1198 (z := (4 : Int32)) d1_86 (At.keep KK nin0) rfl ?_
  refine o_newP cx X1198 d1_87 (o_w hw 1 rfl) (by decide) 4 4 rfl (Nat.le_refl _) (by decide) (by decide) (by decide) fun T1202 h1204 b1201 gb1207 ge1208 X1203 E1205 A1206 => ?_
  have ne_b1153_b1201 : b1153 ≠ b1201 := by rw [gb1207]; exact Nat.ne_of_lt A1158.lt
  have sz_b1201 : h0.size ≤ b1201 := by rw [gb1207]; exact KK.1
  have A1158 := A1158.ext E1205
  have KK := KK.ext E1205
  have A1206 : own_Ar Z h1204 b1201 .int [(.int (0 : Int32)), (.int (0 : Int32)), (.int (0 : Int32)), (.int (0 : Int32))] := A1206
  refine o_astore cx X1203 (Ls' := #[rv aa, iv (Int32.ofNat nn), iv 6, rv rk, rv tx, rv pl, s6, rv b1153, rv b1201, iv 4, iv 4, iv 5, .unset, .unset, .unset]) d1_89 rfl rfl ?_
  refine o_iconst cx X1203 (z := (0 : Int32)) d1_91 rfl ?_
  refine o_istore cx X1203 (Ls' := #[rv aa, iv (Int32.ofNat nn), iv 6, rv rk, rv tx, rv pl, s6, rv b1153, rv b1201, iv 0, iv 4, iv 5, .unset, .unset, .unset]) d1_92 rfl ?_
  refine o_iload cx X1203 d1_94 rfl ?_
  refine o_aload cx X1203 d1_96 rfl rfl ?_
  refine o_len cx X1203 (z := (4 : Int32)) d1_98 (At.keep KK nin0) rfl ?_
  refine o_icmpNo cx X1203 d1_99 (by decide) ?_
  refine o_aload cx X1203 d1_102 rfl rfl ?_
  refine o_aload cx X1203 d1_104 rfl rfl ?_
  refine o_aload cx X1203 d1_106 rfl rfl ?_
  refine o_iload cx X1203 d1_108 rfl ?_
  refine o_ldI cx X1203 (v := (.int (2 : Int32))) d1_110 (At.keep KK nin0) 0 (by decide) rfl rfl ?_
  refine o_dup2 cx X1203 d1_111 rfl rfl ?_
  refine o_ldI cx X1203 (v := (.int (0 : Int32))) d1_112 A1158 2 (by decide) rfl rfl ?_
  refine o_dup_x2 cx X1203 d1_113 rfl rfl rfl ?_
  refine o_iconst cx X1203 (z := (1 : Int32)) d1_114 rfl ?_
  refine o_iadd cx X1203 (z := (1 : Int32)) d1_115 rfl ?_
  refine o_stI cx X1203 d1_116 A1158 2 (by decide) rfl (Nat.le_of_ble_eq_true rfl) ge1160 fun T1209 h1211 X1210 W1212 A1158 => ?_
  have A1206 := A1206.other W1212 (Ne.symm ne_b1153_b1201)
  have KK := KK.wr W1212 (Or.inr sz_b1153)
  have A1158 : own_Ar Z h1211 b1153 .int [(.int (0 : Int32)), (.int (0 : Int32)), (.int (1 : Int32)), (.int (1 : Int32)), (.int (2 : Int32)), (.int (3 : Int32)), (.int (4 : Int32))] := A1158
  refine o_iload cx X1210 d1_117 rfl ?_
  refine o_stI cx X1210 d1_119 A1206 0 (by decide) rfl (Nat.le_of_ble_eq_true rfl) ge1208 fun T1213 h1215 X1214 W1216 A1206 => ?_
  have A1158 := A1158.other W1216 ne_b1153_b1201
  have KK := KK.wr W1216 (Or.inr sz_b1201)
  have A1206 : own_Ar Z h1215 b1201 .int [(.int (0 : Int32)), (.int (0 : Int32)), (.int (0 : Int32)), (.int (0 : Int32))] := A1206
  refine o_iinc cx X1214 (z := (1 : Int32)) (Ls' := #[rv aa, iv (Int32.ofNat nn), iv 6, rv rk, rv tx, rv pl, s6, rv b1153, rv b1201, iv 1, iv 4, iv 5, .unset, .unset, .unset]) d1_120 rfl rfl rfl ?_
  refine o_goto cx X1214 94 d1_123 (by decide) (by decide) ?_
  refine o_iload cx X1214 d1_94 rfl ?_
  refine o_aload cx X1214 d1_96 rfl rfl ?_
  refine o_len cx X1214 (z := (4 : Int32)) d1_98 (At.keep KK nin0) rfl ?_
  refine o_icmpNo cx X1214 d1_99 (by decide) ?_
  refine o_aload cx X1214 d1_102 rfl rfl ?_
  refine o_aload cx X1214 d1_104 rfl rfl ?_
  refine o_aload cx X1214 d1_106 rfl rfl ?_
  refine o_iload cx X1214 d1_108 rfl ?_
  refine o_ldI cx X1214 (v := (.int (3 : Int32))) d1_110 (At.keep KK nin0) 1 (by decide) rfl rfl ?_
  refine o_dup2 cx X1214 d1_111 rfl rfl ?_
  refine o_ldI cx X1214 (v := (.int (1 : Int32))) d1_112 A1158 3 (by decide) rfl rfl ?_
  refine o_dup_x2 cx X1214 d1_113 rfl rfl rfl ?_
  refine o_iconst cx X1214 (z := (1 : Int32)) d1_114 rfl ?_
  refine o_iadd cx X1214 (z := (2 : Int32)) d1_115 rfl ?_
  refine o_stI cx X1214 d1_116 A1158 3 (by decide) rfl (Nat.le_of_ble_eq_true rfl) ge1160 fun T1217 h1219 X1218 W1220 A1158 => ?_
  have A1206 := A1206.other W1220 (Ne.symm ne_b1153_b1201)
  have KK := KK.wr W1220 (Or.inr sz_b1153)
  have A1158 : own_Ar Z h1219 b1153 .int [(.int (0 : Int32)), (.int (0 : Int32)), (.int (1 : Int32)), (.int (2 : Int32)), (.int (2 : Int32)), (.int (3 : Int32)), (.int (4 : Int32))] := A1158
  refine o_iload cx X1218 d1_117 rfl ?_
  refine o_stI cx X1218 d1_119 A1206 1 (by decide) rfl (Nat.le_of_ble_eq_true rfl) ge1208 fun T1221 h1223 X1222 W1224 A1206 => ?_
  have A1158 := A1158.other W1224 ne_b1153_b1201
  have KK := KK.wr W1224 (Or.inr sz_b1201)
  have A1206 : own_Ar Z h1223 b1201 .int [(.int (0 : Int32)), (.int (1 : Int32)), (.int (0 : Int32)), (.int (0 : Int32))] := A1206
  refine o_iinc cx X1222 (z := (2 : Int32)) (Ls' := #[rv aa, iv (Int32.ofNat nn), iv 6, rv rk, rv tx, rv pl, s6, rv b1153, rv b1201, iv 2, iv 4, iv 5, .unset, .unset, .unset]) d1_120 rfl rfl rfl ?_
  refine o_goto cx X1222 94 d1_123 (by decide) (by decide) ?_
  refine o_iload cx X1222 d1_94 rfl ?_
  refine o_aload cx X1222 d1_96 rfl rfl ?_
  refine o_len cx X1222 (z := (4 : Int32)) d1_98 (At.keep KK nin0) rfl ?_
  refine o_icmpNo cx X1222 d1_99 (by decide) ?_
  refine o_aload cx X1222 d1_102 rfl rfl ?_
  refine o_aload cx X1222 d1_104 rfl rfl ?_
  refine o_aload cx X1222 d1_106 rfl rfl ?_
  refine o_iload cx X1222 d1_108 rfl ?_
  refine o_ldI cx X1222 (v := (.int (4 : Int32))) d1_110 (At.keep KK nin0) 2 (by decide) rfl rfl ?_
  refine o_dup2 cx X1222 d1_111 rfl rfl ?_
  refine o_ldI cx X1222 (v := (.int (2 : Int32))) d1_112 A1158 4 (by decide) rfl rfl ?_
  refine o_dup_x2 cx X1222 d1_113 rfl rfl rfl ?_
  refine o_iconst cx X1222 (z := (1 : Int32)) d1_114 rfl ?_
  refine o_iadd cx X1222 (z := (3 : Int32)) d1_115 rfl ?_
  refine o_stI cx X1222 d1_116 A1158 4 (by decide) rfl (Nat.le_of_ble_eq_true rfl) ge1160 fun T1225 h1227 X1226 W1228 A1158 => ?_
  have A1206 := A1206.other W1228 (Ne.symm ne_b1153_b1201)
  have KK := KK.wr W1228 (Or.inr sz_b1153)
  have A1158 : own_Ar Z h1227 b1153 .int [(.int (0 : Int32)), (.int (0 : Int32)), (.int (1 : Int32)), (.int (2 : Int32)), (.int (3 : Int32)), (.int (3 : Int32)), (.int (4 : Int32))] := A1158
  refine o_iload cx X1226 d1_117 rfl ?_
  refine o_stI cx X1226 d1_119 A1206 2 (by decide) rfl (Nat.le_of_ble_eq_true rfl) ge1208 fun T1229 h1231 X1230 W1232 A1206 => ?_
  have A1158 := A1158.other W1232 ne_b1153_b1201
  have KK := KK.wr W1232 (Or.inr sz_b1201)
  have A1206 : own_Ar Z h1231 b1201 .int [(.int (0 : Int32)), (.int (1 : Int32)), (.int (2 : Int32)), (.int (0 : Int32))] := A1206
  refine o_iinc cx X1230 (z := (3 : Int32)) (Ls' := #[rv aa, iv (Int32.ofNat nn), iv 6, rv rk, rv tx, rv pl, s6, rv b1153, rv b1201, iv 3, iv 4, iv 5, .unset, .unset, .unset]) d1_120 rfl rfl rfl ?_
  refine o_goto cx X1230 94 d1_123 (by decide) (by decide) ?_
  refine o_iload cx X1230 d1_94 rfl ?_
  refine o_aload cx X1230 d1_96 rfl rfl ?_
  refine o_len cx X1230 (z := (4 : Int32)) d1_98 (At.keep KK nin0) rfl ?_
  refine o_icmpNo cx X1230 d1_99 (by decide) ?_
  refine o_aload cx X1230 d1_102 rfl rfl ?_
  refine o_aload cx X1230 d1_104 rfl rfl ?_
  refine o_aload cx X1230 d1_106 rfl rfl ?_
  refine o_iload cx X1230 d1_108 rfl ?_
  refine o_ldI cx X1230 (v := (.int (5 : Int32))) d1_110 (At.keep KK nin0) 3 (by decide) rfl rfl ?_
  refine o_dup2 cx X1230 d1_111 rfl rfl ?_
  refine o_ldI cx X1230 (v := (.int (3 : Int32))) d1_112 A1158 5 (by decide) rfl rfl ?_
  refine o_dup_x2 cx X1230 d1_113 rfl rfl rfl ?_
  refine o_iconst cx X1230 (z := (1 : Int32)) d1_114 rfl ?_
  refine o_iadd cx X1230 (z := (4 : Int32)) d1_115 rfl ?_
  refine o_stI cx X1230 d1_116 A1158 5 (by decide) rfl (Nat.le_of_ble_eq_true rfl) ge1160 fun T1233 h1235 X1234 W1236 A1158 => ?_
  have A1206 := A1206.other W1236 (Ne.symm ne_b1153_b1201)
  have KK := KK.wr W1236 (Or.inr sz_b1153)
  have A1158 : own_Ar Z h1235 b1153 .int [(.int (0 : Int32)), (.int (0 : Int32)), (.int (1 : Int32)), (.int (2 : Int32)), (.int (3 : Int32)), (.int (4 : Int32)), (.int (4 : Int32))] := A1158
  refine o_iload cx X1234 d1_117 rfl ?_
  refine o_stI cx X1234 d1_119 A1206 3 (by decide) rfl (Nat.le_of_ble_eq_true rfl) ge1208 fun T1237 h1239 X1238 W1240 A1206 => ?_
  have A1158 := A1158.other W1240 ne_b1153_b1201
  have KK := KK.wr W1240 (Or.inr sz_b1201)
  have A1206 : own_Ar Z h1239 b1201 .int [(.int (0 : Int32)), (.int (1 : Int32)), (.int (2 : Int32)), (.int (3 : Int32))] := A1206
  refine o_iinc cx X1238 (z := (4 : Int32)) (Ls' := #[rv aa, iv (Int32.ofNat nn), iv 6, rv rk, rv tx, rv pl, s6, rv b1153, rv b1201, iv 4, iv 4, iv 5, .unset, .unset, .unset]) d1_120 rfl rfl rfl ?_
  refine o_goto cx X1238 94 d1_123 (by decide) (by decide) ?_
  refine o_iload cx X1238 d1_94 rfl ?_
  refine o_aload cx X1238 d1_96 rfl rfl ?_
  refine o_len cx X1238 (z := (4 : Int32)) d1_98 (At.keep KK nin0) rfl ?_
  refine o_icmpYes cx X1238 126 d1_99 (by decide) (by decide) (by decide) ?_
  have ne_aa_b1201 : aa ≠ b1201 := Nat.ne_of_lt (Nat.lt_of_lt_of_le E0.lt sz_b1201)
  exact kk _ _ b1153 b1201 (4 : Int32) (4 : Int32) (5 : Int32) (X1238.more (by decide) (by decide)) ge1208 ne_aa_b1201  (E0.keep KK) (F0.keep KK nin0) (F1.keep KK nin0) (F2.keep KK nin0) (F3.keep KK nin0) (Ar.keep KK nin0) (At.keep KK nin0) (Ap.keep KK nin0) (Ac.keep KK nin0) A1206
set_option maxRecDepth 65536 in
set_option maxHeartbeats 40000000 in
theorem segA_6_3 {p : Program} {l : Launch} {e : Env} {s : State} {m : MethodId} {below : List Frame} {meth : Method} {c : Code} {n0 : Nat} {T0 : State} {h0 : Heap} {Z : State} {a0 : Array Value} {args : Array Value} {P : State → Outcome → Prop} (hw : ∀ d ∈ tables_1, d.before a0 Z = true) (aa rk tx pl : Addr) (nn k0 k1 k2 k3 : Nat) (v0 v1 v2 v3 : Int32) (s6 : Slot) (cv : Addr) (vcs : List Value) (cx : own_Cx p s m meth c Z prog_28_method_2_code 15 (⟨"com/example/rough_dedup/roughdedup/ShingleIndex$Postings", "<init>", "(II[I[I[I[I)V"⟩ : MethodName) none) (X0 : own_Sd p l e ({ frames := 2, cells := 7, slots := 41, locals := 74 } : Room) s m args below meth c n0 T0 h0 0 0) (ga : n0 ≤ aa) (ne_aa_rk : aa ≠ rk) (ne_aa_tx : aa ≠ tx) (ne_aa_pl : aa ≠ pl) (E0 : Exa Z h0 aa "com/example/rough_dedup/roughdedup/ShingleIndex$Postings") (F0 : Fld Z h0 aa "com/example/rough_dedup/roughdedup/ShingleIndex$Postings" "starts" "[I" .null) (F1 : Fld Z h0 aa "com/example/rough_dedup/roughdedup/ShingleIndex$Postings" "texts" "[I" .null) (F2 : Fld Z h0 aa "com/example/rough_dedup/roughdedup/ShingleIndex$Postings" "places" "[I" .null) (F3 : Fld Z h0 aa "com/example/rough_dedup/roughdedup/ShingleIndex$Postings" "covered" "[I" .null) (Ar : own_Ar Z h0 rk .int [(.int (Int32.ofNat k0)), (.int (Int32.ofNat k1)), (.int (Int32.ofNat k2)), (.int (Int32.ofNat k3))]) (At : own_Ar Z h0 tx .int [(.int (3 : Int32)), (.int (4 : Int32)), (.int (5 : Int32)), (.int (0 : Int32))]) (Ap : own_Ar Z h0 pl .int [(.int v0), (.int v1), (.int v2), (.int v3)]) (Ac : own_Ar Z h0 cv .int vcs) (kk : ∀ (T : State) (h : Heap) (ts bt : Addr) (x9 x10 x11 : Int32), own_Sd p l e ({ frames := 2, cells := 7, slots := 41, locals := 74 } : Room) s m args below meth c n0 T h 2 12 → n0 ≤ bt → aa ≠ bt → Exa Z h aa "com/example/rough_dedup/roughdedup/ShingleIndex$Postings" → Fld Z h aa "com/example/rough_dedup/roughdedup/ShingleIndex$Postings" "starts" "[I" .null → Fld Z h aa "com/example/rough_dedup/roughdedup/ShingleIndex$Postings" "texts" "[I" .null → Fld Z h aa "com/example/rough_dedup/roughdedup/ShingleIndex$Postings" "places" "[I" .null → Fld Z h aa "com/example/rough_dedup/roughdedup/ShingleIndex$Postings" "covered" "[I" .null → own_Ar Z h rk .int [(.int (Int32.ofNat k0)), (.int (Int32.ofNat k1)), (.int (Int32.ofNat k2)), (.int (Int32.ofNat k3))] → own_Ar Z h tx .int [(.int (3 : Int32)), (.int (4 : Int32)), (.int (5 : Int32)), (.int (0 : Int32))] → own_Ar Z h pl .int [(.int v0), (.int v1), (.int v2), (.int v3)] → own_Ar Z h cv .int vcs → own_Ar Z h bt .int [(.int (3 : Int32)), (.int (0 : Int32)), (.int (1 : Int32)), (.int (2 : Int32))] → own_Go p e below P (T.setTop (mkF m 126 #[rv aa, iv (Int32.ofNat nn), iv 6, rv rk, rv tx, rv pl, s6, .val (.ref ts), .val (.ref bt), .val (.int x9), .val (.int x10), .val (.int x11), .unset, .unset, .unset] []))) :
    own_Go p e below P (T0.setTop (mkF m 0 #[rv aa, iv (Int32.ofNat nn), iv 6, rv rk, rv tx, rv pl, s6, .unset, .unset, .unset, .unset, .unset, .unset, .unset, .unset] [])) := by
  have KK := Keep.refl h0 []
  refine o_aloadN cx X0 d1_0 rfl rfl ?_
  refine o_initO cx X0 d1_1 (o_w hw 9 rfl) (o_w hw 10 rfl) (o_w hw 11 rfl) rfl (by decide) 0 rfl (by decide) fun T1241 X1242 => ?_
  refine o_iloadN cx X1242 d1_4 rfl ?_
  refine o_iconst cx X1242 (z := (1 : Int32)) d1_5 rfl ?_
  refine o_iadd cx X1242 (z := (7 : Int32)) d1_6 rfl ?_
  refine o_newP cx X1242 d1_7 (o_w hw 1 rfl) (by decide) 7 7 rfl (Nat.le_refl _) (by decide) (by decide) (by decide) fun T1244 h1246 b1243 gb1249 ge1250 X1245 E1247 A1248 => ?_
  have sz_b1243 : h0.size ≤ b1243 := by rw [gb1249]; exact KK.1
  have KK := KK.ext E1247
  have A1248 : own_Ar Z h1246 b1243 .int [(.int (0 : Int32)), (.int (0 : Int32)), (.int (0 : Int32)), (.int (0 : Int32)), (.int (0 : Int32)), (.int (0 : Int32)), (.int (0 : Int32))] := A1248
  refine o_astore cx X1245 (Ls' := #[rv aa, iv (Int32.ofNat nn), iv 6, rv rk, rv tx, rv pl, s6, rv b1243, .unset, .unset, .unset, .unset, .unset, .unset, .unset]) d1_9 rfl rfl ?_
  refine o_aload cx X1245 d1_11 rfl rfl ?_
  refine o_astore cx X1245 (Ls' := #[rv aa, iv (Int32.ofNat nn), iv 6, rv rk, rv tx, rv pl, s6, rv b1243, rv tx, .unset, .unset, .unset, .unset, .unset, .unset]) d1_13 rfl rfl ?_
  refine o_aload cx X1245 d1_15 rfl rfl ?_
  refine o_len cx X1245 (z := (4 : Int32)) d1_17 (At.keep KK nin0) rfl ?_
  refine o_istore cx X1245 (Ls' := #[rv aa, iv (Int32.ofNat nn), iv 6, rv rk, rv tx, rv pl, s6, rv b1243, rv tx, iv 4, .unset, .unset, .unset, .unset, .unset]) d1_18 rfl ?_
  refine o_iconst cx X1245 (z := (0 : Int32)) d1_20 rfl ?_
  refine o_istore cx X1245 (Ls' := #[rv aa, iv (Int32.ofNat nn), iv 6, rv rk, rv tx, rv pl, s6, rv b1243, rv tx, iv 4, iv 0, .unset, .unset, .unset, .unset]) d1_21 rfl ?_
  refine o_iload cx X1245 d1_23 rfl ?_
  refine o_iload cx X1245 d1_25 rfl ?_
  refine o_icmpNo cx X1245 d1_27 (by decide) ?_
  refine o_aload cx X1245 d1_30 rfl rfl ?_
  refine o_iload cx X1245 d1_32 rfl ?_
  refine o_ldI cx X1245 (v := (.int (3 : Int32))) d1_34 (At.keep KK nin0) 0 (by decide) rfl rfl ?_
  refine o_istore cx X1245 (Ls' := #[rv aa, iv (Int32.ofNat nn), iv 6, rv rk, rv tx, rv pl, s6, rv b1243, rv tx, iv 4, iv 0, iv 3, .unset, .unset, .unset]) d1_35 rfl ?_
  refine o_aload cx X1245 d1_37 rfl rfl ?_
  refine o_iload cx X1245 d1_39 rfl ?_
  refine o_iconst cx X1245 (z := (1 : Int32)) d1_41 rfl ?_
  refine o_iadd cx X1245 (z := (4 : Int32)) d1_42 rfl ?_
  refine o_dup2 cx X1245 d1_43 rfl rfl ?_
  refine o_ldI cx X1245 (v := (.int (0 : Int32))) d1_44 A1248 4 (by decide) rfl rfl ?_
  refine o_iconst cx X1245 (z := (1 : Int32)) d1_45 rfl ?_
  refine o_iadd cx X1245 (z := (1 : Int32)) d1_46 rfl ?_
  refine o_stI cx X1245 d1_47 A1248 4 (by decide) rfl (Nat.le_of_ble_eq_true rfl) ge1250 fun T1251 h1253 X1252 W1254 A1248 => ?_
  have KK := KK.wr W1254 (Or.inr sz_b1243)
  have A1248 : own_Ar Z h1253 b1243 .int [(.int (0 : Int32)), (.int (0 : Int32)), (.int (0 : Int32)), (.int (0 : Int32)), (.int (1 : Int32)), (.int (0 : Int32)), (.int (0 : Int32))] := A1248
  refine o_iinc cx X1252 (z := (1 : Int32)) (Ls' := #[rv aa, iv (Int32.ofNat nn), iv 6, rv rk, rv tx, rv pl, s6, rv b1243, rv tx, iv 4, iv 1, iv 3, .unset, .unset, .unset]) d1_48 rfl rfl rfl ?_
  refine o_goto cx X1252 23 d1_51 (by decide) (by decide) ?_
  refine o_iload cx X1252 d1_23 rfl ?_
  refine o_iload cx X1252 d1_25 rfl ?_
  refine o_icmpNo cx X1252 d1_27 (by decide) ?_
  refine o_aload cx X1252 d1_30 rfl rfl ?_
  refine o_iload cx X1252 d1_32 rfl ?_
  refine o_ldI cx X1252 (v := (.int (4 : Int32))) d1_34 (At.keep KK nin0) 1 (by decide) rfl rfl ?_
  refine o_istore cx X1252 (Ls' := #[rv aa, iv (Int32.ofNat nn), iv 6, rv rk, rv tx, rv pl, s6, rv b1243, rv tx, iv 4, iv 1, iv 4, .unset, .unset, .unset]) d1_35 rfl ?_
  refine o_aload cx X1252 d1_37 rfl rfl ?_
  refine o_iload cx X1252 d1_39 rfl ?_
  refine o_iconst cx X1252 (z := (1 : Int32)) d1_41 rfl ?_
  refine o_iadd cx X1252 (z := (5 : Int32)) d1_42 rfl ?_
  refine o_dup2 cx X1252 d1_43 rfl rfl ?_
  refine o_ldI cx X1252 (v := (.int (0 : Int32))) d1_44 A1248 5 (by decide) rfl rfl ?_
  refine o_iconst cx X1252 (z := (1 : Int32)) d1_45 rfl ?_
  refine o_iadd cx X1252 (z := (1 : Int32)) d1_46 rfl ?_
  refine o_stI cx X1252 d1_47 A1248 5 (by decide) rfl (Nat.le_of_ble_eq_true rfl) ge1250 fun T1255 h1257 X1256 W1258 A1248 => ?_
  have KK := KK.wr W1258 (Or.inr sz_b1243)
  have A1248 : own_Ar Z h1257 b1243 .int [(.int (0 : Int32)), (.int (0 : Int32)), (.int (0 : Int32)), (.int (0 : Int32)), (.int (1 : Int32)), (.int (1 : Int32)), (.int (0 : Int32))] := A1248
  refine o_iinc cx X1256 (z := (2 : Int32)) (Ls' := #[rv aa, iv (Int32.ofNat nn), iv 6, rv rk, rv tx, rv pl, s6, rv b1243, rv tx, iv 4, iv 2, iv 4, .unset, .unset, .unset]) d1_48 rfl rfl rfl ?_
  refine o_goto cx X1256 23 d1_51 (by decide) (by decide) ?_
  refine o_iload cx X1256 d1_23 rfl ?_
  refine o_iload cx X1256 d1_25 rfl ?_
  refine o_icmpNo cx X1256 d1_27 (by decide) ?_
  refine o_aload cx X1256 d1_30 rfl rfl ?_
  refine o_iload cx X1256 d1_32 rfl ?_
  refine o_ldI cx X1256 (v := (.int (5 : Int32))) d1_34 (At.keep KK nin0) 2 (by decide) rfl rfl ?_
  refine o_istore cx X1256 (Ls' := #[rv aa, iv (Int32.ofNat nn), iv 6, rv rk, rv tx, rv pl, s6, rv b1243, rv tx, iv 4, iv 2, iv 5, .unset, .unset, .unset]) d1_35 rfl ?_
  refine o_aload cx X1256 d1_37 rfl rfl ?_
  refine o_iload cx X1256 d1_39 rfl ?_
  refine o_iconst cx X1256 (z := (1 : Int32)) d1_41 rfl ?_
  refine o_iadd cx X1256 (z := (6 : Int32)) d1_42 rfl ?_
  refine o_dup2 cx X1256 d1_43 rfl rfl ?_
  refine o_ldI cx X1256 (v := (.int (0 : Int32))) d1_44 A1248 6 (by decide) rfl rfl ?_
  refine o_iconst cx X1256 (z := (1 : Int32)) d1_45 rfl ?_
  refine o_iadd cx X1256 (z := (1 : Int32)) d1_46 rfl ?_
  refine o_stI cx X1256 d1_47 A1248 6 (by decide) rfl (Nat.le_of_ble_eq_true rfl) ge1250 fun T1259 h1261 X1260 W1262 A1248 => ?_
  have KK := KK.wr W1262 (Or.inr sz_b1243)
  have A1248 : own_Ar Z h1261 b1243 .int [(.int (0 : Int32)), (.int (0 : Int32)), (.int (0 : Int32)), (.int (0 : Int32)), (.int (1 : Int32)), (.int (1 : Int32)), (.int (1 : Int32))] := A1248
  refine o_iinc cx X1260 (z := (3 : Int32)) (Ls' := #[rv aa, iv (Int32.ofNat nn), iv 6, rv rk, rv tx, rv pl, s6, rv b1243, rv tx, iv 4, iv 3, iv 5, .unset, .unset, .unset]) d1_48 rfl rfl rfl ?_
  refine o_goto cx X1260 23 d1_51 (by decide) (by decide) ?_
  refine o_iload cx X1260 d1_23 rfl ?_
  refine o_iload cx X1260 d1_25 rfl ?_
  refine o_icmpNo cx X1260 d1_27 (by decide) ?_
  refine o_aload cx X1260 d1_30 rfl rfl ?_
  refine o_iload cx X1260 d1_32 rfl ?_
  refine o_ldI cx X1260 (v := (.int (0 : Int32))) d1_34 (At.keep KK nin0) 3 (by decide) rfl rfl ?_
  refine o_istore cx X1260 (Ls' := #[rv aa, iv (Int32.ofNat nn), iv 6, rv rk, rv tx, rv pl, s6, rv b1243, rv tx, iv 4, iv 3, iv 0, .unset, .unset, .unset]) d1_35 rfl ?_
  refine o_aload cx X1260 d1_37 rfl rfl ?_
  refine o_iload cx X1260 d1_39 rfl ?_
  refine o_iconst cx X1260 (z := (1 : Int32)) d1_41 rfl ?_
  refine o_iadd cx X1260 (z := (1 : Int32)) d1_42 rfl ?_
  refine o_dup2 cx X1260 d1_43 rfl rfl ?_
  refine o_ldI cx X1260 (v := (.int (0 : Int32))) d1_44 A1248 1 (by decide) rfl rfl ?_
  refine o_iconst cx X1260 (z := (1 : Int32)) d1_45 rfl ?_
  refine o_iadd cx X1260 (z := (1 : Int32)) d1_46 rfl ?_
  refine o_stI cx X1260 d1_47 A1248 1 (by decide) rfl (Nat.le_of_ble_eq_true rfl) ge1250 fun T1263 h1265 X1264 W1266 A1248 => ?_
  have KK := KK.wr W1266 (Or.inr sz_b1243)
  have A1248 : own_Ar Z h1265 b1243 .int [(.int (0 : Int32)), (.int (1 : Int32)), (.int (0 : Int32)), (.int (0 : Int32)), (.int (1 : Int32)), (.int (1 : Int32)), (.int (1 : Int32))] := A1248
  refine o_iinc cx X1264 (z := (4 : Int32)) (Ls' := #[rv aa, iv (Int32.ofNat nn), iv 6, rv rk, rv tx, rv pl, s6, rv b1243, rv tx, iv 4, iv 4, iv 0, .unset, .unset, .unset]) d1_48 rfl rfl rfl ?_
  refine o_goto cx X1264 23 d1_51 (by decide) (by decide) ?_
  refine o_iload cx X1264 d1_23 rfl ?_
  refine o_iload cx X1264 d1_25 rfl ?_
  refine o_icmpYes cx X1264 54 d1_27 (by decide) (by decide) (by decide) ?_
  refine o_iconst cx X1264 (z := (0 : Int32)) d1_54 rfl ?_
  refine o_istore cx X1264 (Ls' := #[rv aa, iv (Int32.ofNat nn), iv 6, rv rk, rv tx, rv pl, s6, rv b1243, iv 0, iv 4, iv 4, iv 0, .unset, .unset, .unset]) d1_55 rfl ?_
  refine o_iload cx X1264 d1_57 rfl ?_
  refine o_iloadN cx X1264 d1_59 rfl ?_
  refine o_icmpNo cx X1264 d1_60 (by decide) ?_
  refine o_aload cx X1264 d1_63 rfl rfl ?_
  refine o_iload cx X1264 d1_65 rfl ?_
  refine o_iconst cx X1264 (z := (1 : Int32)) d1_67 rfl ?_
  refine o_iadd cx X1264 (z := (1 : Int32)) d1_68 rfl ?_
  refine o_dup2 cx X1264 d1_69 rfl rfl ?_
  refine o_ldI cx X1264 (v := (.int (1 : Int32))) d1_70 A1248 1 (by decide) rfl rfl ?_
  refine o_aload cx X1264 d1_71 rfl rfl ?_
  refine o_iload cx X1264 d1_73 rfl ?_
  refine o_ldI cx X1264 (v := (.int (0 : Int32))) d1_75 A1248 0 (by decide) rfl rfl ?_
  refine o_iadd cx X1264 (z := (1 : Int32)) d1_76 rfl ?_
  refine o_stI cx X1264 d1_77 A1248 1 (by decide) rfl (Nat.le_of_ble_eq_true rfl) ge1250 fun T1267 h1269 X1268 W1270 A1248 => ?_
  have KK := KK.wr W1270 (Or.inr sz_b1243)
  have A1248 : own_Ar Z h1269 b1243 .int [(.int (0 : Int32)), (.int (1 : Int32)), (.int (0 : Int32)), (.int (0 : Int32)), (.int (1 : Int32)), (.int (1 : Int32)), (.int (1 : Int32))] := A1248
  refine o_iinc cx X1268 (z := (1 : Int32)) (Ls' := #[rv aa, iv (Int32.ofNat nn), iv 6, rv rk, rv tx, rv pl, s6, rv b1243, iv 1, iv 4, iv 4, iv 0, .unset, .unset, .unset]) d1_78 rfl rfl rfl ?_
  refine o_goto cx X1268 57 d1_81 (by decide) (by decide) ?_
  refine o_iload cx X1268 d1_57 rfl ?_
  refine o_iloadN cx X1268 d1_59 rfl ?_
  refine o_icmpNo cx X1268 d1_60 (by decide) ?_
  refine o_aload cx X1268 d1_63 rfl rfl ?_
  refine o_iload cx X1268 d1_65 rfl ?_
  refine o_iconst cx X1268 (z := (1 : Int32)) d1_67 rfl ?_
  refine o_iadd cx X1268 (z := (2 : Int32)) d1_68 rfl ?_
  refine o_dup2 cx X1268 d1_69 rfl rfl ?_
  refine o_ldI cx X1268 (v := (.int (0 : Int32))) d1_70 A1248 2 (by decide) rfl rfl ?_
  refine o_aload cx X1268 d1_71 rfl rfl ?_
  refine o_iload cx X1268 d1_73 rfl ?_
  refine o_ldI cx X1268 (v := (.int (1 : Int32))) d1_75 A1248 1 (by decide) rfl rfl ?_
  refine o_iadd cx X1268 (z := (1 : Int32)) d1_76 rfl ?_
  refine o_stI cx X1268 d1_77 A1248 2 (by decide) rfl (Nat.le_of_ble_eq_true rfl) ge1250 fun T1271 h1273 X1272 W1274 A1248 => ?_
  have KK := KK.wr W1274 (Or.inr sz_b1243)
  have A1248 : own_Ar Z h1273 b1243 .int [(.int (0 : Int32)), (.int (1 : Int32)), (.int (1 : Int32)), (.int (0 : Int32)), (.int (1 : Int32)), (.int (1 : Int32)), (.int (1 : Int32))] := A1248
  refine o_iinc cx X1272 (z := (2 : Int32)) (Ls' := #[rv aa, iv (Int32.ofNat nn), iv 6, rv rk, rv tx, rv pl, s6, rv b1243, iv 2, iv 4, iv 4, iv 0, .unset, .unset, .unset]) d1_78 rfl rfl rfl ?_
  refine o_goto cx X1272 57 d1_81 (by decide) (by decide) ?_
  refine o_iload cx X1272 d1_57 rfl ?_
  refine o_iloadN cx X1272 d1_59 rfl ?_
  refine o_icmpNo cx X1272 d1_60 (by decide) ?_
  refine o_aload cx X1272 d1_63 rfl rfl ?_
  refine o_iload cx X1272 d1_65 rfl ?_
  refine o_iconst cx X1272 (z := (1 : Int32)) d1_67 rfl ?_
  refine o_iadd cx X1272 (z := (3 : Int32)) d1_68 rfl ?_
  refine o_dup2 cx X1272 d1_69 rfl rfl ?_
  refine o_ldI cx X1272 (v := (.int (0 : Int32))) d1_70 A1248 3 (by decide) rfl rfl ?_
  refine o_aload cx X1272 d1_71 rfl rfl ?_
  refine o_iload cx X1272 d1_73 rfl ?_
  refine o_ldI cx X1272 (v := (.int (1 : Int32))) d1_75 A1248 2 (by decide) rfl rfl ?_
  refine o_iadd cx X1272 (z := (1 : Int32)) d1_76 rfl ?_
  refine o_stI cx X1272 d1_77 A1248 3 (by decide) rfl (Nat.le_of_ble_eq_true rfl) ge1250 fun T1275 h1277 X1276 W1278 A1248 => ?_
  have KK := KK.wr W1278 (Or.inr sz_b1243)
  have A1248 : own_Ar Z h1277 b1243 .int [(.int (0 : Int32)), (.int (1 : Int32)), (.int (1 : Int32)), (.int (1 : Int32)), (.int (1 : Int32)), (.int (1 : Int32)), (.int (1 : Int32))] := A1248
  refine o_iinc cx X1276 (z := (3 : Int32)) (Ls' := #[rv aa, iv (Int32.ofNat nn), iv 6, rv rk, rv tx, rv pl, s6, rv b1243, iv 3, iv 4, iv 4, iv 0, .unset, .unset, .unset]) d1_78 rfl rfl rfl ?_
  refine o_goto cx X1276 57 d1_81 (by decide) (by decide) ?_
  refine o_iload cx X1276 d1_57 rfl ?_
  refine o_iloadN cx X1276 d1_59 rfl ?_
  refine o_icmpNo cx X1276 d1_60 (by decide) ?_
  refine o_aload cx X1276 d1_63 rfl rfl ?_
  refine o_iload cx X1276 d1_65 rfl ?_
  refine o_iconst cx X1276 (z := (1 : Int32)) d1_67 rfl ?_
  refine o_iadd cx X1276 (z := (4 : Int32)) d1_68 rfl ?_
  refine o_dup2 cx X1276 d1_69 rfl rfl ?_
  refine o_ldI cx X1276 (v := (.int (1 : Int32))) d1_70 A1248 4 (by decide) rfl rfl ?_
  refine o_aload cx X1276 d1_71 rfl rfl ?_
  refine o_iload cx X1276 d1_73 rfl ?_
  refine o_ldI cx X1276 (v := (.int (1 : Int32))) d1_75 A1248 3 (by decide) rfl rfl ?_
  refine o_iadd cx X1276 (z := (2 : Int32)) d1_76 rfl ?_
  refine o_stI cx X1276 d1_77 A1248 4 (by decide) rfl (Nat.le_of_ble_eq_true rfl) ge1250 fun T1279 h1281 X1280 W1282 A1248 => ?_
  have KK := KK.wr W1282 (Or.inr sz_b1243)
  have A1248 : own_Ar Z h1281 b1243 .int [(.int (0 : Int32)), (.int (1 : Int32)), (.int (1 : Int32)), (.int (1 : Int32)), (.int (2 : Int32)), (.int (1 : Int32)), (.int (1 : Int32))] := A1248
  refine o_iinc cx X1280 (z := (4 : Int32)) (Ls' := #[rv aa, iv (Int32.ofNat nn), iv 6, rv rk, rv tx, rv pl, s6, rv b1243, iv 4, iv 4, iv 4, iv 0, .unset, .unset, .unset]) d1_78 rfl rfl rfl ?_
  refine o_goto cx X1280 57 d1_81 (by decide) (by decide) ?_
  refine o_iload cx X1280 d1_57 rfl ?_
  refine o_iloadN cx X1280 d1_59 rfl ?_
  refine o_icmpNo cx X1280 d1_60 (by decide) ?_
  refine o_aload cx X1280 d1_63 rfl rfl ?_
  refine o_iload cx X1280 d1_65 rfl ?_
  refine o_iconst cx X1280 (z := (1 : Int32)) d1_67 rfl ?_
  refine o_iadd cx X1280 (z := (5 : Int32)) d1_68 rfl ?_
  refine o_dup2 cx X1280 d1_69 rfl rfl ?_
  refine o_ldI cx X1280 (v := (.int (1 : Int32))) d1_70 A1248 5 (by decide) rfl rfl ?_
  refine o_aload cx X1280 d1_71 rfl rfl ?_
  refine o_iload cx X1280 d1_73 rfl ?_
  refine o_ldI cx X1280 (v := (.int (2 : Int32))) d1_75 A1248 4 (by decide) rfl rfl ?_
  refine o_iadd cx X1280 (z := (3 : Int32)) d1_76 rfl ?_
  refine o_stI cx X1280 d1_77 A1248 5 (by decide) rfl (Nat.le_of_ble_eq_true rfl) ge1250 fun T1283 h1285 X1284 W1286 A1248 => ?_
  have KK := KK.wr W1286 (Or.inr sz_b1243)
  have A1248 : own_Ar Z h1285 b1243 .int [(.int (0 : Int32)), (.int (1 : Int32)), (.int (1 : Int32)), (.int (1 : Int32)), (.int (2 : Int32)), (.int (3 : Int32)), (.int (1 : Int32))] := A1248
  refine o_iinc cx X1284 (z := (5 : Int32)) (Ls' := #[rv aa, iv (Int32.ofNat nn), iv 6, rv rk, rv tx, rv pl, s6, rv b1243, iv 5, iv 4, iv 4, iv 0, .unset, .unset, .unset]) d1_78 rfl rfl rfl ?_
  refine o_goto cx X1284 57 d1_81 (by decide) (by decide) ?_
  refine o_iload cx X1284 d1_57 rfl ?_
  refine o_iloadN cx X1284 d1_59 rfl ?_
  refine o_icmpNo cx X1284 d1_60 (by decide) ?_
  refine o_aload cx X1284 d1_63 rfl rfl ?_
  refine o_iload cx X1284 d1_65 rfl ?_
  refine o_iconst cx X1284 (z := (1 : Int32)) d1_67 rfl ?_
  refine o_iadd cx X1284 (z := (6 : Int32)) d1_68 rfl ?_
  refine o_dup2 cx X1284 d1_69 rfl rfl ?_
  refine o_ldI cx X1284 (v := (.int (1 : Int32))) d1_70 A1248 6 (by decide) rfl rfl ?_
  refine o_aload cx X1284 d1_71 rfl rfl ?_
  refine o_iload cx X1284 d1_73 rfl ?_
  refine o_ldI cx X1284 (v := (.int (3 : Int32))) d1_75 A1248 5 (by decide) rfl rfl ?_
  refine o_iadd cx X1284 (z := (4 : Int32)) d1_76 rfl ?_
  refine o_stI cx X1284 d1_77 A1248 6 (by decide) rfl (Nat.le_of_ble_eq_true rfl) ge1250 fun T1287 h1289 X1288 W1290 A1248 => ?_
  have KK := KK.wr W1290 (Or.inr sz_b1243)
  have A1248 : own_Ar Z h1289 b1243 .int [(.int (0 : Int32)), (.int (1 : Int32)), (.int (1 : Int32)), (.int (1 : Int32)), (.int (2 : Int32)), (.int (3 : Int32)), (.int (4 : Int32))] := A1248
  refine o_iinc cx X1288 (z := (6 : Int32)) (Ls' := #[rv aa, iv (Int32.ofNat nn), iv 6, rv rk, rv tx, rv pl, s6, rv b1243, iv 6, iv 4, iv 4, iv 0, .unset, .unset, .unset]) d1_78 rfl rfl rfl ?_
  refine o_goto cx X1288 57 d1_81 (by decide) (by decide) ?_
  refine o_iload cx X1288 d1_57 rfl ?_
  refine o_iloadN cx X1288 d1_59 rfl ?_
  refine o_icmpYes cx X1288 84 d1_60 (by decide) (by decide) (by decide) ?_
  refine o_aload cx X1288 d1_84 rfl rfl ?_
  refine o_len cx X1288 (z := (4 : Int32)) d1_86 (At.keep KK nin0) rfl ?_
  refine o_newP cx X1288 d1_87 (o_w hw 1 rfl) (by decide) 4 4 rfl (Nat.le_refl _) (by decide) (by decide) (by decide) fun T1292 h1294 b1291 gb1297 ge1298 X1293 E1295 A1296 => ?_
  have ne_b1243_b1291 : b1243 ≠ b1291 := by rw [gb1297]; exact Nat.ne_of_lt A1248.lt
  have sz_b1291 : h0.size ≤ b1291 := by rw [gb1297]; exact KK.1
  have A1248 := A1248.ext E1295
  have KK := KK.ext E1295
  have A1296 : own_Ar Z h1294 b1291 .int [(.int (0 : Int32)), (.int (0 : Int32)), (.int (0 : Int32)), (.int (0 : Int32))] := A1296
  refine o_astore cx X1293 (Ls' := #[rv aa, iv (Int32.ofNat nn), iv 6, rv rk, rv tx, rv pl, s6, rv b1243, rv b1291, iv 4, iv 4, iv 0, .unset, .unset, .unset]) d1_89 rfl rfl ?_
  refine o_iconst cx X1293 (z := (0 : Int32)) d1_91 rfl ?_
  refine o_istore cx X1293 (Ls' := #[rv aa, iv (Int32.ofNat nn), iv 6, rv rk, rv tx, rv pl, s6, rv b1243, rv b1291, iv 0, iv 4, iv 0, .unset, .unset, .unset]) d1_92 rfl ?_
  refine o_iload cx X1293 d1_94 rfl ?_
  refine o_aload cx X1293 d1_96 rfl rfl ?_
  refine o_len cx X1293 (z := (4 : Int32)) d1_98 (At.keep KK nin0) rfl ?_
  refine o_icmpNo cx X1293 d1_99 (by decide) ?_
  refine o_aload cx X1293 d1_102 rfl rfl ?_
  refine o_aload cx X1293 d1_104 rfl rfl ?_
  refine o_aload cx X1293 d1_106 rfl rfl ?_
  refine o_iload cx X1293 d1_108 rfl ?_
  refine o_ldI cx X1293 (v := (.int (3 : Int32))) d1_110 (At.keep KK nin0) 0 (by decide) rfl rfl ?_
  refine o_dup2 cx X1293 d1_111 rfl rfl ?_
  refine o_ldI cx X1293 (v := (.int (1 : Int32))) d1_112 A1248 3 (by decide) rfl rfl ?_
  refine o_dup_x2 cx X1293 d1_113 rfl rfl rfl ?_
  refine o_iconst cx X1293 (z := (1 : Int32)) d1_114 rfl ?_
  refine o_iadd cx X1293 (z := (2 : Int32)) d1_115 rfl ?_
  refine o_stI cx X1293 d1_116 A1248 3 (by decide) rfl (Nat.le_of_ble_eq_true rfl) ge1250 fun T1299 h1301 X1300 W1302 A1248 => ?_
  have A1296 := A1296.other W1302 (Ne.symm ne_b1243_b1291)
  have KK := KK.wr W1302 (Or.inr sz_b1243)
  have A1248 : own_Ar Z h1301 b1243 .int [(.int (0 : Int32)), (.int (1 : Int32)), (.int (1 : Int32)), (.int (2 : Int32)), (.int (2 : Int32)), (.int (3 : Int32)), (.int (4 : Int32))] := A1248
  refine o_iload cx X1300 d1_117 rfl ?_
  refine o_stI cx X1300 d1_119 A1296 1 (by decide) rfl (Nat.le_of_ble_eq_true rfl) ge1298 fun T1303 h1305 X1304 W1306 A1296 => ?_
  have A1248 := A1248.other W1306 ne_b1243_b1291
  have KK := KK.wr W1306 (Or.inr sz_b1291)
  have A1296 : own_Ar Z h1305 b1291 .int [(.int (0 : Int32)), (.int (0 : Int32)), (.int (0 : Int32)), (.int (0 : Int32))] := A1296
  refine o_iinc cx X1304 (z := (1 : Int32)) (Ls' := #[rv aa, iv (Int32.ofNat nn), iv 6, rv rk, rv tx, rv pl, s6, rv b1243, rv b1291, iv 1, iv 4, iv 0, .unset, .unset, .unset]) d1_120 rfl rfl rfl ?_
  refine o_goto cx X1304 94 d1_123 (by decide) (by decide) ?_
  refine o_iload cx X1304 d1_94 rfl ?_
  refine o_aload cx X1304 d1_96 rfl rfl ?_
  refine o_len cx X1304 (z := (4 : Int32)) d1_98 (At.keep KK nin0) rfl ?_
  refine o_icmpNo cx X1304 d1_99 (by decide) ?_
  refine o_aload cx X1304 d1_102 rfl rfl ?_
  refine o_aload cx X1304 d1_104 rfl rfl ?_
  refine o_aload cx X1304 d1_106 rfl rfl ?_
  refine o_iload cx X1304 d1_108 rfl ?_
  refine o_ldI cx X1304 (v := (.int (4 : Int32))) d1_110 (At.keep KK nin0) 1 (by decide) rfl rfl ?_
  refine o_dup2 cx X1304 d1_111 rfl rfl ?_
  refine o_ldI cx X1304 (v := (.int (2 : Int32))) d1_112 A1248 4 (by decide) rfl rfl ?_
  refine o_dup_x2 cx X1304 d1_113 rfl rfl rfl ?_
  refine o_iconst cx X1304 (z := (1 : Int32)) d1_114 rfl ?_
  refine o_iadd cx X1304 (z := (3 : Int32)) d1_115 rfl ?_
  refine o_stI cx X1304 d1_116 A1248 4 (by decide) rfl (Nat.le_of_ble_eq_true rfl) ge1250 fun T1307 h1309 X1308 W1310 A1248 => ?_
  have A1296 := A1296.other W1310 (Ne.symm ne_b1243_b1291)
  have KK := KK.wr W1310 (Or.inr sz_b1243)
  have A1248 : own_Ar Z h1309 b1243 .int [(.int (0 : Int32)), (.int (1 : Int32)), (.int (1 : Int32)), (.int (2 : Int32)), (.int (3 : Int32)), (.int (3 : Int32)), (.int (4 : Int32))] := A1248
  refine o_iload cx X1308 d1_117 rfl ?_
  refine o_stI cx X1308 d1_119 A1296 2 (by decide) rfl (Nat.le_of_ble_eq_true rfl) ge1298 fun T1311 h1313 X1312 W1314 A1296 => ?_
  have A1248 := A1248.other W1314 ne_b1243_b1291
  have KK := KK.wr W1314 (Or.inr sz_b1291)
  have A1296 : own_Ar Z h1313 b1291 .int [(.int (0 : Int32)), (.int (0 : Int32)), (.int (1 : Int32)), (.int (0 : Int32))] := A1296
  refine o_iinc cx X1312 (z := (2 : Int32)) (Ls' := #[rv aa, iv (Int32.ofNat nn), iv 6, rv rk, rv tx, rv pl, s6, rv b1243, rv b1291, iv 2, iv 4, iv 0, .unset, .unset, .unset]) d1_120 rfl rfl rfl ?_
  refine o_goto cx X1312 94 d1_123 (by decide) (by decide) ?_
  refine o_iload cx X1312 d1_94 rfl ?_
  refine o_aload cx X1312 d1_96 rfl rfl ?_
  refine o_len cx X1312 (z := (4 : Int32)) d1_98 (At.keep KK nin0) rfl ?_
  refine o_icmpNo cx X1312 d1_99 (by decide) ?_
  refine o_aload cx X1312 d1_102 rfl rfl ?_
  refine o_aload cx X1312 d1_104 rfl rfl ?_
  refine o_aload cx X1312 d1_106 rfl rfl ?_
  refine o_iload cx X1312 d1_108 rfl ?_
  refine o_ldI cx X1312 (v := (.int (5 : Int32))) d1_110 (At.keep KK nin0) 2 (by decide) rfl rfl ?_
  refine o_dup2 cx X1312 d1_111 rfl rfl ?_
  refine o_ldI cx X1312 (v := (.int (3 : Int32))) d1_112 A1248 5 (by decide) rfl rfl ?_
  refine o_dup_x2 cx X1312 d1_113 rfl rfl rfl ?_
  refine o_iconst cx X1312 (z := (1 : Int32)) d1_114 rfl ?_
  refine o_iadd cx X1312 (z := (4 : Int32)) d1_115 rfl ?_
  refine o_stI cx X1312 d1_116 A1248 5 (by decide) rfl (Nat.le_of_ble_eq_true rfl) ge1250 fun T1315 h1317 X1316 W1318 A1248 => ?_
  have A1296 := A1296.other W1318 (Ne.symm ne_b1243_b1291)
  have KK := KK.wr W1318 (Or.inr sz_b1243)
  have A1248 : own_Ar Z h1317 b1243 .int [(.int (0 : Int32)), (.int (1 : Int32)), (.int (1 : Int32)), (.int (2 : Int32)), (.int (3 : Int32)), (.int (4 : Int32)), (.int (4 : Int32))] := A1248
  refine o_iload cx X1316 d1_117 rfl ?_
  refine o_stI cx X1316 d1_119 A1296 3 (by decide) rfl (Nat.le_of_ble_eq_true rfl) ge1298 fun T1319 h1321 X1320 W1322 A1296 => ?_
  have A1248 := A1248.other W1322 ne_b1243_b1291
  have KK := KK.wr W1322 (Or.inr sz_b1291)
  have A1296 : own_Ar Z h1321 b1291 .int [(.int (0 : Int32)), (.int (0 : Int32)), (.int (1 : Int32)), (.int (2 : Int32))] := A1296
  refine o_iinc cx X1320 (z := (3 : Int32)) (Ls' := #[rv aa, iv (Int32.ofNat nn), iv 6, rv rk, rv tx, rv pl, s6, rv b1243, rv b1291, iv 3, iv 4, iv 0, .unset, .unset, .unset]) d1_120 rfl rfl rfl ?_
  refine o_goto cx X1320 94 d1_123 (by decide) (by decide) ?_
  refine o_iload cx X1320 d1_94 rfl ?_
  refine o_aload cx X1320 d1_96 rfl rfl ?_
  refine o_len cx X1320 (z := (4 : Int32)) d1_98 (At.keep KK nin0) rfl ?_
  refine o_icmpNo cx X1320 d1_99 (by decide) ?_
  refine o_aload cx X1320 d1_102 rfl rfl ?_
  refine o_aload cx X1320 d1_104 rfl rfl ?_
  refine o_aload cx X1320 d1_106 rfl rfl ?_
  refine o_iload cx X1320 d1_108 rfl ?_
  refine o_ldI cx X1320 (v := (.int (0 : Int32))) d1_110 (At.keep KK nin0) 3 (by decide) rfl rfl ?_
  refine o_dup2 cx X1320 d1_111 rfl rfl ?_
  refine o_ldI cx X1320 (v := (.int (0 : Int32))) d1_112 A1248 0 (by decide) rfl rfl ?_
  refine o_dup_x2 cx X1320 d1_113 rfl rfl rfl ?_
  refine o_iconst cx X1320 (z := (1 : Int32)) d1_114 rfl ?_
  refine o_iadd cx X1320 (z := (1 : Int32)) d1_115 rfl ?_
  refine o_stI cx X1320 d1_116 A1248 0 (by decide) rfl (Nat.le_of_ble_eq_true rfl) ge1250 fun T1323 h1325 X1324 W1326 A1248 => ?_
  have A1296 := A1296.other W1326 (Ne.symm ne_b1243_b1291)
  have KK := KK.wr W1326 (Or.inr sz_b1243)
  have A1248 : own_Ar Z h1325 b1243 .int [(.int (1 : Int32)), (.int (1 : Int32)), (.int (1 : Int32)), (.int (2 : Int32)), (.int (3 : Int32)), (.int (4 : Int32)), (.int (4 : Int32))] := A1248
  refine o_iload cx X1324 d1_117 rfl ?_
  refine o_stI cx X1324 d1_119 A1296 0 (by decide) rfl (Nat.le_of_ble_eq_true rfl) ge1298 fun T1327 h1329 X1328 W1330 A1296 => ?_
  have A1248 := A1248.other W1330 ne_b1243_b1291
  have KK := KK.wr W1330 (Or.inr sz_b1291)
  have A1296 : own_Ar Z h1329 b1291 .int [(.int (3 : Int32)), (.int (0 : Int32)), (.int (1 : Int32)), (.int (2 : Int32))] := A1296
  refine o_iinc cx X1328 (z := (4 : Int32)) (Ls' := #[rv aa, iv (Int32.ofNat nn), iv 6, rv rk, rv tx, rv pl, s6, rv b1243, rv b1291, iv 4, iv 4, iv 0, .unset, .unset, .unset]) d1_120 rfl rfl rfl ?_
  refine o_goto cx X1328 94 d1_123 (by decide) (by decide) ?_
  refine o_iload cx X1328 d1_94 rfl ?_
  refine o_aload cx X1328 d1_96 rfl rfl ?_
  refine o_len cx X1328 (z := (4 : Int32)) d1_98 (At.keep KK nin0) rfl ?_
  refine o_icmpYes cx X1328 126 d1_99 (by decide) (by decide) (by decide) ?_
  have ne_aa_b1291 : aa ≠ b1291 := Nat.ne_of_lt (Nat.lt_of_lt_of_le E0.lt sz_b1291)
  exact kk _ _ b1243 b1291 (4 : Int32) (4 : Int32) (0 : Int32) (X1328.more (by decide) (by decide)) ge1298 ne_aa_b1291  (E0.keep KK) (F0.keep KK nin0) (F1.keep KK nin0) (F2.keep KK nin0) (F3.keep KK nin0) (Ar.keep KK nin0) (At.keep KK nin0) (Ap.keep KK nin0) (Ac.keep KK nin0) A1296
set_option maxRecDepth 65536 in
set_option maxHeartbeats 40000000 in
theorem segA_7_0 {p : Program} {l : Launch} {e : Env} {s : State} {m : MethodId} {below : List Frame} {meth : Method} {c : Code} {n0 : Nat} {T0 : State} {h0 : Heap} {Z : State} {a0 : Array Value} {args : Array Value} {P : State → Outcome → Prop} (hw : ∀ d ∈ tables_1, d.before a0 Z = true) (aa rk tx pl : Addr) (nn k0 k1 k2 k3 : Nat) (v0 v1 v2 v3 : Int32) (s6 : Slot) (cv : Addr) (vcs : List Value) (cx : own_Cx p s m meth c Z prog_28_method_2_code 15 (⟨"com/example/rough_dedup/roughdedup/ShingleIndex$Postings", "<init>", "(II[I[I[I[I)V"⟩ : MethodName) none) (X0 : own_Sd p l e ({ frames := 2, cells := 7, slots := 41, locals := 74 } : Room) s m args below meth c n0 T0 h0 0 0) (ga : n0 ≤ aa) (ne_aa_rk : aa ≠ rk) (ne_aa_tx : aa ≠ tx) (ne_aa_pl : aa ≠ pl) (E0 : Exa Z h0 aa "com/example/rough_dedup/roughdedup/ShingleIndex$Postings") (F0 : Fld Z h0 aa "com/example/rough_dedup/roughdedup/ShingleIndex$Postings" "starts" "[I" .null) (F1 : Fld Z h0 aa "com/example/rough_dedup/roughdedup/ShingleIndex$Postings" "texts" "[I" .null) (F2 : Fld Z h0 aa "com/example/rough_dedup/roughdedup/ShingleIndex$Postings" "places" "[I" .null) (F3 : Fld Z h0 aa "com/example/rough_dedup/roughdedup/ShingleIndex$Postings" "covered" "[I" .null) (Ar : own_Ar Z h0 rk .int [(.int (Int32.ofNat k0)), (.int (Int32.ofNat k1)), (.int (Int32.ofNat k2)), (.int (Int32.ofNat k3))]) (At : own_Ar Z h0 tx .int [(.int (0 : Int32)), (.int (1 : Int32)), (.int (2 : Int32)), (.int (3 : Int32))]) (Ap : own_Ar Z h0 pl .int [(.int v0), (.int v1), (.int v2), (.int v3)]) (Ac : own_Ar Z h0 cv .int vcs) (kk : ∀ (T : State) (h : Heap) (ts bt : Addr) (x9 x10 x11 : Int32), own_Sd p l e ({ frames := 2, cells := 7, slots := 41, locals := 74 } : Room) s m args below meth c n0 T h 2 12 → n0 ≤ bt → aa ≠ bt → Exa Z h aa "com/example/rough_dedup/roughdedup/ShingleIndex$Postings" → Fld Z h aa "com/example/rough_dedup/roughdedup/ShingleIndex$Postings" "starts" "[I" .null → Fld Z h aa "com/example/rough_dedup/roughdedup/ShingleIndex$Postings" "texts" "[I" .null → Fld Z h aa "com/example/rough_dedup/roughdedup/ShingleIndex$Postings" "places" "[I" .null → Fld Z h aa "com/example/rough_dedup/roughdedup/ShingleIndex$Postings" "covered" "[I" .null → own_Ar Z h rk .int [(.int (Int32.ofNat k0)), (.int (Int32.ofNat k1)), (.int (Int32.ofNat k2)), (.int (Int32.ofNat k3))] → own_Ar Z h tx .int [(.int (0 : Int32)), (.int (1 : Int32)), (.int (2 : Int32)), (.int (3 : Int32))] → own_Ar Z h pl .int [(.int v0), (.int v1), (.int v2), (.int v3)] → own_Ar Z h cv .int vcs → own_Ar Z h bt .int [(.int (0 : Int32)), (.int (1 : Int32)), (.int (2 : Int32)), (.int (3 : Int32))] → own_Go p e below P (T.setTop (mkF m 126 #[rv aa, iv (Int32.ofNat nn), iv 7, rv rk, rv tx, rv pl, s6, .val (.ref ts), .val (.ref bt), .val (.int x9), .val (.int x10), .val (.int x11), .unset, .unset, .unset] []))) :
    own_Go p e below P (T0.setTop (mkF m 0 #[rv aa, iv (Int32.ofNat nn), iv 7, rv rk, rv tx, rv pl, s6, .unset, .unset, .unset, .unset, .unset, .unset, .unset, .unset] [])) := by
  have KK := Keep.refl h0 []
  refine o_aloadN cx X0 d1_0 rfl rfl ?_
  refine o_initO cx X0 d1_1 (o_w hw 9 rfl) (o_w hw 10 rfl) (o_w hw 11 rfl) rfl (by decide) 0 rfl (by decide) fun T1331 X1332 => ?_
  refine o_iloadN cx X1332 d1_4 rfl ?_
  refine o_iconst cx X1332 (z := (1 : Int32)) d1_5 rfl ?_
  refine o_iadd cx X1332 (z := (8 : Int32)) d1_6 rfl ?_
  refine o_newP cx X1332 d1_7 (o_w hw 1 rfl) (by decide) 8 8 rfl (Nat.le_refl _) (by decide) (by decide) (by decide) fun T1334 h1336 b1333 gb1339 ge1340 X1335 E1337 A1338 => ?_
  have sz_b1333 : h0.size ≤ b1333 := by rw [gb1339]; exact KK.1
  have KK := KK.ext E1337
  have A1338 : own_Ar Z h1336 b1333 .int [(.int (0 : Int32)), (.int (0 : Int32)), (.int (0 : Int32)), (.int (0 : Int32)), (.int (0 : Int32)), (.int (0 : Int32)), (.int (0 : Int32)), (.int (0 : Int32))] := A1338
  refine o_astore cx X1335 (Ls' := #[rv aa, iv (Int32.ofNat nn), iv 7, rv rk, rv tx, rv pl, s6, rv b1333, .unset, .unset, .unset, .unset, .unset, .unset, .unset]) d1_9 rfl rfl ?_
  refine o_aload cx X1335 d1_11 rfl rfl ?_
  refine o_astore cx X1335 (Ls' := #[rv aa, iv (Int32.ofNat nn), iv 7, rv rk, rv tx, rv pl, s6, rv b1333, rv tx, .unset, .unset, .unset, .unset, .unset, .unset]) d1_13 rfl rfl ?_
  refine o_aload cx X1335 d1_15 rfl rfl ?_
  refine o_len cx X1335 (z := (4 : Int32)) d1_17 (At.keep KK nin0) rfl ?_
  refine o_istore cx X1335 (Ls' := #[rv aa, iv (Int32.ofNat nn), iv 7, rv rk, rv tx, rv pl, s6, rv b1333, rv tx, iv 4, .unset, .unset, .unset, .unset, .unset]) d1_18 rfl ?_
  refine o_iconst cx X1335 (z := (0 : Int32)) d1_20 rfl ?_
  refine o_istore cx X1335 (Ls' := #[rv aa, iv (Int32.ofNat nn), iv 7, rv rk, rv tx, rv pl, s6, rv b1333, rv tx, iv 4, iv 0, .unset, .unset, .unset, .unset]) d1_21 rfl ?_
  refine o_iload cx X1335 d1_23 rfl ?_
  refine o_iload cx X1335 d1_25 rfl ?_
  refine o_icmpNo cx X1335 d1_27 (by decide) ?_
  refine o_aload cx X1335 d1_30 rfl rfl ?_
  refine o_iload cx X1335 d1_32 rfl ?_
  refine o_ldI cx X1335 (v := (.int (0 : Int32))) d1_34 (At.keep KK nin0) 0 (by decide) rfl rfl ?_
  refine o_istore cx X1335 (Ls' := #[rv aa, iv (Int32.ofNat nn), iv 7, rv rk, rv tx, rv pl, s6, rv b1333, rv tx, iv 4, iv 0, iv 0, .unset, .unset, .unset]) d1_35 rfl ?_
  refine o_aload cx X1335 d1_37 rfl rfl ?_
  refine o_iload cx X1335 d1_39 rfl ?_
  refine o_iconst cx X1335 (z := (1 : Int32)) d1_41 rfl ?_
  refine o_iadd cx X1335 (z := (1 : Int32)) d1_42 rfl ?_
  refine o_dup2 cx X1335 d1_43 rfl rfl ?_
  refine o_ldI cx X1335 (v := (.int (0 : Int32))) d1_44 A1338 1 (by decide) rfl rfl ?_
  refine o_iconst cx X1335 (z := (1 : Int32)) d1_45 rfl ?_
  refine o_iadd cx X1335 (z := (1 : Int32)) d1_46 rfl ?_
  refine o_stI cx X1335 d1_47 A1338 1 (by decide) rfl (Nat.le_of_ble_eq_true rfl) ge1340 fun T1341 h1343 X1342 W1344 A1338 => ?_
  have KK := KK.wr W1344 (Or.inr sz_b1333)
  have A1338 : own_Ar Z h1343 b1333 .int [(.int (0 : Int32)), (.int (1 : Int32)), (.int (0 : Int32)), (.int (0 : Int32)), (.int (0 : Int32)), (.int (0 : Int32)), (.int (0 : Int32)), (.int (0 : Int32))] := A1338
  refine o_iinc cx X1342 (z := (1 : Int32)) (Ls' := #[rv aa, iv (Int32.ofNat nn), iv 7, rv rk, rv tx, rv pl, s6, rv b1333, rv tx, iv 4, iv 1, iv 0, .unset, .unset, .unset]) d1_48 rfl rfl rfl ?_
  refine o_goto cx X1342 23 d1_51 (by decide) (by decide) ?_
  refine o_iload cx X1342 d1_23 rfl ?_
  refine o_iload cx X1342 d1_25 rfl ?_
  refine o_icmpNo cx X1342 d1_27 (by decide) ?_
  refine o_aload cx X1342 d1_30 rfl rfl ?_
  refine o_iload cx X1342 d1_32 rfl ?_
  refine o_ldI cx X1342 (v := (.int (1 : Int32))) d1_34 (At.keep KK nin0) 1 (by decide) rfl rfl ?_
  refine o_istore cx X1342 (Ls' := #[rv aa, iv (Int32.ofNat nn), iv 7, rv rk, rv tx, rv pl, s6, rv b1333, rv tx, iv 4, iv 1, iv 1, .unset, .unset, .unset]) d1_35 rfl ?_
  refine o_aload cx X1342 d1_37 rfl rfl ?_
  refine o_iload cx X1342 d1_39 rfl ?_
  refine o_iconst cx X1342 (z := (1 : Int32)) d1_41 rfl ?_
  refine o_iadd cx X1342 (z := (2 : Int32)) d1_42 rfl ?_
  refine o_dup2 cx X1342 d1_43 rfl rfl ?_
  refine o_ldI cx X1342 (v := (.int (0 : Int32))) d1_44 A1338 2 (by decide) rfl rfl ?_
  refine o_iconst cx X1342 (z := (1 : Int32)) d1_45 rfl ?_
  refine o_iadd cx X1342 (z := (1 : Int32)) d1_46 rfl ?_
  refine o_stI cx X1342 d1_47 A1338 2 (by decide) rfl (Nat.le_of_ble_eq_true rfl) ge1340 fun T1345 h1347 X1346 W1348 A1338 => ?_
  have KK := KK.wr W1348 (Or.inr sz_b1333)
  have A1338 : own_Ar Z h1347 b1333 .int [(.int (0 : Int32)), (.int (1 : Int32)), (.int (1 : Int32)), (.int (0 : Int32)), (.int (0 : Int32)), (.int (0 : Int32)), (.int (0 : Int32)), (.int (0 : Int32))] := A1338
  refine o_iinc cx X1346 (z := (2 : Int32)) (Ls' := #[rv aa, iv (Int32.ofNat nn), iv 7, rv rk, rv tx, rv pl, s6, rv b1333, rv tx, iv 4, iv 2, iv 1, .unset, .unset, .unset]) d1_48 rfl rfl rfl ?_
  refine o_goto cx X1346 23 d1_51 (by decide) (by decide) ?_
  refine o_iload cx X1346 d1_23 rfl ?_
  refine o_iload cx X1346 d1_25 rfl ?_
  refine o_icmpNo cx X1346 d1_27 (by decide) ?_
  refine o_aload cx X1346 d1_30 rfl rfl ?_
  refine o_iload cx X1346 d1_32 rfl ?_
  refine o_ldI cx X1346 (v := (.int (2 : Int32))) d1_34 (At.keep KK nin0) 2 (by decide) rfl rfl ?_
  refine o_istore cx X1346 (Ls' := #[rv aa, iv (Int32.ofNat nn), iv 7, rv rk, rv tx, rv pl, s6, rv b1333, rv tx, iv 4, iv 2, iv 2, .unset, .unset, .unset]) d1_35 rfl ?_
  refine o_aload cx X1346 d1_37 rfl rfl ?_
  refine o_iload cx X1346 d1_39 rfl ?_
  refine o_iconst cx X1346 (z := (1 : Int32)) d1_41 rfl ?_
  refine o_iadd cx X1346 (z := (3 : Int32)) d1_42 rfl ?_
  refine o_dup2 cx X1346 d1_43 rfl rfl ?_
  refine o_ldI cx X1346 (v := (.int (0 : Int32))) d1_44 A1338 3 (by decide) rfl rfl ?_
  refine o_iconst cx X1346 (z := (1 : Int32)) d1_45 rfl ?_
  refine o_iadd cx X1346 (z := (1 : Int32)) d1_46 rfl ?_
  refine o_stI cx X1346 d1_47 A1338 3 (by decide) rfl (Nat.le_of_ble_eq_true rfl) ge1340 fun T1349 h1351 X1350 W1352 A1338 => ?_
  have KK := KK.wr W1352 (Or.inr sz_b1333)
  have A1338 : own_Ar Z h1351 b1333 .int [(.int (0 : Int32)), (.int (1 : Int32)), (.int (1 : Int32)), (.int (1 : Int32)), (.int (0 : Int32)), (.int (0 : Int32)), (.int (0 : Int32)), (.int (0 : Int32))] := A1338
  refine o_iinc cx X1350 (z := (3 : Int32)) (Ls' := #[rv aa, iv (Int32.ofNat nn), iv 7, rv rk, rv tx, rv pl, s6, rv b1333, rv tx, iv 4, iv 3, iv 2, .unset, .unset, .unset]) d1_48 rfl rfl rfl ?_
  refine o_goto cx X1350 23 d1_51 (by decide) (by decide) ?_
  refine o_iload cx X1350 d1_23 rfl ?_
  refine o_iload cx X1350 d1_25 rfl ?_
  refine o_icmpNo cx X1350 d1_27 (by decide) ?_
  refine o_aload cx X1350 d1_30 rfl rfl ?_
  refine o_iload cx X1350 d1_32 rfl ?_
  refine o_ldI cx X1350 (v := (.int (3 : Int32))) d1_34 (At.keep KK nin0) 3 (by decide) rfl rfl ?_
  refine o_istore cx X1350 (Ls' := #[rv aa, iv (Int32.ofNat nn), iv 7, rv rk, rv tx, rv pl, s6, rv b1333, rv tx, iv 4, iv 3, iv 3, .unset, .unset, .unset]) d1_35 rfl ?_
  refine o_aload cx X1350 d1_37 rfl rfl ?_
  refine o_iload cx X1350 d1_39 rfl ?_
  refine o_iconst cx X1350 (z := (1 : Int32)) d1_41 rfl ?_
  refine o_iadd cx X1350 (z := (4 : Int32)) d1_42 rfl ?_
  refine o_dup2 cx X1350 d1_43 rfl rfl ?_
  refine o_ldI cx X1350 (v := (.int (0 : Int32))) d1_44 A1338 4 (by decide) rfl rfl ?_
  refine o_iconst cx X1350 (z := (1 : Int32)) d1_45 rfl ?_
  refine o_iadd cx X1350 (z := (1 : Int32)) d1_46 rfl ?_
  refine o_stI cx X1350 d1_47 A1338 4 (by decide) rfl (Nat.le_of_ble_eq_true rfl) ge1340 fun T1353 h1355 X1354 W1356 A1338 => ?_
  have KK := KK.wr W1356 (Or.inr sz_b1333)
  have A1338 : own_Ar Z h1355 b1333 .int [(.int (0 : Int32)), (.int (1 : Int32)), (.int (1 : Int32)), (.int (1 : Int32)), (.int (1 : Int32)), (.int (0 : Int32)), (.int (0 : Int32)), (.int (0 : Int32))] := A1338
  refine o_iinc cx X1354 (z := (4 : Int32)) (Ls' := #[rv aa, iv (Int32.ofNat nn), iv 7, rv rk, rv tx, rv pl, s6, rv b1333, rv tx, iv 4, iv 4, iv 3, .unset, .unset, .unset]) d1_48 rfl rfl rfl ?_
  refine o_goto cx X1354 23 d1_51 (by decide) (by decide) ?_
  refine o_iload cx X1354 d1_23 rfl ?_
  refine o_iload cx X1354 d1_25 rfl ?_
  refine o_icmpYes cx X1354 54 d1_27 (by decide) (by decide) (by decide) ?_
  refine o_iconst cx X1354 (z := (0 : Int32)) d1_54 rfl ?_
  refine o_istore cx X1354 (Ls' := #[rv aa, iv (Int32.ofNat nn), iv 7, rv rk, rv tx, rv pl, s6, rv b1333, iv 0, iv 4, iv 4, iv 3, .unset, .unset, .unset]) d1_55 rfl ?_
  refine o_iload cx X1354 d1_57 rfl ?_
  refine o_iloadN cx X1354 d1_59 rfl ?_
  refine o_icmpNo cx X1354 d1_60 (by decide) ?_
  refine o_aload cx X1354 d1_63 rfl rfl ?_
  refine o_iload cx X1354 d1_65 rfl ?_
  refine o_iconst cx X1354 (z := (1 : Int32)) d1_67 rfl ?_
  refine o_iadd cx X1354 (z := (1 : Int32)) d1_68 rfl ?_
  refine o_dup2 cx X1354 d1_69 rfl rfl ?_
  refine o_ldI cx X1354 (v := (.int (1 : Int32))) d1_70 A1338 1 (by decide) rfl rfl ?_
  refine o_aload cx X1354 d1_71 rfl rfl ?_
  refine o_iload cx X1354 d1_73 rfl ?_
  refine o_ldI cx X1354 (v := (.int (0 : Int32))) d1_75 A1338 0 (by decide) rfl rfl ?_
  refine o_iadd cx X1354 (z := (1 : Int32)) d1_76 rfl ?_
  refine o_stI cx X1354 d1_77 A1338 1 (by decide) rfl (Nat.le_of_ble_eq_true rfl) ge1340 fun T1357 h1359 X1358 W1360 A1338 => ?_
  have KK := KK.wr W1360 (Or.inr sz_b1333)
  have A1338 : own_Ar Z h1359 b1333 .int [(.int (0 : Int32)), (.int (1 : Int32)), (.int (1 : Int32)), (.int (1 : Int32)), (.int (1 : Int32)), (.int (0 : Int32)), (.int (0 : Int32)), (.int (0 : Int32))] := A1338
  refine o_iinc cx X1358 (z := (1 : Int32)) (Ls' := #[rv aa, iv (Int32.ofNat nn), iv 7, rv rk, rv tx, rv pl, s6, rv b1333, iv 1, iv 4, iv 4, iv 3, .unset, .unset, .unset]) d1_78 rfl rfl rfl ?_
  refine o_goto cx X1358 57 d1_81 (by decide) (by decide) ?_
  refine o_iload cx X1358 d1_57 rfl ?_
  refine o_iloadN cx X1358 d1_59 rfl ?_
  refine o_icmpNo cx X1358 d1_60 (by decide) ?_
  refine o_aload cx X1358 d1_63 rfl rfl ?_
  refine o_iload cx X1358 d1_65 rfl ?_
  refine o_iconst cx X1358 (z := (1 : Int32)) d1_67 rfl ?_
  refine o_iadd cx X1358 (z := (2 : Int32)) d1_68 rfl ?_
  refine o_dup2 cx X1358 d1_69 rfl rfl ?_
  refine o_ldI cx X1358 (v := (.int (1 : Int32))) d1_70 A1338 2 (by decide) rfl rfl ?_
  refine o_aload cx X1358 d1_71 rfl rfl ?_
  refine o_iload cx X1358 d1_73 rfl ?_
  refine o_ldI cx X1358 (v := (.int (1 : Int32))) d1_75 A1338 1 (by decide) rfl rfl ?_
  refine o_iadd cx X1358 (z := (2 : Int32)) d1_76 rfl ?_
  refine o_stI cx X1358 d1_77 A1338 2 (by decide) rfl (Nat.le_of_ble_eq_true rfl) ge1340 fun T1361 h1363 X1362 W1364 A1338 => ?_
  have KK := KK.wr W1364 (Or.inr sz_b1333)
  have A1338 : own_Ar Z h1363 b1333 .int [(.int (0 : Int32)), (.int (1 : Int32)), (.int (2 : Int32)), (.int (1 : Int32)), (.int (1 : Int32)), (.int (0 : Int32)), (.int (0 : Int32)), (.int (0 : Int32))] := A1338
  refine o_iinc cx X1362 (z := (2 : Int32)) (Ls' := #[rv aa, iv (Int32.ofNat nn), iv 7, rv rk, rv tx, rv pl, s6, rv b1333, iv 2, iv 4, iv 4, iv 3, .unset, .unset, .unset]) d1_78 rfl rfl rfl ?_
  refine o_goto cx X1362 57 d1_81 (by decide) (by decide) ?_
  refine o_iload cx X1362 d1_57 rfl ?_
  refine o_iloadN cx X1362 d1_59 rfl ?_
  refine o_icmpNo cx X1362 d1_60 (by decide) ?_
  refine o_aload cx X1362 d1_63 rfl rfl ?_
  refine o_iload cx X1362 d1_65 rfl ?_
  refine o_iconst cx X1362 (z := (1 : Int32)) d1_67 rfl ?_
  refine o_iadd cx X1362 (z := (3 : Int32)) d1_68 rfl ?_
  refine o_dup2 cx X1362 d1_69 rfl rfl ?_
  refine o_ldI cx X1362 (v := (.int (1 : Int32))) d1_70 A1338 3 (by decide) rfl rfl ?_
  refine o_aload cx X1362 d1_71 rfl rfl ?_
  refine o_iload cx X1362 d1_73 rfl ?_
  refine o_ldI cx X1362 (v := (.int (2 : Int32))) d1_75 A1338 2 (by decide) rfl rfl ?_
  refine o_iadd cx X1362 (z := (3 : Int32)) d1_76 rfl ?_
  refine o_stI cx X1362 d1_77 A1338 3 (by decide) rfl (Nat.le_of_ble_eq_true rfl) ge1340 fun T1365 h1367 X1366 W1368 A1338 => ?_
  have KK := KK.wr W1368 (Or.inr sz_b1333)
  have A1338 : own_Ar Z h1367 b1333 .int [(.int (0 : Int32)), (.int (1 : Int32)), (.int (2 : Int32)), (.int (3 : Int32)), (.int (1 : Int32)), (.int (0 : Int32)), (.int (0 : Int32)), (.int (0 : Int32))] := A1338
  refine o_iinc cx X1366 (z := (3 : Int32)) (Ls' := #[rv aa, iv (Int32.ofNat nn), iv 7, rv rk, rv tx, rv pl, s6, rv b1333, iv 3, iv 4, iv 4, iv 3, .unset, .unset, .unset]) d1_78 rfl rfl rfl ?_
  refine o_goto cx X1366 57 d1_81 (by decide) (by decide) ?_
  refine o_iload cx X1366 d1_57 rfl ?_
  refine o_iloadN cx X1366 d1_59 rfl ?_
  refine o_icmpNo cx X1366 d1_60 (by decide) ?_
  refine o_aload cx X1366 d1_63 rfl rfl ?_
  refine o_iload cx X1366 d1_65 rfl ?_
  refine o_iconst cx X1366 (z := (1 : Int32)) d1_67 rfl ?_
  refine o_iadd cx X1366 (z := (4 : Int32)) d1_68 rfl ?_
  refine o_dup2 cx X1366 d1_69 rfl rfl ?_
  refine o_ldI cx X1366 (v := (.int (1 : Int32))) d1_70 A1338 4 (by decide) rfl rfl ?_
  refine o_aload cx X1366 d1_71 rfl rfl ?_
  refine o_iload cx X1366 d1_73 rfl ?_
  refine o_ldI cx X1366 (v := (.int (3 : Int32))) d1_75 A1338 3 (by decide) rfl rfl ?_
  refine o_iadd cx X1366 (z := (4 : Int32)) d1_76 rfl ?_
  refine o_stI cx X1366 d1_77 A1338 4 (by decide) rfl (Nat.le_of_ble_eq_true rfl) ge1340 fun T1369 h1371 X1370 W1372 A1338 => ?_
  have KK := KK.wr W1372 (Or.inr sz_b1333)
  have A1338 : own_Ar Z h1371 b1333 .int [(.int (0 : Int32)), (.int (1 : Int32)), (.int (2 : Int32)), (.int (3 : Int32)), (.int (4 : Int32)), (.int (0 : Int32)), (.int (0 : Int32)), (.int (0 : Int32))] := A1338
  refine o_iinc cx X1370 (z := (4 : Int32)) (Ls' := #[rv aa, iv (Int32.ofNat nn), iv 7, rv rk, rv tx, rv pl, s6, rv b1333, iv 4, iv 4, iv 4, iv 3, .unset, .unset, .unset]) d1_78 rfl rfl rfl ?_
  refine o_goto cx X1370 57 d1_81 (by decide) (by decide) ?_
  refine o_iload cx X1370 d1_57 rfl ?_
  refine o_iloadN cx X1370 d1_59 rfl ?_
  refine o_icmpNo cx X1370 d1_60 (by decide) ?_
  refine o_aload cx X1370 d1_63 rfl rfl ?_
  refine o_iload cx X1370 d1_65 rfl ?_
  refine o_iconst cx X1370 (z := (1 : Int32)) d1_67 rfl ?_
  refine o_iadd cx X1370 (z := (5 : Int32)) d1_68 rfl ?_
  refine o_dup2 cx X1370 d1_69 rfl rfl ?_
  refine o_ldI cx X1370 (v := (.int (0 : Int32))) d1_70 A1338 5 (by decide) rfl rfl ?_
  refine o_aload cx X1370 d1_71 rfl rfl ?_
  refine o_iload cx X1370 d1_73 rfl ?_
  refine o_ldI cx X1370 (v := (.int (4 : Int32))) d1_75 A1338 4 (by decide) rfl rfl ?_
  refine o_iadd cx X1370 (z := (4 : Int32)) d1_76 rfl ?_
  refine o_stI cx X1370 d1_77 A1338 5 (by decide) rfl (Nat.le_of_ble_eq_true rfl) ge1340 fun T1373 h1375 X1374 W1376 A1338 => ?_
  have KK := KK.wr W1376 (Or.inr sz_b1333)
  have A1338 : own_Ar Z h1375 b1333 .int [(.int (0 : Int32)), (.int (1 : Int32)), (.int (2 : Int32)), (.int (3 : Int32)), (.int (4 : Int32)), (.int (4 : Int32)), (.int (0 : Int32)), (.int (0 : Int32))] := A1338
  refine o_iinc cx X1374 (z := (5 : Int32)) (Ls' := #[rv aa, iv (Int32.ofNat nn), iv 7, rv rk, rv tx, rv pl, s6, rv b1333, iv 5, iv 4, iv 4, iv 3, .unset, .unset, .unset]) d1_78 rfl rfl rfl ?_
  refine o_goto cx X1374 57 d1_81 (by decide) (by decide) ?_
  refine o_iload cx X1374 d1_57 rfl ?_
  refine o_iloadN cx X1374 d1_59 rfl ?_
  refine o_icmpNo cx X1374 d1_60 (by decide) ?_
  refine o_aload cx X1374 d1_63 rfl rfl ?_
  refine o_iload cx X1374 d1_65 rfl ?_
  refine o_iconst cx X1374 (z := (1 : Int32)) d1_67 rfl ?_
  refine o_iadd cx X1374 (z := (6 : Int32)) d1_68 rfl ?_
  refine o_dup2 cx X1374 d1_69 rfl rfl ?_
  refine o_ldI cx X1374 (v := (.int (0 : Int32))) d1_70 A1338 6 (by decide) rfl rfl ?_
  refine o_aload cx X1374 d1_71 rfl rfl ?_
  refine o_iload cx X1374 d1_73 rfl ?_
  refine o_ldI cx X1374 (v := (.int (4 : Int32))) d1_75 A1338 5 (by decide) rfl rfl ?_
  refine o_iadd cx X1374 (z := (4 : Int32)) d1_76 rfl ?_
  refine o_stI cx X1374 d1_77 A1338 6 (by decide) rfl (Nat.le_of_ble_eq_true rfl) ge1340 fun T1377 h1379 X1378 W1380 A1338 => ?_
  have KK := KK.wr W1380 (Or.inr sz_b1333)
  have A1338 : own_Ar Z h1379 b1333 .int [(.int (0 : Int32)), (.int (1 : Int32)), (.int (2 : Int32)), (.int (3 : Int32)), (.int (4 : Int32)), (.int (4 : Int32)), (.int (4 : Int32)), (.int (0 : Int32))] := A1338
  refine o_iinc cx X1378 (z := (6 : Int32)) (Ls' := #[rv aa, iv (Int32.ofNat nn), iv 7, rv rk, rv tx, rv pl, s6, rv b1333, iv 6, iv 4, iv 4, iv 3, .unset, .unset, .unset]) d1_78 rfl rfl rfl ?_
  refine o_goto cx X1378 57 d1_81 (by decide) (by decide) ?_
  refine o_iload cx X1378 d1_57 rfl ?_
  refine o_iloadN cx X1378 d1_59 rfl ?_
  refine o_icmpNo cx X1378 d1_60 (by decide) ?_
  refine o_aload cx X1378 d1_63 rfl rfl ?_
  refine o_iload cx X1378 d1_65 rfl ?_
  refine o_iconst cx X1378 (z := (1 : Int32)) d1_67 rfl ?_
  refine o_iadd cx X1378 (z := (7 : Int32)) d1_68 rfl ?_
  refine o_dup2 cx X1378 d1_69 rfl rfl ?_
  refine o_ldI cx X1378 (v := (.int (0 : Int32))) d1_70 A1338 7 (by decide) rfl rfl ?_
  refine o_aload cx X1378 d1_71 rfl rfl ?_
  refine o_iload cx X1378 d1_73 rfl ?_
  refine o_ldI cx X1378 (v := (.int (4 : Int32))) d1_75 A1338 6 (by decide) rfl rfl ?_
  refine o_iadd cx X1378 (z := (4 : Int32)) d1_76 rfl ?_
  refine o_stI cx X1378 d1_77 A1338 7 (by decide) rfl (Nat.le_of_ble_eq_true rfl) ge1340 fun T1381 h1383 X1382 W1384 A1338 => ?_
  have KK := KK.wr W1384 (Or.inr sz_b1333)
  have A1338 : own_Ar Z h1383 b1333 .int [(.int (0 : Int32)), (.int (1 : Int32)), (.int (2 : Int32)), (.int (3 : Int32)), (.int (4 : Int32)), (.int (4 : Int32)), (.int (4 : Int32)), (.int (4 : Int32))] := A1338
  refine o_iinc cx X1382 (z := (7 : Int32)) (Ls' := #[rv aa, iv (Int32.ofNat nn), iv 7, rv rk, rv tx, rv pl, s6, rv b1333, iv 7, iv 4, iv 4, iv 3, .unset, .unset, .unset]) d1_78 rfl rfl rfl ?_
  refine o_goto cx X1382 57 d1_81 (by decide) (by decide) ?_
  refine o_iload cx X1382 d1_57 rfl ?_
  refine o_iloadN cx X1382 d1_59 rfl ?_
  refine o_icmpYes cx X1382 84 d1_60 (by decide) (by decide) (by decide) ?_
  refine o_aload cx X1382 d1_84 rfl rfl ?_
  refine o_len cx X1382 (z := (4 : Int32)) d1_86 (At.keep KK nin0) rfl ?_
  refine o_newP cx X1382 d1_87 (o_w hw 1 rfl) (by decide) 4 4 rfl (Nat.le_refl _) (by decide) (by decide) (by decide) fun T1386 h1388 b1385 gb1391 ge1392 X1387 E1389 A1390 => ?_
  have ne_b1333_b1385 : b1333 ≠ b1385 := by rw [gb1391]; exact Nat.ne_of_lt A1338.lt
  have sz_b1385 : h0.size ≤ b1385 := by rw [gb1391]; exact KK.1
  have A1338 := A1338.ext E1389
  have KK := KK.ext E1389
  have A1390 : own_Ar Z h1388 b1385 .int [(.int (0 : Int32)), (.int (0 : Int32)), (.int (0 : Int32)), (.int (0 : Int32))] := A1390
  refine o_astore cx X1387 (Ls' := #[rv aa, iv (Int32.ofNat nn), iv 7, rv rk, rv tx, rv pl, s6, rv b1333, rv b1385, iv 4, iv 4, iv 3, .unset, .unset, .unset]) d1_89 rfl rfl ?_
  refine o_iconst cx X1387 (z := (0 : Int32)) d1_91 rfl ?_
  refine o_istore cx X1387 (Ls' := #[rv aa, iv (Int32.ofNat nn), iv 7, rv rk, rv tx, rv pl, s6, rv b1333, rv b1385, iv 0, iv 4, iv 3, .unset, .unset, .unset]) d1_92 rfl ?_
  refine o_iload cx X1387 d1_94 rfl ?_
  refine o_aload cx X1387 d1_96 rfl rfl ?_
  refine o_len cx X1387 (z := (4 : Int32)) d1_98 (At.keep KK nin0) rfl ?_
  refine o_icmpNo cx X1387 d1_99 (by decide) ?_
  refine o_aload cx X1387 d1_102 rfl rfl ?_
  refine o_aload cx X1387 d1_104 rfl rfl ?_
  refine o_aload cx X1387 d1_106 rfl rfl ?_
  refine o_iload cx X1387 d1_108 rfl ?_
  refine o_ldI cx X1387 (v := (.int (0 : Int32))) d1_110 (At.keep KK nin0) 0 (by decide) rfl rfl ?_
  refine o_dup2 cx X1387 d1_111 rfl rfl ?_
  refine o_ldI cx X1387 (v := (.int (0 : Int32))) d1_112 A1338 0 (by decide) rfl rfl ?_
  refine o_dup_x2 cx X1387 d1_113 rfl rfl rfl ?_
  refine o_iconst cx X1387 (z := (1 : Int32)) d1_114 rfl ?_
  refine o_iadd cx X1387 (z := (1 : Int32)) d1_115 rfl ?_
  refine o_stI cx X1387 d1_116 A1338 0 (by decide) rfl (Nat.le_of_ble_eq_true rfl) ge1340 fun T1393 h1395 X1394 W1396 A1338 => ?_
  have A1390 := A1390.other W1396 (Ne.symm ne_b1333_b1385)
  have KK := KK.wr W1396 (Or.inr sz_b1333)
  have A1338 : own_Ar Z h1395 b1333 .int [(.int (1 : Int32)), (.int (1 : Int32)), (.int (2 : Int32)), (.int (3 : Int32)), (.int (4 : Int32)), (.int (4 : Int32)), (.int (4 : Int32)), (.int (4 : Int32))] := A1338
  refine o_iload cx X1394 d1_117 rfl ?_
  refine o_stI cx X1394 d1_119 A1390 0 (by decide) rfl (Nat.le_of_ble_eq_true rfl) ge1392 fun T1397 h1399 X1398 W1400 A1390 => ?_
  have A1338 := A1338.other W1400 ne_b1333_b1385
  have KK := KK.wr W1400 (Or.inr sz_b1385)
  have A1390 : own_Ar Z h1399 b1385 .int [(.int (0 : Int32)), (.int (0 : Int32)), (.int (0 : Int32)), (.int (0 : Int32))] := A1390
  refine o_iinc cx X1398 (z := (1 : Int32)) (Ls' := #[rv aa, iv (Int32.ofNat nn), iv 7, rv rk, rv tx, rv pl, s6, rv b1333, rv b1385, iv 1, iv 4, iv 3, .unset, .unset, .unset]) d1_120 rfl rfl rfl ?_
  refine o_goto cx X1398 94 d1_123 (by decide) (by decide) ?_
  refine o_iload cx X1398 d1_94 rfl ?_
  refine o_aload cx X1398 d1_96 rfl rfl ?_
  refine o_len cx X1398 (z := (4 : Int32)) d1_98 (At.keep KK nin0) rfl ?_
  refine o_icmpNo cx X1398 d1_99 (by decide) ?_
  refine o_aload cx X1398 d1_102 rfl rfl ?_
  refine o_aload cx X1398 d1_104 rfl rfl ?_
  refine o_aload cx X1398 d1_106 rfl rfl ?_
  refine o_iload cx X1398 d1_108 rfl ?_
  refine o_ldI cx X1398 (v := (.int (1 : Int32))) d1_110 (At.keep KK nin0) 1 (by decide) rfl rfl ?_
  refine o_dup2 cx X1398 d1_111 rfl rfl ?_
  refine o_ldI cx X1398 (v := (.int (1 : Int32))) d1_112 A1338 1 (by decide) rfl rfl ?_
  refine o_dup_x2 cx X1398 d1_113 rfl rfl rfl ?_
  refine o_iconst cx X1398 (z := (1 : Int32)) d1_114 rfl ?_
  refine o_iadd cx X1398 (z := (2 : Int32)) d1_115 rfl ?_
  refine o_stI cx X1398 d1_116 A1338 1 (by decide) rfl (Nat.le_of_ble_eq_true rfl) ge1340 fun T1401 h1403 X1402 W1404 A1338 => ?_
  have A1390 := A1390.other W1404 (Ne.symm ne_b1333_b1385)
  have KK := KK.wr W1404 (Or.inr sz_b1333)
  have A1338 : own_Ar Z h1403 b1333 .int [(.int (1 : Int32)), (.int (2 : Int32)), (.int (2 : Int32)), (.int (3 : Int32)), (.int (4 : Int32)), (.int (4 : Int32)), (.int (4 : Int32)), (.int (4 : Int32))] := A1338
  refine o_iload cx X1402 d1_117 rfl ?_
  refine o_stI cx X1402 d1_119 A1390 1 (by decide) rfl (Nat.le_of_ble_eq_true rfl) ge1392 fun T1405 h1407 X1406 W1408 A1390 => ?_
  have A1338 := A1338.other W1408 ne_b1333_b1385
  have KK := KK.wr W1408 (Or.inr sz_b1385)
  have A1390 : own_Ar Z h1407 b1385 .int [(.int (0 : Int32)), (.int (1 : Int32)), (.int (0 : Int32)), (.int (0 : Int32))] := A1390
  refine o_iinc cx X1406 (z := (2 : Int32)) (Ls' := #[rv aa, iv (Int32.ofNat nn), iv 7, rv rk, rv tx, rv pl, s6, rv b1333, rv b1385, iv 2, iv 4, iv 3, .unset, .unset, .unset]) d1_120 rfl rfl rfl ?_
  refine o_goto cx X1406 94 d1_123 (by decide) (by decide) ?_
  refine o_iload cx X1406 d1_94 rfl ?_
  refine o_aload cx X1406 d1_96 rfl rfl ?_
  refine o_len cx X1406 (z := (4 : Int32)) d1_98 (At.keep KK nin0) rfl ?_
  refine o_icmpNo cx X1406 d1_99 (by decide) ?_
  refine o_aload cx X1406 d1_102 rfl rfl ?_
  refine o_aload cx X1406 d1_104 rfl rfl ?_
  refine o_aload cx X1406 d1_106 rfl rfl ?_
  refine o_iload cx X1406 d1_108 rfl ?_
  refine o_ldI cx X1406 (v := (.int (2 : Int32))) d1_110 (At.keep KK nin0) 2 (by decide) rfl rfl ?_
  refine o_dup2 cx X1406 d1_111 rfl rfl ?_
  refine o_ldI cx X1406 (v := (.int (2 : Int32))) d1_112 A1338 2 (by decide) rfl rfl ?_
  refine o_dup_x2 cx X1406 d1_113 rfl rfl rfl ?_
  refine o_iconst cx X1406 (z := (1 : Int32)) d1_114 rfl ?_
  refine o_iadd cx X1406 (z := (3 : Int32)) d1_115 rfl ?_
  refine o_stI cx X1406 d1_116 A1338 2 (by decide) rfl (Nat.le_of_ble_eq_true rfl) ge1340 fun T1409 h1411 X1410 W1412 A1338 => ?_
  have A1390 := A1390.other W1412 (Ne.symm ne_b1333_b1385)
  have KK := KK.wr W1412 (Or.inr sz_b1333)
  have A1338 : own_Ar Z h1411 b1333 .int [(.int (1 : Int32)), (.int (2 : Int32)), (.int (3 : Int32)), (.int (3 : Int32)), (.int (4 : Int32)), (.int (4 : Int32)), (.int (4 : Int32)), (.int (4 : Int32))] := A1338
  refine o_iload cx X1410 d1_117 rfl ?_
  refine o_stI cx X1410 d1_119 A1390 2 (by decide) rfl (Nat.le_of_ble_eq_true rfl) ge1392 fun T1413 h1415 X1414 W1416 A1390 => ?_
  have A1338 := A1338.other W1416 ne_b1333_b1385
  have KK := KK.wr W1416 (Or.inr sz_b1385)
  have A1390 : own_Ar Z h1415 b1385 .int [(.int (0 : Int32)), (.int (1 : Int32)), (.int (2 : Int32)), (.int (0 : Int32))] := A1390
  refine o_iinc cx X1414 (z := (3 : Int32)) (Ls' := #[rv aa, iv (Int32.ofNat nn), iv 7, rv rk, rv tx, rv pl, s6, rv b1333, rv b1385, iv 3, iv 4, iv 3, .unset, .unset, .unset]) d1_120 rfl rfl rfl ?_
  refine o_goto cx X1414 94 d1_123 (by decide) (by decide) ?_
  refine o_iload cx X1414 d1_94 rfl ?_
  refine o_aload cx X1414 d1_96 rfl rfl ?_
  refine o_len cx X1414 (z := (4 : Int32)) d1_98 (At.keep KK nin0) rfl ?_
  refine o_icmpNo cx X1414 d1_99 (by decide) ?_
  refine o_aload cx X1414 d1_102 rfl rfl ?_
  refine o_aload cx X1414 d1_104 rfl rfl ?_
  refine o_aload cx X1414 d1_106 rfl rfl ?_
  refine o_iload cx X1414 d1_108 rfl ?_
  refine o_ldI cx X1414 (v := (.int (3 : Int32))) d1_110 (At.keep KK nin0) 3 (by decide) rfl rfl ?_
  refine o_dup2 cx X1414 d1_111 rfl rfl ?_
  refine o_ldI cx X1414 (v := (.int (3 : Int32))) d1_112 A1338 3 (by decide) rfl rfl ?_
  refine o_dup_x2 cx X1414 d1_113 rfl rfl rfl ?_
  refine o_iconst cx X1414 (z := (1 : Int32)) d1_114 rfl ?_
  refine o_iadd cx X1414 (z := (4 : Int32)) d1_115 rfl ?_
  refine o_stI cx X1414 d1_116 A1338 3 (by decide) rfl (Nat.le_of_ble_eq_true rfl) ge1340 fun T1417 h1419 X1418 W1420 A1338 => ?_
  have A1390 := A1390.other W1420 (Ne.symm ne_b1333_b1385)
  have KK := KK.wr W1420 (Or.inr sz_b1333)
  have A1338 : own_Ar Z h1419 b1333 .int [(.int (1 : Int32)), (.int (2 : Int32)), (.int (3 : Int32)), (.int (4 : Int32)), (.int (4 : Int32)), (.int (4 : Int32)), (.int (4 : Int32)), (.int (4 : Int32))] := A1338
  refine o_iload cx X1418 d1_117 rfl ?_
  refine o_stI cx X1418 d1_119 A1390 3 (by decide) rfl (Nat.le_of_ble_eq_true rfl) ge1392 fun T1421 h1423 X1422 W1424 A1390 => ?_
  have A1338 := A1338.other W1424 ne_b1333_b1385
  have KK := KK.wr W1424 (Or.inr sz_b1385)
  have A1390 : own_Ar Z h1423 b1385 .int [(.int (0 : Int32)), (.int (1 : Int32)), (.int (2 : Int32)), (.int (3 : Int32))] := A1390
  refine o_iinc cx X1422 (z := (4 : Int32)) (Ls' := #[rv aa, iv (Int32.ofNat nn), iv 7, rv rk, rv tx, rv pl, s6, rv b1333, rv b1385, iv 4, iv 4, iv 3, .unset, .unset, .unset]) d1_120 rfl rfl rfl ?_
  refine o_goto cx X1422 94 d1_123 (by decide) (by decide) ?_
  refine o_iload cx X1422 d1_94 rfl ?_
  refine o_aload cx X1422 d1_96 rfl rfl ?_
  refine o_len cx X1422 (z := (4 : Int32)) d1_98 (At.keep KK nin0) rfl ?_
  refine o_icmpYes cx X1422 126 d1_99 (by decide) (by decide) (by decide) ?_
  have ne_aa_b1385 : aa ≠ b1385 := Nat.ne_of_lt (Nat.lt_of_lt_of_le E0.lt sz_b1385)
  exact kk _ _ b1333 b1385 (4 : Int32) (4 : Int32) (3 : Int32) (X1422.more (by decide) (by decide)) ge1392 ne_aa_b1385  (E0.keep KK) (F0.keep KK nin0) (F1.keep KK nin0) (F2.keep KK nin0) (F3.keep KK nin0) (Ar.keep KK nin0) (At.keep KK nin0) (Ap.keep KK nin0) (Ac.keep KK nin0) A1390
set_option maxRecDepth 65536 in
set_option maxHeartbeats 40000000 in
theorem segA_7_1 {p : Program} {l : Launch} {e : Env} {s : State} {m : MethodId} {below : List Frame} {meth : Method} {c : Code} {n0 : Nat} {T0 : State} {h0 : Heap} {Z : State} {a0 : Array Value} {args : Array Value} {P : State → Outcome → Prop} (hw : ∀ d ∈ tables_1, d.before a0 Z = true) (aa rk tx pl : Addr) (nn k0 k1 k2 k3 : Nat) (v0 v1 v2 v3 : Int32) (s6 : Slot) (cv : Addr) (vcs : List Value) (cx : own_Cx p s m meth c Z prog_28_method_2_code 15 (⟨"com/example/rough_dedup/roughdedup/ShingleIndex$Postings", "<init>", "(II[I[I[I[I)V"⟩ : MethodName) none) (X0 : own_Sd p l e ({ frames := 2, cells := 7, slots := 41, locals := 74 } : Room) s m args below meth c n0 T0 h0 0 0) (ga : n0 ≤ aa) (ne_aa_rk : aa ≠ rk) (ne_aa_tx : aa ≠ tx) (ne_aa_pl : aa ≠ pl) (E0 : Exa Z h0 aa "com/example/rough_dedup/roughdedup/ShingleIndex$Postings") (F0 : Fld Z h0 aa "com/example/rough_dedup/roughdedup/ShingleIndex$Postings" "starts" "[I" .null) (F1 : Fld Z h0 aa "com/example/rough_dedup/roughdedup/ShingleIndex$Postings" "texts" "[I" .null) (F2 : Fld Z h0 aa "com/example/rough_dedup/roughdedup/ShingleIndex$Postings" "places" "[I" .null) (F3 : Fld Z h0 aa "com/example/rough_dedup/roughdedup/ShingleIndex$Postings" "covered" "[I" .null) (Ar : own_Ar Z h0 rk .int [(.int (Int32.ofNat k0)), (.int (Int32.ofNat k1)), (.int (Int32.ofNat k2)), (.int (Int32.ofNat k3))]) (At : own_Ar Z h0 tx .int [(.int (1 : Int32)), (.int (2 : Int32)), (.int (3 : Int32)), (.int (4 : Int32))]) (Ap : own_Ar Z h0 pl .int [(.int v0), (.int v1), (.int v2), (.int v3)]) (Ac : own_Ar Z h0 cv .int vcs) (kk : ∀ (T : State) (h : Heap) (ts bt : Addr) (x9 x10 x11 : Int32), own_Sd p l e ({ frames := 2, cells := 7, slots := 41, locals := 74 } : Room) s m args below meth c n0 T h 2 12 → n0 ≤ bt → aa ≠ bt → Exa Z h aa "com/example/rough_dedup/roughdedup/ShingleIndex$Postings" → Fld Z h aa "com/example/rough_dedup/roughdedup/ShingleIndex$Postings" "starts" "[I" .null → Fld Z h aa "com/example/rough_dedup/roughdedup/ShingleIndex$Postings" "texts" "[I" .null → Fld Z h aa "com/example/rough_dedup/roughdedup/ShingleIndex$Postings" "places" "[I" .null → Fld Z h aa "com/example/rough_dedup/roughdedup/ShingleIndex$Postings" "covered" "[I" .null → own_Ar Z h rk .int [(.int (Int32.ofNat k0)), (.int (Int32.ofNat k1)), (.int (Int32.ofNat k2)), (.int (Int32.ofNat k3))] → own_Ar Z h tx .int [(.int (1 : Int32)), (.int (2 : Int32)), (.int (3 : Int32)), (.int (4 : Int32))] → own_Ar Z h pl .int [(.int v0), (.int v1), (.int v2), (.int v3)] → own_Ar Z h cv .int vcs → own_Ar Z h bt .int [(.int (0 : Int32)), (.int (1 : Int32)), (.int (2 : Int32)), (.int (3 : Int32))] → own_Go p e below P (T.setTop (mkF m 126 #[rv aa, iv (Int32.ofNat nn), iv 7, rv rk, rv tx, rv pl, s6, .val (.ref ts), .val (.ref bt), .val (.int x9), .val (.int x10), .val (.int x11), .unset, .unset, .unset] []))) :
    own_Go p e below P (T0.setTop (mkF m 0 #[rv aa, iv (Int32.ofNat nn), iv 7, rv rk, rv tx, rv pl, s6, .unset, .unset, .unset, .unset, .unset, .unset, .unset, .unset] [])) := by
  have KK := Keep.refl h0 []
  refine o_aloadN cx X0 d1_0 rfl rfl ?_
  refine o_initO cx X0 d1_1 (o_w hw 9 rfl) (o_w hw 10 rfl) (o_w hw 11 rfl) rfl (by decide) 0 rfl (by decide) fun T1425 X1426 => ?_
  refine o_iloadN cx X1426 d1_4 rfl ?_
  refine o_iconst cx X1426 (z := (1 : Int32)) d1_5 rfl ?_
  refine o_iadd cx X1426 (z := (8 : Int32)) d1_6 rfl ?_
  refine o_newP cx X1426 d1_7 (o_w hw 1 rfl) (by decide) 8 8 rfl (Nat.le_refl _) (by decide) (by decide) (by decide) fun T1428 h1430 b1427 gb1433 ge1434 X1429 E1431 A1432 => ?_
  have sz_b1427 : h0.size ≤ b1427 := by rw [gb1433]; exact KK.1
  have KK := KK.ext E1431
  have A1432 : own_Ar Z h1430 b1427 .int [(.int (0 : Int32)), (.int (0 : Int32)), (.int (0 : Int32)), (.int (0 : Int32)), (.int (0 : Int32)), (.int (0 : Int32)), (.int (0 : Int32)), (.int (0 : Int32))] := A1432
  refine o_astore cx X1429 (Ls' := #[rv aa, iv (Int32.ofNat nn), iv 7, rv rk, rv tx, rv pl, s6, rv b1427, .unset, .unset, .unset, .unset, .unset, .unset, .unset]) d1_9 rfl rfl ?_
  refine o_aload cx X1429 d1_11 rfl rfl ?_
  refine o_astore cx X1429 (Ls' := #[rv aa, iv (Int32.ofNat nn), iv 7, rv rk, rv tx, rv pl, s6, rv b1427, rv tx, .unset, .unset, .unset, .unset, .unset, .unset]) d1_13 rfl rfl ?_
  refine o_aload cx X1429 d1_15 rfl rfl ?_
  refine o_len cx X1429 (z := (4 : Int32)) d1_17 (At.keep KK nin0) rfl ?_
  refine o_istore cx X1429 (Ls' := #[rv aa, iv (Int32.ofNat nn), iv 7, rv rk, rv tx, rv pl, s6, rv b1427, rv tx, iv 4, .unset, .unset, .unset, .unset, .unset]) d1_18 rfl ?_
  refine o_iconst cx X1429 (z := (0 : Int32)) d1_20 rfl ?_
  refine o_istore cx X1429 (Ls' := #[rv aa, iv (Int32.ofNat nn), iv 7, rv rk, rv tx, rv pl, s6, rv b1427, rv tx, iv 4, iv 0, .unset, .unset, .unset, .unset]) d1_21 rfl ?_
  refine o_iload cx X1429 d1_23 rfl ?_
  refine o_iload cx X1429 d1_25 rfl ?_
  refine o_icmpNo cx X1429 d1_27 (by decide) ?_
  refine o_aload cx X1429 d1_30 rfl rfl ?_
  refine o_iload cx X1429 d1_32 rfl ?_
  refine o_ldI cx X1429 (v := (.int (1 : Int32))) d1_34 (At.keep KK nin0) 0 (by decide) rfl rfl ?_
  refine o_istore cx X1429 (Ls' := #[rv aa, iv (Int32.ofNat nn), iv 7, rv rk, rv tx, rv pl, s6, rv b1427, rv tx, iv 4, iv 0, iv 1, .unset, .unset, .unset]) d1_35 rfl ?_
  refine o_aload cx X1429 d1_37 rfl rfl ?_
  refine o_iload cx X1429 d1_39 rfl ?_
  refine o_iconst cx X1429 (z := (1 : Int32)) d1_41 rfl ?_
  refine o_iadd cx X1429 (z := (2 : Int32)) d1_42 rfl ?_
  refine o_dup2 cx X1429 d1_43 rfl rfl ?_
  refine o_ldI cx X1429 (v := (.int (0 : Int32))) d1_44 A1432 2 (by decide) rfl rfl ?_
  refine o_iconst cx X1429 (z := (1 : Int32)) d1_45 rfl ?_
  refine o_iadd cx X1429 (z := (1 : Int32)) d1_46 rfl ?_
  refine o_stI cx X1429 d1_47 A1432 2 (by decide) rfl (Nat.le_of_ble_eq_true rfl) ge1434 fun T1435 h1437 X1436 W1438 A1432 => ?_
  have KK := KK.wr W1438 (Or.inr sz_b1427)
  have A1432 : own_Ar Z h1437 b1427 .int [(.int (0 : Int32)), (.int (0 : Int32)), (.int (1 : Int32)), (.int (0 : Int32)), (.int (0 : Int32)), (.int (0 : Int32)), (.int (0 : Int32)), (.int (0 : Int32))] := A1432
  refine o_iinc cx X1436 (z := (1 : Int32)) (Ls' := #[rv aa, iv (Int32.ofNat nn), iv 7, rv rk, rv tx, rv pl, s6, rv b1427, rv tx, iv 4, iv 1, iv 1, .unset, .unset, .unset]) d1_48 rfl rfl rfl ?_
  refine o_goto cx X1436 23 d1_51 (by decide) (by decide) ?_
  refine o_iload cx X1436 d1_23 rfl ?_
  refine o_iload cx X1436 d1_25 rfl ?_
  refine o_icmpNo cx X1436 d1_27 (by decide) ?_
  refine o_aload cx X1436 d1_30 rfl rfl ?_
  refine o_iload cx X1436 d1_32 rfl ?_
  refine o_ldI cx X1436 (v := (.int (2 : Int32))) d1_34 (At.keep KK nin0) 1 (by decide) rfl rfl ?_
  refine o_istore cx X1436 (Ls' := #[rv aa, iv (Int32.ofNat nn), iv 7, rv rk, rv tx, rv pl, s6, rv b1427, rv tx, iv 4, iv 1, iv 2, .unset, .unset, .unset]) d1_35 rfl ?_
  refine o_aload cx X1436 d1_37 rfl rfl ?_
  refine o_iload cx X1436 d1_39 rfl ?_
  refine o_iconst cx X1436 (z := (1 : Int32)) d1_41 rfl ?_
  refine o_iadd cx X1436 (z := (3 : Int32)) d1_42 rfl ?_
  refine o_dup2 cx X1436 d1_43 rfl rfl ?_
  refine o_ldI cx X1436 (v := (.int (0 : Int32))) d1_44 A1432 3 (by decide) rfl rfl ?_
  refine o_iconst cx X1436 (z := (1 : Int32)) d1_45 rfl ?_
  refine o_iadd cx X1436 (z := (1 : Int32)) d1_46 rfl ?_
  refine o_stI cx X1436 d1_47 A1432 3 (by decide) rfl (Nat.le_of_ble_eq_true rfl) ge1434 fun T1439 h1441 X1440 W1442 A1432 => ?_
  have KK := KK.wr W1442 (Or.inr sz_b1427)
  have A1432 : own_Ar Z h1441 b1427 .int [(.int (0 : Int32)), (.int (0 : Int32)), (.int (1 : Int32)), (.int (1 : Int32)), (.int (0 : Int32)), (.int (0 : Int32)), (.int (0 : Int32)), (.int (0 : Int32))] := A1432
  refine o_iinc cx X1440 (z := (2 : Int32)) (Ls' := #[rv aa, iv (Int32.ofNat nn), iv 7, rv rk, rv tx, rv pl, s6, rv b1427, rv tx, iv 4, iv 2, iv 2, .unset, .unset, .unset]) d1_48 rfl rfl rfl ?_
  refine o_goto cx X1440 23 d1_51 (by decide) (by decide) ?_
  refine o_iload cx X1440 d1_23 rfl ?_
  refine o_iload cx X1440 d1_25 rfl ?_
  refine o_icmpNo cx X1440 d1_27 (by decide) ?_
  refine o_aload cx X1440 d1_30 rfl rfl ?_
  refine o_iload cx X1440 d1_32 rfl ?_
  refine o_ldI cx X1440 (v := (.int (3 : Int32))) d1_34 (At.keep KK nin0) 2 (by decide) rfl rfl ?_
  refine o_istore cx X1440 (Ls' := #[rv aa, iv (Int32.ofNat nn), iv 7, rv rk, rv tx, rv pl, s6, rv b1427, rv tx, iv 4, iv 2, iv 3, .unset, .unset, .unset]) d1_35 rfl ?_
  refine o_aload cx X1440 d1_37 rfl rfl ?_
  refine o_iload cx X1440 d1_39 rfl ?_
  refine o_iconst cx X1440 (z := (1 : Int32)) d1_41 rfl ?_
  refine o_iadd cx X1440 (z := (4 : Int32)) d1_42 rfl ?_
  refine o_dup2 cx X1440 d1_43 rfl rfl ?_
  refine o_ldI cx X1440 (v := (.int (0 : Int32))) d1_44 A1432 4 (by decide) rfl rfl ?_
  refine o_iconst cx X1440 (z := (1 : Int32)) d1_45 rfl ?_
  refine o_iadd cx X1440 (z := (1 : Int32)) d1_46 rfl ?_
  refine o_stI cx X1440 d1_47 A1432 4 (by decide) rfl (Nat.le_of_ble_eq_true rfl) ge1434 fun T1443 h1445 X1444 W1446 A1432 => ?_
  have KK := KK.wr W1446 (Or.inr sz_b1427)
  have A1432 : own_Ar Z h1445 b1427 .int [(.int (0 : Int32)), (.int (0 : Int32)), (.int (1 : Int32)), (.int (1 : Int32)), (.int (1 : Int32)), (.int (0 : Int32)), (.int (0 : Int32)), (.int (0 : Int32))] := A1432
  refine o_iinc cx X1444 (z := (3 : Int32)) (Ls' := #[rv aa, iv (Int32.ofNat nn), iv 7, rv rk, rv tx, rv pl, s6, rv b1427, rv tx, iv 4, iv 3, iv 3, .unset, .unset, .unset]) d1_48 rfl rfl rfl ?_
  refine o_goto cx X1444 23 d1_51 (by decide) (by decide) ?_
  refine o_iload cx X1444 d1_23 rfl ?_
  refine o_iload cx X1444 d1_25 rfl ?_
  refine o_icmpNo cx X1444 d1_27 (by decide) ?_
  refine o_aload cx X1444 d1_30 rfl rfl ?_
  refine o_iload cx X1444 d1_32 rfl ?_
  refine o_ldI cx X1444 (v := (.int (4 : Int32))) d1_34 (At.keep KK nin0) 3 (by decide) rfl rfl ?_
  refine o_istore cx X1444 (Ls' := #[rv aa, iv (Int32.ofNat nn), iv 7, rv rk, rv tx, rv pl, s6, rv b1427, rv tx, iv 4, iv 3, iv 4, .unset, .unset, .unset]) d1_35 rfl ?_
  refine o_aload cx X1444 d1_37 rfl rfl ?_
  refine o_iload cx X1444 d1_39 rfl ?_
  refine o_iconst cx X1444 (z := (1 : Int32)) d1_41 rfl ?_
  refine o_iadd cx X1444 (z := (5 : Int32)) d1_42 rfl ?_
  refine o_dup2 cx X1444 d1_43 rfl rfl ?_
  refine o_ldI cx X1444 (v := (.int (0 : Int32))) d1_44 A1432 5 (by decide) rfl rfl ?_
  refine o_iconst cx X1444 (z := (1 : Int32)) d1_45 rfl ?_
  refine o_iadd cx X1444 (z := (1 : Int32)) d1_46 rfl ?_
  refine o_stI cx X1444 d1_47 A1432 5 (by decide) rfl (Nat.le_of_ble_eq_true rfl) ge1434 fun T1447 h1449 X1448 W1450 A1432 => ?_
  have KK := KK.wr W1450 (Or.inr sz_b1427)
  have A1432 : own_Ar Z h1449 b1427 .int [(.int (0 : Int32)), (.int (0 : Int32)), (.int (1 : Int32)), (.int (1 : Int32)), (.int (1 : Int32)), (.int (1 : Int32)), (.int (0 : Int32)), (.int (0 : Int32))] := A1432
  refine o_iinc cx X1448 (z := (4 : Int32)) (Ls' := #[rv aa, iv (Int32.ofNat nn), iv 7, rv rk, rv tx, rv pl, s6, rv b1427, rv tx, iv 4, iv 4, iv 4, .unset, .unset, .unset]) d1_48 rfl rfl rfl ?_
  refine o_goto cx X1448 23 d1_51 (by decide) (by decide) ?_
  refine o_iload cx X1448 d1_23 rfl ?_
  refine o_iload cx X1448 d1_25 rfl ?_
  refine o_icmpYes cx X1448 54 d1_27 (by decide) (by decide) (by decide) ?_
  refine o_iconst cx X1448 (z := (0 : Int32)) d1_54 rfl ?_
  refine o_istore cx X1448 (Ls' := #[rv aa, iv (Int32.ofNat nn), iv 7, rv rk, rv tx, rv pl, s6, rv b1427, iv 0, iv 4, iv 4, iv 4, .unset, .unset, .unset]) d1_55 rfl ?_
  refine o_iload cx X1448 d1_57 rfl ?_
  refine o_iloadN cx X1448 d1_59 rfl ?_
  refine o_icmpNo cx X1448 d1_60 (by decide) ?_
  refine o_aload cx X1448 d1_63 rfl rfl ?_
  refine o_iload cx X1448 d1_65 rfl ?_
  refine o_iconst cx X1448 (z := (1 : Int32)) d1_67 rfl ?_
  refine o_iadd cx X1448 (z := (1 : Int32)) d1_68 rfl ?_
  refine o_dup2 cx X1448 d1_69 rfl rfl ?_
  refine o_ldI cx X1448 (v := (.int (0 : Int32))) d1_70 A1432 1 (by decide) rfl rfl ?_
  refine o_aload cx X1448 d1_71 rfl rfl ?_
  refine o_iload cx X1448 d1_73 rfl ?_
  refine o_ldI cx X1448 (v := (.int (0 : Int32))) d1_75 A1432 0 (by decide) rfl rfl ?_
  refine o_iadd cx X1448 (z := (0 : Int32)) d1_76 rfl ?_
  refine o_stI cx X1448 d1_77 A1432 1 (by decide) rfl (Nat.le_of_ble_eq_true rfl) ge1434 fun T1451 h1453 X1452 W1454 A1432 => ?_
  have KK := KK.wr W1454 (Or.inr sz_b1427)
  have A1432 : own_Ar Z h1453 b1427 .int [(.int (0 : Int32)), (.int (0 : Int32)), (.int (1 : Int32)), (.int (1 : Int32)), (.int (1 : Int32)), (.int (1 : Int32)), (.int (0 : Int32)), (.int (0 : Int32))] := A1432
  refine o_iinc cx X1452 (z := (1 : Int32)) (Ls' := #[rv aa, iv (Int32.ofNat nn), iv 7, rv rk, rv tx, rv pl, s6, rv b1427, iv 1, iv 4, iv 4, iv 4, .unset, .unset, .unset]) d1_78 rfl rfl rfl ?_
  refine o_goto cx X1452 57 d1_81 (by decide) (by decide) ?_
  refine o_iload cx X1452 d1_57 rfl ?_
  refine o_iloadN cx X1452 d1_59 rfl ?_
  refine o_icmpNo cx X1452 d1_60 (by decide) ?_
  refine o_aload cx X1452 d1_63 rfl rfl ?_
  refine o_iload cx X1452 d1_65 rfl ?_
  refine o_iconst cx X1452 (z := (1 : Int32)) d1_67 rfl ?_
  refine o_iadd cx X1452 (z := (2 : Int32)) d1_68 rfl ?_
  refine o_dup2 cx X1452 d1_69 rfl rfl ?_
  refine o_ldI cx X1452 (v := (.int (1 : Int32))) d1_70 A1432 2 (by decide) rfl rfl ?_
  refine o_aload cx X1452 d1_71 rfl rfl ?_
  refine o_iload cx X1452 d1_73 rfl ?_
  refine o_ldI cx X1452 (v := (.int (0 : Int32))) d1_75 A1432 1 (by decide) rfl rfl ?_
  refine o_iadd cx X1452 (z := (1 : Int32)) d1_76 rfl ?_
  refine o_stI cx X1452 d1_77 A1432 2 (by decide) rfl (Nat.le_of_ble_eq_true rfl) ge1434 fun T1455 h1457 X1456 W1458 A1432 => ?_
  have KK := KK.wr W1458 (Or.inr sz_b1427)
  have A1432 : own_Ar Z h1457 b1427 .int [(.int (0 : Int32)), (.int (0 : Int32)), (.int (1 : Int32)), (.int (1 : Int32)), (.int (1 : Int32)), (.int (1 : Int32)), (.int (0 : Int32)), (.int (0 : Int32))] := A1432
  refine o_iinc cx X1456 (z := (2 : Int32)) (Ls' := #[rv aa, iv (Int32.ofNat nn), iv 7, rv rk, rv tx, rv pl, s6, rv b1427, iv 2, iv 4, iv 4, iv 4, .unset, .unset, .unset]) d1_78 rfl rfl rfl ?_
  refine o_goto cx X1456 57 d1_81 (by decide) (by decide) ?_
  refine o_iload cx X1456 d1_57 rfl ?_
  refine o_iloadN cx X1456 d1_59 rfl ?_
  refine o_icmpNo cx X1456 d1_60 (by decide) ?_
  refine o_aload cx X1456 d1_63 rfl rfl ?_
  refine o_iload cx X1456 d1_65 rfl ?_
  refine o_iconst cx X1456 (z := (1 : Int32)) d1_67 rfl ?_
  refine o_iadd cx X1456 (z := (3 : Int32)) d1_68 rfl ?_
  refine o_dup2 cx X1456 d1_69 rfl rfl ?_
  refine o_ldI cx X1456 (v := (.int (1 : Int32))) d1_70 A1432 3 (by decide) rfl rfl ?_
  refine o_aload cx X1456 d1_71 rfl rfl ?_
  refine o_iload cx X1456 d1_73 rfl ?_
  refine o_ldI cx X1456 (v := (.int (1 : Int32))) d1_75 A1432 2 (by decide) rfl rfl ?_
  refine o_iadd cx X1456 (z := (2 : Int32)) d1_76 rfl ?_
  refine o_stI cx X1456 d1_77 A1432 3 (by decide) rfl (Nat.le_of_ble_eq_true rfl) ge1434 fun T1459 h1461 X1460 W1462 A1432 => ?_
  have KK := KK.wr W1462 (Or.inr sz_b1427)
  have A1432 : own_Ar Z h1461 b1427 .int [(.int (0 : Int32)), (.int (0 : Int32)), (.int (1 : Int32)), (.int (2 : Int32)), (.int (1 : Int32)), (.int (1 : Int32)), (.int (0 : Int32)), (.int (0 : Int32))] := A1432
  refine o_iinc cx X1460 (z := (3 : Int32)) (Ls' := #[rv aa, iv (Int32.ofNat nn), iv 7, rv rk, rv tx, rv pl, s6, rv b1427, iv 3, iv 4, iv 4, iv 4, .unset, .unset, .unset]) d1_78 rfl rfl rfl ?_
  refine o_goto cx X1460 57 d1_81 (by decide) (by decide) ?_
  refine o_iload cx X1460 d1_57 rfl ?_
  refine o_iloadN cx X1460 d1_59 rfl ?_
  refine o_icmpNo cx X1460 d1_60 (by decide) ?_
  refine o_aload cx X1460 d1_63 rfl rfl ?_
  refine o_iload cx X1460 d1_65 rfl ?_
  refine o_iconst cx X1460 (z := (1 : Int32)) d1_67 rfl ?_
  refine o_iadd cx X1460 (z := (4 : Int32)) d1_68 rfl ?_
  refine o_dup2 cx X1460 d1_69 rfl rfl ?_
  refine o_ldI cx X1460 (v := (.int (1 : Int32))) d1_70 A1432 4 (by decide) rfl rfl ?_
  refine o_aload cx X1460 d1_71 rfl rfl ?_
  refine o_iload cx X1460 d1_73 rfl ?_
  refine o_ldI cx X1460 (v := (.int (2 : Int32))) d1_75 A1432 3 (by decide) rfl rfl ?_
  refine o_iadd cx X1460 (z := (3 : Int32)) d1_76 rfl ?_
  refine o_stI cx X1460 d1_77 A1432 4 (by decide) rfl (Nat.le_of_ble_eq_true rfl) ge1434 fun T1463 h1465 X1464 W1466 A1432 => ?_
  have KK := KK.wr W1466 (Or.inr sz_b1427)
  have A1432 : own_Ar Z h1465 b1427 .int [(.int (0 : Int32)), (.int (0 : Int32)), (.int (1 : Int32)), (.int (2 : Int32)), (.int (3 : Int32)), (.int (1 : Int32)), (.int (0 : Int32)), (.int (0 : Int32))] := A1432
  refine o_iinc cx X1464 (z := (4 : Int32)) (Ls' := #[rv aa, iv (Int32.ofNat nn), iv 7, rv rk, rv tx, rv pl, s6, rv b1427, iv 4, iv 4, iv 4, iv 4, .unset, .unset, .unset]) d1_78 rfl rfl rfl ?_
  refine o_goto cx X1464 57 d1_81 (by decide) (by decide) ?_
  refine o_iload cx X1464 d1_57 rfl ?_
  refine o_iloadN cx X1464 d1_59 rfl ?_
  refine o_icmpNo cx X1464 d1_60 (by decide) ?_
  refine o_aload cx X1464 d1_63 rfl rfl ?_
  refine o_iload cx X1464 d1_65 rfl ?_
  refine o_iconst cx X1464 (z := (1 : Int32)) d1_67 rfl ?_
  refine o_iadd cx X1464 (z := (5 : Int32)) d1_68 rfl ?_
  refine o_dup2 cx X1464 d1_69 rfl rfl ?_
  refine o_ldI cx X1464 (v := (.int (1 : Int32))) d1_70 A1432 5 (by decide) rfl rfl ?_
  refine o_aload cx X1464 d1_71 rfl rfl ?_
  refine o_iload cx X1464 d1_73 rfl ?_
  refine o_ldI cx X1464 (v := (.int (3 : Int32))) d1_75 A1432 4 (by decide) rfl rfl ?_
  refine o_iadd cx X1464 (z := (4 : Int32)) d1_76 rfl ?_
  refine o_stI cx X1464 d1_77 A1432 5 (by decide) rfl (Nat.le_of_ble_eq_true rfl) ge1434 fun T1467 h1469 X1468 W1470 A1432 => ?_
  have KK := KK.wr W1470 (Or.inr sz_b1427)
  have A1432 : own_Ar Z h1469 b1427 .int [(.int (0 : Int32)), (.int (0 : Int32)), (.int (1 : Int32)), (.int (2 : Int32)), (.int (3 : Int32)), (.int (4 : Int32)), (.int (0 : Int32)), (.int (0 : Int32))] := A1432
  refine o_iinc cx X1468 (z := (5 : Int32)) (Ls' := #[rv aa, iv (Int32.ofNat nn), iv 7, rv rk, rv tx, rv pl, s6, rv b1427, iv 5, iv 4, iv 4, iv 4, .unset, .unset, .unset]) d1_78 rfl rfl rfl ?_
  refine o_goto cx X1468 57 d1_81 (by decide) (by decide) ?_
  refine o_iload cx X1468 d1_57 rfl ?_
  refine o_iloadN cx X1468 d1_59 rfl ?_
  refine o_icmpNo cx X1468 d1_60 (by decide) ?_
  refine o_aload cx X1468 d1_63 rfl rfl ?_
  refine o_iload cx X1468 d1_65 rfl ?_
  refine o_iconst cx X1468 (z := (1 : Int32)) d1_67 rfl ?_
  refine o_iadd cx X1468 (z := (6 : Int32)) d1_68 rfl ?_
  refine o_dup2 cx X1468 d1_69 rfl rfl ?_
  refine o_ldI cx X1468 (v := (.int (0 : Int32))) d1_70 A1432 6 (by decide) rfl rfl ?_
  refine o_aload cx X1468 d1_71 rfl rfl ?_
  refine o_iload cx X1468 d1_73 rfl ?_
  refine o_ldI cx X1468 (v := (.int (4 : Int32))) d1_75 A1432 5 (by decide) rfl rfl ?_
  refine o_iadd cx X1468 (z := (4 : Int32)) d1_76 rfl ?_
  refine o_stI cx X1468 d1_77 A1432 6 (by decide) rfl (Nat.le_of_ble_eq_true rfl) ge1434 fun T1471 h1473 X1472 W1474 A1432 => ?_
  have KK := KK.wr W1474 (Or.inr sz_b1427)
  have A1432 : own_Ar Z h1473 b1427 .int [(.int (0 : Int32)), (.int (0 : Int32)), (.int (1 : Int32)), (.int (2 : Int32)), (.int (3 : Int32)), (.int (4 : Int32)), (.int (4 : Int32)), (.int (0 : Int32))] := A1432
  refine o_iinc cx X1472 (z := (6 : Int32)) (Ls' := #[rv aa, iv (Int32.ofNat nn), iv 7, rv rk, rv tx, rv pl, s6, rv b1427, iv 6, iv 4, iv 4, iv 4, .unset, .unset, .unset]) d1_78 rfl rfl rfl ?_
  refine o_goto cx X1472 57 d1_81 (by decide) (by decide) ?_
  refine o_iload cx X1472 d1_57 rfl ?_
  refine o_iloadN cx X1472 d1_59 rfl ?_
  refine o_icmpNo cx X1472 d1_60 (by decide) ?_
  refine o_aload cx X1472 d1_63 rfl rfl ?_
  refine o_iload cx X1472 d1_65 rfl ?_
  refine o_iconst cx X1472 (z := (1 : Int32)) d1_67 rfl ?_
  refine o_iadd cx X1472 (z := (7 : Int32)) d1_68 rfl ?_
  refine o_dup2 cx X1472 d1_69 rfl rfl ?_
  refine o_ldI cx X1472 (v := (.int (0 : Int32))) d1_70 A1432 7 (by decide) rfl rfl ?_
  refine o_aload cx X1472 d1_71 rfl rfl ?_
  refine o_iload cx X1472 d1_73 rfl ?_
  refine o_ldI cx X1472 (v := (.int (4 : Int32))) d1_75 A1432 6 (by decide) rfl rfl ?_
  refine o_iadd cx X1472 (z := (4 : Int32)) d1_76 rfl ?_
  refine o_stI cx X1472 d1_77 A1432 7 (by decide) rfl (Nat.le_of_ble_eq_true rfl) ge1434 fun T1475 h1477 X1476 W1478 A1432 => ?_
  have KK := KK.wr W1478 (Or.inr sz_b1427)
  have A1432 : own_Ar Z h1477 b1427 .int [(.int (0 : Int32)), (.int (0 : Int32)), (.int (1 : Int32)), (.int (2 : Int32)), (.int (3 : Int32)), (.int (4 : Int32)), (.int (4 : Int32)), (.int (4 : Int32))] := A1432
  refine o_iinc cx X1476 (z := (7 : Int32)) (Ls' := #[rv aa, iv (Int32.ofNat nn), iv 7, rv rk, rv tx, rv pl, s6, rv b1427, iv 7, iv 4, iv 4, iv 4, .unset, .unset, .unset]) d1_78 rfl rfl rfl ?_
  refine o_goto cx X1476 57 d1_81 (by decide) (by decide) ?_
  refine o_iload cx X1476 d1_57 rfl ?_
  refine o_iloadN cx X1476 d1_59 rfl ?_
  refine o_icmpYes cx X1476 84 d1_60 (by decide) (by decide) (by decide) ?_
  refine o_aload cx X1476 d1_84 rfl rfl ?_
  refine o_len cx X1476 (z := (4 : Int32)) d1_86 (At.keep KK nin0) rfl ?_
  refine o_newP cx X1476 d1_87 (o_w hw 1 rfl) (by decide) 4 4 rfl (Nat.le_refl _) (by decide) (by decide) (by decide) fun T1480 h1482 b1479 gb1485 ge1486 X1481 E1483 A1484 => ?_
  have ne_b1427_b1479 : b1427 ≠ b1479 := by rw [gb1485]; exact Nat.ne_of_lt A1432.lt
  have sz_b1479 : h0.size ≤ b1479 := by rw [gb1485]; exact KK.1
  have A1432 := A1432.ext E1483
  have KK := KK.ext E1483
  have A1484 : own_Ar Z h1482 b1479 .int [(.int (0 : Int32)), (.int (0 : Int32)), (.int (0 : Int32)), (.int (0 : Int32))] := A1484
  refine o_astore cx X1481 (Ls' := #[rv aa, iv (Int32.ofNat nn), iv 7, rv rk, rv tx, rv pl, s6, rv b1427, rv b1479, iv 4, iv 4, iv 4, .unset, .unset, .unset]) d1_89 rfl rfl ?_
  refine o_iconst cx X1481 (z := (0 : Int32)) d1_91 rfl ?_
  refine o_istore cx X1481 (Ls' := #[rv aa, iv (Int32.ofNat nn), iv 7, rv rk, rv tx, rv pl, s6, rv b1427, rv b1479, iv 0, iv 4, iv 4, .unset, .unset, .unset]) d1_92 rfl ?_
  refine o_iload cx X1481 d1_94 rfl ?_
  refine o_aload cx X1481 d1_96 rfl rfl ?_
  refine o_len cx X1481 (z := (4 : Int32)) d1_98 (At.keep KK nin0) rfl ?_
  refine o_icmpNo cx X1481 d1_99 (by decide) ?_
  refine o_aload cx X1481 d1_102 rfl rfl ?_
  refine o_aload cx X1481 d1_104 rfl rfl ?_
  refine o_aload cx X1481 d1_106 rfl rfl ?_
  refine o_iload cx X1481 d1_108 rfl ?_
  refine o_ldI cx X1481 (v := (.int (1 : Int32))) d1_110 (At.keep KK nin0) 0 (by decide) rfl rfl ?_
  refine o_dup2 cx X1481 d1_111 rfl rfl ?_
  refine o_ldI cx X1481 (v := (.int (0 : Int32))) d1_112 A1432 1 (by decide) rfl rfl ?_
  refine o_dup_x2 cx X1481 d1_113 rfl rfl rfl ?_
  refine o_iconst cx X1481 (z := (1 : Int32)) d1_114 rfl ?_
  refine o_iadd cx X1481 (z := (1 : Int32)) d1_115 rfl ?_
  refine o_stI cx X1481 d1_116 A1432 1 (by decide) rfl (Nat.le_of_ble_eq_true rfl) ge1434 fun T1487 h1489 X1488 W1490 A1432 => ?_
  have A1484 := A1484.other W1490 (Ne.symm ne_b1427_b1479)
  have KK := KK.wr W1490 (Or.inr sz_b1427)
  have A1432 : own_Ar Z h1489 b1427 .int [(.int (0 : Int32)), (.int (1 : Int32)), (.int (1 : Int32)), (.int (2 : Int32)), (.int (3 : Int32)), (.int (4 : Int32)), (.int (4 : Int32)), (.int (4 : Int32))] := A1432
  refine o_iload cx X1488 d1_117 rfl ?_
  refine o_stI cx X1488 d1_119 A1484 0 (by decide) rfl (Nat.le_of_ble_eq_true rfl) ge1486 fun T1491 h1493 X1492 W1494 A1484 => ?_
  have A1432 := A1432.other W1494 ne_b1427_b1479
  have KK := KK.wr W1494 (Or.inr sz_b1479)
  have A1484 : own_Ar Z h1493 b1479 .int [(.int (0 : Int32)), (.int (0 : Int32)), (.int (0 : Int32)), (.int (0 : Int32))] := A1484
  refine o_iinc cx X1492 (z := (1 : Int32)) (Ls' := #[rv aa, iv (Int32.ofNat nn), iv 7, rv rk, rv tx, rv pl, s6, rv b1427, rv b1479, iv 1, iv 4, iv 4, .unset, .unset, .unset]) d1_120 rfl rfl rfl ?_
  refine o_goto cx X1492 94 d1_123 (by decide) (by decide) ?_
  refine o_iload cx X1492 d1_94 rfl ?_
  refine o_aload cx X1492 d1_96 rfl rfl ?_
  refine o_len cx X1492 (z := (4 : Int32)) d1_98 (At.keep KK nin0) rfl ?_
  refine o_icmpNo cx X1492 d1_99 (by decide) ?_
  refine o_aload cx X1492 d1_102 rfl rfl ?_
  refine o_aload cx X1492 d1_104 rfl rfl ?_
  refine o_aload cx X1492 d1_106 rfl rfl ?_
  refine o_iload cx X1492 d1_108 rfl ?_
  refine o_ldI cx X1492 (v := (.int (2 : Int32))) d1_110 (At.keep KK nin0) 1 (by decide) rfl rfl ?_
  refine o_dup2 cx X1492 d1_111 rfl rfl ?_
  refine o_ldI cx X1492 (v := (.int (1 : Int32))) d1_112 A1432 2 (by decide) rfl rfl ?_
  refine o_dup_x2 cx X1492 d1_113 rfl rfl rfl ?_
  refine o_iconst cx X1492 (z := (1 : Int32)) d1_114 rfl ?_
  refine o_iadd cx X1492 (z := (2 : Int32)) d1_115 rfl ?_
  refine o_stI cx X1492 d1_116 A1432 2 (by decide) rfl (Nat.le_of_ble_eq_true rfl) ge1434 fun T1495 h1497 X1496 W1498 A1432 => ?_
  have A1484 := A1484.other W1498 (Ne.symm ne_b1427_b1479)
  have KK := KK.wr W1498 (Or.inr sz_b1427)
  have A1432 : own_Ar Z h1497 b1427 .int [(.int (0 : Int32)), (.int (1 : Int32)), (.int (2 : Int32)), (.int (2 : Int32)), (.int (3 : Int32)), (.int (4 : Int32)), (.int (4 : Int32)), (.int (4 : Int32))] := A1432
  refine o_iload cx X1496 d1_117 rfl ?_
  refine o_stI cx X1496 d1_119 A1484 1 (by decide) rfl (Nat.le_of_ble_eq_true rfl) ge1486 fun T1499 h1501 X1500 W1502 A1484 => ?_
  have A1432 := A1432.other W1502 ne_b1427_b1479
  have KK := KK.wr W1502 (Or.inr sz_b1479)
  have A1484 : own_Ar Z h1501 b1479 .int [(.int (0 : Int32)), (.int (1 : Int32)), (.int (0 : Int32)), (.int (0 : Int32))] := A1484
  refine o_iinc cx X1500 (z := (2 : Int32)) (Ls' := #[rv aa, iv (Int32.ofNat nn), iv 7, rv rk, rv tx, rv pl, s6, rv b1427, rv b1479, iv 2, iv 4, iv 4, .unset, .unset, .unset]) d1_120 rfl rfl rfl ?_
  refine o_goto cx X1500 94 d1_123 (by decide) (by decide) ?_
  refine o_iload cx X1500 d1_94 rfl ?_
  refine o_aload cx X1500 d1_96 rfl rfl ?_
  refine o_len cx X1500 (z := (4 : Int32)) d1_98 (At.keep KK nin0) rfl ?_
  refine o_icmpNo cx X1500 d1_99 (by decide) ?_
  refine o_aload cx X1500 d1_102 rfl rfl ?_
  refine o_aload cx X1500 d1_104 rfl rfl ?_
  refine o_aload cx X1500 d1_106 rfl rfl ?_
  refine o_iload cx X1500 d1_108 rfl ?_
  refine o_ldI cx X1500 (v := (.int (3 : Int32))) d1_110 (At.keep KK nin0) 2 (by decide) rfl rfl ?_
  refine o_dup2 cx X1500 d1_111 rfl rfl ?_
  refine o_ldI cx X1500 (v := (.int (2 : Int32))) d1_112 A1432 3 (by decide) rfl rfl ?_
  refine o_dup_x2 cx X1500 d1_113 rfl rfl rfl ?_
  refine o_iconst cx X1500 (z := (1 : Int32)) d1_114 rfl ?_
  refine o_iadd cx X1500 (z := (3 : Int32)) d1_115 rfl ?_
  refine o_stI cx X1500 d1_116 A1432 3 (by decide) rfl (Nat.le_of_ble_eq_true rfl) ge1434 fun T1503 h1505 X1504 W1506 A1432 => ?_
  have A1484 := A1484.other W1506 (Ne.symm ne_b1427_b1479)
  have KK := KK.wr W1506 (Or.inr sz_b1427)
  have A1432 : own_Ar Z h1505 b1427 .int [(.int (0 : Int32)), (.int (1 : Int32)), (.int (2 : Int32)), (.int (3 : Int32)), (.int (3 : Int32)), (.int (4 : Int32)), (.int (4 : Int32)), (.int (4 : Int32))] := A1432
  refine o_iload cx X1504 d1_117 rfl ?_
  refine o_stI cx X1504 d1_119 A1484 2 (by decide) rfl (Nat.le_of_ble_eq_true rfl) ge1486 fun T1507 h1509 X1508 W1510 A1484 => ?_
  have A1432 := A1432.other W1510 ne_b1427_b1479
  have KK := KK.wr W1510 (Or.inr sz_b1479)
  have A1484 : own_Ar Z h1509 b1479 .int [(.int (0 : Int32)), (.int (1 : Int32)), (.int (2 : Int32)), (.int (0 : Int32))] := A1484
  refine o_iinc cx X1508 (z := (3 : Int32)) (Ls' := #[rv aa, iv (Int32.ofNat nn), iv 7, rv rk, rv tx, rv pl, s6, rv b1427, rv b1479, iv 3, iv 4, iv 4, .unset, .unset, .unset]) d1_120 rfl rfl rfl ?_
  refine o_goto cx X1508 94 d1_123 (by decide) (by decide) ?_
  refine o_iload cx X1508 d1_94 rfl ?_
  refine o_aload cx X1508 d1_96 rfl rfl ?_
  refine o_len cx X1508 (z := (4 : Int32)) d1_98 (At.keep KK nin0) rfl ?_
  refine o_icmpNo cx X1508 d1_99 (by decide) ?_
  refine o_aload cx X1508 d1_102 rfl rfl ?_
  refine o_aload cx X1508 d1_104 rfl rfl ?_
  refine o_aload cx X1508 d1_106 rfl rfl ?_
  refine o_iload cx X1508 d1_108 rfl ?_
  refine o_ldI cx X1508 (v := (.int (4 : Int32))) d1_110 (At.keep KK nin0) 3 (by decide) rfl rfl ?_
  refine o_dup2 cx X1508 d1_111 rfl rfl ?_
  refine o_ldI cx X1508 (v := (.int (3 : Int32))) d1_112 A1432 4 (by decide) rfl rfl ?_
  refine o_dup_x2 cx X1508 d1_113 rfl rfl rfl ?_
  refine o_iconst cx X1508 (z := (1 : Int32)) d1_114 rfl ?_
  refine o_iadd cx X1508 (z := (4 : Int32)) d1_115 rfl ?_
  refine o_stI cx X1508 d1_116 A1432 4 (by decide) rfl (Nat.le_of_ble_eq_true rfl) ge1434 fun T1511 h1513 X1512 W1514 A1432 => ?_
  have A1484 := A1484.other W1514 (Ne.symm ne_b1427_b1479)
  have KK := KK.wr W1514 (Or.inr sz_b1427)
  have A1432 : own_Ar Z h1513 b1427 .int [(.int (0 : Int32)), (.int (1 : Int32)), (.int (2 : Int32)), (.int (3 : Int32)), (.int (4 : Int32)), (.int (4 : Int32)), (.int (4 : Int32)), (.int (4 : Int32))] := A1432
  refine o_iload cx X1512 d1_117 rfl ?_
  refine o_stI cx X1512 d1_119 A1484 3 (by decide) rfl (Nat.le_of_ble_eq_true rfl) ge1486 fun T1515 h1517 X1516 W1518 A1484 => ?_
  have A1432 := A1432.other W1518 ne_b1427_b1479
  have KK := KK.wr W1518 (Or.inr sz_b1479)
  have A1484 : own_Ar Z h1517 b1479 .int [(.int (0 : Int32)), (.int (1 : Int32)), (.int (2 : Int32)), (.int (3 : Int32))] := A1484
  refine o_iinc cx X1516 (z := (4 : Int32)) (Ls' := #[rv aa, iv (Int32.ofNat nn), iv 7, rv rk, rv tx, rv pl, s6, rv b1427, rv b1479, iv 4, iv 4, iv 4, .unset, .unset, .unset]) d1_120 rfl rfl rfl ?_
  refine o_goto cx X1516 94 d1_123 (by decide) (by decide) ?_
  refine o_iload cx X1516 d1_94 rfl ?_
  refine o_aload cx X1516 d1_96 rfl rfl ?_
  refine o_len cx X1516 (z := (4 : Int32)) d1_98 (At.keep KK nin0) rfl ?_
  refine o_icmpYes cx X1516 126 d1_99 (by decide) (by decide) (by decide) ?_
  have ne_aa_b1479 : aa ≠ b1479 := Nat.ne_of_lt (Nat.lt_of_lt_of_le E0.lt sz_b1479)
  exact kk _ _ b1427 b1479 (4 : Int32) (4 : Int32) (4 : Int32) (X1516.more (by decide) (by decide)) ge1486 ne_aa_b1479  (E0.keep KK) (F0.keep KK nin0) (F1.keep KK nin0) (F2.keep KK nin0) (F3.keep KK nin0) (Ar.keep KK nin0) (At.keep KK nin0) (Ap.keep KK nin0) (Ac.keep KK nin0) A1484
set_option maxRecDepth 65536 in
set_option maxHeartbeats 40000000 in
theorem segA_7_2 {p : Program} {l : Launch} {e : Env} {s : State} {m : MethodId} {below : List Frame} {meth : Method} {c : Code} {n0 : Nat} {T0 : State} {h0 : Heap} {Z : State} {a0 : Array Value} {args : Array Value} {P : State → Outcome → Prop} (hw : ∀ d ∈ tables_1, d.before a0 Z = true) (aa rk tx pl : Addr) (nn k0 k1 k2 k3 : Nat) (v0 v1 v2 v3 : Int32) (s6 : Slot) (cv : Addr) (vcs : List Value) (cx : own_Cx p s m meth c Z prog_28_method_2_code 15 (⟨"com/example/rough_dedup/roughdedup/ShingleIndex$Postings", "<init>", "(II[I[I[I[I)V"⟩ : MethodName) none) (X0 : own_Sd p l e ({ frames := 2, cells := 7, slots := 41, locals := 74 } : Room) s m args below meth c n0 T0 h0 0 0) (ga : n0 ≤ aa) (ne_aa_rk : aa ≠ rk) (ne_aa_tx : aa ≠ tx) (ne_aa_pl : aa ≠ pl) (E0 : Exa Z h0 aa "com/example/rough_dedup/roughdedup/ShingleIndex$Postings") (F0 : Fld Z h0 aa "com/example/rough_dedup/roughdedup/ShingleIndex$Postings" "starts" "[I" .null) (F1 : Fld Z h0 aa "com/example/rough_dedup/roughdedup/ShingleIndex$Postings" "texts" "[I" .null) (F2 : Fld Z h0 aa "com/example/rough_dedup/roughdedup/ShingleIndex$Postings" "places" "[I" .null) (F3 : Fld Z h0 aa "com/example/rough_dedup/roughdedup/ShingleIndex$Postings" "covered" "[I" .null) (Ar : own_Ar Z h0 rk .int [(.int (Int32.ofNat k0)), (.int (Int32.ofNat k1)), (.int (Int32.ofNat k2)), (.int (Int32.ofNat k3))]) (At : own_Ar Z h0 tx .int [(.int (2 : Int32)), (.int (3 : Int32)), (.int (4 : Int32)), (.int (5 : Int32))]) (Ap : own_Ar Z h0 pl .int [(.int v0), (.int v1), (.int v2), (.int v3)]) (Ac : own_Ar Z h0 cv .int vcs) (kk : ∀ (T : State) (h : Heap) (ts bt : Addr) (x9 x10 x11 : Int32), own_Sd p l e ({ frames := 2, cells := 7, slots := 41, locals := 74 } : Room) s m args below meth c n0 T h 2 12 → n0 ≤ bt → aa ≠ bt → Exa Z h aa "com/example/rough_dedup/roughdedup/ShingleIndex$Postings" → Fld Z h aa "com/example/rough_dedup/roughdedup/ShingleIndex$Postings" "starts" "[I" .null → Fld Z h aa "com/example/rough_dedup/roughdedup/ShingleIndex$Postings" "texts" "[I" .null → Fld Z h aa "com/example/rough_dedup/roughdedup/ShingleIndex$Postings" "places" "[I" .null → Fld Z h aa "com/example/rough_dedup/roughdedup/ShingleIndex$Postings" "covered" "[I" .null → own_Ar Z h rk .int [(.int (Int32.ofNat k0)), (.int (Int32.ofNat k1)), (.int (Int32.ofNat k2)), (.int (Int32.ofNat k3))] → own_Ar Z h tx .int [(.int (2 : Int32)), (.int (3 : Int32)), (.int (4 : Int32)), (.int (5 : Int32))] → own_Ar Z h pl .int [(.int v0), (.int v1), (.int v2), (.int v3)] → own_Ar Z h cv .int vcs → own_Ar Z h bt .int [(.int (0 : Int32)), (.int (1 : Int32)), (.int (2 : Int32)), (.int (3 : Int32))] → own_Go p e below P (T.setTop (mkF m 126 #[rv aa, iv (Int32.ofNat nn), iv 7, rv rk, rv tx, rv pl, s6, .val (.ref ts), .val (.ref bt), .val (.int x9), .val (.int x10), .val (.int x11), .unset, .unset, .unset] []))) :
    own_Go p e below P (T0.setTop (mkF m 0 #[rv aa, iv (Int32.ofNat nn), iv 7, rv rk, rv tx, rv pl, s6, .unset, .unset, .unset, .unset, .unset, .unset, .unset, .unset] [])) := by
  have KK := Keep.refl h0 []
  refine o_aloadN cx X0 d1_0 rfl rfl ?_
  refine o_initO cx X0 d1_1 (o_w hw 9 rfl) (o_w hw 10 rfl) (o_w hw 11 rfl) rfl (by decide) 0 rfl (by decide) fun T1519 X1520 => ?_
  refine o_iloadN cx X1520 d1_4 rfl ?_
  refine o_iconst cx X1520 (z := (1 : Int32)) d1_5 rfl ?_
  refine o_iadd cx X1520 (z := (8 : Int32)) d1_6 rfl ?_
  refine o_newP cx X1520 d1_7 (o_w hw 1 rfl) (by decide) 8 8 rfl (Nat.le_refl _) (by decide) (by decide) (by decide) fun T1522 h1524 b1521 gb1527 ge1528 X1523 E1525 A1526 => ?_
  have sz_b1521 : h0.size ≤ b1521 := by rw [gb1527]; exact KK.1
  have KK := KK.ext E1525
  have A1526 : own_Ar Z h1524 b1521 .int [(.int (0 : Int32)), (.int (0 : Int32)), (.int (0 : Int32)), (.int (0 : Int32)), (.int (0 : Int32)), (.int (0 : Int32)), (.int (0 : Int32)), (.int (0 : Int32))] := A1526
  refine o_astore cx X1523 (Ls' := #[rv aa, iv (Int32.ofNat nn), iv 7, rv rk, rv tx, rv pl, s6, rv b1521, .unset, .unset, .unset, .unset, .unset, .unset, .unset]) d1_9 rfl rfl ?_
  refine o_aload cx X1523 d1_11 rfl rfl ?_
  refine o_astore cx X1523 (Ls' := #[rv aa, iv (Int32.ofNat nn), iv 7, rv rk, rv tx, rv pl, s6, rv b1521, rv tx, .unset, .unset, .unset, .unset, .unset, .unset]) d1_13 rfl rfl ?_
  refine o_aload cx X1523 d1_15 rfl rfl ?_
  refine o_len cx X1523 (z := (4 : Int32)) d1_17 (At.keep KK nin0) rfl ?_
  refine o_istore cx X1523 (Ls' := #[rv aa, iv (Int32.ofNat nn), iv 7, rv rk, rv tx, rv pl, s6, rv b1521, rv tx, iv 4, .unset, .unset, .unset, .unset, .unset]) d1_18 rfl ?_
  refine o_iconst cx X1523 (z := (0 : Int32)) d1_20 rfl ?_
  refine o_istore cx X1523 (Ls' := #[rv aa, iv (Int32.ofNat nn), iv 7, rv rk, rv tx, rv pl, s6, rv b1521, rv tx, iv 4, iv 0, .unset, .unset, .unset, .unset]) d1_21 rfl ?_
  refine o_iload cx X1523 d1_23 rfl ?_
  refine o_iload cx X1523 d1_25 rfl ?_
  refine o_icmpNo cx X1523 d1_27 (by decide) ?_
  refine o_aload cx X1523 d1_30 rfl rfl ?_
  refine o_iload cx X1523 d1_32 rfl ?_
  refine o_ldI cx X1523 (v := (.int (2 : Int32))) d1_34 (At.keep KK nin0) 0 (by decide) rfl rfl ?_
  refine o_istore cx X1523 (Ls' := #[rv aa, iv (Int32.ofNat nn), iv 7, rv rk, rv tx, rv pl, s6, rv b1521, rv tx, iv 4, iv 0, iv 2, .unset, .unset, .unset]) d1_35 rfl ?_
  refine o_aload cx X1523 d1_37 rfl rfl ?_
  refine o_iload cx X1523 d1_39 rfl ?_
  refine o_iconst cx X1523 (z := (1 : Int32)) d1_41 rfl ?_
  refine o_iadd cx X1523 (z := (3 : Int32)) d1_42 rfl ?_
  refine o_dup2 cx X1523 d1_43 rfl rfl ?_
  refine o_ldI cx X1523 (v := (.int (0 : Int32))) d1_44 A1526 3 (by decide) rfl rfl ?_
  refine o_iconst cx X1523 (z := (1 : Int32)) d1_45 rfl ?_
  refine o_iadd cx X1523 (z := (1 : Int32)) d1_46 rfl ?_
  refine o_stI cx X1523 d1_47 A1526 3 (by decide) rfl (Nat.le_of_ble_eq_true rfl) ge1528 fun T1529 h1531 X1530 W1532 A1526 => ?_
  have KK := KK.wr W1532 (Or.inr sz_b1521)
  have A1526 : own_Ar Z h1531 b1521 .int [(.int (0 : Int32)), (.int (0 : Int32)), (.int (0 : Int32)), (.int (1 : Int32)), (.int (0 : Int32)), (.int (0 : Int32)), (.int (0 : Int32)), (.int (0 : Int32))] := A1526
  refine o_iinc cx X1530 (z := (1 : Int32)) (Ls' := #[rv aa, iv (Int32.ofNat nn), iv 7, rv rk, rv tx, rv pl, s6, rv b1521, rv tx, iv 4, iv 1, iv 2, .unset, .unset, .unset]) d1_48 rfl rfl rfl ?_
  refine o_goto cx X1530 23 d1_51 (by decide) (by decide) ?_
  refine o_iload cx X1530 d1_23 rfl ?_
  refine o_iload cx X1530 d1_25 rfl ?_
  refine o_icmpNo cx X1530 d1_27 (by decide) ?_
  refine o_aload cx X1530 d1_30 rfl rfl ?_
  refine o_iload cx X1530 d1_32 rfl ?_
  refine o_ldI cx X1530 (v := (.int (3 : Int32))) d1_34 (At.keep KK nin0) 1 (by decide) rfl rfl ?_
  refine o_istore cx X1530 (Ls' := #[rv aa, iv (Int32.ofNat nn), iv 7, rv rk, rv tx, rv pl, s6, rv b1521, rv tx, iv 4, iv 1, iv 3, .unset, .unset, .unset]) d1_35 rfl ?_
  refine o_aload cx X1530 d1_37 rfl rfl ?_
  refine o_iload cx X1530 d1_39 rfl ?_
  refine o_iconst cx X1530 (z := (1 : Int32)) d1_41 rfl ?_
  refine o_iadd cx X1530 (z := (4 : Int32)) d1_42 rfl ?_
  refine o_dup2 cx X1530 d1_43 rfl rfl ?_
  refine o_ldI cx X1530 (v := (.int (0 : Int32))) d1_44 A1526 4 (by decide) rfl rfl ?_
  refine o_iconst cx X1530 (z := (1 : Int32)) d1_45 rfl ?_
  refine o_iadd cx X1530 (z := (1 : Int32)) d1_46 rfl ?_
  refine o_stI cx X1530 d1_47 A1526 4 (by decide) rfl (Nat.le_of_ble_eq_true rfl) ge1528 fun T1533 h1535 X1534 W1536 A1526 => ?_
  have KK := KK.wr W1536 (Or.inr sz_b1521)
  have A1526 : own_Ar Z h1535 b1521 .int [(.int (0 : Int32)), (.int (0 : Int32)), (.int (0 : Int32)), (.int (1 : Int32)), (.int (1 : Int32)), (.int (0 : Int32)), (.int (0 : Int32)), (.int (0 : Int32))] := A1526
  refine o_iinc cx X1534 (z := (2 : Int32)) (Ls' := #[rv aa, iv (Int32.ofNat nn), iv 7, rv rk, rv tx, rv pl, s6, rv b1521, rv tx, iv 4, iv 2, iv 3, .unset, .unset, .unset]) d1_48 rfl rfl rfl ?_
  refine o_goto cx X1534 23 d1_51 (by decide) (by decide) ?_
  refine o_iload cx X1534 d1_23 rfl ?_
  refine o_iload cx X1534 d1_25 rfl ?_
  refine o_icmpNo cx X1534 d1_27 (by decide) ?_
  refine o_aload cx X1534 d1_30 rfl rfl ?_
  refine o_iload cx X1534 d1_32 rfl ?_
  refine o_ldI cx X1534 (v := (.int (4 : Int32))) d1_34 (At.keep KK nin0) 2 (by decide) rfl rfl ?_
  refine o_istore cx X1534 (Ls' := #[rv aa, iv (Int32.ofNat nn), iv 7, rv rk, rv tx, rv pl, s6, rv b1521, rv tx, iv 4, iv 2, iv 4, .unset, .unset, .unset]) d1_35 rfl ?_
  refine o_aload cx X1534 d1_37 rfl rfl ?_
  refine o_iload cx X1534 d1_39 rfl ?_
  refine o_iconst cx X1534 (z := (1 : Int32)) d1_41 rfl ?_
  refine o_iadd cx X1534 (z := (5 : Int32)) d1_42 rfl ?_
  refine o_dup2 cx X1534 d1_43 rfl rfl ?_
  refine o_ldI cx X1534 (v := (.int (0 : Int32))) d1_44 A1526 5 (by decide) rfl rfl ?_
  refine o_iconst cx X1534 (z := (1 : Int32)) d1_45 rfl ?_
  refine o_iadd cx X1534 (z := (1 : Int32)) d1_46 rfl ?_
  refine o_stI cx X1534 d1_47 A1526 5 (by decide) rfl (Nat.le_of_ble_eq_true rfl) ge1528 fun T1537 h1539 X1538 W1540 A1526 => ?_
  have KK := KK.wr W1540 (Or.inr sz_b1521)
  have A1526 : own_Ar Z h1539 b1521 .int [(.int (0 : Int32)), (.int (0 : Int32)), (.int (0 : Int32)), (.int (1 : Int32)), (.int (1 : Int32)), (.int (1 : Int32)), (.int (0 : Int32)), (.int (0 : Int32))] := A1526
  refine o_iinc cx X1538 (z := (3 : Int32)) (Ls' := #[rv aa, iv (Int32.ofNat nn), iv 7, rv rk, rv tx, rv pl, s6, rv b1521, rv tx, iv 4, iv 3, iv 4, .unset, .unset, .unset]) d1_48 rfl rfl rfl ?_
  refine o_goto cx X1538 23 d1_51 (by decide) (by decide) ?_
  refine o_iload cx X1538 d1_23 rfl ?_
  refine o_iload cx X1538 d1_25 rfl ?_
  refine o_icmpNo cx X1538 d1_27 (by decide) ?_
  refine o_aload cx X1538 d1_30 rfl rfl ?_
  refine o_iload cx X1538 d1_32 rfl ?_
  refine o_ldI cx X1538 (v := (.int (5 : Int32))) d1_34 (At.keep KK nin0) 3 (by decide) rfl rfl ?_
  refine o_istore cx X1538 (Ls' := #[rv aa, iv (Int32.ofNat nn), iv 7, rv rk, rv tx, rv pl, s6, rv b1521, rv tx, iv 4, iv 3, iv 5, .unset, .unset, .unset]) d1_35 rfl ?_
  refine o_aload cx X1538 d1_37 rfl rfl ?_
  refine o_iload cx X1538 d1_39 rfl ?_
  refine o_iconst cx X1538 (z := (1 : Int32)) d1_41 rfl ?_
  refine o_iadd cx X1538 (z := (6 : Int32)) d1_42 rfl ?_
  refine o_dup2 cx X1538 d1_43 rfl rfl ?_
  refine o_ldI cx X1538 (v := (.int (0 : Int32))) d1_44 A1526 6 (by decide) rfl rfl ?_
  refine o_iconst cx X1538 (z := (1 : Int32)) d1_45 rfl ?_
  refine o_iadd cx X1538 (z := (1 : Int32)) d1_46 rfl ?_
  refine o_stI cx X1538 d1_47 A1526 6 (by decide) rfl (Nat.le_of_ble_eq_true rfl) ge1528 fun T1541 h1543 X1542 W1544 A1526 => ?_
  have KK := KK.wr W1544 (Or.inr sz_b1521)
  have A1526 : own_Ar Z h1543 b1521 .int [(.int (0 : Int32)), (.int (0 : Int32)), (.int (0 : Int32)), (.int (1 : Int32)), (.int (1 : Int32)), (.int (1 : Int32)), (.int (1 : Int32)), (.int (0 : Int32))] := A1526
  refine o_iinc cx X1542 (z := (4 : Int32)) (Ls' := #[rv aa, iv (Int32.ofNat nn), iv 7, rv rk, rv tx, rv pl, s6, rv b1521, rv tx, iv 4, iv 4, iv 5, .unset, .unset, .unset]) d1_48 rfl rfl rfl ?_
  refine o_goto cx X1542 23 d1_51 (by decide) (by decide) ?_
  refine o_iload cx X1542 d1_23 rfl ?_
  refine o_iload cx X1542 d1_25 rfl ?_
  refine o_icmpYes cx X1542 54 d1_27 (by decide) (by decide) (by decide) ?_
  refine o_iconst cx X1542 (z := (0 : Int32)) d1_54 rfl ?_
  refine o_istore cx X1542 (Ls' := #[rv aa, iv (Int32.ofNat nn), iv 7, rv rk, rv tx, rv pl, s6, rv b1521, iv 0, iv 4, iv 4, iv 5, .unset, .unset, .unset]) d1_55 rfl ?_
  refine o_iload cx X1542 d1_57 rfl ?_
  refine o_iloadN cx X1542 d1_59 rfl ?_
  refine o_icmpNo cx X1542 d1_60 (by decide) ?_
  refine o_aload cx X1542 d1_63 rfl rfl ?_
  refine o_iload cx X1542 d1_65 rfl ?_
  refine o_iconst cx X1542 (z := (1 : Int32)) d1_67 rfl ?_
  refine o_iadd cx X1542 (z := (1 : Int32)) d1_68 rfl ?_
  refine o_dup2 cx X1542 d1_69 rfl rfl ?_
  refine o_ldI cx X1542 (v := (.int (0 : Int32))) d1_70 A1526 1 (by decide) rfl rfl ?_
  refine o_aload cx X1542 d1_71 rfl rfl ?_
  refine o_iload cx X1542 d1_73 rfl ?_
  refine o_ldI cx X1542 (v := (.int (0 : Int32))) d1_75 A1526 0 (by decide) rfl rfl ?_
  refine o_iadd cx X1542 (z := (0 : Int32)) d1_76 rfl ?_
  refine o_stI cx X1542 d1_77 A1526 1 (by decide) rfl (Nat.le_of_ble_eq_true rfl) ge1528 fun T1545 h1547 X1546 W1548 A1526 => ?_
  have KK := KK.wr W1548 (Or.inr sz_b1521)
  have A1526 : own_Ar Z h1547 b1521 .int [(.int (0 : Int32)), (.int (0 : Int32)), (.int (0 : Int32)), (.int (1 : Int32)), (.int (1 : Int32)), (.int (1 : Int32)), (.int (1 : Int32)), (.int (0 : Int32))] := A1526
  refine o_iinc cx X1546 (z := (1 : Int32)) (Ls' := #[rv aa, iv (Int32.ofNat nn), iv 7, rv rk, rv tx, rv pl, s6, rv b1521, iv 1, iv 4, iv 4, iv 5, .unset, .unset, .unset]) d1_78 rfl rfl rfl ?_
  refine o_goto cx X1546 57 d1_81 (by decide) (by decide) ?_
  refine o_iload cx X1546 d1_57 rfl ?_
  refine o_iloadN cx X1546 d1_59 rfl ?_
  refine o_icmpNo cx X1546 d1_60 (by decide) ?_
  refine o_aload cx X1546 d1_63 rfl rfl ?_
  refine o_iload cx X1546 d1_65 rfl ?_
  refine o_iconst cx X1546 (z := (1 : Int32)) d1_67 rfl ?_
  refine o_iadd cx X1546 (z := (2 : Int32)) d1_68 rfl ?_
  refine o_dup2 cx X1546 d1_69 rfl rfl ?_
  refine o_ldI cx X1546 (v := (.int (0 : Int32))) d1_70 A1526 2 (by decide) rfl rfl ?_
  refine o_aload cx X1546 d1_71 rfl rfl ?_
  refine o_iload cx X1546 d1_73 rfl ?_
  refine o_ldI cx X1546 (v := (.int (0 : Int32))) d1_75 A1526 1 (by decide) rfl rfl ?_
  refine o_iadd cx X1546 (z := (0 : Int32)) d1_76 rfl ?_
  refine o_stI cx X1546 d1_77 A1526 2 (by decide) rfl (Nat.le_of_ble_eq_true rfl) ge1528 fun T1549 h1551 X1550 W1552 A1526 => ?_
  have KK := KK.wr W1552 (Or.inr sz_b1521)
  have A1526 : own_Ar Z h1551 b1521 .int [(.int (0 : Int32)), (.int (0 : Int32)), (.int (0 : Int32)), (.int (1 : Int32)), (.int (1 : Int32)), (.int (1 : Int32)), (.int (1 : Int32)), (.int (0 : Int32))] := A1526
  refine o_iinc cx X1550 (z := (2 : Int32)) (Ls' := #[rv aa, iv (Int32.ofNat nn), iv 7, rv rk, rv tx, rv pl, s6, rv b1521, iv 2, iv 4, iv 4, iv 5, .unset, .unset, .unset]) d1_78 rfl rfl rfl ?_
  refine o_goto cx X1550 57 d1_81 (by decide) (by decide) ?_
  refine o_iload cx X1550 d1_57 rfl ?_
  refine o_iloadN cx X1550 d1_59 rfl ?_
  refine o_icmpNo cx X1550 d1_60 (by decide) ?_
  refine o_aload cx X1550 d1_63 rfl rfl ?_
  refine o_iload cx X1550 d1_65 rfl ?_
  refine o_iconst cx X1550 (z := (1 : Int32)) d1_67 rfl ?_
  refine o_iadd cx X1550 (z := (3 : Int32)) d1_68 rfl ?_
  refine o_dup2 cx X1550 d1_69 rfl rfl ?_
  refine o_ldI cx X1550 (v := (.int (1 : Int32))) d1_70 A1526 3 (by decide) rfl rfl ?_
  refine o_aload cx X1550 d1_71 rfl rfl ?_
  refine o_iload cx X1550 d1_73 rfl ?_
  refine o_ldI cx X1550 (v := (.int (0 : Int32))) d1_75 A1526 2 (by decide) rfl rfl ?_
  refine o_iadd cx X1550 (z := (1 : Int32)) d1_76 rfl ?_
  refine o_stI cx X1550 d1_77 A1526 3 (by decide) rfl (Nat.le_of_ble_eq_true rfl) ge1528 fun T1553 h1555 X1554 W1556 A1526 => ?_
  have KK := KK.wr W1556 (Or.inr sz_b1521)
  have A1526 : own_Ar Z h1555 b1521 .int [(.int (0 : Int32)), (.int (0 : Int32)), (.int (0 : Int32)), (.int (1 : Int32)), (.int (1 : Int32)), (.int (1 : Int32)), (.int (1 : Int32)), (.int (0 : Int32))] := A1526
  refine o_iinc cx X1554 (z := (3 : Int32)) (Ls' := #[rv aa, iv (Int32.ofNat nn), iv 7, rv rk, rv tx, rv pl, s6, rv b1521, iv 3, iv 4, iv 4, iv 5, .unset, .unset, .unset]) d1_78 rfl rfl rfl ?_
  refine o_goto cx X1554 57 d1_81 (by decide) (by decide) ?_
  refine o_iload cx X1554 d1_57 rfl ?_
  refine o_iloadN cx X1554 d1_59 rfl ?_
  refine o_icmpNo cx X1554 d1_60 (by decide) ?_
  refine o_aload cx X1554 d1_63 rfl rfl ?_
  refine o_iload cx X1554 d1_65 rfl ?_
  refine o_iconst cx X1554 (z := (1 : Int32)) d1_67 rfl ?_
  refine o_iadd cx X1554 (z := (4 : Int32)) d1_68 rfl ?_
  refine o_dup2 cx X1554 d1_69 rfl rfl ?_
  refine o_ldI cx X1554 (v := (.int (1 : Int32))) d1_70 A1526 4 (by decide) rfl rfl ?_
  refine o_aload cx X1554 d1_71 rfl rfl ?_
  refine o_iload cx X1554 d1_73 rfl ?_
  refine o_ldI cx X1554 (v := (.int (1 : Int32))) d1_75 A1526 3 (by decide) rfl rfl ?_
  refine o_iadd cx X1554 (z := (2 : Int32)) d1_76 rfl ?_
  refine o_stI cx X1554 d1_77 A1526 4 (by decide) rfl (Nat.le_of_ble_eq_true rfl) ge1528 fun T1557 h1559 X1558 W1560 A1526 => ?_
  have KK := KK.wr W1560 (Or.inr sz_b1521)
  have A1526 : own_Ar Z h1559 b1521 .int [(.int (0 : Int32)), (.int (0 : Int32)), (.int (0 : Int32)), (.int (1 : Int32)), (.int (2 : Int32)), (.int (1 : Int32)), (.int (1 : Int32)), (.int (0 : Int32))] := A1526
  refine o_iinc cx X1558 (z := (4 : Int32)) (Ls' := #[rv aa, iv (Int32.ofNat nn), iv 7, rv rk, rv tx, rv pl, s6, rv b1521, iv 4, iv 4, iv 4, iv 5, .unset, .unset, .unset]) d1_78 rfl rfl rfl ?_
  refine o_goto cx X1558 57 d1_81 (by decide) (by decide) ?_
  refine o_iload cx X1558 d1_57 rfl ?_
  refine o_iloadN cx X1558 d1_59 rfl ?_
  refine o_icmpNo cx X1558 d1_60 (by decide) ?_
  refine o_aload cx X1558 d1_63 rfl rfl ?_
  refine o_iload cx X1558 d1_65 rfl ?_
  refine o_iconst cx X1558 (z := (1 : Int32)) d1_67 rfl ?_
  refine o_iadd cx X1558 (z := (5 : Int32)) d1_68 rfl ?_
  refine o_dup2 cx X1558 d1_69 rfl rfl ?_
  refine o_ldI cx X1558 (v := (.int (1 : Int32))) d1_70 A1526 5 (by decide) rfl rfl ?_
  refine o_aload cx X1558 d1_71 rfl rfl ?_
  refine o_iload cx X1558 d1_73 rfl ?_
  refine o_ldI cx X1558 (v := (.int (2 : Int32))) d1_75 A1526 4 (by decide) rfl rfl ?_
  refine o_iadd cx X1558 (z := (3 : Int32)) d1_76 rfl ?_
  refine o_stI cx X1558 d1_77 A1526 5 (by decide) rfl (Nat.le_of_ble_eq_true rfl) ge1528 fun T1561 h1563 X1562 W1564 A1526 => ?_
  have KK := KK.wr W1564 (Or.inr sz_b1521)
  have A1526 : own_Ar Z h1563 b1521 .int [(.int (0 : Int32)), (.int (0 : Int32)), (.int (0 : Int32)), (.int (1 : Int32)), (.int (2 : Int32)), (.int (3 : Int32)), (.int (1 : Int32)), (.int (0 : Int32))] := A1526
  refine o_iinc cx X1562 (z := (5 : Int32)) (Ls' := #[rv aa, iv (Int32.ofNat nn), iv 7, rv rk, rv tx, rv pl, s6, rv b1521, iv 5, iv 4, iv 4, iv 5, .unset, .unset, .unset]) d1_78 rfl rfl rfl ?_
  refine o_goto cx X1562 57 d1_81 (by decide) (by decide) ?_
  refine o_iload cx X1562 d1_57 rfl ?_
  refine o_iloadN cx X1562 d1_59 rfl ?_
  refine o_icmpNo cx X1562 d1_60 (by decide) ?_
  refine o_aload cx X1562 d1_63 rfl rfl ?_
  refine o_iload cx X1562 d1_65 rfl ?_
  refine o_iconst cx X1562 (z := (1 : Int32)) d1_67 rfl ?_
  refine o_iadd cx X1562 (z := (6 : Int32)) d1_68 rfl ?_
  refine o_dup2 cx X1562 d1_69 rfl rfl ?_
  refine o_ldI cx X1562 (v := (.int (1 : Int32))) d1_70 A1526 6 (by decide) rfl rfl ?_
  refine o_aload cx X1562 d1_71 rfl rfl ?_
  refine o_iload cx X1562 d1_73 rfl ?_
  refine o_ldI cx X1562 (v := (.int (3 : Int32))) d1_75 A1526 5 (by decide) rfl rfl ?_
  refine o_iadd cx X1562 (z := (4 : Int32)) d1_76 rfl ?_
  refine o_stI cx X1562 d1_77 A1526 6 (by decide) rfl (Nat.le_of_ble_eq_true rfl) ge1528 fun T1565 h1567 X1566 W1568 A1526 => ?_
  have KK := KK.wr W1568 (Or.inr sz_b1521)
  have A1526 : own_Ar Z h1567 b1521 .int [(.int (0 : Int32)), (.int (0 : Int32)), (.int (0 : Int32)), (.int (1 : Int32)), (.int (2 : Int32)), (.int (3 : Int32)), (.int (4 : Int32)), (.int (0 : Int32))] := A1526
  refine o_iinc cx X1566 (z := (6 : Int32)) (Ls' := #[rv aa, iv (Int32.ofNat nn), iv 7, rv rk, rv tx, rv pl, s6, rv b1521, iv 6, iv 4, iv 4, iv 5, .unset, .unset, .unset]) d1_78 rfl rfl rfl ?_
  refine o_goto cx X1566 57 d1_81 (by decide) (by decide) ?_
  refine o_iload cx X1566 d1_57 rfl ?_
  refine o_iloadN cx X1566 d1_59 rfl ?_
  refine o_icmpNo cx X1566 d1_60 (by decide) ?_
  refine o_aload cx X1566 d1_63 rfl rfl ?_
  refine o_iload cx X1566 d1_65 rfl ?_
  refine o_iconst cx X1566 (z := (1 : Int32)) d1_67 rfl ?_
  refine o_iadd cx X1566 (z := (7 : Int32)) d1_68 rfl ?_
  refine o_dup2 cx X1566 d1_69 rfl rfl ?_
  refine o_ldI cx X1566 (v := (.int (0 : Int32))) d1_70 A1526 7 (by decide) rfl rfl ?_
  refine o_aload cx X1566 d1_71 rfl rfl ?_
  refine o_iload cx X1566 d1_73 rfl ?_
  refine o_ldI cx X1566 (v := (.int (4 : Int32))) d1_75 A1526 6 (by decide) rfl rfl ?_
  refine o_iadd cx X1566 (z := (4 : Int32)) d1_76 rfl ?_
  refine o_stI cx X1566 d1_77 A1526 7 (by decide) rfl (Nat.le_of_ble_eq_true rfl) ge1528 fun T1569 h1571 X1570 W1572 A1526 => ?_
  have KK := KK.wr W1572 (Or.inr sz_b1521)
  have A1526 : own_Ar Z h1571 b1521 .int [(.int (0 : Int32)), (.int (0 : Int32)), (.int (0 : Int32)), (.int (1 : Int32)), (.int (2 : Int32)), (.int (3 : Int32)), (.int (4 : Int32)), (.int (4 : Int32))] := A1526
  refine o_iinc cx X1570 (z := (7 : Int32)) (Ls' := #[rv aa, iv (Int32.ofNat nn), iv 7, rv rk, rv tx, rv pl, s6, rv b1521, iv 7, iv 4, iv 4, iv 5, .unset, .unset, .unset]) d1_78 rfl rfl rfl ?_
  refine o_goto cx X1570 57 d1_81 (by decide) (by decide) ?_
  refine o_iload cx X1570 d1_57 rfl ?_
  refine o_iloadN cx X1570 d1_59 rfl ?_
  refine o_icmpYes cx X1570 84 d1_60 (by decide) (by decide) (by decide) ?_
  refine o_aload cx X1570 d1_84 rfl rfl ?_
  refine o_len cx X1570 (z := (4 : Int32)) d1_86 (At.keep KK nin0) rfl ?_
  refine o_newP cx X1570 d1_87 (o_w hw 1 rfl) (by decide) 4 4 rfl (Nat.le_refl _) (by decide) (by decide) (by decide) fun T1574 h1576 b1573 gb1579 ge1580 X1575 E1577 A1578 => ?_
  have ne_b1521_b1573 : b1521 ≠ b1573 := by rw [gb1579]; exact Nat.ne_of_lt A1526.lt
  have sz_b1573 : h0.size ≤ b1573 := by rw [gb1579]; exact KK.1
  have A1526 := A1526.ext E1577
  have KK := KK.ext E1577
  have A1578 : own_Ar Z h1576 b1573 .int [(.int (0 : Int32)), (.int (0 : Int32)), (.int (0 : Int32)), (.int (0 : Int32))] := A1578
  refine o_astore cx X1575 (Ls' := #[rv aa, iv (Int32.ofNat nn), iv 7, rv rk, rv tx, rv pl, s6, rv b1521, rv b1573, iv 4, iv 4, iv 5, .unset, .unset, .unset]) d1_89 rfl rfl ?_
  refine o_iconst cx X1575 (z := (0 : Int32)) d1_91 rfl ?_
  refine o_istore cx X1575 (Ls' := #[rv aa, iv (Int32.ofNat nn), iv 7, rv rk, rv tx, rv pl, s6, rv b1521, rv b1573, iv 0, iv 4, iv 5, .unset, .unset, .unset]) d1_92 rfl ?_
  refine o_iload cx X1575 d1_94 rfl ?_
  refine o_aload cx X1575 d1_96 rfl rfl ?_
  refine o_len cx X1575 (z := (4 : Int32)) d1_98 (At.keep KK nin0) rfl ?_
  refine o_icmpNo cx X1575 d1_99 (by decide) ?_
  refine o_aload cx X1575 d1_102 rfl rfl ?_
  refine o_aload cx X1575 d1_104 rfl rfl ?_
  refine o_aload cx X1575 d1_106 rfl rfl ?_
  refine o_iload cx X1575 d1_108 rfl ?_
  refine o_ldI cx X1575 (v := (.int (2 : Int32))) d1_110 (At.keep KK nin0) 0 (by decide) rfl rfl ?_
  refine o_dup2 cx X1575 d1_111 rfl rfl ?_
  refine o_ldI cx X1575 (v := (.int (0 : Int32))) d1_112 A1526 2 (by decide) rfl rfl ?_
  refine o_dup_x2 cx X1575 d1_113 rfl rfl rfl ?_
  refine o_iconst cx X1575 (z := (1 : Int32)) d1_114 rfl ?_
  refine o_iadd cx X1575 (z := (1 : Int32)) d1_115 rfl ?_
  refine o_stI cx X1575 d1_116 A1526 2 (by decide) rfl (Nat.le_of_ble_eq_true rfl) ge1528 fun T1581 h1583 X1582 W1584 A1526 => ?_
  have A1578 := A1578.other W1584 (Ne.symm ne_b1521_b1573)
  have KK := KK.wr W1584 (Or.inr sz_b1521)
  have A1526 : own_Ar Z h1583 b1521 .int [(.int (0 : Int32)), (.int (0 : Int32)), (.int (1 : Int32)), (.int (1 : Int32)), (.int (2 : Int32)), (.int (3 : Int32)), (.int (4 : Int32)), (.int (4 : Int32))] := A1526
  refine o_iload cx X1582 d1_117 rfl ?_
  refine o_stI cx X1582 d1_119 A1578 0 (by decide) rfl (Nat.le_of_ble_eq_true rfl) ge1580 fun T1585 h1587 X1586 W1588 A1578 => ?_
  have A1526 := A1526.other W1588 ne_b1521_b1573
  have KK := KK.wr W1588 (Or.inr sz_b1573)
  have A1578 : own_Ar Z h1587 b1573 .int [(.int (0 : Int32)), (.int (0 : Int32)), (.int (0 : Int32)), (.int (0 : Int32))] := A1578
  refine o_iinc cx X1586 (z := (1 : Int32)) (Ls' := #[rv aa, iv (Int32.ofNat nn), iv 7, rv rk, rv tx, rv pl, s6, rv b1521, rv b1573, iv 1, iv 4, iv 5, .unset, .unset, .unset]) d1_120 rfl rfl rfl ?_
  refine o_goto cx X1586 94 d1_123 (by decide) (by decide) ?_
  refine o_iload cx X1586 d1_94 rfl ?_
  refine o_aload cx X1586 d1_96 rfl rfl ?_
  refine o_len cx X1586 (z := (4 : Int32)) d1_98 (At.keep KK nin0) rfl ?_
  refine o_icmpNo cx X1586 d1_99 (by decide) ?_
  refine o_aload cx X1586 d1_102 rfl rfl ?_
  refine o_aload cx X1586 d1_104 rfl rfl ?_
  refine o_aload cx X1586 d1_106 rfl rfl ?_
  refine o_iload cx X1586 d1_108 rfl ?_
  refine o_ldI cx X1586 (v := (.int (3 : Int32))) d1_110 (At.keep KK nin0) 1 (by decide) rfl rfl ?_
  refine o_dup2 cx X1586 d1_111 rfl rfl ?_
  refine o_ldI cx X1586 (v := (.int (1 : Int32))) d1_112 A1526 3 (by decide) rfl rfl ?_
  refine o_dup_x2 cx X1586 d1_113 rfl rfl rfl ?_
  refine o_iconst cx X1586 (z := (1 : Int32)) d1_114 rfl ?_
  refine o_iadd cx X1586 (z := (2 : Int32)) d1_115 rfl ?_
  refine o_stI cx X1586 d1_116 A1526 3 (by decide) rfl (Nat.le_of_ble_eq_true rfl) ge1528 fun T1589 h1591 X1590 W1592 A1526 => ?_
  have A1578 := A1578.other W1592 (Ne.symm ne_b1521_b1573)
  have KK := KK.wr W1592 (Or.inr sz_b1521)
  have A1526 : own_Ar Z h1591 b1521 .int [(.int (0 : Int32)), (.int (0 : Int32)), (.int (1 : Int32)), (.int (2 : Int32)), (.int (2 : Int32)), (.int (3 : Int32)), (.int (4 : Int32)), (.int (4 : Int32))] := A1526
  refine o_iload cx X1590 d1_117 rfl ?_
  refine o_stI cx X1590 d1_119 A1578 1 (by decide) rfl (Nat.le_of_ble_eq_true rfl) ge1580 fun T1593 h1595 X1594 W1596 A1578 => ?_
  have A1526 := A1526.other W1596 ne_b1521_b1573
  have KK := KK.wr W1596 (Or.inr sz_b1573)
  have A1578 : own_Ar Z h1595 b1573 .int [(.int (0 : Int32)), (.int (1 : Int32)), (.int (0 : Int32)), (.int (0 : Int32))] := A1578
  refine o_iinc cx X1594 (z := (2 : Int32)) (Ls' := #[rv aa, iv (Int32.ofNat nn), iv 7, rv rk, rv tx, rv pl, s6, rv b1521, rv b1573, iv 2, iv 4, iv 5, .unset, .unset, .unset]) d1_120 rfl rfl rfl ?_
  refine o_goto cx X1594 94 d1_123 (by decide) (by decide) ?_
  refine o_iload cx X1594 d1_94 rfl ?_
  refine o_aload cx X1594 d1_96 rfl rfl ?_
  refine o_len cx X1594 (z := (4 : Int32)) d1_98 (At.keep KK nin0) rfl ?_
  refine o_icmpNo cx X1594 d1_99 (by decide) ?_
  refine o_aload cx X1594 d1_102 rfl rfl ?_
  refine o_aload cx X1594 d1_104 rfl rfl ?_
  refine o_aload cx X1594 d1_106 rfl rfl ?_
  refine o_iload cx X1594 d1_108 rfl ?_
  refine o_ldI cx X1594 (v := (.int (4 : Int32))) d1_110 (At.keep KK nin0) 2 (by decide) rfl rfl ?_
  refine o_dup2 cx X1594 d1_111 rfl rfl ?_
  refine o_ldI cx X1594 (v := (.int (2 : Int32))) d1_112 A1526 4 (by decide) rfl rfl ?_
  refine o_dup_x2 cx X1594 d1_113 rfl rfl rfl ?_
  refine o_iconst cx X1594 (z := (1 : Int32)) d1_114 rfl ?_
  refine o_iadd cx X1594 (z := (3 : Int32)) d1_115 rfl ?_
  refine o_stI cx X1594 d1_116 A1526 4 (by decide) rfl (Nat.le_of_ble_eq_true rfl) ge1528 fun T1597 h1599 X1598 W1600 A1526 => ?_
  have A1578 := A1578.other W1600 (Ne.symm ne_b1521_b1573)
  have KK := KK.wr W1600 (Or.inr sz_b1521)
  have A1526 : own_Ar Z h1599 b1521 .int [(.int (0 : Int32)), (.int (0 : Int32)), (.int (1 : Int32)), (.int (2 : Int32)), (.int (3 : Int32)), (.int (3 : Int32)), (.int (4 : Int32)), (.int (4 : Int32))] := A1526
  refine o_iload cx X1598 d1_117 rfl ?_
  refine o_stI cx X1598 d1_119 A1578 2 (by decide) rfl (Nat.le_of_ble_eq_true rfl) ge1580 fun T1601 h1603 X1602 W1604 A1578 => ?_
  have A1526 := A1526.other W1604 ne_b1521_b1573
  have KK := KK.wr W1604 (Or.inr sz_b1573)
  have A1578 : own_Ar Z h1603 b1573 .int [(.int (0 : Int32)), (.int (1 : Int32)), (.int (2 : Int32)), (.int (0 : Int32))] := A1578
  refine o_iinc cx X1602 (z := (3 : Int32)) (Ls' := #[rv aa, iv (Int32.ofNat nn), iv 7, rv rk, rv tx, rv pl, s6, rv b1521, rv b1573, iv 3, iv 4, iv 5, .unset, .unset, .unset]) d1_120 rfl rfl rfl ?_
  refine o_goto cx X1602 94 d1_123 (by decide) (by decide) ?_
  refine o_iload cx X1602 d1_94 rfl ?_
  refine o_aload cx X1602 d1_96 rfl rfl ?_
  refine o_len cx X1602 (z := (4 : Int32)) d1_98 (At.keep KK nin0) rfl ?_
  refine o_icmpNo cx X1602 d1_99 (by decide) ?_
  refine o_aload cx X1602 d1_102 rfl rfl ?_
  refine o_aload cx X1602 d1_104 rfl rfl ?_
  refine o_aload cx X1602 d1_106 rfl rfl ?_
  refine o_iload cx X1602 d1_108 rfl ?_
  refine o_ldI cx X1602 (v := (.int (5 : Int32))) d1_110 (At.keep KK nin0) 3 (by decide) rfl rfl ?_
  refine o_dup2 cx X1602 d1_111 rfl rfl ?_
  refine o_ldI cx X1602 (v := (.int (3 : Int32))) d1_112 A1526 5 (by decide) rfl rfl ?_
  refine o_dup_x2 cx X1602 d1_113 rfl rfl rfl ?_
  refine o_iconst cx X1602 (z := (1 : Int32)) d1_114 rfl ?_
  refine o_iadd cx X1602 (z := (4 : Int32)) d1_115 rfl ?_
  refine o_stI cx X1602 d1_116 A1526 5 (by decide) rfl (Nat.le_of_ble_eq_true rfl) ge1528 fun T1605 h1607 X1606 W1608 A1526 => ?_
  have A1578 := A1578.other W1608 (Ne.symm ne_b1521_b1573)
  have KK := KK.wr W1608 (Or.inr sz_b1521)
  have A1526 : own_Ar Z h1607 b1521 .int [(.int (0 : Int32)), (.int (0 : Int32)), (.int (1 : Int32)), (.int (2 : Int32)), (.int (3 : Int32)), (.int (4 : Int32)), (.int (4 : Int32)), (.int (4 : Int32))] := A1526
  refine o_iload cx X1606 d1_117 rfl ?_
  refine o_stI cx X1606 d1_119 A1578 3 (by decide) rfl (Nat.le_of_ble_eq_true rfl) ge1580 fun T1609 h1611 X1610 W1612 A1578 => ?_
  have A1526 := A1526.other W1612 ne_b1521_b1573
  have KK := KK.wr W1612 (Or.inr sz_b1573)
  have A1578 : own_Ar Z h1611 b1573 .int [(.int (0 : Int32)), (.int (1 : Int32)), (.int (2 : Int32)), (.int (3 : Int32))] := A1578
  refine o_iinc cx X1610 (z := (4 : Int32)) (Ls' := #[rv aa, iv (Int32.ofNat nn), iv 7, rv rk, rv tx, rv pl, s6, rv b1521, rv b1573, iv 4, iv 4, iv 5, .unset, .unset, .unset]) d1_120 rfl rfl rfl ?_
  refine o_goto cx X1610 94 d1_123 (by decide) (by decide) ?_
  refine o_iload cx X1610 d1_94 rfl ?_
  refine o_aload cx X1610 d1_96 rfl rfl ?_
  refine o_len cx X1610 (z := (4 : Int32)) d1_98 (At.keep KK nin0) rfl ?_
  refine o_icmpYes cx X1610 126 d1_99 (by decide) (by decide) (by decide) ?_
  have ne_aa_b1573 : aa ≠ b1573 := Nat.ne_of_lt (Nat.lt_of_lt_of_le E0.lt sz_b1573)
  exact kk _ _ b1521 b1573 (4 : Int32) (4 : Int32) (5 : Int32) (X1610.more (by decide) (by decide)) ge1580 ne_aa_b1573  (E0.keep KK) (F0.keep KK nin0) (F1.keep KK nin0) (F2.keep KK nin0) (F3.keep KK nin0) (Ar.keep KK nin0) (At.keep KK nin0) (Ap.keep KK nin0) (Ac.keep KK nin0) A1578
set_option maxRecDepth 65536 in
set_option maxHeartbeats 40000000 in
theorem segA_7_3 {p : Program} {l : Launch} {e : Env} {s : State} {m : MethodId} {below : List Frame} {meth : Method} {c : Code} {n0 : Nat} {T0 : State} {h0 : Heap} {Z : State} {a0 : Array Value} {args : Array Value} {P : State → Outcome → Prop} (hw : ∀ d ∈ tables_1, d.before a0 Z = true) (aa rk tx pl : Addr) (nn k0 k1 k2 k3 : Nat) (v0 v1 v2 v3 : Int32) (s6 : Slot) (cv : Addr) (vcs : List Value) (cx : own_Cx p s m meth c Z prog_28_method_2_code 15 (⟨"com/example/rough_dedup/roughdedup/ShingleIndex$Postings", "<init>", "(II[I[I[I[I)V"⟩ : MethodName) none) (X0 : own_Sd p l e ({ frames := 2, cells := 7, slots := 41, locals := 74 } : Room) s m args below meth c n0 T0 h0 0 0) (ga : n0 ≤ aa) (ne_aa_rk : aa ≠ rk) (ne_aa_tx : aa ≠ tx) (ne_aa_pl : aa ≠ pl) (E0 : Exa Z h0 aa "com/example/rough_dedup/roughdedup/ShingleIndex$Postings") (F0 : Fld Z h0 aa "com/example/rough_dedup/roughdedup/ShingleIndex$Postings" "starts" "[I" .null) (F1 : Fld Z h0 aa "com/example/rough_dedup/roughdedup/ShingleIndex$Postings" "texts" "[I" .null) (F2 : Fld Z h0 aa "com/example/rough_dedup/roughdedup/ShingleIndex$Postings" "places" "[I" .null) (F3 : Fld Z h0 aa "com/example/rough_dedup/roughdedup/ShingleIndex$Postings" "covered" "[I" .null) (Ar : own_Ar Z h0 rk .int [(.int (Int32.ofNat k0)), (.int (Int32.ofNat k1)), (.int (Int32.ofNat k2)), (.int (Int32.ofNat k3))]) (At : own_Ar Z h0 tx .int [(.int (3 : Int32)), (.int (4 : Int32)), (.int (5 : Int32)), (.int (6 : Int32))]) (Ap : own_Ar Z h0 pl .int [(.int v0), (.int v1), (.int v2), (.int v3)]) (Ac : own_Ar Z h0 cv .int vcs) (kk : ∀ (T : State) (h : Heap) (ts bt : Addr) (x9 x10 x11 : Int32), own_Sd p l e ({ frames := 2, cells := 7, slots := 41, locals := 74 } : Room) s m args below meth c n0 T h 2 12 → n0 ≤ bt → aa ≠ bt → Exa Z h aa "com/example/rough_dedup/roughdedup/ShingleIndex$Postings" → Fld Z h aa "com/example/rough_dedup/roughdedup/ShingleIndex$Postings" "starts" "[I" .null → Fld Z h aa "com/example/rough_dedup/roughdedup/ShingleIndex$Postings" "texts" "[I" .null → Fld Z h aa "com/example/rough_dedup/roughdedup/ShingleIndex$Postings" "places" "[I" .null → Fld Z h aa "com/example/rough_dedup/roughdedup/ShingleIndex$Postings" "covered" "[I" .null → own_Ar Z h rk .int [(.int (Int32.ofNat k0)), (.int (Int32.ofNat k1)), (.int (Int32.ofNat k2)), (.int (Int32.ofNat k3))] → own_Ar Z h tx .int [(.int (3 : Int32)), (.int (4 : Int32)), (.int (5 : Int32)), (.int (6 : Int32))] → own_Ar Z h pl .int [(.int v0), (.int v1), (.int v2), (.int v3)] → own_Ar Z h cv .int vcs → own_Ar Z h bt .int [(.int (0 : Int32)), (.int (1 : Int32)), (.int (2 : Int32)), (.int (3 : Int32))] → own_Go p e below P (T.setTop (mkF m 126 #[rv aa, iv (Int32.ofNat nn), iv 7, rv rk, rv tx, rv pl, s6, .val (.ref ts), .val (.ref bt), .val (.int x9), .val (.int x10), .val (.int x11), .unset, .unset, .unset] []))) :
    own_Go p e below P (T0.setTop (mkF m 0 #[rv aa, iv (Int32.ofNat nn), iv 7, rv rk, rv tx, rv pl, s6, .unset, .unset, .unset, .unset, .unset, .unset, .unset, .unset] [])) := by
  have KK := Keep.refl h0 []
  refine o_aloadN cx X0 d1_0 rfl rfl ?_
  refine o_initO cx X0 d1_1 (o_w hw 9 rfl) (o_w hw 10 rfl) (o_w hw 11 rfl) rfl (by decide) 0 rfl (by decide) fun T1613 X1614 => ?_
  refine o_iloadN cx X1614 d1_4 rfl ?_
  refine o_iconst cx X1614 (z := (1 : Int32)) d1_5 rfl ?_
  refine o_iadd cx X1614 (z := (8 : Int32)) d1_6 rfl ?_
  refine o_newP cx X1614 d1_7 (o_w hw 1 rfl) (by decide) 8 8 rfl (Nat.le_refl _) (by decide) (by decide) (by decide) fun T1616 h1618 b1615 gb1621 ge1622 X1617 E1619 A1620 => ?_
  have sz_b1615 : h0.size ≤ b1615 := by rw [gb1621]; exact KK.1
  have KK := KK.ext E1619
  have A1620 : own_Ar Z h1618 b1615 .int [(.int (0 : Int32)), (.int (0 : Int32)), (.int (0 : Int32)), (.int (0 : Int32)), (.int (0 : Int32)), (.int (0 : Int32)), (.int (0 : Int32)), (.int (0 : Int32))] := A1620
  refine o_astore cx X1617 (Ls' := #[rv aa, iv (Int32.ofNat nn), iv 7, rv rk, rv tx, rv pl, s6, rv b1615, .unset, .unset, .unset, .unset, .unset, .unset, .unset]) d1_9 rfl rfl ?_
  refine o_aload cx X1617 d1_11 rfl rfl ?_
  refine o_astore cx X1617 (Ls' := #[rv aa, iv (Int32.ofNat nn), iv 7, rv rk, rv tx, rv pl, s6, rv b1615, rv tx, .unset, .unset, .unset, .unset, .unset, .unset]) d1_13 rfl rfl ?_
  refine o_aload cx X1617 d1_15 rfl rfl ?_
  refine o_len cx X1617 (z := (4 : Int32)) d1_17 (At.keep KK nin0) rfl ?_
  refine o_istore cx X1617 (Ls' := #[rv aa, iv (Int32.ofNat nn), iv 7, rv rk, rv tx, rv pl, s6, rv b1615, rv tx, iv 4, .unset, .unset, .unset, .unset, .unset]) d1_18 rfl ?_
  refine o_iconst cx X1617 (z := (0 : Int32)) d1_20 rfl ?_
  refine o_istore cx X1617 (Ls' := #[rv aa, iv (Int32.ofNat nn), iv 7, rv rk, rv tx, rv pl, s6, rv b1615, rv tx, iv 4, iv 0, .unset, .unset, .unset, .unset]) d1_21 rfl ?_
  refine o_iload cx X1617 d1_23 rfl ?_
  refine o_iload cx X1617 d1_25 rfl ?_
  refine o_icmpNo cx X1617 d1_27 (by decide) ?_
  refine o_aload cx X1617 d1_30 rfl rfl ?_
  refine o_iload cx X1617 d1_32 rfl ?_
  refine o_ldI cx X1617 (v := (.int (3 : Int32))) d1_34 (At.keep KK nin0) 0 (by decide) rfl rfl ?_
  refine o_istore cx X1617 (Ls' := #[rv aa, iv (Int32.ofNat nn), iv 7, rv rk, rv tx, rv pl, s6, rv b1615, rv tx, iv 4, iv 0, iv 3, .unset, .unset, .unset]) d1_35 rfl ?_
  refine o_aload cx X1617 d1_37 rfl rfl ?_
  refine o_iload cx X1617 d1_39 rfl ?_
  refine o_iconst cx X1617 (z := (1 : Int32)) d1_41 rfl ?_
  refine o_iadd cx X1617 (z := (4 : Int32)) d1_42 rfl ?_
  refine o_dup2 cx X1617 d1_43 rfl rfl ?_
  refine o_ldI cx X1617 (v := (.int (0 : Int32))) d1_44 A1620 4 (by decide) rfl rfl ?_
  refine o_iconst cx X1617 (z := (1 : Int32)) d1_45 rfl ?_
  refine o_iadd cx X1617 (z := (1 : Int32)) d1_46 rfl ?_
  refine o_stI cx X1617 d1_47 A1620 4 (by decide) rfl (Nat.le_of_ble_eq_true rfl) ge1622 fun T1623 h1625 X1624 W1626 A1620 => ?_
  have KK := KK.wr W1626 (Or.inr sz_b1615)
  have A1620 : own_Ar Z h1625 b1615 .int [(.int (0 : Int32)), (.int (0 : Int32)), (.int (0 : Int32)), (.int (0 : Int32)), (.int (1 : Int32)), (.int (0 : Int32)), (.int (0 : Int32)), (.int (0 : Int32))] := A1620
  refine o_iinc cx X1624 (z := (1 : Int32)) (Ls' := #[rv aa, iv (Int32.ofNat nn), iv 7, rv rk, rv tx, rv pl, s6, rv b1615, rv tx, iv 4, iv 1, iv 3, .unset, .unset, .unset]) d1_48 rfl rfl rfl ?_
  refine o_goto cx X1624 23 d1_51 (by decide) (by decide) ?_
  refine o_iload cx X1624 d1_23 rfl ?_
  refine o_iload cx X1624 d1_25 rfl ?_
  refine o_icmpNo cx X1624 d1_27 (by decide) ?_
  refine o_aload cx X1624 d1_30 rfl rfl ?_
  refine o_iload cx X1624 d1_32 rfl ?_
  refine o_ldI cx X1624 (v := (.int (4 : Int32))) d1_34 (At.keep KK nin0) 1 (by decide) rfl rfl ?_
  refine o_istore cx X1624 (Ls' := #[rv aa, iv (Int32.ofNat nn), iv 7, rv rk, rv tx, rv pl, s6, rv b1615, rv tx, iv 4, iv 1, iv 4, .unset, .unset, .unset]) d1_35 rfl ?_
  refine o_aload cx X1624 d1_37 rfl rfl ?_
  refine o_iload cx X1624 d1_39 rfl ?_
  refine o_iconst cx X1624 (z := (1 : Int32)) d1_41 rfl ?_
  refine o_iadd cx X1624 (z := (5 : Int32)) d1_42 rfl ?_
  refine o_dup2 cx X1624 d1_43 rfl rfl ?_
  refine o_ldI cx X1624 (v := (.int (0 : Int32))) d1_44 A1620 5 (by decide) rfl rfl ?_
  refine o_iconst cx X1624 (z := (1 : Int32)) d1_45 rfl ?_
  refine o_iadd cx X1624 (z := (1 : Int32)) d1_46 rfl ?_
  refine o_stI cx X1624 d1_47 A1620 5 (by decide) rfl (Nat.le_of_ble_eq_true rfl) ge1622 fun T1627 h1629 X1628 W1630 A1620 => ?_
  have KK := KK.wr W1630 (Or.inr sz_b1615)
  have A1620 : own_Ar Z h1629 b1615 .int [(.int (0 : Int32)), (.int (0 : Int32)), (.int (0 : Int32)), (.int (0 : Int32)), (.int (1 : Int32)), (.int (1 : Int32)), (.int (0 : Int32)), (.int (0 : Int32))] := A1620
  refine o_iinc cx X1628 (z := (2 : Int32)) (Ls' := #[rv aa, iv (Int32.ofNat nn), iv 7, rv rk, rv tx, rv pl, s6, rv b1615, rv tx, iv 4, iv 2, iv 4, .unset, .unset, .unset]) d1_48 rfl rfl rfl ?_
  refine o_goto cx X1628 23 d1_51 (by decide) (by decide) ?_
  refine o_iload cx X1628 d1_23 rfl ?_
  refine o_iload cx X1628 d1_25 rfl ?_
  refine o_icmpNo cx X1628 d1_27 (by decide) ?_
  refine o_aload cx X1628 d1_30 rfl rfl ?_
  refine o_iload cx X1628 d1_32 rfl ?_
  refine o_ldI cx X1628 (v := (.int (5 : Int32))) d1_34 (At.keep KK nin0) 2 (by decide) rfl rfl ?_
  refine o_istore cx X1628 (Ls' := #[rv aa, iv (Int32.ofNat nn), iv 7, rv rk, rv tx, rv pl, s6, rv b1615, rv tx, iv 4, iv 2, iv 5, .unset, .unset, .unset]) d1_35 rfl ?_
  refine o_aload cx X1628 d1_37 rfl rfl ?_
  refine o_iload cx X1628 d1_39 rfl ?_
  refine o_iconst cx X1628 (z := (1 : Int32)) d1_41 rfl ?_
  refine o_iadd cx X1628 (z := (6 : Int32)) d1_42 rfl ?_
  refine o_dup2 cx X1628 d1_43 rfl rfl ?_
  refine o_ldI cx X1628 (v := (.int (0 : Int32))) d1_44 A1620 6 (by decide) rfl rfl ?_
  refine o_iconst cx X1628 (z := (1 : Int32)) d1_45 rfl ?_
  refine o_iadd cx X1628 (z := (1 : Int32)) d1_46 rfl ?_
  refine o_stI cx X1628 d1_47 A1620 6 (by decide) rfl (Nat.le_of_ble_eq_true rfl) ge1622 fun T1631 h1633 X1632 W1634 A1620 => ?_
  have KK := KK.wr W1634 (Or.inr sz_b1615)
  have A1620 : own_Ar Z h1633 b1615 .int [(.int (0 : Int32)), (.int (0 : Int32)), (.int (0 : Int32)), (.int (0 : Int32)), (.int (1 : Int32)), (.int (1 : Int32)), (.int (1 : Int32)), (.int (0 : Int32))] := A1620
  refine o_iinc cx X1632 (z := (3 : Int32)) (Ls' := #[rv aa, iv (Int32.ofNat nn), iv 7, rv rk, rv tx, rv pl, s6, rv b1615, rv tx, iv 4, iv 3, iv 5, .unset, .unset, .unset]) d1_48 rfl rfl rfl ?_
  refine o_goto cx X1632 23 d1_51 (by decide) (by decide) ?_
  refine o_iload cx X1632 d1_23 rfl ?_
  refine o_iload cx X1632 d1_25 rfl ?_
  refine o_icmpNo cx X1632 d1_27 (by decide) ?_
  refine o_aload cx X1632 d1_30 rfl rfl ?_
  refine o_iload cx X1632 d1_32 rfl ?_
  refine o_ldI cx X1632 (v := (.int (6 : Int32))) d1_34 (At.keep KK nin0) 3 (by decide) rfl rfl ?_
  refine o_istore cx X1632 (Ls' := #[rv aa, iv (Int32.ofNat nn), iv 7, rv rk, rv tx, rv pl, s6, rv b1615, rv tx, iv 4, iv 3, iv 6, .unset, .unset, .unset]) d1_35 rfl ?_
  refine o_aload cx X1632 d1_37 rfl rfl ?_
  refine o_iload cx X1632 d1_39 rfl ?_
  refine o_iconst cx X1632 (z := (1 : Int32)) d1_41 rfl ?_
  refine o_iadd cx X1632 (z := (7 : Int32)) d1_42 rfl ?_
  refine o_dup2 cx X1632 d1_43 rfl rfl ?_
  refine o_ldI cx X1632 (v := (.int (0 : Int32))) d1_44 A1620 7 (by decide) rfl rfl ?_
  refine o_iconst cx X1632 (z := (1 : Int32)) d1_45 rfl ?_
  refine o_iadd cx X1632 (z := (1 : Int32)) d1_46 rfl ?_
  refine o_stI cx X1632 d1_47 A1620 7 (by decide) rfl (Nat.le_of_ble_eq_true rfl) ge1622 fun T1635 h1637 X1636 W1638 A1620 => ?_
  have KK := KK.wr W1638 (Or.inr sz_b1615)
  have A1620 : own_Ar Z h1637 b1615 .int [(.int (0 : Int32)), (.int (0 : Int32)), (.int (0 : Int32)), (.int (0 : Int32)), (.int (1 : Int32)), (.int (1 : Int32)), (.int (1 : Int32)), (.int (1 : Int32))] := A1620
  refine o_iinc cx X1636 (z := (4 : Int32)) (Ls' := #[rv aa, iv (Int32.ofNat nn), iv 7, rv rk, rv tx, rv pl, s6, rv b1615, rv tx, iv 4, iv 4, iv 6, .unset, .unset, .unset]) d1_48 rfl rfl rfl ?_
  refine o_goto cx X1636 23 d1_51 (by decide) (by decide) ?_
  refine o_iload cx X1636 d1_23 rfl ?_
  refine o_iload cx X1636 d1_25 rfl ?_
  refine o_icmpYes cx X1636 54 d1_27 (by decide) (by decide) (by decide) ?_
  refine o_iconst cx X1636 (z := (0 : Int32)) d1_54 rfl ?_
  refine o_istore cx X1636 (Ls' := #[rv aa, iv (Int32.ofNat nn), iv 7, rv rk, rv tx, rv pl, s6, rv b1615, iv 0, iv 4, iv 4, iv 6, .unset, .unset, .unset]) d1_55 rfl ?_
  refine o_iload cx X1636 d1_57 rfl ?_
  refine o_iloadN cx X1636 d1_59 rfl ?_
  refine o_icmpNo cx X1636 d1_60 (by decide) ?_
  refine o_aload cx X1636 d1_63 rfl rfl ?_
  refine o_iload cx X1636 d1_65 rfl ?_
  refine o_iconst cx X1636 (z := (1 : Int32)) d1_67 rfl ?_
  refine o_iadd cx X1636 (z := (1 : Int32)) d1_68 rfl ?_
  refine o_dup2 cx X1636 d1_69 rfl rfl ?_
  refine o_ldI cx X1636 (v := (.int (0 : Int32))) d1_70 A1620 1 (by decide) rfl rfl ?_
  refine o_aload cx X1636 d1_71 rfl rfl ?_
  refine o_iload cx X1636 d1_73 rfl ?_
  refine o_ldI cx X1636 (v := (.int (0 : Int32))) d1_75 A1620 0 (by decide) rfl rfl ?_
  refine o_iadd cx X1636 (z := (0 : Int32)) d1_76 rfl ?_
  refine o_stI cx X1636 d1_77 A1620 1 (by decide) rfl (Nat.le_of_ble_eq_true rfl) ge1622 fun T1639 h1641 X1640 W1642 A1620 => ?_
  have KK := KK.wr W1642 (Or.inr sz_b1615)
  have A1620 : own_Ar Z h1641 b1615 .int [(.int (0 : Int32)), (.int (0 : Int32)), (.int (0 : Int32)), (.int (0 : Int32)), (.int (1 : Int32)), (.int (1 : Int32)), (.int (1 : Int32)), (.int (1 : Int32))] := A1620
  refine o_iinc cx X1640 (z := (1 : Int32)) (Ls' := #[rv aa, iv (Int32.ofNat nn), iv 7, rv rk, rv tx, rv pl, s6, rv b1615, iv 1, iv 4, iv 4, iv 6, .unset, .unset, .unset]) d1_78 rfl rfl rfl ?_
  refine o_goto cx X1640 57 d1_81 (by decide) (by decide) ?_
  refine o_iload cx X1640 d1_57 rfl ?_
  refine o_iloadN cx X1640 d1_59 rfl ?_
  refine o_icmpNo cx X1640 d1_60 (by decide) ?_
  refine o_aload cx X1640 d1_63 rfl rfl ?_
  refine o_iload cx X1640 d1_65 rfl ?_
  refine o_iconst cx X1640 (z := (1 : Int32)) d1_67 rfl ?_
  refine o_iadd cx X1640 (z := (2 : Int32)) d1_68 rfl ?_
  refine o_dup2 cx X1640 d1_69 rfl rfl ?_
  refine o_ldI cx X1640 (v := (.int (0 : Int32))) d1_70 A1620 2 (by decide) rfl rfl ?_
  refine o_aload cx X1640 d1_71 rfl rfl ?_
  refine o_iload cx X1640 d1_73 rfl ?_
  refine o_ldI cx X1640 (v := (.int (0 : Int32))) d1_75 A1620 1 (by decide) rfl rfl ?_
  refine o_iadd cx X1640 (z := (0 : Int32)) d1_76 rfl ?_
  refine o_stI cx X1640 d1_77 A1620 2 (by decide) rfl (Nat.le_of_ble_eq_true rfl) ge1622 fun T1643 h1645 X1644 W1646 A1620 => ?_
  have KK := KK.wr W1646 (Or.inr sz_b1615)
  have A1620 : own_Ar Z h1645 b1615 .int [(.int (0 : Int32)), (.int (0 : Int32)), (.int (0 : Int32)), (.int (0 : Int32)), (.int (1 : Int32)), (.int (1 : Int32)), (.int (1 : Int32)), (.int (1 : Int32))] := A1620
  refine o_iinc cx X1644 (z := (2 : Int32)) (Ls' := #[rv aa, iv (Int32.ofNat nn), iv 7, rv rk, rv tx, rv pl, s6, rv b1615, iv 2, iv 4, iv 4, iv 6, .unset, .unset, .unset]) d1_78 rfl rfl rfl ?_
  refine o_goto cx X1644 57 d1_81 (by decide) (by decide) ?_
  refine o_iload cx X1644 d1_57 rfl ?_
  refine o_iloadN cx X1644 d1_59 rfl ?_
  refine o_icmpNo cx X1644 d1_60 (by decide) ?_
  refine o_aload cx X1644 d1_63 rfl rfl ?_
  refine o_iload cx X1644 d1_65 rfl ?_
  refine o_iconst cx X1644 (z := (1 : Int32)) d1_67 rfl ?_
  refine o_iadd cx X1644 (z := (3 : Int32)) d1_68 rfl ?_
  refine o_dup2 cx X1644 d1_69 rfl rfl ?_
  refine o_ldI cx X1644 (v := (.int (0 : Int32))) d1_70 A1620 3 (by decide) rfl rfl ?_
  refine o_aload cx X1644 d1_71 rfl rfl ?_
  refine o_iload cx X1644 d1_73 rfl ?_
  refine o_ldI cx X1644 (v := (.int (0 : Int32))) d1_75 A1620 2 (by decide) rfl rfl ?_
  refine o_iadd cx X1644 (z := (0 : Int32)) d1_76 rfl ?_
  refine o_stI cx X1644 d1_77 A1620 3 (by decide) rfl (Nat.le_of_ble_eq_true rfl) ge1622 fun T1647 h1649 X1648 W1650 A1620 => ?_
  have KK := KK.wr W1650 (Or.inr sz_b1615)
  have A1620 : own_Ar Z h1649 b1615 .int [(.int (0 : Int32)), (.int (0 : Int32)), (.int (0 : Int32)), (.int (0 : Int32)), (.int (1 : Int32)), (.int (1 : Int32)), (.int (1 : Int32)), (.int (1 : Int32))] := A1620
  refine o_iinc cx X1648 (z := (3 : Int32)) (Ls' := #[rv aa, iv (Int32.ofNat nn), iv 7, rv rk, rv tx, rv pl, s6, rv b1615, iv 3, iv 4, iv 4, iv 6, .unset, .unset, .unset]) d1_78 rfl rfl rfl ?_
  refine o_goto cx X1648 57 d1_81 (by decide) (by decide) ?_
  refine o_iload cx X1648 d1_57 rfl ?_
  refine o_iloadN cx X1648 d1_59 rfl ?_
  refine o_icmpNo cx X1648 d1_60 (by decide) ?_
  refine o_aload cx X1648 d1_63 rfl rfl ?_
  refine o_iload cx X1648 d1_65 rfl ?_
  refine o_iconst cx X1648 (z := (1 : Int32)) d1_67 rfl ?_
  refine o_iadd cx X1648 (z := (4 : Int32)) d1_68 rfl ?_
  refine o_dup2 cx X1648 d1_69 rfl rfl ?_
  refine o_ldI cx X1648 (v := (.int (1 : Int32))) d1_70 A1620 4 (by decide) rfl rfl ?_
  refine o_aload cx X1648 d1_71 rfl rfl ?_
  refine o_iload cx X1648 d1_73 rfl ?_
  refine o_ldI cx X1648 (v := (.int (0 : Int32))) d1_75 A1620 3 (by decide) rfl rfl ?_
  refine o_iadd cx X1648 (z := (1 : Int32)) d1_76 rfl ?_
  refine o_stI cx X1648 d1_77 A1620 4 (by decide) rfl (Nat.le_of_ble_eq_true rfl) ge1622 fun T1651 h1653 X1652 W1654 A1620 => ?_
  have KK := KK.wr W1654 (Or.inr sz_b1615)
  have A1620 : own_Ar Z h1653 b1615 .int [(.int (0 : Int32)), (.int (0 : Int32)), (.int (0 : Int32)), (.int (0 : Int32)), (.int (1 : Int32)), (.int (1 : Int32)), (.int (1 : Int32)), (.int (1 : Int32))] := A1620
  refine o_iinc cx X1652 (z := (4 : Int32)) (Ls' := #[rv aa, iv (Int32.ofNat nn), iv 7, rv rk, rv tx, rv pl, s6, rv b1615, iv 4, iv 4, iv 4, iv 6, .unset, .unset, .unset]) d1_78 rfl rfl rfl ?_
  refine o_goto cx X1652 57 d1_81 (by decide) (by decide) ?_
  refine o_iload cx X1652 d1_57 rfl ?_
  refine o_iloadN cx X1652 d1_59 rfl ?_
  refine o_icmpNo cx X1652 d1_60 (by decide) ?_
  refine o_aload cx X1652 d1_63 rfl rfl ?_
  refine o_iload cx X1652 d1_65 rfl ?_
  refine o_iconst cx X1652 (z := (1 : Int32)) d1_67 rfl ?_
  refine o_iadd cx X1652 (z := (5 : Int32)) d1_68 rfl ?_
  refine o_dup2 cx X1652 d1_69 rfl rfl ?_
  refine o_ldI cx X1652 (v := (.int (1 : Int32))) d1_70 A1620 5 (by decide) rfl rfl ?_
  refine o_aload cx X1652 d1_71 rfl rfl ?_
  refine o_iload cx X1652 d1_73 rfl ?_
  refine o_ldI cx X1652 (v := (.int (1 : Int32))) d1_75 A1620 4 (by decide) rfl rfl ?_
  refine o_iadd cx X1652 (z := (2 : Int32)) d1_76 rfl ?_
  refine o_stI cx X1652 d1_77 A1620 5 (by decide) rfl (Nat.le_of_ble_eq_true rfl) ge1622 fun T1655 h1657 X1656 W1658 A1620 => ?_
  have KK := KK.wr W1658 (Or.inr sz_b1615)
  have A1620 : own_Ar Z h1657 b1615 .int [(.int (0 : Int32)), (.int (0 : Int32)), (.int (0 : Int32)), (.int (0 : Int32)), (.int (1 : Int32)), (.int (2 : Int32)), (.int (1 : Int32)), (.int (1 : Int32))] := A1620
  refine o_iinc cx X1656 (z := (5 : Int32)) (Ls' := #[rv aa, iv (Int32.ofNat nn), iv 7, rv rk, rv tx, rv pl, s6, rv b1615, iv 5, iv 4, iv 4, iv 6, .unset, .unset, .unset]) d1_78 rfl rfl rfl ?_
  refine o_goto cx X1656 57 d1_81 (by decide) (by decide) ?_
  refine o_iload cx X1656 d1_57 rfl ?_
  refine o_iloadN cx X1656 d1_59 rfl ?_
  refine o_icmpNo cx X1656 d1_60 (by decide) ?_
  refine o_aload cx X1656 d1_63 rfl rfl ?_
  refine o_iload cx X1656 d1_65 rfl ?_
  refine o_iconst cx X1656 (z := (1 : Int32)) d1_67 rfl ?_
  refine o_iadd cx X1656 (z := (6 : Int32)) d1_68 rfl ?_
  refine o_dup2 cx X1656 d1_69 rfl rfl ?_
  refine o_ldI cx X1656 (v := (.int (1 : Int32))) d1_70 A1620 6 (by decide) rfl rfl ?_
  refine o_aload cx X1656 d1_71 rfl rfl ?_
  refine o_iload cx X1656 d1_73 rfl ?_
  refine o_ldI cx X1656 (v := (.int (2 : Int32))) d1_75 A1620 5 (by decide) rfl rfl ?_
  refine o_iadd cx X1656 (z := (3 : Int32)) d1_76 rfl ?_
  refine o_stI cx X1656 d1_77 A1620 6 (by decide) rfl (Nat.le_of_ble_eq_true rfl) ge1622 fun T1659 h1661 X1660 W1662 A1620 => ?_
  have KK := KK.wr W1662 (Or.inr sz_b1615)
  have A1620 : own_Ar Z h1661 b1615 .int [(.int (0 : Int32)), (.int (0 : Int32)), (.int (0 : Int32)), (.int (0 : Int32)), (.int (1 : Int32)), (.int (2 : Int32)), (.int (3 : Int32)), (.int (1 : Int32))] := A1620
  refine o_iinc cx X1660 (z := (6 : Int32)) (Ls' := #[rv aa, iv (Int32.ofNat nn), iv 7, rv rk, rv tx, rv pl, s6, rv b1615, iv 6, iv 4, iv 4, iv 6, .unset, .unset, .unset]) d1_78 rfl rfl rfl ?_
  refine o_goto cx X1660 57 d1_81 (by decide) (by decide) ?_
  refine o_iload cx X1660 d1_57 rfl ?_
  refine o_iloadN cx X1660 d1_59 rfl ?_
  refine o_icmpNo cx X1660 d1_60 (by decide) ?_
  refine o_aload cx X1660 d1_63 rfl rfl ?_
  refine o_iload cx X1660 d1_65 rfl ?_
  refine o_iconst cx X1660 (z := (1 : Int32)) d1_67 rfl ?_
  refine o_iadd cx X1660 (z := (7 : Int32)) d1_68 rfl ?_
  refine o_dup2 cx X1660 d1_69 rfl rfl ?_
  refine o_ldI cx X1660 (v := (.int (1 : Int32))) d1_70 A1620 7 (by decide) rfl rfl ?_
  refine o_aload cx X1660 d1_71 rfl rfl ?_
  refine o_iload cx X1660 d1_73 rfl ?_
  refine o_ldI cx X1660 (v := (.int (3 : Int32))) d1_75 A1620 6 (by decide) rfl rfl ?_
  refine o_iadd cx X1660 (z := (4 : Int32)) d1_76 rfl ?_
  refine o_stI cx X1660 d1_77 A1620 7 (by decide) rfl (Nat.le_of_ble_eq_true rfl) ge1622 fun T1663 h1665 X1664 W1666 A1620 => ?_
  have KK := KK.wr W1666 (Or.inr sz_b1615)
  have A1620 : own_Ar Z h1665 b1615 .int [(.int (0 : Int32)), (.int (0 : Int32)), (.int (0 : Int32)), (.int (0 : Int32)), (.int (1 : Int32)), (.int (2 : Int32)), (.int (3 : Int32)), (.int (4 : Int32))] := A1620
  refine o_iinc cx X1664 (z := (7 : Int32)) (Ls' := #[rv aa, iv (Int32.ofNat nn), iv 7, rv rk, rv tx, rv pl, s6, rv b1615, iv 7, iv 4, iv 4, iv 6, .unset, .unset, .unset]) d1_78 rfl rfl rfl ?_
  refine o_goto cx X1664 57 d1_81 (by decide) (by decide) ?_
  refine o_iload cx X1664 d1_57 rfl ?_
  refine o_iloadN cx X1664 d1_59 rfl ?_
  refine o_icmpYes cx X1664 84 d1_60 (by decide) (by decide) (by decide) ?_
  refine o_aload cx X1664 d1_84 rfl rfl ?_
  refine o_len cx X1664 (z := (4 : Int32)) d1_86 (At.keep KK nin0) rfl ?_
  refine o_newP cx X1664 d1_87 (o_w hw 1 rfl) (by decide) 4 4 rfl (Nat.le_refl _) (by decide) (by decide) (by decide) fun T1668 h1670 b1667 gb1673 ge1674 X1669 E1671 A1672 => ?_
  have ne_b1615_b1667 : b1615 ≠ b1667 := by rw [gb1673]; exact Nat.ne_of_lt A1620.lt
  have sz_b1667 : h0.size ≤ b1667 := by rw [gb1673]; exact KK.1
  have A1620 := A1620.ext E1671
  have KK := KK.ext E1671
  have A1672 : own_Ar Z h1670 b1667 .int [(.int (0 : Int32)), (.int (0 : Int32)), (.int (0 : Int32)), (.int (0 : Int32))] := A1672
  refine o_astore cx X1669 (Ls' := #[rv aa, iv (Int32.ofNat nn), iv 7, rv rk, rv tx, rv pl, s6, rv b1615, rv b1667, iv 4, iv 4, iv 6, .unset, .unset, .unset]) d1_89 rfl rfl ?_
  refine o_iconst cx X1669 (z := (0 : Int32)) d1_91 rfl ?_
  refine o_istore cx X1669 (Ls' := #[rv aa, iv (Int32.ofNat nn), iv 7, rv rk, rv tx, rv pl, s6, rv b1615, rv b1667, iv 0, iv 4, iv 6, .unset, .unset, .unset]) d1_92 rfl ?_
  refine o_iload cx X1669 d1_94 rfl ?_
  refine o_aload cx X1669 d1_96 rfl rfl ?_
  refine o_len cx X1669 (z := (4 : Int32)) d1_98 (At.keep KK nin0) rfl ?_
  refine o_icmpNo cx X1669 d1_99 (by decide) ?_
  refine o_aload cx X1669 d1_102 rfl rfl ?_
  refine o_aload cx X1669 d1_104 rfl rfl ?_
  refine o_aload cx X1669 d1_106 rfl rfl ?_
  refine o_iload cx X1669 d1_108 rfl ?_
  refine o_ldI cx X1669 (v := (.int (3 : Int32))) d1_110 (At.keep KK nin0) 0 (by decide) rfl rfl ?_
  refine o_dup2 cx X1669 d1_111 rfl rfl ?_
  refine o_ldI cx X1669 (v := (.int (0 : Int32))) d1_112 A1620 3 (by decide) rfl rfl ?_
  refine o_dup_x2 cx X1669 d1_113 rfl rfl rfl ?_
  refine o_iconst cx X1669 (z := (1 : Int32)) d1_114 rfl ?_
  refine o_iadd cx X1669 (z := (1 : Int32)) d1_115 rfl ?_
  refine o_stI cx X1669 d1_116 A1620 3 (by decide) rfl (Nat.le_of_ble_eq_true rfl) ge1622 fun T1675 h1677 X1676 W1678 A1620 => ?_
  have A1672 := A1672.other W1678 (Ne.symm ne_b1615_b1667)
  have KK := KK.wr W1678 (Or.inr sz_b1615)
  have A1620 : own_Ar Z h1677 b1615 .int [(.int (0 : Int32)), (.int (0 : Int32)), (.int (0 : Int32)), (.int (1 : Int32)), (.int (1 : Int32)), (.int (2 : Int32)), (.int (3 : Int32)), (.int (4 : Int32))] := A1620
  refine o_iload cx X1676 d1_117 rfl ?_
  refine o_stI cx X1676 d1_119 A1672 0 (by decide) rfl (Nat.le_of_ble_eq_true rfl) ge1674 fun T1679 h1681 X1680 W1682 A1672 => ?_
  have A1620 := A1620.other W1682 ne_b1615_b1667
  have KK := KK.wr W1682 (Or.inr sz_b1667)
  have A1672 : own_Ar Z h1681 b1667 .int [(.int (0 : Int32)), (.int (0 : Int32)), (.int (0 : Int32)), (.int (0 : Int32))] := A1672
  refine o_iinc cx X1680 (z := (1 : Int32)) (Ls' := #[rv aa, iv (Int32.ofNat nn), iv 7, rv rk, rv tx, rv pl, s6, rv b1615, rv b1667, iv 1, iv 4, iv 6, .unset, .unset, .unset]) d1_120 rfl rfl rfl ?_
  refine o_goto cx X1680 94 d1_123 (by decide) (by decide) ?_
  refine o_iload cx X1680 d1_94 rfl ?_
  refine o_aload cx X1680 d1_96 rfl rfl ?_
  refine o_len cx X1680 (z := (4 : Int32)) d1_98 (At.keep KK nin0) rfl ?_
  refine o_icmpNo cx X1680 d1_99 (by decide) ?_
  refine o_aload cx X1680 d1_102 rfl rfl ?_
  refine o_aload cx X1680 d1_104 rfl rfl ?_
  refine o_aload cx X1680 d1_106 rfl rfl ?_
  refine o_iload cx X1680 d1_108 rfl ?_
  refine o_ldI cx X1680 (v := (.int (4 : Int32))) d1_110 (At.keep KK nin0) 1 (by decide) rfl rfl ?_
  refine o_dup2 cx X1680 d1_111 rfl rfl ?_
  refine o_ldI cx X1680 (v := (.int (1 : Int32))) d1_112 A1620 4 (by decide) rfl rfl ?_
  refine o_dup_x2 cx X1680 d1_113 rfl rfl rfl ?_
  refine o_iconst cx X1680 (z := (1 : Int32)) d1_114 rfl ?_
  refine o_iadd cx X1680 (z := (2 : Int32)) d1_115 rfl ?_
  refine o_stI cx X1680 d1_116 A1620 4 (by decide) rfl (Nat.le_of_ble_eq_true rfl) ge1622 fun T1683 h1685 X1684 W1686 A1620 => ?_
  have A1672 := A1672.other W1686 (Ne.symm ne_b1615_b1667)
  have KK := KK.wr W1686 (Or.inr sz_b1615)
  have A1620 : own_Ar Z h1685 b1615 .int [(.int (0 : Int32)), (.int (0 : Int32)), (.int (0 : Int32)), (.int (1 : Int32)), (.int (2 : Int32)), (.int (2 : Int32)), (.int (3 : Int32)), (.int (4 : Int32))] := A1620
  refine o_iload cx X1684 d1_117 rfl ?_
  refine o_stI cx X1684 d1_119 A1672 1 (by decide) rfl (Nat.le_of_ble_eq_true rfl) ge1674 fun T1687 h1689 X1688 W1690 A1672 => ?_
  have A1620 := A1620.other W1690 ne_b1615_b1667
  have KK := KK.wr W1690 (Or.inr sz_b1667)
  have A1672 : own_Ar Z h1689 b1667 .int [(.int (0 : Int32)), (.int (1 : Int32)), (.int (0 : Int32)), (.int (0 : Int32))] := A1672
  refine o_iinc cx X1688 (z := (2 : Int32)) (Ls' := #[rv aa, iv (Int32.ofNat nn), iv 7, rv rk, rv tx, rv pl, s6, rv b1615, rv b1667, iv 2, iv 4, iv 6, .unset, .unset, .unset]) d1_120 rfl rfl rfl ?_
  refine o_goto cx X1688 94 d1_123 (by decide) (by decide) ?_
  refine o_iload cx X1688 d1_94 rfl ?_
  refine o_aload cx X1688 d1_96 rfl rfl ?_
  refine o_len cx X1688 (z := (4 : Int32)) d1_98 (At.keep KK nin0) rfl ?_
  refine o_icmpNo cx X1688 d1_99 (by decide) ?_
  refine o_aload cx X1688 d1_102 rfl rfl ?_
  refine o_aload cx X1688 d1_104 rfl rfl ?_
  refine o_aload cx X1688 d1_106 rfl rfl ?_
  refine o_iload cx X1688 d1_108 rfl ?_
  refine o_ldI cx X1688 (v := (.int (5 : Int32))) d1_110 (At.keep KK nin0) 2 (by decide) rfl rfl ?_
  refine o_dup2 cx X1688 d1_111 rfl rfl ?_
  refine o_ldI cx X1688 (v := (.int (2 : Int32))) d1_112 A1620 5 (by decide) rfl rfl ?_
  refine o_dup_x2 cx X1688 d1_113 rfl rfl rfl ?_
  refine o_iconst cx X1688 (z := (1 : Int32)) d1_114 rfl ?_
  refine o_iadd cx X1688 (z := (3 : Int32)) d1_115 rfl ?_
  refine o_stI cx X1688 d1_116 A1620 5 (by decide) rfl (Nat.le_of_ble_eq_true rfl) ge1622 fun T1691 h1693 X1692 W1694 A1620 => ?_
  have A1672 := A1672.other W1694 (Ne.symm ne_b1615_b1667)
  have KK := KK.wr W1694 (Or.inr sz_b1615)
  have A1620 : own_Ar Z h1693 b1615 .int [(.int (0 : Int32)), (.int (0 : Int32)), (.int (0 : Int32)), (.int (1 : Int32)), (.int (2 : Int32)), (.int (3 : Int32)), (.int (3 : Int32)), (.int (4 : Int32))] := A1620
  refine o_iload cx X1692 d1_117 rfl ?_
  refine o_stI cx X1692 d1_119 A1672 2 (by decide) rfl (Nat.le_of_ble_eq_true rfl) ge1674 fun T1695 h1697 X1696 W1698 A1672 => ?_
  have A1620 := A1620.other W1698 ne_b1615_b1667
  have KK := KK.wr W1698 (Or.inr sz_b1667)
  have A1672 : own_Ar Z h1697 b1667 .int [(.int (0 : Int32)), (.int (1 : Int32)), (.int (2 : Int32)), (.int (0 : Int32))] := A1672
  refine o_iinc cx X1696 (z := (3 : Int32)) (Ls' := #[rv aa, iv (Int32.ofNat nn), iv 7, rv rk, rv tx, rv pl, s6, rv b1615, rv b1667, iv 3, iv 4, iv 6, .unset, .unset, .unset]) d1_120 rfl rfl rfl ?_
  refine o_goto cx X1696 94 d1_123 (by decide) (by decide) ?_
  refine o_iload cx X1696 d1_94 rfl ?_
  refine o_aload cx X1696 d1_96 rfl rfl ?_
  refine o_len cx X1696 (z := (4 : Int32)) d1_98 (At.keep KK nin0) rfl ?_
  refine o_icmpNo cx X1696 d1_99 (by decide) ?_
  refine o_aload cx X1696 d1_102 rfl rfl ?_
  refine o_aload cx X1696 d1_104 rfl rfl ?_
  refine o_aload cx X1696 d1_106 rfl rfl ?_
  refine o_iload cx X1696 d1_108 rfl ?_
  refine o_ldI cx X1696 (v := (.int (6 : Int32))) d1_110 (At.keep KK nin0) 3 (by decide) rfl rfl ?_
  refine o_dup2 cx X1696 d1_111 rfl rfl ?_
  refine o_ldI cx X1696 (v := (.int (3 : Int32))) d1_112 A1620 6 (by decide) rfl rfl ?_
  refine o_dup_x2 cx X1696 d1_113 rfl rfl rfl ?_
  refine o_iconst cx X1696 (z := (1 : Int32)) d1_114 rfl ?_
  refine o_iadd cx X1696 (z := (4 : Int32)) d1_115 rfl ?_
  refine o_stI cx X1696 d1_116 A1620 6 (by decide) rfl (Nat.le_of_ble_eq_true rfl) ge1622 fun T1699 h1701 X1700 W1702 A1620 => ?_
  have A1672 := A1672.other W1702 (Ne.symm ne_b1615_b1667)
  have KK := KK.wr W1702 (Or.inr sz_b1615)
  have A1620 : own_Ar Z h1701 b1615 .int [(.int (0 : Int32)), (.int (0 : Int32)), (.int (0 : Int32)), (.int (1 : Int32)), (.int (2 : Int32)), (.int (3 : Int32)), (.int (4 : Int32)), (.int (4 : Int32))] := A1620
  refine o_iload cx X1700 d1_117 rfl ?_
  refine o_stI cx X1700 d1_119 A1672 3 (by decide) rfl (Nat.le_of_ble_eq_true rfl) ge1674 fun T1703 h1705 X1704 W1706 A1672 => ?_
  have A1620 := A1620.other W1706 ne_b1615_b1667
  have KK := KK.wr W1706 (Or.inr sz_b1667)
  have A1672 : own_Ar Z h1705 b1667 .int [(.int (0 : Int32)), (.int (1 : Int32)), (.int (2 : Int32)), (.int (3 : Int32))] := A1672
  refine o_iinc cx X1704 (z := (4 : Int32)) (Ls' := #[rv aa, iv (Int32.ofNat nn), iv 7, rv rk, rv tx, rv pl, s6, rv b1615, rv b1667, iv 4, iv 4, iv 6, .unset, .unset, .unset]) d1_120 rfl rfl rfl ?_
  refine o_goto cx X1704 94 d1_123 (by decide) (by decide) ?_
  refine o_iload cx X1704 d1_94 rfl ?_
  refine o_aload cx X1704 d1_96 rfl rfl ?_
  refine o_len cx X1704 (z := (4 : Int32)) d1_98 (At.keep KK nin0) rfl ?_
  refine o_icmpYes cx X1704 126 d1_99 (by decide) (by decide) (by decide) ?_
  have ne_aa_b1667 : aa ≠ b1667 := Nat.ne_of_lt (Nat.lt_of_lt_of_le E0.lt sz_b1667)
  exact kk _ _ b1615 b1667 (4 : Int32) (4 : Int32) (6 : Int32) (X1704.more (by decide) (by decide)) ge1674 ne_aa_b1667  (E0.keep KK) (F0.keep KK nin0) (F1.keep KK nin0) (F2.keep KK nin0) (F3.keep KK nin0) (Ar.keep KK nin0) (At.keep KK nin0) (Ap.keep KK nin0) (Ac.keep KK nin0) A1672
set_option maxRecDepth 65536 in
set_option maxHeartbeats 40000000 in
theorem segB {p : Program} {l : Launch} {e : Env} {s : State} {m : MethodId} {below : List Frame} {meth : Method} {c : Code} {n0 : Nat} {T0 : State} {h0 : Heap} {Z : State} {a0 : Array Value} {args : Array Value} {P : State → Outcome → Prop} (hw : ∀ d ∈ tables_1, d.before a0 Z = true) (aa rk tx pl ts bt : Addr) (nn : Nat) (x2 x9 x10 x11 : Int32) (k0 k1 k2 k3 : Nat) (s6 : Slot) (cx : own_Cx p s m meth c Z prog_28_method_2_code 15 (⟨"com/example/rough_dedup/roughdedup/ShingleIndex$Postings", "<init>", "(II[I[I[I[I)V"⟩ : MethodName) none) (X0 : own_Sd p l e ({ frames := 2, cells := 7, slots := 41, locals := 74 } : Room) s m args below meth c n0 T0 h0 2 12) (ga : n0 ≤ aa) (ne_aa_rk : aa ≠ rk) (E0 : Exa Z h0 aa "com/example/rough_dedup/roughdedup/ShingleIndex$Postings") (F0 : Fld Z h0 aa "com/example/rough_dedup/roughdedup/ShingleIndex$Postings" "starts" "[I" .null) (F1 : Fld Z h0 aa "com/example/rough_dedup/roughdedup/ShingleIndex$Postings" "texts" "[I" .null) (F2 : Fld Z h0 aa "com/example/rough_dedup/roughdedup/ShingleIndex$Postings" "places" "[I" .null) (F3 : Fld Z h0 aa "com/example/rough_dedup/roughdedup/ShingleIndex$Postings" "covered" "[I" .null) (Ar : own_Ar Z h0 rk .int [(.int (Int32.ofNat k0)), (.int (Int32.ofNat k1)), (.int (Int32.ofNat k2)), (.int (Int32.ofNat k3))]) (hn8 : nn ≤ 8) (hk0 : k0 < nn) (hk1 : k1 < nn) (hk2 : k2 < nn) (hk3 : k3 < nn) (kk : ∀ (T : State) (h : Heap) (bs : Addr), own_Sd p l e ({ frames := 2, cells := 7, slots := 41, locals := 74 } : Room) s m args below meth c n0 T h 3 21 → Keep h0 h [aa] → n0 ≤ bs → h0.size ≤ bs → Fld Z h aa "com/example/rough_dedup/roughdedup/ShingleIndex$Postings" "starts" "[I" (.ref bs) → Fld Z h aa "com/example/rough_dedup/roughdedup/ShingleIndex$Postings" "texts" "[I" .null → Fld Z h aa "com/example/rough_dedup/roughdedup/ShingleIndex$Postings" "places" "[I" .null → Fld Z h aa "com/example/rough_dedup/roughdedup/ShingleIndex$Postings" "covered" "[I" .null → own_Ar Z h bs .int (own_fl (nn + 1) (own_P [k3, k2, k1, k0])) → own_Go p e below P (T.setTop (mkF m 213 #[rv aa, iv (Int32.ofNat nn), iv x2, rv rk, rv tx, rv pl, s6, rv ts, rv bt, iv (Int32.ofNat nn), iv 4, iv 4, iv (Int32.ofNat k3), .unset, .unset] []))) :
    own_Go p e below P (T0.setTop (mkF m 126 #[rv aa, iv (Int32.ofNat nn), iv x2, rv rk, rv tx, rv pl, s6, rv ts, rv bt, iv x9, iv x10, iv x11, .unset, .unset, .unset] [])) := by
  have KK := Keep.refl h0 [aa]
  refine o_aloadN cx X0 d1_126 rfl rfl ?_
  refine o_iloadN cx X0 d1_127 rfl ?_
  refine o_iconst cx X0 (z := (1 : Int32)) d1_128 rfl ?_
  refine o_iadd cx X0 d1_129 rfl ?_
  rw [own_s]
  show own_Go p e below _ (T0.setTop (mkF m 130 #[rv aa, iv (Int32.ofNat nn), iv x2, rv rk, rv tx, rv pl, s6, rv ts, rv bt, iv x9, iv x10, iv x11, .unset, .unset, .unset] [(.int (Int32.ofNat (nn + 1))), (.ref aa)]))
  refine o_newP cx X0 d1_130 (o_w hw 1 rfl) (own_nn (by omega)) (nn + 1) 9 (own_nt (by omega)) (by omega) (by decide) (by decide) (by decide) fun T1708 h1710 b1707 gb1713 ge1714 X1709 E1711 A1712 => ?_
  have ne_aa_b1707 : aa ≠ b1707 := by rw [gb1713]; exact Nat.ne_of_lt F0.lt
  have sz_b1707 : h0.size ≤ b1707 := by rw [gb1713]; exact KK.1
  have F0 := F0.ext E1711
  have F1 := F1.ext E1711
  have F2 := F2.ext E1711
  have F3 := F3.ext E1711
  have KK := KK.ext E1711
  have A1712 : own_Ar Z h1710 b1707 .int (List.replicate (nn + 1) (.int (0 : Int32))) := A1712
  have A1712 : own_Ar Z h1710 b1707 .int (own_fl (nn + 1) (own_H [])) := by rw [own_fl_zero] at A1712; exact A1712
  refine o_putF cx X1709 (v' := (.ref b1707)) (ty := (.array .int)) d1_132 (o_w hw 12 rfl) F0 (E0.keep KK) (Or.inr ⟨(o_w hw 13 rfl), rfl, rfl⟩) (o_w hw 4 rfl) (by decide) rfl rfl ga fun T1715 h1717 X1716 W1718 => ?_
  have F0 := F0.same W1718
  have F1 := F1.other W1718 (Or.inr (slot_ne (Or.inr (o_w hw 15 rfl)) (Or.inr (o_w hw 13 rfl)) (by decide) (t := (.array .int)) (t' := (.array .int)) (by decide) (by decide)))
  have F2 := F2.other W1718 (Or.inr (slot_ne (Or.inr (o_w hw 17 rfl)) (Or.inr (o_w hw 13 rfl)) (by decide) (t := (.array .int)) (t' := (.array .int)) (by decide) (by decide)))
  have F3 := F3.other W1718 (Or.inr (slot_ne (Or.inr (o_w hw 19 rfl)) (Or.inr (o_w hw 13 rfl)) (by decide) (t := (.array .int)) (t' := (.array .int)) (by decide) (by decide)))
  have A1712 := A1712.other W1718 (Ne.symm ne_aa_b1707)
  have KK := KK.wr W1718 (Or.inl (List.mem_of_getElem? (i := 0) rfl))
  refine o_aloadN cx X1716 d1_135 rfl rfl ?_
  refine o_astore cx X1716 (Ls' := #[rv aa, iv (Int32.ofNat nn), iv x2, rv rk, rv tx, rv pl, s6, rv ts, rv bt, rv rk, iv x10, iv x11, .unset, .unset, .unset]) d1_136 rfl rfl ?_
  refine o_aload cx X1716 d1_138 rfl rfl ?_
  refine o_len cx X1716 (z := (4 : Int32)) d1_140 (Ar.keep KK (ninS (Ne.symm ne_aa_rk) nin0)) rfl ?_
  refine o_istore cx X1716 (Ls' := #[rv aa, iv (Int32.ofNat nn), iv x2, rv rk, rv tx, rv pl, s6, rv ts, rv bt, rv rk, iv 4, iv x11, .unset, .unset, .unset]) d1_141 rfl ?_
  refine o_iconst cx X1716 (z := (0 : Int32)) d1_143 rfl ?_
  refine o_istore cx X1716 (Ls' := #[rv aa, iv (Int32.ofNat nn), iv x2, rv rk, rv tx, rv pl, s6, rv ts, rv bt, rv rk, iv 4, iv 0, .unset, .unset, .unset]) d1_144 rfl ?_
  refine o_iload cx X1716 d1_146 rfl ?_
  refine o_iload cx X1716 d1_148 rfl ?_
  refine o_icmpNo cx X1716 d1_150 (by decide) ?_
  refine o_aload cx X1716 d1_153 rfl rfl ?_
  refine o_iload cx X1716 d1_155 rfl ?_
  refine o_ldI cx X1716 (v := (.int (Int32.ofNat k0))) d1_157 (Ar.keep KK (ninS (Ne.symm ne_aa_rk) nin0)) 0 (by decide) rfl rfl ?_
  refine o_istore cx X1716 (Ls' := #[rv aa, iv (Int32.ofNat nn), iv x2, rv rk, rv tx, rv pl, s6, rv ts, rv bt, rv rk, iv 4, iv 0, iv (Int32.ofNat k0), .unset, .unset]) d1_158 rfl ?_
  refine o_aloadN cx X1716 d1_160 rfl rfl ?_
  refine o_getF cx X1716 d1_161 (o_w hw 12 rfl) F0 fun T1719 X1720 => ?_
  refine o_iload cx X1720 d1_164 rfl ?_
  refine o_iconst cx X1720 (z := (1 : Int32)) d1_166 rfl ?_
  refine o_iadd cx X1720 d1_167 rfl ?_
  rw [own_s]
  show own_Go p e below _ (T1719.setTop (mkF m 168 #[rv aa, iv (Int32.ofNat nn), iv x2, rv rk, rv tx, rv pl, s6, rv ts, rv bt, rv rk, iv 4, iv 0, iv (Int32.ofNat k0), .unset, .unset] [(.int (Int32.ofNat (k0 + 1))), (.ref b1707)]))
  refine o_dup2 cx X1720 d1_168 rfl rfl ?_
  refine o_ldI cx X1720 (v := (.int (Int32.ofNat ((own_H []) (k0 + 1))))) d1_169 A1712 (k0 + 1) (own_nn (by omega)) (own_nt (by omega)) (own_fl_get (by omega) rfl) ?_
  refine o_iconst cx X1720 (z := (1 : Int32)) d1_170 rfl ?_
  refine o_iadd cx X1720 d1_171 rfl ?_
  rw [own_s]
  show own_Go p e below _ (T1719.setTop (mkF m 172 #[rv aa, iv (Int32.ofNat nn), iv x2, rv rk, rv tx, rv pl, s6, rv ts, rv bt, rv rk, iv 4, iv 0, iv (Int32.ofNat k0), .unset, .unset] [(.int (Int32.ofNat (((own_H []) (k0 + 1)) + 1))), (.int (Int32.ofNat (k0 + 1))), (.ref b1707)]))
  refine o_stI cx X1720 d1_172 A1712 (k0 + 1) (own_nn (by omega)) (own_nt (by omega)) (by rw [own_fl_len]; omega) ge1714 fun T1721 h1723 X1722 W1724 A1712 => ?_
  have F0 := F0.other W1724 (Or.inl ne_aa_b1707)
  have F1 := F1.other W1724 (Or.inl ne_aa_b1707)
  have F2 := F2.other W1724 (Or.inl ne_aa_b1707)
  have F3 := F3.other W1724 (Or.inl ne_aa_b1707)
  have KK := KK.wr W1724 (Or.inr sz_b1707)
  rw [own_fl_H] at A1712
  refine o_iinc cx X1722 (z := (1 : Int32)) (Ls' := #[rv aa, iv (Int32.ofNat nn), iv x2, rv rk, rv tx, rv pl, s6, rv ts, rv bt, rv rk, iv 4, iv 1, iv (Int32.ofNat k0), .unset, .unset]) d1_173 rfl rfl rfl ?_
  refine o_goto cx X1722 146 d1_176 (by decide) (by decide) ?_
  refine o_iload cx X1722 d1_146 rfl ?_
  refine o_iload cx X1722 d1_148 rfl ?_
  refine o_icmpNo cx X1722 d1_150 (by decide) ?_
  refine o_aload cx X1722 d1_153 rfl rfl ?_
  refine o_iload cx X1722 d1_155 rfl ?_
  refine o_ldI cx X1722 (v := (.int (Int32.ofNat k1))) d1_157 (Ar.keep KK (ninS (Ne.symm ne_aa_rk) nin0)) 1 (by decide) rfl rfl ?_
  refine o_istore cx X1722 (Ls' := #[rv aa, iv (Int32.ofNat nn), iv x2, rv rk, rv tx, rv pl, s6, rv ts, rv bt, rv rk, iv 4, iv 1, iv (Int32.ofNat k1), .unset, .unset]) d1_158 rfl ?_
  refine o_aloadN cx X1722 d1_160 rfl rfl ?_
  refine o_getF cx X1722 d1_161 (o_w hw 12 rfl) F0 fun T1725 X1726 => ?_
  refine o_iload cx X1726 d1_164 rfl ?_
  refine o_iconst cx X1726 (z := (1 : Int32)) d1_166 rfl ?_
  refine o_iadd cx X1726 d1_167 rfl ?_
  rw [own_s]
  show own_Go p e below _ (T1725.setTop (mkF m 168 #[rv aa, iv (Int32.ofNat nn), iv x2, rv rk, rv tx, rv pl, s6, rv ts, rv bt, rv rk, iv 4, iv 1, iv (Int32.ofNat k1), .unset, .unset] [(.int (Int32.ofNat (k1 + 1))), (.ref b1707)]))
  refine o_dup2 cx X1726 d1_168 rfl rfl ?_
  refine o_ldI cx X1726 (v := (.int (Int32.ofNat ((own_H [k0]) (k1 + 1))))) d1_169 A1712 (k1 + 1) (own_nn (by omega)) (own_nt (by omega)) (own_fl_get (by omega) rfl) ?_
  refine o_iconst cx X1726 (z := (1 : Int32)) d1_170 rfl ?_
  refine o_iadd cx X1726 d1_171 rfl ?_
  rw [own_s]
  show own_Go p e below _ (T1725.setTop (mkF m 172 #[rv aa, iv (Int32.ofNat nn), iv x2, rv rk, rv tx, rv pl, s6, rv ts, rv bt, rv rk, iv 4, iv 1, iv (Int32.ofNat k1), .unset, .unset] [(.int (Int32.ofNat (((own_H [k0]) (k1 + 1)) + 1))), (.int (Int32.ofNat (k1 + 1))), (.ref b1707)]))
  refine o_stI cx X1726 d1_172 A1712 (k1 + 1) (own_nn (by omega)) (own_nt (by omega)) (by rw [own_fl_len]; omega) ge1714 fun T1727 h1729 X1728 W1730 A1712 => ?_
  have F0 := F0.other W1730 (Or.inl ne_aa_b1707)
  have F1 := F1.other W1730 (Or.inl ne_aa_b1707)
  have F2 := F2.other W1730 (Or.inl ne_aa_b1707)
  have F3 := F3.other W1730 (Or.inl ne_aa_b1707)
  have KK := KK.wr W1730 (Or.inr sz_b1707)
  rw [own_fl_H] at A1712
  refine o_iinc cx X1728 (z := (2 : Int32)) (Ls' := #[rv aa, iv (Int32.ofNat nn), iv x2, rv rk, rv tx, rv pl, s6, rv ts, rv bt, rv rk, iv 4, iv 2, iv (Int32.ofNat k1), .unset, .unset]) d1_173 rfl rfl rfl ?_
  refine o_goto cx X1728 146 d1_176 (by decide) (by decide) ?_
  refine o_iload cx X1728 d1_146 rfl ?_
  refine o_iload cx X1728 d1_148 rfl ?_
  refine o_icmpNo cx X1728 d1_150 (by decide) ?_
  refine o_aload cx X1728 d1_153 rfl rfl ?_
  refine o_iload cx X1728 d1_155 rfl ?_
  refine o_ldI cx X1728 (v := (.int (Int32.ofNat k2))) d1_157 (Ar.keep KK (ninS (Ne.symm ne_aa_rk) nin0)) 2 (by decide) rfl rfl ?_
  refine o_istore cx X1728 (Ls' := #[rv aa, iv (Int32.ofNat nn), iv x2, rv rk, rv tx, rv pl, s6, rv ts, rv bt, rv rk, iv 4, iv 2, iv (Int32.ofNat k2), .unset, .unset]) d1_158 rfl ?_
  refine o_aloadN cx X1728 d1_160 rfl rfl ?_
  refine o_getF cx X1728 d1_161 (o_w hw 12 rfl) F0 fun T1731 X1732 => ?_
  refine o_iload cx X1732 d1_164 rfl ?_
  refine o_iconst cx X1732 (z := (1 : Int32)) d1_166 rfl ?_
  refine o_iadd cx X1732 d1_167 rfl ?_
  rw [own_s]
  show own_Go p e below _ (T1731.setTop (mkF m 168 #[rv aa, iv (Int32.ofNat nn), iv x2, rv rk, rv tx, rv pl, s6, rv ts, rv bt, rv rk, iv 4, iv 2, iv (Int32.ofNat k2), .unset, .unset] [(.int (Int32.ofNat (k2 + 1))), (.ref b1707)]))
  refine o_dup2 cx X1732 d1_168 rfl rfl ?_
  refine o_ldI cx X1732 (v := (.int (Int32.ofNat ((own_H [k1, k0]) (k2 + 1))))) d1_169 A1712 (k2 + 1) (own_nn (by omega)) (own_nt (by omega)) (own_fl_get (by omega) rfl) ?_
  refine o_iconst cx X1732 (z := (1 : Int32)) d1_170 rfl ?_
  refine o_iadd cx X1732 d1_171 rfl ?_
  rw [own_s]
  show own_Go p e below _ (T1731.setTop (mkF m 172 #[rv aa, iv (Int32.ofNat nn), iv x2, rv rk, rv tx, rv pl, s6, rv ts, rv bt, rv rk, iv 4, iv 2, iv (Int32.ofNat k2), .unset, .unset] [(.int (Int32.ofNat (((own_H [k1, k0]) (k2 + 1)) + 1))), (.int (Int32.ofNat (k2 + 1))), (.ref b1707)]))
  refine o_stI cx X1732 d1_172 A1712 (k2 + 1) (own_nn (by omega)) (own_nt (by omega)) (by rw [own_fl_len]; omega) ge1714 fun T1733 h1735 X1734 W1736 A1712 => ?_
  have F0 := F0.other W1736 (Or.inl ne_aa_b1707)
  have F1 := F1.other W1736 (Or.inl ne_aa_b1707)
  have F2 := F2.other W1736 (Or.inl ne_aa_b1707)
  have F3 := F3.other W1736 (Or.inl ne_aa_b1707)
  have KK := KK.wr W1736 (Or.inr sz_b1707)
  rw [own_fl_H] at A1712
  refine o_iinc cx X1734 (z := (3 : Int32)) (Ls' := #[rv aa, iv (Int32.ofNat nn), iv x2, rv rk, rv tx, rv pl, s6, rv ts, rv bt, rv rk, iv 4, iv 3, iv (Int32.ofNat k2), .unset, .unset]) d1_173 rfl rfl rfl ?_
  refine o_goto cx X1734 146 d1_176 (by decide) (by decide) ?_
  refine o_iload cx X1734 d1_146 rfl ?_
  refine o_iload cx X1734 d1_148 rfl ?_
  refine o_icmpNo cx X1734 d1_150 (by decide) ?_
  refine o_aload cx X1734 d1_153 rfl rfl ?_
  refine o_iload cx X1734 d1_155 rfl ?_
  refine o_ldI cx X1734 (v := (.int (Int32.ofNat k3))) d1_157 (Ar.keep KK (ninS (Ne.symm ne_aa_rk) nin0)) 3 (by decide) rfl rfl ?_
  refine o_istore cx X1734 (Ls' := #[rv aa, iv (Int32.ofNat nn), iv x2, rv rk, rv tx, rv pl, s6, rv ts, rv bt, rv rk, iv 4, iv 3, iv (Int32.ofNat k3), .unset, .unset]) d1_158 rfl ?_
  refine o_aloadN cx X1734 d1_160 rfl rfl ?_
  refine o_getF cx X1734 d1_161 (o_w hw 12 rfl) F0 fun T1737 X1738 => ?_
  refine o_iload cx X1738 d1_164 rfl ?_
  refine o_iconst cx X1738 (z := (1 : Int32)) d1_166 rfl ?_
  refine o_iadd cx X1738 d1_167 rfl ?_
  rw [own_s]
  show own_Go p e below _ (T1737.setTop (mkF m 168 #[rv aa, iv (Int32.ofNat nn), iv x2, rv rk, rv tx, rv pl, s6, rv ts, rv bt, rv rk, iv 4, iv 3, iv (Int32.ofNat k3), .unset, .unset] [(.int (Int32.ofNat (k3 + 1))), (.ref b1707)]))
  refine o_dup2 cx X1738 d1_168 rfl rfl ?_
  refine o_ldI cx X1738 (v := (.int (Int32.ofNat ((own_H [k2, k1, k0]) (k3 + 1))))) d1_169 A1712 (k3 + 1) (own_nn (by omega)) (own_nt (by omega)) (own_fl_get (by omega) rfl) ?_
  refine o_iconst cx X1738 (z := (1 : Int32)) d1_170 rfl ?_
  refine o_iadd cx X1738 d1_171 rfl ?_
  rw [own_s]
  show own_Go p e below _ (T1737.setTop (mkF m 172 #[rv aa, iv (Int32.ofNat nn), iv x2, rv rk, rv tx, rv pl, s6, rv ts, rv bt, rv rk, iv 4, iv 3, iv (Int32.ofNat k3), .unset, .unset] [(.int (Int32.ofNat (((own_H [k2, k1, k0]) (k3 + 1)) + 1))), (.int (Int32.ofNat (k3 + 1))), (.ref b1707)]))
  refine o_stI cx X1738 d1_172 A1712 (k3 + 1) (own_nn (by omega)) (own_nt (by omega)) (by rw [own_fl_len]; omega) ge1714 fun T1739 h1741 X1740 W1742 A1712 => ?_
  have F0 := F0.other W1742 (Or.inl ne_aa_b1707)
  have F1 := F1.other W1742 (Or.inl ne_aa_b1707)
  have F2 := F2.other W1742 (Or.inl ne_aa_b1707)
  have F3 := F3.other W1742 (Or.inl ne_aa_b1707)
  have KK := KK.wr W1742 (Or.inr sz_b1707)
  rw [own_fl_H] at A1712
  refine o_iinc cx X1740 (z := (4 : Int32)) (Ls' := #[rv aa, iv (Int32.ofNat nn), iv x2, rv rk, rv tx, rv pl, s6, rv ts, rv bt, rv rk, iv 4, iv 4, iv (Int32.ofNat k3), .unset, .unset]) d1_173 rfl rfl rfl ?_
  refine o_goto cx X1740 146 d1_176 (by decide) (by decide) ?_
  refine o_iload cx X1740 d1_146 rfl ?_
  refine o_iload cx X1740 d1_148 rfl ?_
  refine o_icmpYes cx X1740 179 d1_150 (by decide) (by decide) (by decide) ?_
  refine o_iconst cx X1740 (z := (0 : Int32)) d1_179 rfl ?_
  refine o_istore cx X1740 (Ls' := #[rv aa, iv (Int32.ofNat nn), iv x2, rv rk, rv tx, rv pl, s6, rv ts, rv bt, iv 0, iv 4, iv 4, iv (Int32.ofNat k3), .unset, .unset]) d1_180 rfl ?_
  rw [own_M0] at A1712
  have J182 : ∀ (dq kq : Nat), kq + dq = nn → ∀ (Tq : State) (hq : Heap), own_Sd p l e ({ frames := 2, cells := 7, slots := 41, locals := 74 } : Room) s m args below meth c n0 Tq hq 3 21 → Keep h0 hq [aa] → Fld Z hq aa "com/example/rough_dedup/roughdedup/ShingleIndex$Postings" "starts" "[I" (.ref b1707) → Fld Z hq aa "com/example/rough_dedup/roughdedup/ShingleIndex$Postings" "texts" "[I" .null → Fld Z hq aa "com/example/rough_dedup/roughdedup/ShingleIndex$Postings" "places" "[I" .null → Fld Z hq aa "com/example/rough_dedup/roughdedup/ShingleIndex$Postings" "covered" "[I" .null → own_Ar Z hq b1707 .int (own_fl (nn + 1) (own_M [k3, k2, k1, k0] kq)) → own_Go p e below P (Tq.setTop (mkF m 182 #[rv aa, iv (Int32.ofNat nn), iv x2, rv rk, rv tx, rv pl, s6, rv ts, rv bt, iv (Int32.ofNat kq), iv 4, iv 4, iv (Int32.ofNat k3), .unset, .unset] [])) := by
    intro dq
    induction dq with
    | zero =>
      intro kq hkq Tq hq Xq KK F0 F1 F2 F3 A1712
      obtain rfl : kq = nn := by omega
      rw [own_Mn] at A1712
      refine o_iload cx Xq d1_182 rfl ?_
      refine o_iloadN cx Xq d1_184 rfl ?_
      refine o_icmpYes cx Xq 213 d1_185 (flt (fun q => absurd ((own_lt32 (by omega) (by omega)).mp q) (by omega) : ¬ ((Int32.ofNat kq) < (Int32.ofNat kq)))).2.1 (by decide) (by decide) ?_
      exact kk _ _ b1707 (Xq.more (by decide) (by decide)) KK ge1714 sz_b1707 F0 F1 F2 F3 A1712
    | succ dq ih =>
      intro kq hkq Tq hq Xq KK F0 F1 F2 F3 A1712
      refine o_iload cx Xq d1_182 rfl ?_
      refine o_iloadN cx Xq d1_184 rfl ?_
      refine o_icmpNo cx Xq d1_185 (tlt ((own_lt32 (by omega) (by omega)).mpr (by omega) : (Int32.ofNat kq) < (Int32.ofNat nn))).2.1 ?_
      refine o_aloadN cx Xq d1_188 rfl rfl ?_
      refine o_getF cx Xq d1_189 (o_w hw 12 rfl) F0 fun T1743 X1744 => ?_
      refine o_iload cx X1744 d1_192 rfl ?_
      refine o_iconst cx X1744 (z := (1 : Int32)) d1_194 rfl ?_
      refine o_iadd cx X1744 d1_195 rfl ?_
      rw [own_s]
      show own_Go p e below _ (T1743.setTop (mkF m 196 #[rv aa, iv (Int32.ofNat nn), iv x2, rv rk, rv tx, rv pl, s6, rv ts, rv bt, iv (Int32.ofNat kq), iv 4, iv 4, iv (Int32.ofNat k3), .unset, .unset] [(.int (Int32.ofNat (kq + 1))), (.ref b1707)]))
      refine o_dup2 cx X1744 d1_196 rfl rfl ?_
      refine o_ldI cx X1744 (v := (.int (Int32.ofNat (own_H [k3, k2, k1, k0] (kq + 1))))) d1_197 A1712 (kq + 1) (own_nn (by omega)) (own_nt (by omega)) (own_fl_get (by omega) (own_Mhi _ _)) ?_
      refine o_aloadN cx X1744 d1_198 rfl rfl ?_
      refine o_getF cx X1744 d1_199 (o_w hw 12 rfl) F0 fun T1745 X1746 => ?_
      refine o_iload cx X1746 d1_202 rfl ?_
      refine o_ldI cx X1746 (v := (.int (Int32.ofNat (own_P [k3, k2, k1, k0] kq)))) d1_204 A1712 kq (own_nn (by omega)) (own_nt (by omega)) (own_fl_get (by omega) (own_Mlo _ _)) ?_
      refine o_iadd cx X1746 d1_205 rfl ?_
      rw [own_add]
      show own_Go p e below _ (T1745.setTop (mkF m 206 #[rv aa, iv (Int32.ofNat nn), iv x2, rv rk, rv tx, rv pl, s6, rv ts, rv bt, iv (Int32.ofNat kq), iv 4, iv 4, iv (Int32.ofNat k3), .unset, .unset] [(.int (Int32.ofNat (own_H [k3, k2, k1, k0] (kq + 1) + own_P [k3, k2, k1, k0] kq))), (.int (Int32.ofNat (kq + 1))), (.ref b1707)]))
      refine o_stI cx X1746 d1_206 A1712 (kq + 1) (own_nn (by omega)) (own_nt (by omega)) (by rw [own_fl_len]; omega) ge1714 fun T1747 h1749 X1748 W1750 A1712 => ?_
      have F0 := F0.other W1750 (Or.inl ne_aa_b1707)
      have F1 := F1.other W1750 (Or.inl ne_aa_b1707)
      have F2 := F2.other W1750 (Or.inl ne_aa_b1707)
      have F3 := F3.other W1750 (Or.inl ne_aa_b1707)
      have KK := KK.wr W1750 (Or.inr sz_b1707)
      rw [own_fl_M] at A1712
      refine o_iinc cx X1748 (z := ((Int32.ofNat kq) + (1 : Int32))) (Ls' := #[rv aa, iv (Int32.ofNat nn), iv x2, rv rk, rv tx, rv pl, s6, rv ts, rv bt, iv ((Int32.ofNat kq) + (1 : Int32)), iv 4, iv 4, iv (Int32.ofNat k3), .unset, .unset]) d1_207 rfl rfl rfl ?_
      rw [own_s]
      show own_Go p e below _ (T1747.setTop (mkF m 210 #[rv aa, iv (Int32.ofNat nn), iv x2, rv rk, rv tx, rv pl, s6, rv ts, rv bt, iv (Int32.ofNat (kq + 1)), iv 4, iv 4, iv (Int32.ofNat k3), .unset, .unset] []))
      refine o_goto cx X1748 182 d1_210 (by decide) (by decide) ?_
      exact ih (kq + 1) (by omega) _ _ (X1748.more (by decide) (by decide)) KK F0 F1 F2 F3 A1712
  exact J182 nn 0 (by omega) _ _ (X1740.more (by decide) (by decide)) KK F0 F1 F2 F3 A1712
theorem d1_237 : decode prog_28_method_2_code 237 = .ok (.aconst_null, 1) := by decide +kernel
theorem d1_238 : decode prog_28_method_2_code 238 = .ok (.goto 8, 3) := by decide +kernel
set_option maxRecDepth 65536 in
set_option maxHeartbeats 40000000 in
theorem segC0 {p : Program} {l : Launch} {e : Env} {s : State} {m : MethodId} {below : List Frame} {meth : Method} {c : Code} {n0 : Nat} {T0 : State} {h0 : Heap} {Z : State} {a0 : Array Value} {args : Array Value}  (hw : ∀ d ∈ tables_1, d.before a0 Z = true) (aa rk tx pl ts bt : Addr) (nn : Nat) (x2 x9 x10 x11 : Int32) (bs : Addr) (x12 : Int32) (L : List Nat) (rkl txl pll : List Value) (b0 b1 b2 b3 q0 q1 q2 q3 : Nat) (txv0 txv1 txv2 txv3 plv0 plv1 plv2 plv3 : Int32) (cx : own_Cx p s m meth c Z prog_28_method_2_code 15 (⟨"com/example/rough_dedup/roughdedup/ShingleIndex$Postings", "<init>", "(II[I[I[I[I)V"⟩ : MethodName) none) (X0 : own_Sd p l e ({ frames := 2, cells := 7, slots := 41, locals := 74 } : Room) s m args below meth c n0 T0 h0 3 21) (ga : n0 ≤ aa) (ne_aa_rk : aa ≠ rk) (ne_aa_tx : aa ≠ tx) (ne_aa_pl : aa ≠ pl) (ne_aa_bt : aa ≠ bt) (ne_aa_bs : aa ≠ bs) (E0 : Exa Z h0 aa "com/example/rough_dedup/roughdedup/ShingleIndex$Postings") (F0 : Fld Z h0 aa "com/example/rough_dedup/roughdedup/ShingleIndex$Postings" "starts" "[I" (.ref bs)) (F1 : Fld Z h0 aa "com/example/rough_dedup/roughdedup/ShingleIndex$Postings" "texts" "[I" .null) (F2 : Fld Z h0 aa "com/example/rough_dedup/roughdedup/ShingleIndex$Postings" "places" "[I" .null) (F3 : Fld Z h0 aa "com/example/rough_dedup/roughdedup/ShingleIndex$Postings" "covered" "[I" .null) (As : own_Ar Z h0 bs .int (own_fl (nn + 1) (own_P L))) (Ark : own_Ar Z h0 rk .int rkl) (Atx : own_Ar Z h0 tx .int txl) (Apl : own_Ar Z h0 pl .int pll) (Ab : own_Ar Z h0 bt .int [(.int (Int32.ofNat b0)), (.int (Int32.ofNat b1)), (.int (Int32.ofNat b2)), (.int (Int32.ofNat b3))]) (hn8 : nn ≤ 8) (htl : txl.length = 4) (hL : L.length = 4) (hb0 : b0 < 4) (hq0 : q0 < nn) (hr0 : rkl[b0]? = some (.int (Int32.ofNat q0))) (htx0 : txl[b0]? = some (.int txv0)) (hpl0 : pll[b0]? = some (.int plv0)) (hb1 : b1 < 4) (hq1 : q1 < nn) (hr1 : rkl[b1]? = some (.int (Int32.ofNat q1))) (htx1 : txl[b1]? = some (.int txv1)) (hpl1 : pll[b1]? = some (.int plv1)) (hb2 : b2 < 4) (hq2 : q2 < nn) (hr2 : rkl[b2]? = some (.int (Int32.ofNat q2))) (htx2 : txl[b2]? = some (.int txv2)) (hpl2 : pll[b2]? = some (.int plv2)) (hb3 : b3 < 4) (hq3 : q3 < nn) (hr3 : rkl[b3]? = some (.int (Int32.ofNat q3))) (htx3 : txl[b3]? = some (.int txv3)) (hpl3 : pll[b3]? = some (.int plv3)) (iv0 : ∀ j, own_P L j + own_C [q0, q1, q2, q3] j ≤ own_P L (j + 1)) :
    own_Go p e below (own_End below s ({ frames := 2, cells := 7, slots := 41, locals := 74 } : Room) n0 (fun v' h' => ∃ b : Addr, v' = none ∧ Exa Z h' aa "com/example/rough_dedup/roughdedup/ShingleIndex$Postings" ∧ Fld Z h' aa "com/example/rough_dedup/roughdedup/ShingleIndex$Postings" "starts" "[I" (.ref b) ∧ own_Ar Z h' b .int (own_fl (nn + 1) (own_P L)))) (T0.setTop (mkF m 213 #[rv aa, iv (Int32.ofNat nn), iv x2, rv rk, rv tx, rv pl, .val .null, rv ts, rv bt, iv x9, iv x10, iv x11, iv x12, .unset, .unset] [])) := by
  have KK := Keep.refl h0 [aa]
  refine o_aloadN cx X0 d1_213 rfl rfl ?_
  refine o_aload cx X0 d1_214 rfl rfl ?_
  refine o_len cx X0 (z := (4 : Int32)) d1_216 (Atx.keep KK (ninS (Ne.symm ne_aa_tx) nin0)) (by rw [htl]; rfl) ?_
  refine o_newP cx X0 d1_217 (o_w hw 1 rfl) (by decide) 4 4 rfl (Nat.le_refl _) (by decide) (by decide) (by decide) fun T1752 h1754 b1751 gb1757 ge1758 X1753 E1755 A1756 => ?_
  have ne_aa_b1751 : aa ≠ b1751 := by rw [gb1757]; exact Nat.ne_of_lt F0.lt
  have sz_b1751 : h0.size ≤ b1751 := by rw [gb1757]; exact KK.1
  have F0 := F0.ext E1755
  have F1 := F1.ext E1755
  have F2 := F2.ext E1755
  have F3 := F3.ext E1755
  have KK := KK.ext E1755
  have A1756 : own_Ar Z h1754 b1751 .int [(.int (0 : Int32)), (.int (0 : Int32)), (.int (0 : Int32)), (.int (0 : Int32))] := A1756
  refine o_putF cx X1753 (v' := (.ref b1751)) (ty := (.array .int)) d1_219 (o_w hw 14 rfl) F1 (E0.keep KK) (Or.inr ⟨(o_w hw 15 rfl), rfl, rfl⟩) (o_w hw 4 rfl) (by decide) rfl rfl ga fun T1759 h1761 X1760 W1762 => ?_
  have F0 := F0.other W1762 (Or.inr (slot_ne (Or.inr (o_w hw 13 rfl)) (Or.inr (o_w hw 15 rfl)) (by decide) (t := (.array .int)) (t' := (.array .int)) (by decide) (by decide)))
  have F1 := F1.same W1762
  have F2 := F2.other W1762 (Or.inr (slot_ne (Or.inr (o_w hw 17 rfl)) (Or.inr (o_w hw 15 rfl)) (by decide) (t := (.array .int)) (t' := (.array .int)) (by decide) (by decide)))
  have F3 := F3.other W1762 (Or.inr (slot_ne (Or.inr (o_w hw 19 rfl)) (Or.inr (o_w hw 15 rfl)) (by decide) (t := (.array .int)) (t' := (.array .int)) (by decide) (by decide)))
  have A1756 := A1756.other W1762 (Ne.symm ne_aa_b1751)
  have KK := KK.wr W1762 (Or.inl (List.mem_of_getElem? (i := 0) rfl))
  refine o_aloadN cx X1760 d1_222 rfl rfl ?_
  refine o_aload cx X1760 d1_223 rfl rfl ?_
  refine o_len cx X1760 (z := (4 : Int32)) d1_225 (Atx.keep KK (ninS (Ne.symm ne_aa_tx) nin0)) (by rw [htl]; rfl) ?_
  refine o_newP cx X1760 d1_226 (o_w hw 1 rfl) (by decide) 4 4 rfl (Nat.le_refl _) (by decide) (by decide) (by decide) fun T1764 h1766 b1763 gb1769 ge1770 X1765 E1767 A1768 => ?_
  have ne_aa_b1763 : aa ≠ b1763 := by rw [gb1769]; exact Nat.ne_of_lt F0.lt
  have ne_b1751_b1763 : b1751 ≠ b1763 := by rw [gb1769]; exact Nat.ne_of_lt A1756.lt
  have sz_b1763 : h0.size ≤ b1763 := by rw [gb1769]; exact KK.1
  have F0 := F0.ext E1767
  have F1 := F1.ext E1767
  have F2 := F2.ext E1767
  have F3 := F3.ext E1767
  have A1756 := A1756.ext E1767
  have KK := KK.ext E1767
  have A1768 : own_Ar Z h1766 b1763 .int [(.int (0 : Int32)), (.int (0 : Int32)), (.int (0 : Int32)), (.int (0 : Int32))] := A1768
  refine o_putF cx X1765 (v' := (.ref b1763)) (ty := (.array .int)) d1_228 (o_w hw 16 rfl) F2 (E0.keep KK) (Or.inr ⟨(o_w hw 17 rfl), rfl, rfl⟩) (o_w hw 4 rfl) (by decide) rfl rfl ga fun T1771 h1773 X1772 W1774 => ?_
  have F0 := F0.other W1774 (Or.inr (slot_ne (Or.inr (o_w hw 13 rfl)) (Or.inr (o_w hw 17 rfl)) (by decide) (t := (.array .int)) (t' := (.array .int)) (by decide) (by decide)))
  have F1 := F1.other W1774 (Or.inr (slot_ne (Or.inr (o_w hw 15 rfl)) (Or.inr (o_w hw 17 rfl)) (by decide) (t := (.array .int)) (t' := (.array .int)) (by decide) (by decide)))
  have F2 := F2.same W1774
  have F3 := F3.other W1774 (Or.inr (slot_ne (Or.inr (o_w hw 19 rfl)) (Or.inr (o_w hw 17 rfl)) (by decide) (t := (.array .int)) (t' := (.array .int)) (by decide) (by decide)))
  have A1756 := A1756.other W1774 (Ne.symm ne_aa_b1751)
  have A1768 := A1768.other W1774 (Ne.symm ne_aa_b1763)
  have KK := KK.wr W1774 (Or.inl (List.mem_of_getElem? (i := 0) rfl))
  refine o_aloadN cx X1772 d1_231 rfl rfl ?_
  refine o_aload cx X1772 d1_232 rfl rfl ?_
  refine o_ifnonnullNo cx X1772 d1_234 ?_
  refine o_aconst_null cx X1772 d1_237 ?_
  refine o_goto cx X1772 246 d1_238 (by decide) (by decide) ?_
  refine o_putF cx X1772 (v' := .null) (ty := (.array .int)) d1_246 (o_w hw 18 rfl) F3 (E0.keep KK) (Or.inr ⟨(o_w hw 19 rfl), rfl, rfl⟩) (o_w hw 4 rfl) (by decide) rfl rfl ga fun T1775 h1777 X1776 W1778 => ?_
  have F0 := F0.other W1778 (Or.inr (slot_ne (Or.inr (o_w hw 13 rfl)) (Or.inr (o_w hw 19 rfl)) (by decide) (t := (.array .int)) (t' := (.array .int)) (by decide) (by decide)))
  have F1 := F1.other W1778 (Or.inr (slot_ne (Or.inr (o_w hw 15 rfl)) (Or.inr (o_w hw 19 rfl)) (by decide) (t := (.array .int)) (t' := (.array .int)) (by decide) (by decide)))
  have F2 := F2.other W1778 (Or.inr (slot_ne (Or.inr (o_w hw 17 rfl)) (Or.inr (o_w hw 19 rfl)) (by decide) (t := (.array .int)) (t' := (.array .int)) (by decide) (by decide)))
  have F3 := F3.same W1778
  have A1756 := A1756.other W1778 (Ne.symm ne_aa_b1751)
  have A1768 := A1768.other W1778 (Ne.symm ne_aa_b1763)
  have KK := KK.wr W1778 (Or.inl (List.mem_of_getElem? (i := 0) rfl))
  refine o_aloadN cx X1776 d1_249 rfl rfl ?_
  refine o_getF cx X1776 d1_250 (o_w hw 12 rfl) F0 fun T1779 X1780 => ?_
  refine o_iloadN cx X1780 d1_253 rfl ?_
  refine o_callS cx X1780 (y' := (⟨"java/util/Arrays", "copyOf", "([II)[I"⟩ : MethodName)) (argsL := [(.ref bs), (.int (Int32.ofNat nn))]) (st := []) d1_254 (o_w hw 20 rfl) (o_w hw 21 rfl) (o_w hw 22 rfl) (o_w hw 23 rfl) (by decide) (rcp l Z a0 hw bs nn (own_P L) h1777 n0 X1780.ge0 hn8 (As.keep KK (ninS (Ne.symm ne_aa_bs) nin0))) (by decide) 0 rfl (by decide) rfl (lenOf pd_3 rfl) rfl rfl (by decide) (by decide) fun v1784 T1781 h1783 X1782 Q1785 => ?_
  obtain ⟨bn, rfl, Kn, szn, gen, An⟩ := Q1785
  have szk_bn : h0.size ≤ bn := Nat.le_trans KK.1 szn
  have KK := KK.trans Kn all0
  have ne_aa_bn : aa ≠ bn := Nat.ne_of_lt (Nat.lt_of_lt_of_le F0.lt szn)
  have ne_b1751_bn : b1751 ≠ bn := Nat.ne_of_lt (Nat.lt_of_lt_of_le A1756.lt szn)
  have ne_b1763_bn : b1763 ≠ bn := Nat.ne_of_lt (Nat.lt_of_lt_of_le A1768.lt szn)
  have F0 := F0.keep Kn nin0
  have F1 := F1.keep Kn nin0
  have F2 := F2.keep Kn nin0
  have F3 := F3.keep Kn nin0
  have A1756 := A1756.keep Kn nin0
  have A1768 := A1768.keep Kn nin0
  show own_Go p e below _ (T1781.setTop (mkF m 257 #[rv aa, iv (Int32.ofNat nn), iv x2, rv rk, rv tx, rv pl, .val .null, rv ts, rv bt, iv x9, iv x10, iv x11, iv x12, .unset, .unset] [(.ref bn)]))
  refine o_astore cx X1782 (Ls' := #[rv aa, iv (Int32.ofNat nn), iv x2, rv rk, rv tx, rv pl, .val .null, rv ts, rv bt, rv bn, iv x10, iv x11, iv x12, .unset, .unset]) d1_257 rfl rfl ?_
  refine o_aload cx X1782 d1_259 rfl rfl ?_
  refine o_astore cx X1782 (Ls' := #[rv aa, iv (Int32.ofNat nn), iv x2, rv rk, rv tx, rv pl, .val .null, rv ts, rv bt, rv bn, rv bt, iv x11, iv x12, .unset, .unset]) d1_261 rfl rfl ?_
  refine o_aload cx X1782 d1_263 rfl rfl ?_
  refine o_len cx X1782 (z := (4 : Int32)) d1_265 (Ab.keep KK (ninS (Ne.symm ne_aa_bt) nin0)) rfl ?_
  refine o_istore cx X1782 (Ls' := #[rv aa, iv (Int32.ofNat nn), iv x2, rv rk, rv tx, rv pl, .val .null, rv ts, rv bt, rv bn, rv bt, iv 4, iv x12, .unset, .unset]) d1_266 rfl ?_
  refine o_iconst cx X1782 (z := (0 : Int32)) d1_268 rfl ?_
  refine o_istore cx X1782 (Ls' := #[rv aa, iv (Int32.ofNat nn), iv x2, rv rk, rv tx, rv pl, .val .null, rv ts, rv bt, rv bn, rv bt, iv 4, iv 0, .unset, .unset]) d1_269 rfl ?_
  refine o_iload cx X1782 d1_271 rfl ?_
  refine o_iload cx X1782 d1_273 rfl ?_
  refine o_icmpNo cx X1782 d1_275 (by decide) ?_
  refine o_aload cx X1782 d1_278 rfl rfl ?_
  refine o_iload cx X1782 d1_280 rfl ?_
  refine o_ldI cx X1782 (v := (.int (Int32.ofNat b0))) d1_282 (Ab.keep KK (ninS (Ne.symm ne_aa_bt) nin0)) 0 (by decide) rfl rfl ?_
  refine o_istore cx X1782 (Ls' := #[rv aa, iv (Int32.ofNat nn), iv x2, rv rk, rv tx, rv pl, .val .null, rv ts, rv bt, rv bn, rv bt, iv 4, iv 0, iv (Int32.ofNat b0), .unset]) d1_283 rfl ?_
  refine o_aload cx X1782 d1_285 rfl rfl ?_
  refine o_aloadN cx X1782 d1_287 rfl rfl ?_
  refine o_iload cx X1782 d1_288 rfl ?_
  refine o_ldI cx X1782 (v := (.int (Int32.ofNat q0))) d1_290 (Ark.keep KK (ninS (Ne.symm ne_aa_rk) nin0)) b0 (own_nn (by omega)) (own_nt (by omega)) hr0 ?_
  refine o_dup2 cx X1782 d1_291 rfl rfl ?_
  refine o_ldI cx X1782 (v := (.int (Int32.ofNat ((own_P L) q0)))) d1_292 An q0 (own_nn (by omega)) (own_nt (by omega)) (own_fl_get (by omega) rfl) ?_
  refine o_dup_x2 cx X1782 d1_293 rfl rfl rfl ?_
  refine o_iconst cx X1782 (z := (1 : Int32)) d1_294 rfl ?_
  refine o_iadd cx X1782 d1_295 rfl ?_
  rw [own_s]
  show own_Go p e below _ (T1781.setTop (mkF m 296 #[rv aa, iv (Int32.ofNat nn), iv x2, rv rk, rv tx, rv pl, .val .null, rv ts, rv bt, rv bn, rv bt, iv 4, iv 0, iv (Int32.ofNat b0), .unset] [(.int (Int32.ofNat (((own_P L) q0) + 1))), (.int (Int32.ofNat q0)), (.ref bn), (.int (Int32.ofNat ((own_P L) q0)))]))
  refine o_stI cx X1782 d1_296 An q0 (own_nn (by omega)) (own_nt (by omega)) (by rw [own_fl_len]; omega) gen fun T1786 h1788 X1787 W1789 An => ?_
  have F0 := F0.other W1789 (Or.inl ne_aa_bn)
  have F1 := F1.other W1789 (Or.inl ne_aa_bn)
  have F2 := F2.other W1789 (Or.inl ne_aa_bn)
  have F3 := F3.other W1789 (Or.inl ne_aa_bn)
  have A1756 := A1756.other W1789 ne_b1751_bn
  have A1768 := A1768.other W1789 ne_b1763_bn
  have KK := KK.wr W1789 (Or.inr szk_bn)
  rw [own_fl_N] at An
  have pl0 : (own_P L) q0 < 4 := hL ▸ own_invL iv0
  have iv1 := own_invS iv0
  refine o_istore cx X1787 (Ls' := #[rv aa, iv (Int32.ofNat nn), iv x2, rv rk, rv tx, rv pl, .val .null, rv ts, rv bt, rv bn, rv bt, iv 4, iv 0, iv (Int32.ofNat b0), iv (Int32.ofNat ((own_P L) q0))]) d1_297 rfl ?_
  refine o_aloadN cx X1787 d1_299 rfl rfl ?_
  refine o_getF cx X1787 d1_300 (o_w hw 14 rfl) F1 fun T1790 X1791 => ?_
  refine o_iload cx X1791 d1_303 rfl ?_
  refine o_aload cx X1791 d1_305 rfl rfl ?_
  refine o_iload cx X1791 d1_307 rfl ?_
  refine o_ldI cx X1791 (v := (.int txv0)) d1_309 (Atx.keep KK (ninS (Ne.symm ne_aa_tx) nin0)) b0 (own_nn (by omega)) (own_nt (by omega)) htx0 ?_
  refine o_stI cx X1791 d1_310 A1756 ((own_P L) q0) (own_nn (by omega)) (own_nt (by omega)) (by simp; omega) ge1758 fun T1792 h1794 X1793 W1795 A1756 => ?_
  have F0 := F0.other W1795 (Or.inl ne_aa_b1751)
  have F1 := F1.other W1795 (Or.inl ne_aa_b1751)
  have F2 := F2.other W1795 (Or.inl ne_aa_b1751)
  have F3 := F3.other W1795 (Or.inl ne_aa_b1751)
  have A1768 := A1768.other W1795 (Ne.symm ne_b1751_b1763)
  have An := An.other W1795 (Ne.symm ne_b1751_bn)
  have KK := KK.wr W1795 (Or.inr sz_b1751)
  obtain ⟨vt1796, hvt1796, A1756⟩ : ∃ q : List Value, q.length = 4 ∧ own_Ar Z h1794 b1751 .int q := ⟨_, by simp, A1756⟩
  refine o_aloadN cx X1793 d1_311 rfl rfl ?_
  refine o_getF cx X1793 d1_312 (o_w hw 16 rfl) F2 fun T1797 X1798 => ?_
  refine o_iload cx X1798 d1_315 rfl ?_
  refine o_aload cx X1798 d1_317 rfl rfl ?_
  refine o_iload cx X1798 d1_319 rfl ?_
  refine o_ldI cx X1798 (v := (.int plv0)) d1_321 (Apl.keep KK (ninS (Ne.symm ne_aa_pl) nin0)) b0 (own_nn (by omega)) (own_nt (by omega)) hpl0 ?_
  refine o_stI cx X1798 d1_322 A1768 ((own_P L) q0) (own_nn (by omega)) (own_nt (by omega)) (by simp; omega) ge1770 fun T1799 h1801 X1800 W1802 A1768 => ?_
  have F0 := F0.other W1802 (Or.inl ne_aa_b1763)
  have F1 := F1.other W1802 (Or.inl ne_aa_b1763)
  have F2 := F2.other W1802 (Or.inl ne_aa_b1763)
  have F3 := F3.other W1802 (Or.inl ne_aa_b1763)
  have A1756 := A1756.other W1802 ne_b1751_b1763
  have An := An.other W1802 (Ne.symm ne_b1763_bn)
  have KK := KK.wr W1802 (Or.inr sz_b1763)
  obtain ⟨vt1803, hvt1803, A1768⟩ : ∃ q : List Value, q.length = 4 ∧ own_Ar Z h1801 b1763 .int q := ⟨_, by simp, A1768⟩
  refine o_aload cx X1800 d1_323 rfl rfl ?_
  refine o_ifnullYes cx X1800 340 d1_325 (by decide) (by decide) ?_
  refine o_iinc cx X1800 (z := (1 : Int32)) (Ls' := #[rv aa, iv (Int32.ofNat nn), iv x2, rv rk, rv tx, rv pl, .val .null, rv ts, rv bt, rv bn, rv bt, iv 4, iv 1, iv (Int32.ofNat b0), iv (Int32.ofNat ((own_P L) q0))]) d1_340 rfl rfl rfl ?_
  refine o_goto cx X1800 271 d1_343 (by decide) (by decide) ?_
  refine o_iload cx X1800 d1_271 rfl ?_
  refine o_iload cx X1800 d1_273 rfl ?_
  refine o_icmpNo cx X1800 d1_275 (by decide) ?_
  refine o_aload cx X1800 d1_278 rfl rfl ?_
  refine o_iload cx X1800 d1_280 rfl ?_
  refine o_ldI cx X1800 (v := (.int (Int32.ofNat b1))) d1_282 (Ab.keep KK (ninS (Ne.symm ne_aa_bt) nin0)) 1 (by decide) rfl rfl ?_
  refine o_istore cx X1800 (Ls' := #[rv aa, iv (Int32.ofNat nn), iv x2, rv rk, rv tx, rv pl, .val .null, rv ts, rv bt, rv bn, rv bt, iv 4, iv 1, iv (Int32.ofNat b1), iv (Int32.ofNat ((own_P L) q0))]) d1_283 rfl ?_
  refine o_aload cx X1800 d1_285 rfl rfl ?_
  refine o_aloadN cx X1800 d1_287 rfl rfl ?_
  refine o_iload cx X1800 d1_288 rfl ?_
  refine o_ldI cx X1800 (v := (.int (Int32.ofNat q1))) d1_290 (Ark.keep KK (ninS (Ne.symm ne_aa_rk) nin0)) b1 (own_nn (by omega)) (own_nt (by omega)) hr1 ?_
  refine o_dup2 cx X1800 d1_291 rfl rfl ?_
  refine o_ldI cx X1800 (v := (.int (Int32.ofNat ((own_up (own_P L) q0) q1)))) d1_292 An q1 (own_nn (by omega)) (own_nt (by omega)) (own_fl_get (by omega) rfl) ?_
  refine o_dup_x2 cx X1800 d1_293 rfl rfl rfl ?_
  refine o_iconst cx X1800 (z := (1 : Int32)) d1_294 rfl ?_
  refine o_iadd cx X1800 d1_295 rfl ?_
  rw [own_s]
  show own_Go p e below _ (T1799.setTop (mkF m 296 #[rv aa, iv (Int32.ofNat nn), iv x2, rv rk, rv tx, rv pl, .val .null, rv ts, rv bt, rv bn, rv bt, iv 4, iv 1, iv (Int32.ofNat b1), iv (Int32.ofNat ((own_P L) q0))] [(.int (Int32.ofNat (((own_up (own_P L) q0) q1) + 1))), (.int (Int32.ofNat q1)), (.ref bn), (.int (Int32.ofNat ((own_up (own_P L) q0) q1)))]))
  refine o_stI cx X1800 d1_296 An q1 (own_nn (by omega)) (own_nt (by omega)) (by rw [own_fl_len]; omega) gen fun T1804 h1806 X1805 W1807 An => ?_
  have F0 := F0.other W1807 (Or.inl ne_aa_bn)
  have F1 := F1.other W1807 (Or.inl ne_aa_bn)
  have F2 := F2.other W1807 (Or.inl ne_aa_bn)
  have F3 := F3.other W1807 (Or.inl ne_aa_bn)
  have A1756 := A1756.other W1807 ne_b1751_bn
  have A1768 := A1768.other W1807 ne_b1763_bn
  have KK := KK.wr W1807 (Or.inr szk_bn)
  rw [own_fl_N] at An
  have pl1 : (own_up (own_P L) q0) q1 < 4 := hL ▸ own_invL iv1
  have iv2 := own_invS iv1
  refine o_istore cx X1805 (Ls' := #[rv aa, iv (Int32.ofNat nn), iv x2, rv rk, rv tx, rv pl, .val .null, rv ts, rv bt, rv bn, rv bt, iv 4, iv 1, iv (Int32.ofNat b1), iv (Int32.ofNat ((own_up (own_P L) q0) q1))]) d1_297 rfl ?_
  refine o_aloadN cx X1805 d1_299 rfl rfl ?_
  refine o_getF cx X1805 d1_300 (o_w hw 14 rfl) F1 fun T1808 X1809 => ?_
  refine o_iload cx X1809 d1_303 rfl ?_
  refine o_aload cx X1809 d1_305 rfl rfl ?_
  refine o_iload cx X1809 d1_307 rfl ?_
  refine o_ldI cx X1809 (v := (.int txv1)) d1_309 (Atx.keep KK (ninS (Ne.symm ne_aa_tx) nin0)) b1 (own_nn (by omega)) (own_nt (by omega)) htx1 ?_
  refine o_stI cx X1809 d1_310 A1756 ((own_up (own_P L) q0) q1) (own_nn (by omega)) (own_nt (by omega)) (by rw [hvt1796]; omega) ge1758 fun T1810 h1812 X1811 W1813 A1756 => ?_
  have F0 := F0.other W1813 (Or.inl ne_aa_b1751)
  have F1 := F1.other W1813 (Or.inl ne_aa_b1751)
  have F2 := F2.other W1813 (Or.inl ne_aa_b1751)
  have F3 := F3.other W1813 (Or.inl ne_aa_b1751)
  have A1768 := A1768.other W1813 (Ne.symm ne_b1751_b1763)
  have An := An.other W1813 (Ne.symm ne_b1751_bn)
  have KK := KK.wr W1813 (Or.inr sz_b1751)
  obtain ⟨vt1814, hvt1814, A1756⟩ : ∃ q : List Value, q.length = 4 ∧ own_Ar Z h1812 b1751 .int q := ⟨_, by simp [hvt1796], A1756⟩
  refine o_aloadN cx X1811 d1_311 rfl rfl ?_
  refine o_getF cx X1811 d1_312 (o_w hw 16 rfl) F2 fun T1815 X1816 => ?_
  refine o_iload cx X1816 d1_315 rfl ?_
  refine o_aload cx X1816 d1_317 rfl rfl ?_
  refine o_iload cx X1816 d1_319 rfl ?_
  refine o_ldI cx X1816 (v := (.int plv1)) d1_321 (Apl.keep KK (ninS (Ne.symm ne_aa_pl) nin0)) b1 (own_nn (by omega)) (own_nt (by omega)) hpl1 ?_
  refine o_stI cx X1816 d1_322 A1768 ((own_up (own_P L) q0) q1) (own_nn (by omega)) (own_nt (by omega)) (by rw [hvt1803]; omega) ge1770 fun T1817 h1819 X1818 W1820 A1768 => ?_
  have F0 := F0.other W1820 (Or.inl ne_aa_b1763)
  have F1 := F1.other W1820 (Or.inl ne_aa_b1763)
  have F2 := F2.other W1820 (Or.inl ne_aa_b1763)
  have F3 := F3.other W1820 (Or.inl ne_aa_b1763)
  have A1756 := A1756.other W1820 ne_b1751_b1763
  have An := An.other W1820 (Ne.symm ne_b1763_bn)
  have KK := KK.wr W1820 (Or.inr sz_b1763)
  obtain ⟨vt1821, hvt1821, A1768⟩ : ∃ q : List Value, q.length = 4 ∧ own_Ar Z h1819 b1763 .int q := ⟨_, by simp [hvt1803], A1768⟩
  refine o_aload cx X1818 d1_323 rfl rfl ?_
  refine o_ifnullYes cx X1818 340 d1_325 (by decide) (by decide) ?_
  refine o_iinc cx X1818 (z := (2 : Int32)) (Ls' := #[rv aa, iv (Int32.ofNat nn), iv x2, rv rk, rv tx, rv pl, .val .null, rv ts, rv bt, rv bn, rv bt, iv 4, iv 2, iv (Int32.ofNat b1), iv (Int32.ofNat ((own_up (own_P L) q0) q1))]) d1_340 rfl rfl rfl ?_
  refine o_goto cx X1818 271 d1_343 (by decide) (by decide) ?_
  refine o_iload cx X1818 d1_271 rfl ?_
  refine o_iload cx X1818 d1_273 rfl ?_
  refine o_icmpNo cx X1818 d1_275 (by decide) ?_
  refine o_aload cx X1818 d1_278 rfl rfl ?_
  refine o_iload cx X1818 d1_280 rfl ?_
  refine o_ldI cx X1818 (v := (.int (Int32.ofNat b2))) d1_282 (Ab.keep KK (ninS (Ne.symm ne_aa_bt) nin0)) 2 (by decide) rfl rfl ?_
  refine o_istore cx X1818 (Ls' := #[rv aa, iv (Int32.ofNat nn), iv x2, rv rk, rv tx, rv pl, .val .null, rv ts, rv bt, rv bn, rv bt, iv 4, iv 2, iv (Int32.ofNat b2), iv (Int32.ofNat ((own_up (own_P L) q0) q1))]) d1_283 rfl ?_
  refine o_aload cx X1818 d1_285 rfl rfl ?_
  refine o_aloadN cx X1818 d1_287 rfl rfl ?_
  refine o_iload cx X1818 d1_288 rfl ?_
  refine o_ldI cx X1818 (v := (.int (Int32.ofNat q2))) d1_290 (Ark.keep KK (ninS (Ne.symm ne_aa_rk) nin0)) b2 (own_nn (by omega)) (own_nt (by omega)) hr2 ?_
  refine o_dup2 cx X1818 d1_291 rfl rfl ?_
  refine o_ldI cx X1818 (v := (.int (Int32.ofNat ((own_up (own_up (own_P L) q0) q1) q2)))) d1_292 An q2 (own_nn (by omega)) (own_nt (by omega)) (own_fl_get (by omega) rfl) ?_
  refine o_dup_x2 cx X1818 d1_293 rfl rfl rfl ?_
  refine o_iconst cx X1818 (z := (1 : Int32)) d1_294 rfl ?_
  refine o_iadd cx X1818 d1_295 rfl ?_
  rw [own_s]
  show own_Go p e below _ (T1817.setTop (mkF m 296 #[rv aa, iv (Int32.ofNat nn), iv x2, rv rk, rv tx, rv pl, .val .null, rv ts, rv bt, rv bn, rv bt, iv 4, iv 2, iv (Int32.ofNat b2), iv (Int32.ofNat ((own_up (own_P L) q0) q1))] [(.int (Int32.ofNat (((own_up (own_up (own_P L) q0) q1) q2) + 1))), (.int (Int32.ofNat q2)), (.ref bn), (.int (Int32.ofNat ((own_up (own_up (own_P L) q0) q1) q2)))]))
  refine o_stI cx X1818 d1_296 An q2 (own_nn (by omega)) (own_nt (by omega)) (by rw [own_fl_len]; omega) gen fun T1822 h1824 X1823 W1825 An => ?_
  have F0 := F0.other W1825 (Or.inl ne_aa_bn)
  have F1 := F1.other W1825 (Or.inl ne_aa_bn)
  have F2 := F2.other W1825 (Or.inl ne_aa_bn)
  have F3 := F3.other W1825 (Or.inl ne_aa_bn)
  have A1756 := A1756.other W1825 ne_b1751_bn
  have A1768 := A1768.other W1825 ne_b1763_bn
  have KK := KK.wr W1825 (Or.inr szk_bn)
  rw [own_fl_N] at An
  have pl2 : (own_up (own_up (own_P L) q0) q1) q2 < 4 := hL ▸ own_invL iv2
  have iv3 := own_invS iv2
  refine o_istore cx X1823 (Ls' := #[rv aa, iv (Int32.ofNat nn), iv x2, rv rk, rv tx, rv pl, .val .null, rv ts, rv bt, rv bn, rv bt, iv 4, iv 2, iv (Int32.ofNat b2), iv (Int32.ofNat ((own_up (own_up (own_P L) q0) q1) q2))]) d1_297 rfl ?_
  refine o_aloadN cx X1823 d1_299 rfl rfl ?_
  refine o_getF cx X1823 d1_300 (o_w hw 14 rfl) F1 fun T1826 X1827 => ?_
  refine o_iload cx X1827 d1_303 rfl ?_
  refine o_aload cx X1827 d1_305 rfl rfl ?_
  refine o_iload cx X1827 d1_307 rfl ?_
  refine o_ldI cx X1827 (v := (.int txv2)) d1_309 (Atx.keep KK (ninS (Ne.symm ne_aa_tx) nin0)) b2 (own_nn (by omega)) (own_nt (by omega)) htx2 ?_
  refine o_stI cx X1827 d1_310 A1756 ((own_up (own_up (own_P L) q0) q1) q2) (own_nn (by omega)) (own_nt (by omega)) (by rw [hvt1814]; omega) ge1758 fun T1828 h1830 X1829 W1831 A1756 => ?_
  have F0 := F0.other W1831 (Or.inl ne_aa_b1751)
  have F1 := F1.other W1831 (Or.inl ne_aa_b1751)
  have F2 := F2.other W1831 (Or.inl ne_aa_b1751)
  have F3 := F3.other W1831 (Or.inl ne_aa_b1751)
  have A1768 := A1768.other W1831 (Ne.symm ne_b1751_b1763)
  have An := An.other W1831 (Ne.symm ne_b1751_bn)
  have KK := KK.wr W1831 (Or.inr sz_b1751)
  obtain ⟨vt1832, hvt1832, A1756⟩ : ∃ q : List Value, q.length = 4 ∧ own_Ar Z h1830 b1751 .int q := ⟨_, by simp [hvt1814], A1756⟩
  refine o_aloadN cx X1829 d1_311 rfl rfl ?_
  refine o_getF cx X1829 d1_312 (o_w hw 16 rfl) F2 fun T1833 X1834 => ?_
  refine o_iload cx X1834 d1_315 rfl ?_
  refine o_aload cx X1834 d1_317 rfl rfl ?_
  refine o_iload cx X1834 d1_319 rfl ?_
  refine o_ldI cx X1834 (v := (.int plv2)) d1_321 (Apl.keep KK (ninS (Ne.symm ne_aa_pl) nin0)) b2 (own_nn (by omega)) (own_nt (by omega)) hpl2 ?_
  refine o_stI cx X1834 d1_322 A1768 ((own_up (own_up (own_P L) q0) q1) q2) (own_nn (by omega)) (own_nt (by omega)) (by rw [hvt1821]; omega) ge1770 fun T1835 h1837 X1836 W1838 A1768 => ?_
  have F0 := F0.other W1838 (Or.inl ne_aa_b1763)
  have F1 := F1.other W1838 (Or.inl ne_aa_b1763)
  have F2 := F2.other W1838 (Or.inl ne_aa_b1763)
  have F3 := F3.other W1838 (Or.inl ne_aa_b1763)
  have A1756 := A1756.other W1838 ne_b1751_b1763
  have An := An.other W1838 (Ne.symm ne_b1763_bn)
  have KK := KK.wr W1838 (Or.inr sz_b1763)
  obtain ⟨vt1839, hvt1839, A1768⟩ : ∃ q : List Value, q.length = 4 ∧ own_Ar Z h1837 b1763 .int q := ⟨_, by simp [hvt1821], A1768⟩
  refine o_aload cx X1836 d1_323 rfl rfl ?_
  refine o_ifnullYes cx X1836 340 d1_325 (by decide) (by decide) ?_
  refine o_iinc cx X1836 (z := (3 : Int32)) (Ls' := #[rv aa, iv (Int32.ofNat nn), iv x2, rv rk, rv tx, rv pl, .val .null, rv ts, rv bt, rv bn, rv bt, iv 4, iv 3, iv (Int32.ofNat b2), iv (Int32.ofNat ((own_up (own_up (own_P L) q0) q1) q2))]) d1_340 rfl rfl rfl ?_
  refine o_goto cx X1836 271 d1_343 (by decide) (by decide) ?_
  refine o_iload cx X1836 d1_271 rfl ?_
  refine o_iload cx X1836 d1_273 rfl ?_
  refine o_icmpNo cx X1836 d1_275 (by decide) ?_
  refine o_aload cx X1836 d1_278 rfl rfl ?_
  refine o_iload cx X1836 d1_280 rfl ?_
  refine o_ldI cx X1836 (v := (.int (Int32.ofNat b3))) d1_282 (Ab.keep KK (ninS (Ne.symm ne_aa_bt) nin0)) 3 (by decide) rfl rfl ?_
  refine o_istore cx X1836 (Ls' := #[rv aa, iv (Int32.ofNat nn), iv x2, rv rk, rv tx, rv pl, .val .null, rv ts, rv bt, rv bn, rv bt, iv 4, iv 3, iv (Int32.ofNat b3), iv (Int32.ofNat ((own_up (own_up (own_P L) q0) q1) q2))]) d1_283 rfl ?_
  refine o_aload cx X1836 d1_285 rfl rfl ?_
  refine o_aloadN cx X1836 d1_287 rfl rfl ?_
  refine o_iload cx X1836 d1_288 rfl ?_
  refine o_ldI cx X1836 (v := (.int (Int32.ofNat q3))) d1_290 (Ark.keep KK (ninS (Ne.symm ne_aa_rk) nin0)) b3 (own_nn (by omega)) (own_nt (by omega)) hr3 ?_
  refine o_dup2 cx X1836 d1_291 rfl rfl ?_
  refine o_ldI cx X1836 (v := (.int (Int32.ofNat ((own_up (own_up (own_up (own_P L) q0) q1) q2) q3)))) d1_292 An q3 (own_nn (by omega)) (own_nt (by omega)) (own_fl_get (by omega) rfl) ?_
  refine o_dup_x2 cx X1836 d1_293 rfl rfl rfl ?_
  refine o_iconst cx X1836 (z := (1 : Int32)) d1_294 rfl ?_
  refine o_iadd cx X1836 d1_295 rfl ?_
  rw [own_s]
  show own_Go p e below _ (T1835.setTop (mkF m 296 #[rv aa, iv (Int32.ofNat nn), iv x2, rv rk, rv tx, rv pl, .val .null, rv ts, rv bt, rv bn, rv bt, iv 4, iv 3, iv (Int32.ofNat b3), iv (Int32.ofNat ((own_up (own_up (own_P L) q0) q1) q2))] [(.int (Int32.ofNat (((own_up (own_up (own_up (own_P L) q0) q1) q2) q3) + 1))), (.int (Int32.ofNat q3)), (.ref bn), (.int (Int32.ofNat ((own_up (own_up (own_up (own_P L) q0) q1) q2) q3)))]))
  refine o_stI cx X1836 d1_296 An q3 (own_nn (by omega)) (own_nt (by omega)) (by rw [own_fl_len]; omega) gen fun T1840 h1842 X1841 W1843 An => ?_
  have F0 := F0.other W1843 (Or.inl ne_aa_bn)
  have F1 := F1.other W1843 (Or.inl ne_aa_bn)
  have F2 := F2.other W1843 (Or.inl ne_aa_bn)
  have F3 := F3.other W1843 (Or.inl ne_aa_bn)
  have A1756 := A1756.other W1843 ne_b1751_bn
  have A1768 := A1768.other W1843 ne_b1763_bn
  have KK := KK.wr W1843 (Or.inr szk_bn)
  rw [own_fl_N] at An
  have pl3 : (own_up (own_up (own_up (own_P L) q0) q1) q2) q3 < 4 := hL ▸ own_invL iv3
  have iv4 := own_invS iv3
  refine o_istore cx X1841 (Ls' := #[rv aa, iv (Int32.ofNat nn), iv x2, rv rk, rv tx, rv pl, .val .null, rv ts, rv bt, rv bn, rv bt, iv 4, iv 3, iv (Int32.ofNat b3), iv (Int32.ofNat ((own_up (own_up (own_up (own_P L) q0) q1) q2) q3))]) d1_297 rfl ?_
  refine o_aloadN cx X1841 d1_299 rfl rfl ?_
  refine o_getF cx X1841 d1_300 (o_w hw 14 rfl) F1 fun T1844 X1845 => ?_
  refine o_iload cx X1845 d1_303 rfl ?_
  refine o_aload cx X1845 d1_305 rfl rfl ?_
  refine o_iload cx X1845 d1_307 rfl ?_
  refine o_ldI cx X1845 (v := (.int txv3)) d1_309 (Atx.keep KK (ninS (Ne.symm ne_aa_tx) nin0)) b3 (own_nn (by omega)) (own_nt (by omega)) htx3 ?_
  refine o_stI cx X1845 d1_310 A1756 ((own_up (own_up (own_up (own_P L) q0) q1) q2) q3) (own_nn (by omega)) (own_nt (by omega)) (by rw [hvt1832]; omega) ge1758 fun T1846 h1848 X1847 W1849 A1756 => ?_
  have F0 := F0.other W1849 (Or.inl ne_aa_b1751)
  have F1 := F1.other W1849 (Or.inl ne_aa_b1751)
  have F2 := F2.other W1849 (Or.inl ne_aa_b1751)
  have F3 := F3.other W1849 (Or.inl ne_aa_b1751)
  have A1768 := A1768.other W1849 (Ne.symm ne_b1751_b1763)
  have An := An.other W1849 (Ne.symm ne_b1751_bn)
  have KK := KK.wr W1849 (Or.inr sz_b1751)
  obtain ⟨vt1850, hvt1850, A1756⟩ : ∃ q : List Value, q.length = 4 ∧ own_Ar Z h1848 b1751 .int q := ⟨_, by simp [hvt1832], A1756⟩
  refine o_aloadN cx X1847 d1_311 rfl rfl ?_
  refine o_getF cx X1847 d1_312 (o_w hw 16 rfl) F2 fun T1851 X1852 => ?_
  refine o_iload cx X1852 d1_315 rfl ?_
  refine o_aload cx X1852 d1_317 rfl rfl ?_
  refine o_iload cx X1852 d1_319 rfl ?_
  refine o_ldI cx X1852 (v := (.int plv3)) d1_321 (Apl.keep KK (ninS (Ne.symm ne_aa_pl) nin0)) b3 (own_nn (by omega)) (own_nt (by omega)) hpl3 ?_
  refine o_stI cx X1852 d1_322 A1768 ((own_up (own_up (own_up (own_P L) q0) q1) q2) q3) (own_nn (by omega)) (own_nt (by omega)) (by rw [hvt1839]; omega) ge1770 fun T1853 h1855 X1854 W1856 A1768 => ?_
  have F0 := F0.other W1856 (Or.inl ne_aa_b1763)
  have F1 := F1.other W1856 (Or.inl ne_aa_b1763)
  have F2 := F2.other W1856 (Or.inl ne_aa_b1763)
  have F3 := F3.other W1856 (Or.inl ne_aa_b1763)
  have A1756 := A1756.other W1856 ne_b1751_b1763
  have An := An.other W1856 (Ne.symm ne_b1763_bn)
  have KK := KK.wr W1856 (Or.inr sz_b1763)
  obtain ⟨vt1857, hvt1857, A1768⟩ : ∃ q : List Value, q.length = 4 ∧ own_Ar Z h1855 b1763 .int q := ⟨_, by simp [hvt1839], A1768⟩
  refine o_aload cx X1854 d1_323 rfl rfl ?_
  refine o_ifnullYes cx X1854 340 d1_325 (by decide) (by decide) ?_
  refine o_iinc cx X1854 (z := (4 : Int32)) (Ls' := #[rv aa, iv (Int32.ofNat nn), iv x2, rv rk, rv tx, rv pl, .val .null, rv ts, rv bt, rv bn, rv bt, iv 4, iv 4, iv (Int32.ofNat b3), iv (Int32.ofNat ((own_up (own_up (own_up (own_P L) q0) q1) q2) q3))]) d1_340 rfl rfl rfl ?_
  refine o_goto cx X1854 271 d1_343 (by decide) (by decide) ?_
  refine o_iload cx X1854 d1_271 rfl ?_
  refine o_iload cx X1854 d1_273 rfl ?_
  refine o_icmpYes cx X1854 346 d1_275 (by decide) (by decide) (by decide) ?_
  exact o_retV cx X1854 d1_346 ⟨bs, rfl, (E0.keep KK), F0, (As.keep KK (ninS (Ne.symm ne_aa_bs) nin0))⟩ (by decide) (by decide)
set_option maxRecDepth 65536 in
set_option maxHeartbeats 40000000 in
theorem segC1 {p : Program} {l : Launch} {e : Env} {s : State} {m : MethodId} {below : List Frame} {meth : Method} {c : Code} {n0 : Nat} {T0 : State} {h0 : Heap} {Z : State} {a0 : Array Value} {args : Array Value}  (hw : ∀ d ∈ tables_1, d.before a0 Z = true) (aa rk tx pl cv ts bt : Addr) (nn : Nat) (x2 x9 x10 x11 : Int32) (bs : Addr) (x12 : Int32) (L : List Nat) (rkl txl pll cvl : List Value) (b0 b1 b2 b3 q0 q1 q2 q3 : Nat) (txv0 txv1 txv2 txv3 plv0 plv1 plv2 plv3 cvv0 cvv1 cvv2 cvv3 : Int32) (cx : own_Cx p s m meth c Z prog_28_method_2_code 15 (⟨"com/example/rough_dedup/roughdedup/ShingleIndex$Postings", "<init>", "(II[I[I[I[I)V"⟩ : MethodName) none) (X0 : own_Sd p l e ({ frames := 2, cells := 7, slots := 41, locals := 74 } : Room) s m args below meth c n0 T0 h0 3 21) (ga : n0 ≤ aa) (ne_aa_rk : aa ≠ rk) (ne_aa_tx : aa ≠ tx) (ne_aa_pl : aa ≠ pl) (ne_aa_cv : aa ≠ cv) (ne_aa_bt : aa ≠ bt) (ne_aa_bs : aa ≠ bs) (E0 : Exa Z h0 aa "com/example/rough_dedup/roughdedup/ShingleIndex$Postings") (F0 : Fld Z h0 aa "com/example/rough_dedup/roughdedup/ShingleIndex$Postings" "starts" "[I" (.ref bs)) (F1 : Fld Z h0 aa "com/example/rough_dedup/roughdedup/ShingleIndex$Postings" "texts" "[I" .null) (F2 : Fld Z h0 aa "com/example/rough_dedup/roughdedup/ShingleIndex$Postings" "places" "[I" .null) (F3 : Fld Z h0 aa "com/example/rough_dedup/roughdedup/ShingleIndex$Postings" "covered" "[I" .null) (As : own_Ar Z h0 bs .int (own_fl (nn + 1) (own_P L))) (Ark : own_Ar Z h0 rk .int rkl) (Atx : own_Ar Z h0 tx .int txl) (Apl : own_Ar Z h0 pl .int pll) (Acv : own_Ar Z h0 cv .int cvl) (Ab : own_Ar Z h0 bt .int [(.int (Int32.ofNat b0)), (.int (Int32.ofNat b1)), (.int (Int32.ofNat b2)), (.int (Int32.ofNat b3))]) (hn8 : nn ≤ 8) (htl : txl.length = 4) (hL : L.length = 4) (hb0 : b0 < 4) (hq0 : q0 < nn) (hr0 : rkl[b0]? = some (.int (Int32.ofNat q0))) (htx0 : txl[b0]? = some (.int txv0)) (hpl0 : pll[b0]? = some (.int plv0)) (hcv0 : cvl[b0]? = some (.int cvv0)) (hb1 : b1 < 4) (hq1 : q1 < nn) (hr1 : rkl[b1]? = some (.int (Int32.ofNat q1))) (htx1 : txl[b1]? = some (.int txv1)) (hpl1 : pll[b1]? = some (.int plv1)) (hcv1 : cvl[b1]? = some (.int cvv1)) (hb2 : b2 < 4) (hq2 : q2 < nn) (hr2 : rkl[b2]? = some (.int (Int32.ofNat q2))) (htx2 : txl[b2]? = some (.int txv2)) (hpl2 : pll[b2]? = some (.int plv2)) (hcv2 : cvl[b2]? = some (.int cvv2)) (hb3 : b3 < 4) (hq3 : q3 < nn) (hr3 : rkl[b3]? = some (.int (Int32.ofNat q3))) (htx3 : txl[b3]? = some (.int txv3)) (hpl3 : pll[b3]? = some (.int plv3)) (hcv3 : cvl[b3]? = some (.int cvv3)) (iv0 : ∀ j, own_P L j + own_C [q0, q1, q2, q3] j ≤ own_P L (j + 1)) :
    own_Go p e below (own_End below s ({ frames := 2, cells := 7, slots := 41, locals := 74 } : Room) n0 (fun v' h' => ∃ b : Addr, v' = none ∧ Exa Z h' aa "com/example/rough_dedup/roughdedup/ShingleIndex$Postings" ∧ Fld Z h' aa "com/example/rough_dedup/roughdedup/ShingleIndex$Postings" "starts" "[I" (.ref b) ∧ own_Ar Z h' b .int (own_fl (nn + 1) (own_P L)))) (T0.setTop (mkF m 213 #[rv aa, iv (Int32.ofNat nn), iv x2, rv rk, rv tx, rv pl, rv cv, rv ts, rv bt, iv x9, iv x10, iv x11, iv x12, .unset, .unset] [])) := by
  have KK := Keep.refl h0 [aa]
  refine o_aloadN cx X0 d1_213 rfl rfl ?_
  refine o_aload cx X0 d1_214 rfl rfl ?_
  refine o_len cx X0 (z := (4 : Int32)) d1_216 (Atx.keep KK (ninS (Ne.symm ne_aa_tx) nin0)) (by rw [htl]; rfl) ?_
  refine o_newP cx X0 d1_217 (o_w hw 1 rfl) (by decide) 4 4 rfl (Nat.le_refl _) (by decide) (by decide) (by decide) fun T1859 h1861 b1858 gb1864 ge1865 X1860 E1862 A1863 => ?_
  have ne_aa_b1858 : aa ≠ b1858 := by rw [gb1864]; exact Nat.ne_of_lt F0.lt
  have sz_b1858 : h0.size ≤ b1858 := by rw [gb1864]; exact KK.1
  have F0 := F0.ext E1862
  have F1 := F1.ext E1862
  have F2 := F2.ext E1862
  have F3 := F3.ext E1862
  have KK := KK.ext E1862
  have A1863 : own_Ar Z h1861 b1858 .int [(.int (0 : Int32)), (.int (0 : Int32)), (.int (0 : Int32)), (.int (0 : Int32))] := A1863
  refine o_putF cx X1860 (v' := (.ref b1858)) (ty := (.array .int)) d1_219 (o_w hw 14 rfl) F1 (E0.keep KK) (Or.inr ⟨(o_w hw 15 rfl), rfl, rfl⟩) (o_w hw 4 rfl) (by decide) rfl rfl ga fun T1866 h1868 X1867 W1869 => ?_
  have F0 := F0.other W1869 (Or.inr (slot_ne (Or.inr (o_w hw 13 rfl)) (Or.inr (o_w hw 15 rfl)) (by decide) (t := (.array .int)) (t' := (.array .int)) (by decide) (by decide)))
  have F1 := F1.same W1869
  have F2 := F2.other W1869 (Or.inr (slot_ne (Or.inr (o_w hw 17 rfl)) (Or.inr (o_w hw 15 rfl)) (by decide) (t := (.array .int)) (t' := (.array .int)) (by decide) (by decide)))
  have F3 := F3.other W1869 (Or.inr (slot_ne (Or.inr (o_w hw 19 rfl)) (Or.inr (o_w hw 15 rfl)) (by decide) (t := (.array .int)) (t' := (.array .int)) (by decide) (by decide)))
  have A1863 := A1863.other W1869 (Ne.symm ne_aa_b1858)
  have KK := KK.wr W1869 (Or.inl (List.mem_of_getElem? (i := 0) rfl))
  refine o_aloadN cx X1867 d1_222 rfl rfl ?_
  refine o_aload cx X1867 d1_223 rfl rfl ?_
  refine o_len cx X1867 (z := (4 : Int32)) d1_225 (Atx.keep KK (ninS (Ne.symm ne_aa_tx) nin0)) (by rw [htl]; rfl) ?_
  refine o_newP cx X1867 d1_226 (o_w hw 1 rfl) (by decide) 4 4 rfl (Nat.le_refl _) (by decide) (by decide) (by decide) fun T1871 h1873 b1870 gb1876 ge1877 X1872 E1874 A1875 => ?_
  have ne_aa_b1870 : aa ≠ b1870 := by rw [gb1876]; exact Nat.ne_of_lt F0.lt
  have ne_b1858_b1870 : b1858 ≠ b1870 := by rw [gb1876]; exact Nat.ne_of_lt A1863.lt
  have sz_b1870 : h0.size ≤ b1870 := by rw [gb1876]; exact KK.1
  have F0 := F0.ext E1874
  have F1 := F1.ext E1874
  have F2 := F2.ext E1874
  have F3 := F3.ext E1874
  have A1863 := A1863.ext E1874
  have KK := KK.ext E1874
  have A1875 : own_Ar Z h1873 b1870 .int [(.int (0 : Int32)), (.int (0 : Int32)), (.int (0 : Int32)), (.int (0 : Int32))] := A1875
  refine o_putF cx X1872 (v' := (.ref b1870)) (ty := (.array .int)) d1_228 (o_w hw 16 rfl) F2 (E0.keep KK) (Or.inr ⟨(o_w hw 17 rfl), rfl, rfl⟩) (o_w hw 4 rfl) (by decide) rfl rfl ga fun T1878 h1880 X1879 W1881 => ?_
  have F0 := F0.other W1881 (Or.inr (slot_ne (Or.inr (o_w hw 13 rfl)) (Or.inr (o_w hw 17 rfl)) (by decide) (t := (.array .int)) (t' := (.array .int)) (by decide) (by decide)))
  have F1 := F1.other W1881 (Or.inr (slot_ne (Or.inr (o_w hw 15 rfl)) (Or.inr (o_w hw 17 rfl)) (by decide) (t := (.array .int)) (t' := (.array .int)) (by decide) (by decide)))
  have F2 := F2.same W1881
  have F3 := F3.other W1881 (Or.inr (slot_ne (Or.inr (o_w hw 19 rfl)) (Or.inr (o_w hw 17 rfl)) (by decide) (t := (.array .int)) (t' := (.array .int)) (by decide) (by decide)))
  have A1863 := A1863.other W1881 (Ne.symm ne_aa_b1858)
  have A1875 := A1875.other W1881 (Ne.symm ne_aa_b1870)
  have KK := KK.wr W1881 (Or.inl (List.mem_of_getElem? (i := 0) rfl))
  refine o_aloadN cx X1879 d1_231 rfl rfl ?_
  refine o_aload cx X1879 d1_232 rfl rfl ?_
  refine o_ifnonnullYes cx X1879 241 d1_234 (by decide) (by decide) ?_
  refine o_aload cx X1879 d1_241 rfl rfl ?_
  refine o_len cx X1879 (z := (4 : Int32)) d1_243 (Atx.keep KK (ninS (Ne.symm ne_aa_tx) nin0)) (by rw [htl]; rfl) ?_
  refine o_newP cx X1879 d1_244 (o_w hw 1 rfl) (by decide) 4 4 rfl (Nat.le_refl _) (by decide) (by decide) (by decide) fun T1883 h1885 b1882 gb1888 ge1889 X1884 E1886 A1887 => ?_
  have ne_aa_b1882 : aa ≠ b1882 := by rw [gb1888]; exact Nat.ne_of_lt F0.lt
  have ne_b1858_b1882 : b1858 ≠ b1882 := by rw [gb1888]; exact Nat.ne_of_lt A1863.lt
  have ne_b1870_b1882 : b1870 ≠ b1882 := by rw [gb1888]; exact Nat.ne_of_lt A1875.lt
  have sz_b1882 : h0.size ≤ b1882 := by rw [gb1888]; exact KK.1
  have F0 := F0.ext E1886
  have F1 := F1.ext E1886
  have F2 := F2.ext E1886
  have F3 := F3.ext E1886
  have A1863 := A1863.ext E1886
  have A1875 := A1875.ext E1886
  have KK := KK.ext E1886
  have A1887 : own_Ar Z h1885 b1882 .int [(.int (0 : Int32)), (.int (0 : Int32)), (.int (0 : Int32)), (.int (0 : Int32))] := A1887
  refine o_putF cx X1884 (v' := (.ref b1882)) (ty := (.array .int)) d1_246 (o_w hw 18 rfl) F3 (E0.keep KK) (Or.inr ⟨(o_w hw 19 rfl), rfl, rfl⟩) (o_w hw 4 rfl) (by decide) rfl rfl ga fun T1890 h1892 X1891 W1893 => ?_
  have F0 := F0.other W1893 (Or.inr (slot_ne (Or.inr (o_w hw 13 rfl)) (Or.inr (o_w hw 19 rfl)) (by decide) (t := (.array .int)) (t' := (.array .int)) (by decide) (by decide)))
  have F1 := F1.other W1893 (Or.inr (slot_ne (Or.inr (o_w hw 15 rfl)) (Or.inr (o_w hw 19 rfl)) (by decide) (t := (.array .int)) (t' := (.array .int)) (by decide) (by decide)))
  have F2 := F2.other W1893 (Or.inr (slot_ne (Or.inr (o_w hw 17 rfl)) (Or.inr (o_w hw 19 rfl)) (by decide) (t := (.array .int)) (t' := (.array .int)) (by decide) (by decide)))
  have F3 := F3.same W1893
  have A1863 := A1863.other W1893 (Ne.symm ne_aa_b1858)
  have A1875 := A1875.other W1893 (Ne.symm ne_aa_b1870)
  have A1887 := A1887.other W1893 (Ne.symm ne_aa_b1882)
  have KK := KK.wr W1893 (Or.inl (List.mem_of_getElem? (i := 0) rfl))
  refine o_aloadN cx X1891 d1_249 rfl rfl ?_
  refine o_getF cx X1891 d1_250 (o_w hw 12 rfl) F0 fun T1894 X1895 => ?_
  refine o_iloadN cx X1895 d1_253 rfl ?_
  refine o_callS cx X1895 (y' := (⟨"java/util/Arrays", "copyOf", "([II)[I"⟩ : MethodName)) (argsL := [(.ref bs), (.int (Int32.ofNat nn))]) (st := []) d1_254 (o_w hw 20 rfl) (o_w hw 21 rfl) (o_w hw 22 rfl) (o_w hw 23 rfl) (by decide) (rcp l Z a0 hw bs nn (own_P L) h1892 n0 X1895.ge0 hn8 (As.keep KK (ninS (Ne.symm ne_aa_bs) nin0))) (by decide) 0 rfl (by decide) rfl (lenOf pd_3 rfl) rfl rfl (by decide) (by decide) fun v1899 T1896 h1898 X1897 Q1900 => ?_
  obtain ⟨bn, rfl, Kn, szn, gen, An⟩ := Q1900
  have szk_bn : h0.size ≤ bn := Nat.le_trans KK.1 szn
  have KK := KK.trans Kn all0
  have ne_aa_bn : aa ≠ bn := Nat.ne_of_lt (Nat.lt_of_lt_of_le F0.lt szn)
  have ne_b1858_bn : b1858 ≠ bn := Nat.ne_of_lt (Nat.lt_of_lt_of_le A1863.lt szn)
  have ne_b1870_bn : b1870 ≠ bn := Nat.ne_of_lt (Nat.lt_of_lt_of_le A1875.lt szn)
  have ne_b1882_bn : b1882 ≠ bn := Nat.ne_of_lt (Nat.lt_of_lt_of_le A1887.lt szn)
  have F0 := F0.keep Kn nin0
  have F1 := F1.keep Kn nin0
  have F2 := F2.keep Kn nin0
  have F3 := F3.keep Kn nin0
  have A1863 := A1863.keep Kn nin0
  have A1875 := A1875.keep Kn nin0
  have A1887 := A1887.keep Kn nin0
  show own_Go p e below _ (T1896.setTop (mkF m 257 #[rv aa, iv (Int32.ofNat nn), iv x2, rv rk, rv tx, rv pl, rv cv, rv ts, rv bt, iv x9, iv x10, iv x11, iv x12, .unset, .unset] [(.ref bn)]))
  refine o_astore cx X1897 (Ls' := #[rv aa, iv (Int32.ofNat nn), iv x2, rv rk, rv tx, rv pl, rv cv, rv ts, rv bt, rv bn, iv x10, iv x11, iv x12, .unset, .unset]) d1_257 rfl rfl ?_
  refine o_aload cx X1897 d1_259 rfl rfl ?_
  refine o_astore cx X1897 (Ls' := #[rv aa, iv (Int32.ofNat nn), iv x2, rv rk, rv tx, rv pl, rv cv, rv ts, rv bt, rv bn, rv bt, iv x11, iv x12, .unset, .unset]) d1_261 rfl rfl ?_
  refine o_aload cx X1897 d1_263 rfl rfl ?_
  refine o_len cx X1897 (z := (4 : Int32)) d1_265 (Ab.keep KK (ninS (Ne.symm ne_aa_bt) nin0)) rfl ?_
  refine o_istore cx X1897 (Ls' := #[rv aa, iv (Int32.ofNat nn), iv x2, rv rk, rv tx, rv pl, rv cv, rv ts, rv bt, rv bn, rv bt, iv 4, iv x12, .unset, .unset]) d1_266 rfl ?_
  refine o_iconst cx X1897 (z := (0 : Int32)) d1_268 rfl ?_
  refine o_istore cx X1897 (Ls' := #[rv aa, iv (Int32.ofNat nn), iv x2, rv rk, rv tx, rv pl, rv cv, rv ts, rv bt, rv bn, rv bt, iv 4, iv 0, .unset, .unset]) d1_269 rfl ?_
  refine o_iload cx X1897 d1_271 rfl ?_
  refine o_iload cx X1897 d1_273 rfl ?_
  refine o_icmpNo cx X1897 d1_275 (by decide) ?_
  refine o_aload cx X1897 d1_278 rfl rfl ?_
  refine o_iload cx X1897 d1_280 rfl ?_
  refine o_ldI cx X1897 (v := (.int (Int32.ofNat b0))) d1_282 (Ab.keep KK (ninS (Ne.symm ne_aa_bt) nin0)) 0 (by decide) rfl rfl ?_
  refine o_istore cx X1897 (Ls' := #[rv aa, iv (Int32.ofNat nn), iv x2, rv rk, rv tx, rv pl, rv cv, rv ts, rv bt, rv bn, rv bt, iv 4, iv 0, iv (Int32.ofNat b0), .unset]) d1_283 rfl ?_
  refine o_aload cx X1897 d1_285 rfl rfl ?_
  refine o_aloadN cx X1897 d1_287 rfl rfl ?_
  refine o_iload cx X1897 d1_288 rfl ?_
  refine o_ldI cx X1897 (v := (.int (Int32.ofNat q0))) d1_290 (Ark.keep KK (ninS (Ne.symm ne_aa_rk) nin0)) b0 (own_nn (by omega)) (own_nt (by omega)) hr0 ?_
  refine o_dup2 cx X1897 d1_291 rfl rfl ?_
  refine o_ldI cx X1897 (v := (.int (Int32.ofNat ((own_P L) q0)))) d1_292 An q0 (own_nn (by omega)) (own_nt (by omega)) (own_fl_get (by omega) rfl) ?_
  refine o_dup_x2 cx X1897 d1_293 rfl rfl rfl ?_
  refine o_iconst cx X1897 (z := (1 : Int32)) d1_294 rfl ?_
  refine o_iadd cx X1897 d1_295 rfl ?_
  rw [own_s]
  show own_Go p e below _ (T1896.setTop (mkF m 296 #[rv aa, iv (Int32.ofNat nn), iv x2, rv rk, rv tx, rv pl, rv cv, rv ts, rv bt, rv bn, rv bt, iv 4, iv 0, iv (Int32.ofNat b0), .unset] [(.int (Int32.ofNat (((own_P L) q0) + 1))), (.int (Int32.ofNat q0)), (.ref bn), (.int (Int32.ofNat ((own_P L) q0)))]))
  refine o_stI cx X1897 d1_296 An q0 (own_nn (by omega)) (own_nt (by omega)) (by rw [own_fl_len]; omega) gen fun T1901 h1903 X1902 W1904 An => ?_
  have F0 := F0.other W1904 (Or.inl ne_aa_bn)
  have F1 := F1.other W1904 (Or.inl ne_aa_bn)
  have F2 := F2.other W1904 (Or.inl ne_aa_bn)
  have F3 := F3.other W1904 (Or.inl ne_aa_bn)
  have A1863 := A1863.other W1904 ne_b1858_bn
  have A1875 := A1875.other W1904 ne_b1870_bn
  have A1887 := A1887.other W1904 ne_b1882_bn
  have KK := KK.wr W1904 (Or.inr szk_bn)
  rw [own_fl_N] at An
  have pl0 : (own_P L) q0 < 4 := hL ▸ own_invL iv0
  have iv1 := own_invS iv0
  refine o_istore cx X1902 (Ls' := #[rv aa, iv (Int32.ofNat nn), iv x2, rv rk, rv tx, rv pl, rv cv, rv ts, rv bt, rv bn, rv bt, iv 4, iv 0, iv (Int32.ofNat b0), iv (Int32.ofNat ((own_P L) q0))]) d1_297 rfl ?_
  refine o_aloadN cx X1902 d1_299 rfl rfl ?_
  refine o_getF cx X1902 d1_300 (o_w hw 14 rfl) F1 fun T1905 X1906 => ?_
  refine o_iload cx X1906 d1_303 rfl ?_
  refine o_aload cx X1906 d1_305 rfl rfl ?_
  refine o_iload cx X1906 d1_307 rfl ?_
  refine o_ldI cx X1906 (v := (.int txv0)) d1_309 (Atx.keep KK (ninS (Ne.symm ne_aa_tx) nin0)) b0 (own_nn (by omega)) (own_nt (by omega)) htx0 ?_
  refine o_stI cx X1906 d1_310 A1863 ((own_P L) q0) (own_nn (by omega)) (own_nt (by omega)) (by simp; omega) ge1865 fun T1907 h1909 X1908 W1910 A1863 => ?_
  have F0 := F0.other W1910 (Or.inl ne_aa_b1858)
  have F1 := F1.other W1910 (Or.inl ne_aa_b1858)
  have F2 := F2.other W1910 (Or.inl ne_aa_b1858)
  have F3 := F3.other W1910 (Or.inl ne_aa_b1858)
  have A1875 := A1875.other W1910 (Ne.symm ne_b1858_b1870)
  have A1887 := A1887.other W1910 (Ne.symm ne_b1858_b1882)
  have An := An.other W1910 (Ne.symm ne_b1858_bn)
  have KK := KK.wr W1910 (Or.inr sz_b1858)
  obtain ⟨vt1911, hvt1911, A1863⟩ : ∃ q : List Value, q.length = 4 ∧ own_Ar Z h1909 b1858 .int q := ⟨_, by simp, A1863⟩
  refine o_aloadN cx X1908 d1_311 rfl rfl ?_
  refine o_getF cx X1908 d1_312 (o_w hw 16 rfl) F2 fun T1912 X1913 => ?_
  refine o_iload cx X1913 d1_315 rfl ?_
  refine o_aload cx X1913 d1_317 rfl rfl ?_
  refine o_iload cx X1913 d1_319 rfl ?_
  refine o_ldI cx X1913 (v := (.int plv0)) d1_321 (Apl.keep KK (ninS (Ne.symm ne_aa_pl) nin0)) b0 (own_nn (by omega)) (own_nt (by omega)) hpl0 ?_
  refine o_stI cx X1913 d1_322 A1875 ((own_P L) q0) (own_nn (by omega)) (own_nt (by omega)) (by simp; omega) ge1877 fun T1914 h1916 X1915 W1917 A1875 => ?_
  have F0 := F0.other W1917 (Or.inl ne_aa_b1870)
  have F1 := F1.other W1917 (Or.inl ne_aa_b1870)
  have F2 := F2.other W1917 (Or.inl ne_aa_b1870)
  have F3 := F3.other W1917 (Or.inl ne_aa_b1870)
  have A1863 := A1863.other W1917 ne_b1858_b1870
  have A1887 := A1887.other W1917 (Ne.symm ne_b1870_b1882)
  have An := An.other W1917 (Ne.symm ne_b1870_bn)
  have KK := KK.wr W1917 (Or.inr sz_b1870)
  obtain ⟨vt1918, hvt1918, A1875⟩ : ∃ q : List Value, q.length = 4 ∧ own_Ar Z h1916 b1870 .int q := ⟨_, by simp, A1875⟩
  refine o_aload cx X1915 d1_323 rfl rfl ?_
  refine o_ifnullNo cx X1915 d1_325 ?_
  refine o_aloadN cx X1915 d1_328 rfl rfl ?_
  refine o_getF cx X1915 d1_329 (o_w hw 18 rfl) F3 fun T1919 X1920 => ?_
  refine o_iload cx X1920 d1_332 rfl ?_
  refine o_aload cx X1920 d1_334 rfl rfl ?_
  refine o_iload cx X1920 d1_336 rfl ?_
  refine o_ldI cx X1920 (v := (.int cvv0)) d1_338 (Acv.keep KK (ninS (Ne.symm ne_aa_cv) nin0)) b0 (own_nn (by omega)) (own_nt (by omega)) hcv0 ?_
  refine o_stI cx X1920 d1_339 A1887 ((own_P L) q0) (own_nn (by omega)) (own_nt (by omega)) (by simp; omega) ge1889 fun T1921 h1923 X1922 W1924 A1887 => ?_
  have F0 := F0.other W1924 (Or.inl ne_aa_b1882)
  have F1 := F1.other W1924 (Or.inl ne_aa_b1882)
  have F2 := F2.other W1924 (Or.inl ne_aa_b1882)
  have F3 := F3.other W1924 (Or.inl ne_aa_b1882)
  have A1863 := A1863.other W1924 ne_b1858_b1882
  have A1875 := A1875.other W1924 ne_b1870_b1882
  have An := An.other W1924 (Ne.symm ne_b1882_bn)
  have KK := KK.wr W1924 (Or.inr sz_b1882)
  obtain ⟨vt1925, hvt1925, A1887⟩ : ∃ q : List Value, q.length = 4 ∧ own_Ar Z h1923 b1882 .int q := ⟨_, by simp, A1887⟩
  refine o_iinc cx X1922 (z := (1 : Int32)) (Ls' := #[rv aa, iv (Int32.ofNat nn), iv x2, rv rk, rv tx, rv pl, rv cv, rv ts, rv bt, rv bn, rv bt, iv 4, iv 1, iv (Int32.ofNat b0), iv (Int32.ofNat ((own_P L) q0))]) d1_340 rfl rfl rfl ?_
  refine o_goto cx X1922 271 d1_343 (by decide) (by decide) ?_
  refine o_iload cx X1922 d1_271 rfl ?_
  refine o_iload cx X1922 d1_273 rfl ?_
  refine o_icmpNo cx X1922 d1_275 (by decide) ?_
  refine o_aload cx X1922 d1_278 rfl rfl ?_
  refine o_iload cx X1922 d1_280 rfl ?_
  refine o_ldI cx X1922 (v := (.int (Int32.ofNat b1))) d1_282 (Ab.keep KK (ninS (Ne.symm ne_aa_bt) nin0)) 1 (by decide) rfl rfl ?_
  refine o_istore cx X1922 (Ls' := #[rv aa, iv (Int32.ofNat nn), iv x2, rv rk, rv tx, rv pl, rv cv, rv ts, rv bt, rv bn, rv bt, iv 4, iv 1, iv (Int32.ofNat b1), iv (Int32.ofNat ((own_P L) q0))]) d1_283 rfl ?_
  refine o_aload cx X1922 d1_285 rfl rfl ?_
  refine o_aloadN cx X1922 d1_287 rfl rfl ?_
  refine o_iload cx X1922 d1_288 rfl ?_
  refine o_ldI cx X1922 (v := (.int (Int32.ofNat q1))) d1_290 (Ark.keep KK (ninS (Ne.symm ne_aa_rk) nin0)) b1 (own_nn (by omega)) (own_nt (by omega)) hr1 ?_
  refine o_dup2 cx X1922 d1_291 rfl rfl ?_
  refine o_ldI cx X1922 (v := (.int (Int32.ofNat ((own_up (own_P L) q0) q1)))) d1_292 An q1 (own_nn (by omega)) (own_nt (by omega)) (own_fl_get (by omega) rfl) ?_
  refine o_dup_x2 cx X1922 d1_293 rfl rfl rfl ?_
  refine o_iconst cx X1922 (z := (1 : Int32)) d1_294 rfl ?_
  refine o_iadd cx X1922 d1_295 rfl ?_
  rw [own_s]
  show own_Go p e below _ (T1921.setTop (mkF m 296 #[rv aa, iv (Int32.ofNat nn), iv x2, rv rk, rv tx, rv pl, rv cv, rv ts, rv bt, rv bn, rv bt, iv 4, iv 1, iv (Int32.ofNat b1), iv (Int32.ofNat ((own_P L) q0))] [(.int (Int32.ofNat (((own_up (own_P L) q0) q1) + 1))), (.int (Int32.ofNat q1)), (.ref bn), (.int (Int32.ofNat ((own_up (own_P L) q0) q1)))]))
  refine o_stI cx X1922 d1_296 An q1 (own_nn (by omega)) (own_nt (by omega)) (by rw [own_fl_len]; omega) gen fun T1926 h1928 X1927 W1929 An => ?_
  have F0 := F0.other W1929 (Or.inl ne_aa_bn)
  have F1 := F1.other W1929 (Or.inl ne_aa_bn)
  have F2 := F2.other W1929 (Or.inl ne_aa_bn)
  have F3 := F3.other W1929 (Or.inl ne_aa_bn)
  have A1863 := A1863.other W1929 ne_b1858_bn
  have A1875 := A1875.other W1929 ne_b1870_bn
  have A1887 := A1887.other W1929 ne_b1882_bn
  have KK := KK.wr W1929 (Or.inr szk_bn)
  rw [own_fl_N] at An
  have pl1 : (own_up (own_P L) q0) q1 < 4 := hL ▸ own_invL iv1
  have iv2 := own_invS iv1
  refine o_istore cx X1927 (Ls' := #[rv aa, iv (Int32.ofNat nn), iv x2, rv rk, rv tx, rv pl, rv cv, rv ts, rv bt, rv bn, rv bt, iv 4, iv 1, iv (Int32.ofNat b1), iv (Int32.ofNat ((own_up (own_P L) q0) q1))]) d1_297 rfl ?_
  refine o_aloadN cx X1927 d1_299 rfl rfl ?_
  refine o_getF cx X1927 d1_300 (o_w hw 14 rfl) F1 fun T1930 X1931 => ?_
  refine o_iload cx X1931 d1_303 rfl ?_
  refine o_aload cx X1931 d1_305 rfl rfl ?_
  refine o_iload cx X1931 d1_307 rfl ?_
  refine o_ldI cx X1931 (v := (.int txv1)) d1_309 (Atx.keep KK (ninS (Ne.symm ne_aa_tx) nin0)) b1 (own_nn (by omega)) (own_nt (by omega)) htx1 ?_
  refine o_stI cx X1931 d1_310 A1863 ((own_up (own_P L) q0) q1) (own_nn (by omega)) (own_nt (by omega)) (by rw [hvt1911]; omega) ge1865 fun T1932 h1934 X1933 W1935 A1863 => ?_
  have F0 := F0.other W1935 (Or.inl ne_aa_b1858)
  have F1 := F1.other W1935 (Or.inl ne_aa_b1858)
  have F2 := F2.other W1935 (Or.inl ne_aa_b1858)
  have F3 := F3.other W1935 (Or.inl ne_aa_b1858)
  have A1875 := A1875.other W1935 (Ne.symm ne_b1858_b1870)
  have A1887 := A1887.other W1935 (Ne.symm ne_b1858_b1882)
  have An := An.other W1935 (Ne.symm ne_b1858_bn)
  have KK := KK.wr W1935 (Or.inr sz_b1858)
  obtain ⟨vt1936, hvt1936, A1863⟩ : ∃ q : List Value, q.length = 4 ∧ own_Ar Z h1934 b1858 .int q := ⟨_, by simp [hvt1911], A1863⟩
  refine o_aloadN cx X1933 d1_311 rfl rfl ?_
  refine o_getF cx X1933 d1_312 (o_w hw 16 rfl) F2 fun T1937 X1938 => ?_
  refine o_iload cx X1938 d1_315 rfl ?_
  refine o_aload cx X1938 d1_317 rfl rfl ?_
  refine o_iload cx X1938 d1_319 rfl ?_
  refine o_ldI cx X1938 (v := (.int plv1)) d1_321 (Apl.keep KK (ninS (Ne.symm ne_aa_pl) nin0)) b1 (own_nn (by omega)) (own_nt (by omega)) hpl1 ?_
  refine o_stI cx X1938 d1_322 A1875 ((own_up (own_P L) q0) q1) (own_nn (by omega)) (own_nt (by omega)) (by rw [hvt1918]; omega) ge1877 fun T1939 h1941 X1940 W1942 A1875 => ?_
  have F0 := F0.other W1942 (Or.inl ne_aa_b1870)
  have F1 := F1.other W1942 (Or.inl ne_aa_b1870)
  have F2 := F2.other W1942 (Or.inl ne_aa_b1870)
  have F3 := F3.other W1942 (Or.inl ne_aa_b1870)
  have A1863 := A1863.other W1942 ne_b1858_b1870
  have A1887 := A1887.other W1942 (Ne.symm ne_b1870_b1882)
  have An := An.other W1942 (Ne.symm ne_b1870_bn)
  have KK := KK.wr W1942 (Or.inr sz_b1870)
  obtain ⟨vt1943, hvt1943, A1875⟩ : ∃ q : List Value, q.length = 4 ∧ own_Ar Z h1941 b1870 .int q := ⟨_, by simp [hvt1918], A1875⟩
  refine o_aload cx X1940 d1_323 rfl rfl ?_
  refine o_ifnullNo cx X1940 d1_325 ?_
  refine o_aloadN cx X1940 d1_328 rfl rfl ?_
  refine o_getF cx X1940 d1_329 (o_w hw 18 rfl) F3 fun T1944 X1945 => ?_
  refine o_iload cx X1945 d1_332 rfl ?_
  refine o_aload cx X1945 d1_334 rfl rfl ?_
  refine o_iload cx X1945 d1_336 rfl ?_
  refine o_ldI cx X1945 (v := (.int cvv1)) d1_338 (Acv.keep KK (ninS (Ne.symm ne_aa_cv) nin0)) b1 (own_nn (by omega)) (own_nt (by omega)) hcv1 ?_
  refine o_stI cx X1945 d1_339 A1887 ((own_up (own_P L) q0) q1) (own_nn (by omega)) (own_nt (by omega)) (by rw [hvt1925]; omega) ge1889 fun T1946 h1948 X1947 W1949 A1887 => ?_
  have F0 := F0.other W1949 (Or.inl ne_aa_b1882)
  have F1 := F1.other W1949 (Or.inl ne_aa_b1882)
  have F2 := F2.other W1949 (Or.inl ne_aa_b1882)
  have F3 := F3.other W1949 (Or.inl ne_aa_b1882)
  have A1863 := A1863.other W1949 ne_b1858_b1882
  have A1875 := A1875.other W1949 ne_b1870_b1882
  have An := An.other W1949 (Ne.symm ne_b1882_bn)
  have KK := KK.wr W1949 (Or.inr sz_b1882)
  obtain ⟨vt1950, hvt1950, A1887⟩ : ∃ q : List Value, q.length = 4 ∧ own_Ar Z h1948 b1882 .int q := ⟨_, by simp [hvt1925], A1887⟩
  refine o_iinc cx X1947 (z := (2 : Int32)) (Ls' := #[rv aa, iv (Int32.ofNat nn), iv x2, rv rk, rv tx, rv pl, rv cv, rv ts, rv bt, rv bn, rv bt, iv 4, iv 2, iv (Int32.ofNat b1), iv (Int32.ofNat ((own_up (own_P L) q0) q1))]) d1_340 rfl rfl rfl ?_
  refine o_goto cx X1947 271 d1_343 (by decide) (by decide) ?_
  refine o_iload cx X1947 d1_271 rfl ?_
  refine o_iload cx X1947 d1_273 rfl ?_
  refine o_icmpNo cx X1947 d1_275 (by decide) ?_
  refine o_aload cx X1947 d1_278 rfl rfl ?_
  refine o_iload cx X1947 d1_280 rfl ?_
  refine o_ldI cx X1947 (v := (.int (Int32.ofNat b2))) d1_282 (Ab.keep KK (ninS (Ne.symm ne_aa_bt) nin0)) 2 (by decide) rfl rfl ?_
  refine o_istore cx X1947 (Ls' := #[rv aa, iv (Int32.ofNat nn), iv x2, rv rk, rv tx, rv pl, rv cv, rv ts, rv bt, rv bn, rv bt, iv 4, iv 2, iv (Int32.ofNat b2), iv (Int32.ofNat ((own_up (own_P L) q0) q1))]) d1_283 rfl ?_
  refine o_aload cx X1947 d1_285 rfl rfl ?_
  refine o_aloadN cx X1947 d1_287 rfl rfl ?_
  refine o_iload cx X1947 d1_288 rfl ?_
  refine o_ldI cx X1947 (v := (.int (Int32.ofNat q2))) d1_290 (Ark.keep KK (ninS (Ne.symm ne_aa_rk) nin0)) b2 (own_nn (by omega)) (own_nt (by omega)) hr2 ?_
  refine o_dup2 cx X1947 d1_291 rfl rfl ?_
  refine o_ldI cx X1947 (v := (.int (Int32.ofNat ((own_up (own_up (own_P L) q0) q1) q2)))) d1_292 An q2 (own_nn (by omega)) (own_nt (by omega)) (own_fl_get (by omega) rfl) ?_
  refine o_dup_x2 cx X1947 d1_293 rfl rfl rfl ?_
  refine o_iconst cx X1947 (z := (1 : Int32)) d1_294 rfl ?_
  refine o_iadd cx X1947 d1_295 rfl ?_
  rw [own_s]
  show own_Go p e below _ (T1946.setTop (mkF m 296 #[rv aa, iv (Int32.ofNat nn), iv x2, rv rk, rv tx, rv pl, rv cv, rv ts, rv bt, rv bn, rv bt, iv 4, iv 2, iv (Int32.ofNat b2), iv (Int32.ofNat ((own_up (own_P L) q0) q1))] [(.int (Int32.ofNat (((own_up (own_up (own_P L) q0) q1) q2) + 1))), (.int (Int32.ofNat q2)), (.ref bn), (.int (Int32.ofNat ((own_up (own_up (own_P L) q0) q1) q2)))]))
  refine o_stI cx X1947 d1_296 An q2 (own_nn (by omega)) (own_nt (by omega)) (by rw [own_fl_len]; omega) gen fun T1951 h1953 X1952 W1954 An => ?_
  have F0 := F0.other W1954 (Or.inl ne_aa_bn)
  have F1 := F1.other W1954 (Or.inl ne_aa_bn)
  have F2 := F2.other W1954 (Or.inl ne_aa_bn)
  have F3 := F3.other W1954 (Or.inl ne_aa_bn)
  have A1863 := A1863.other W1954 ne_b1858_bn
  have A1875 := A1875.other W1954 ne_b1870_bn
  have A1887 := A1887.other W1954 ne_b1882_bn
  have KK := KK.wr W1954 (Or.inr szk_bn)
  rw [own_fl_N] at An
  have pl2 : (own_up (own_up (own_P L) q0) q1) q2 < 4 := hL ▸ own_invL iv2
  have iv3 := own_invS iv2
  refine o_istore cx X1952 (Ls' := #[rv aa, iv (Int32.ofNat nn), iv x2, rv rk, rv tx, rv pl, rv cv, rv ts, rv bt, rv bn, rv bt, iv 4, iv 2, iv (Int32.ofNat b2), iv (Int32.ofNat ((own_up (own_up (own_P L) q0) q1) q2))]) d1_297 rfl ?_
  refine o_aloadN cx X1952 d1_299 rfl rfl ?_
  refine o_getF cx X1952 d1_300 (o_w hw 14 rfl) F1 fun T1955 X1956 => ?_
  refine o_iload cx X1956 d1_303 rfl ?_
  refine o_aload cx X1956 d1_305 rfl rfl ?_
  refine o_iload cx X1956 d1_307 rfl ?_
  refine o_ldI cx X1956 (v := (.int txv2)) d1_309 (Atx.keep KK (ninS (Ne.symm ne_aa_tx) nin0)) b2 (own_nn (by omega)) (own_nt (by omega)) htx2 ?_
  refine o_stI cx X1956 d1_310 A1863 ((own_up (own_up (own_P L) q0) q1) q2) (own_nn (by omega)) (own_nt (by omega)) (by rw [hvt1936]; omega) ge1865 fun T1957 h1959 X1958 W1960 A1863 => ?_
  have F0 := F0.other W1960 (Or.inl ne_aa_b1858)
  have F1 := F1.other W1960 (Or.inl ne_aa_b1858)
  have F2 := F2.other W1960 (Or.inl ne_aa_b1858)
  have F3 := F3.other W1960 (Or.inl ne_aa_b1858)
  have A1875 := A1875.other W1960 (Ne.symm ne_b1858_b1870)
  have A1887 := A1887.other W1960 (Ne.symm ne_b1858_b1882)
  have An := An.other W1960 (Ne.symm ne_b1858_bn)
  have KK := KK.wr W1960 (Or.inr sz_b1858)
  obtain ⟨vt1961, hvt1961, A1863⟩ : ∃ q : List Value, q.length = 4 ∧ own_Ar Z h1959 b1858 .int q := ⟨_, by simp [hvt1936], A1863⟩
  refine o_aloadN cx X1958 d1_311 rfl rfl ?_
  refine o_getF cx X1958 d1_312 (o_w hw 16 rfl) F2 fun T1962 X1963 => ?_
  refine o_iload cx X1963 d1_315 rfl ?_
  refine o_aload cx X1963 d1_317 rfl rfl ?_
  refine o_iload cx X1963 d1_319 rfl ?_
  refine o_ldI cx X1963 (v := (.int plv2)) d1_321 (Apl.keep KK (ninS (Ne.symm ne_aa_pl) nin0)) b2 (own_nn (by omega)) (own_nt (by omega)) hpl2 ?_
  refine o_stI cx X1963 d1_322 A1875 ((own_up (own_up (own_P L) q0) q1) q2) (own_nn (by omega)) (own_nt (by omega)) (by rw [hvt1943]; omega) ge1877 fun T1964 h1966 X1965 W1967 A1875 => ?_
  have F0 := F0.other W1967 (Or.inl ne_aa_b1870)
  have F1 := F1.other W1967 (Or.inl ne_aa_b1870)
  have F2 := F2.other W1967 (Or.inl ne_aa_b1870)
  have F3 := F3.other W1967 (Or.inl ne_aa_b1870)
  have A1863 := A1863.other W1967 ne_b1858_b1870
  have A1887 := A1887.other W1967 (Ne.symm ne_b1870_b1882)
  have An := An.other W1967 (Ne.symm ne_b1870_bn)
  have KK := KK.wr W1967 (Or.inr sz_b1870)
  obtain ⟨vt1968, hvt1968, A1875⟩ : ∃ q : List Value, q.length = 4 ∧ own_Ar Z h1966 b1870 .int q := ⟨_, by simp [hvt1943], A1875⟩
  refine o_aload cx X1965 d1_323 rfl rfl ?_
  refine o_ifnullNo cx X1965 d1_325 ?_
  refine o_aloadN cx X1965 d1_328 rfl rfl ?_
  refine o_getF cx X1965 d1_329 (o_w hw 18 rfl) F3 fun T1969 X1970 => ?_
  refine o_iload cx X1970 d1_332 rfl ?_
  refine o_aload cx X1970 d1_334 rfl rfl ?_
  refine o_iload cx X1970 d1_336 rfl ?_
  refine o_ldI cx X1970 (v := (.int cvv2)) d1_338 (Acv.keep KK (ninS (Ne.symm ne_aa_cv) nin0)) b2 (own_nn (by omega)) (own_nt (by omega)) hcv2 ?_
  refine o_stI cx X1970 d1_339 A1887 ((own_up (own_up (own_P L) q0) q1) q2) (own_nn (by omega)) (own_nt (by omega)) (by rw [hvt1950]; omega) ge1889 fun T1971 h1973 X1972 W1974 A1887 => ?_
  have F0 := F0.other W1974 (Or.inl ne_aa_b1882)
  have F1 := F1.other W1974 (Or.inl ne_aa_b1882)
  have F2 := F2.other W1974 (Or.inl ne_aa_b1882)
  have F3 := F3.other W1974 (Or.inl ne_aa_b1882)
  have A1863 := A1863.other W1974 ne_b1858_b1882
  have A1875 := A1875.other W1974 ne_b1870_b1882
  have An := An.other W1974 (Ne.symm ne_b1882_bn)
  have KK := KK.wr W1974 (Or.inr sz_b1882)
  obtain ⟨vt1975, hvt1975, A1887⟩ : ∃ q : List Value, q.length = 4 ∧ own_Ar Z h1973 b1882 .int q := ⟨_, by simp [hvt1950], A1887⟩
  refine o_iinc cx X1972 (z := (3 : Int32)) (Ls' := #[rv aa, iv (Int32.ofNat nn), iv x2, rv rk, rv tx, rv pl, rv cv, rv ts, rv bt, rv bn, rv bt, iv 4, iv 3, iv (Int32.ofNat b2), iv (Int32.ofNat ((own_up (own_up (own_P L) q0) q1) q2))]) d1_340 rfl rfl rfl ?_
  refine o_goto cx X1972 271 d1_343 (by decide) (by decide) ?_
  refine o_iload cx X1972 d1_271 rfl ?_
  refine o_iload cx X1972 d1_273 rfl ?_
  refine o_icmpNo cx X1972 d1_275 (by decide) ?_
  refine o_aload cx X1972 d1_278 rfl rfl ?_
  refine o_iload cx X1972 d1_280 rfl ?_
  refine o_ldI cx X1972 (v := (.int (Int32.ofNat b3))) d1_282 (Ab.keep KK (ninS (Ne.symm ne_aa_bt) nin0)) 3 (by decide) rfl rfl ?_
  refine o_istore cx X1972 (Ls' := #[rv aa, iv (Int32.ofNat nn), iv x2, rv rk, rv tx, rv pl, rv cv, rv ts, rv bt, rv bn, rv bt, iv 4, iv 3, iv (Int32.ofNat b3), iv (Int32.ofNat ((own_up (own_up (own_P L) q0) q1) q2))]) d1_283 rfl ?_
  refine o_aload cx X1972 d1_285 rfl rfl ?_
  refine o_aloadN cx X1972 d1_287 rfl rfl ?_
  refine o_iload cx X1972 d1_288 rfl ?_
  refine o_ldI cx X1972 (v := (.int (Int32.ofNat q3))) d1_290 (Ark.keep KK (ninS (Ne.symm ne_aa_rk) nin0)) b3 (own_nn (by omega)) (own_nt (by omega)) hr3 ?_
  refine o_dup2 cx X1972 d1_291 rfl rfl ?_
  refine o_ldI cx X1972 (v := (.int (Int32.ofNat ((own_up (own_up (own_up (own_P L) q0) q1) q2) q3)))) d1_292 An q3 (own_nn (by omega)) (own_nt (by omega)) (own_fl_get (by omega) rfl) ?_
  refine o_dup_x2 cx X1972 d1_293 rfl rfl rfl ?_
  refine o_iconst cx X1972 (z := (1 : Int32)) d1_294 rfl ?_
  refine o_iadd cx X1972 d1_295 rfl ?_
  rw [own_s]
  show own_Go p e below _ (T1971.setTop (mkF m 296 #[rv aa, iv (Int32.ofNat nn), iv x2, rv rk, rv tx, rv pl, rv cv, rv ts, rv bt, rv bn, rv bt, iv 4, iv 3, iv (Int32.ofNat b3), iv (Int32.ofNat ((own_up (own_up (own_P L) q0) q1) q2))] [(.int (Int32.ofNat (((own_up (own_up (own_up (own_P L) q0) q1) q2) q3) + 1))), (.int (Int32.ofNat q3)), (.ref bn), (.int (Int32.ofNat ((own_up (own_up (own_up (own_P L) q0) q1) q2) q3)))]))
  refine o_stI cx X1972 d1_296 An q3 (own_nn (by omega)) (own_nt (by omega)) (by rw [own_fl_len]; omega) gen fun T1976 h1978 X1977 W1979 An => ?_
  have F0 := F0.other W1979 (Or.inl ne_aa_bn)
  have F1 := F1.other W1979 (Or.inl ne_aa_bn)
  have F2 := F2.other W1979 (Or.inl ne_aa_bn)
  have F3 := F3.other W1979 (Or.inl ne_aa_bn)
  have A1863 := A1863.other W1979 ne_b1858_bn
  have A1875 := A1875.other W1979 ne_b1870_bn
  have A1887 := A1887.other W1979 ne_b1882_bn
  have KK := KK.wr W1979 (Or.inr szk_bn)
  rw [own_fl_N] at An
  have pl3 : (own_up (own_up (own_up (own_P L) q0) q1) q2) q3 < 4 := hL ▸ own_invL iv3
  have iv4 := own_invS iv3
  refine o_istore cx X1977 (Ls' := #[rv aa, iv (Int32.ofNat nn), iv x2, rv rk, rv tx, rv pl, rv cv, rv ts, rv bt, rv bn, rv bt, iv 4, iv 3, iv (Int32.ofNat b3), iv (Int32.ofNat ((own_up (own_up (own_up (own_P L) q0) q1) q2) q3))]) d1_297 rfl ?_
  refine o_aloadN cx X1977 d1_299 rfl rfl ?_
  refine o_getF cx X1977 d1_300 (o_w hw 14 rfl) F1 fun T1980 X1981 => ?_
  refine o_iload cx X1981 d1_303 rfl ?_
  refine o_aload cx X1981 d1_305 rfl rfl ?_
  refine o_iload cx X1981 d1_307 rfl ?_
  refine o_ldI cx X1981 (v := (.int txv3)) d1_309 (Atx.keep KK (ninS (Ne.symm ne_aa_tx) nin0)) b3 (own_nn (by omega)) (own_nt (by omega)) htx3 ?_
  refine o_stI cx X1981 d1_310 A1863 ((own_up (own_up (own_up (own_P L) q0) q1) q2) q3) (own_nn (by omega)) (own_nt (by omega)) (by rw [hvt1961]; omega) ge1865 fun T1982 h1984 X1983 W1985 A1863 => ?_
  have F0 := F0.other W1985 (Or.inl ne_aa_b1858)
  have F1 := F1.other W1985 (Or.inl ne_aa_b1858)
  have F2 := F2.other W1985 (Or.inl ne_aa_b1858)
  have F3 := F3.other W1985 (Or.inl ne_aa_b1858)
  have A1875 := A1875.other W1985 (Ne.symm ne_b1858_b1870)
  have A1887 := A1887.other W1985 (Ne.symm ne_b1858_b1882)
  have An := An.other W1985 (Ne.symm ne_b1858_bn)
  have KK := KK.wr W1985 (Or.inr sz_b1858)
  obtain ⟨vt1986, hvt1986, A1863⟩ : ∃ q : List Value, q.length = 4 ∧ own_Ar Z h1984 b1858 .int q := ⟨_, by simp [hvt1961], A1863⟩
  refine o_aloadN cx X1983 d1_311 rfl rfl ?_
  refine o_getF cx X1983 d1_312 (o_w hw 16 rfl) F2 fun T1987 X1988 => ?_
  refine o_iload cx X1988 d1_315 rfl ?_
  refine o_aload cx X1988 d1_317 rfl rfl ?_
  refine o_iload cx X1988 d1_319 rfl ?_
  refine o_ldI cx X1988 (v := (.int plv3)) d1_321 (Apl.keep KK (ninS (Ne.symm ne_aa_pl) nin0)) b3 (own_nn (by omega)) (own_nt (by omega)) hpl3 ?_
  refine o_stI cx X1988 d1_322 A1875 ((own_up (own_up (own_up (own_P L) q0) q1) q2) q3) (own_nn (by omega)) (own_nt (by omega)) (by rw [hvt1968]; omega) ge1877 fun T1989 h1991 X1990 W1992 A1875 => ?_
  have F0 := F0.other W1992 (Or.inl ne_aa_b1870)
  have F1 := F1.other W1992 (Or.inl ne_aa_b1870)
  have F2 := F2.other W1992 (Or.inl ne_aa_b1870)
  have F3 := F3.other W1992 (Or.inl ne_aa_b1870)
  have A1863 := A1863.other W1992 ne_b1858_b1870
  have A1887 := A1887.other W1992 (Ne.symm ne_b1870_b1882)
  have An := An.other W1992 (Ne.symm ne_b1870_bn)
  have KK := KK.wr W1992 (Or.inr sz_b1870)
  obtain ⟨vt1993, hvt1993, A1875⟩ : ∃ q : List Value, q.length = 4 ∧ own_Ar Z h1991 b1870 .int q := ⟨_, by simp [hvt1968], A1875⟩
  refine o_aload cx X1990 d1_323 rfl rfl ?_
  refine o_ifnullNo cx X1990 d1_325 ?_
  refine o_aloadN cx X1990 d1_328 rfl rfl ?_
  refine o_getF cx X1990 d1_329 (o_w hw 18 rfl) F3 fun T1994 X1995 => ?_
  refine o_iload cx X1995 d1_332 rfl ?_
  refine o_aload cx X1995 d1_334 rfl rfl ?_
  refine o_iload cx X1995 d1_336 rfl ?_
  refine o_ldI cx X1995 (v := (.int cvv3)) d1_338 (Acv.keep KK (ninS (Ne.symm ne_aa_cv) nin0)) b3 (own_nn (by omega)) (own_nt (by omega)) hcv3 ?_
  refine o_stI cx X1995 d1_339 A1887 ((own_up (own_up (own_up (own_P L) q0) q1) q2) q3) (own_nn (by omega)) (own_nt (by omega)) (by rw [hvt1975]; omega) ge1889 fun T1996 h1998 X1997 W1999 A1887 => ?_
  have F0 := F0.other W1999 (Or.inl ne_aa_b1882)
  have F1 := F1.other W1999 (Or.inl ne_aa_b1882)
  have F2 := F2.other W1999 (Or.inl ne_aa_b1882)
  have F3 := F3.other W1999 (Or.inl ne_aa_b1882)
  have A1863 := A1863.other W1999 ne_b1858_b1882
  have A1875 := A1875.other W1999 ne_b1870_b1882
  have An := An.other W1999 (Ne.symm ne_b1882_bn)
  have KK := KK.wr W1999 (Or.inr sz_b1882)
  obtain ⟨vt2000, hvt2000, A1887⟩ : ∃ q : List Value, q.length = 4 ∧ own_Ar Z h1998 b1882 .int q := ⟨_, by simp [hvt1975], A1887⟩
  refine o_iinc cx X1997 (z := (4 : Int32)) (Ls' := #[rv aa, iv (Int32.ofNat nn), iv x2, rv rk, rv tx, rv pl, rv cv, rv ts, rv bt, rv bn, rv bt, iv 4, iv 4, iv (Int32.ofNat b3), iv (Int32.ofNat ((own_up (own_up (own_up (own_P L) q0) q1) q2) q3))]) d1_340 rfl rfl rfl ?_
  refine o_goto cx X1997 271 d1_343 (by decide) (by decide) ?_
  refine o_iload cx X1997 d1_271 rfl ?_
  refine o_iload cx X1997 d1_273 rfl ?_
  refine o_icmpYes cx X1997 346 d1_275 (by decide) (by decide) (by decide) ?_
  exact o_retV cx X1997 d1_346 ⟨bs, rfl, (E0.keep KK), F0, (As.keep KK (ninS (Ne.symm ne_aa_bs) nin0))⟩ (by decide) (by decide)
def own_TX (tc t0 t1 t2 t3 : Int32) : Prop := (tc = 4 ∧ t0 = 0 ∧ t1 = 1 ∧ t2 = 2 ∧ t3 = 3) ∨ (tc = 4 ∧ t0 = 1 ∧ t1 = 2 ∧ t2 = 3 ∧ t3 = 0) ∨ (tc = 4 ∧ t0 = 2 ∧ t1 = 3 ∧ t2 = 0 ∧ t3 = 1) ∨ (tc = 4 ∧ t0 = 3 ∧ t1 = 0 ∧ t2 = 1 ∧ t3 = 2) ∨ (tc = 5 ∧ t0 = 0 ∧ t1 = 1 ∧ t2 = 2 ∧ t3 = 3) ∨ (tc = 5 ∧ t0 = 1 ∧ t1 = 2 ∧ t2 = 3 ∧ t3 = 4) ∨ (tc = 5 ∧ t0 = 2 ∧ t1 = 3 ∧ t2 = 4 ∧ t3 = 0) ∨ (tc = 5 ∧ t0 = 3 ∧ t1 = 4 ∧ t2 = 0 ∧ t3 = 1) ∨ (tc = 6 ∧ t0 = 0 ∧ t1 = 1 ∧ t2 = 2 ∧ t3 = 3) ∨ (tc = 6 ∧ t0 = 1 ∧ t1 = 2 ∧ t2 = 3 ∧ t3 = 4) ∨ (tc = 6 ∧ t0 = 2 ∧ t1 = 3 ∧ t2 = 4 ∧ t3 = 5) ∨ (tc = 6 ∧ t0 = 3 ∧ t1 = 4 ∧ t2 = 5 ∧ t3 = 0) ∨ (tc = 7 ∧ t0 = 0 ∧ t1 = 1 ∧ t2 = 2 ∧ t3 = 3) ∨ (tc = 7 ∧ t0 = 1 ∧ t1 = 2 ∧ t2 = 3 ∧ t3 = 4) ∨ (tc = 7 ∧ t0 = 2 ∧ t1 = 3 ∧ t2 = 4 ∧ t3 = 5) ∨ (tc = 7 ∧ t0 = 3 ∧ t1 = 4 ∧ t2 = 5 ∧ t3 = 6)
theorem pn_1 : plainName "com/example/rough_dedup/roughdedup/ShingleIndex$Postings" = true := by first | (simp [plainName, overriddenIn]; done) | decide +kernel
theorem ef_rcon0 (m : MethodId) (aa : Addr) (rk : Addr) (tx : Addr) (pl : Addr) (nn : Nat) (tc : Int32) : entryFrame m #[(.ref aa), (.int (Int32.ofNat nn)), (.int tc), (.ref rk), (.ref tx), (.ref pl), .null] 15 = mkF m 0 #[rv aa, iv (Int32.ofNat nn), iv tc, rv rk, rv tx, rv pl, .val .null, .unset, .unset, .unset, .unset, .unset, .unset, .unset, .unset] [] := by first | (simp [entryFrame, mkF, argsToLocals, Value.category]; done) | rfl
set_option maxRecDepth 65536 in
set_option maxHeartbeats 40000000 in
theorem rcon0 (l : Launch) (Z : State) (a0 : Array Value) (hw : ∀ d ∈ tables_1, d.before a0 Z = true) (aa : Addr) (rk : Addr) (tx : Addr) (pl : Addr) (nn : Nat) (k0 : Nat) (k1 : Nat) (k2 : Nat) (k3 : Nat) (tc : Int32) (t0 : Int32) (t1 : Int32) (t2 : Int32) (t3 : Int32) (v0 : Int32) (v1 : Int32) (v2 : Int32) (v3 : Int32) (h0 : Heap) (n0 : Nat) (Z0 : n0 ≤ h0.size) (ga : n0 ≤ aa) (ne_aa_rk : aa ≠ rk) (ne_aa_tx : aa ≠ tx) (ne_aa_pl : aa ≠ pl) (E0 : Exa Z h0 aa "com/example/rough_dedup/roughdedup/ShingleIndex$Postings") (F0 : Fld Z h0 aa "com/example/rough_dedup/roughdedup/ShingleIndex$Postings" "starts" "[I" .null) (F1 : Fld Z h0 aa "com/example/rough_dedup/roughdedup/ShingleIndex$Postings" "texts" "[I" .null) (F2 : Fld Z h0 aa "com/example/rough_dedup/roughdedup/ShingleIndex$Postings" "places" "[I" .null) (F3 : Fld Z h0 aa "com/example/rough_dedup/roughdedup/ShingleIndex$Postings" "covered" "[I" .null) (Ar : own_Ar Z h0 rk .int [(.int (Int32.ofNat k0)), (.int (Int32.ofNat k1)), (.int (Int32.ofNat k2)), (.int (Int32.ofNat k3))]) (At : own_Ar Z h0 tx .int [(.int t0), (.int t1), (.int t2), (.int t3)]) (Ap : own_Ar Z h0 pl .int [(.int v0), (.int v1), (.int v2), (.int v3)]) (hn8 : nn ≤ 8) (hk0 : k0 < nn) (hk1 : k1 < nn) (hk2 : k2 < nn) (hk3 : k3 < nn) (htx : own_TX tc t0 t1 t2 t3) :
    own_Met l Z (⟨"com/example/rough_dedup/roughdedup/ShingleIndex$Postings", "<init>", "(II[I[I[I[I)V"⟩ : MethodName) prog_28_method_2_code 15 none ({ frames := 2, cells := 7, slots := 41, locals := 74 } : Room) #[(.ref aa), (.int (Int32.ofNat nn)), (.int tc), (.ref rk), (.ref tx), (.ref pl), .null] h0 n0 (fun v' h' => ∃ b : Addr, v' = none ∧ Exa Z h' aa "com/example/rough_dedup/roughdedup/ShingleIndex$Postings" ∧ Fld Z h' aa "com/example/rough_dedup/roughdedup/ShingleIndex$Postings" "starts" "[I" (.ref b) ∧ own_Ar Z h' b .int (own_fl (nn + 1) (own_P [k3, k2, k1, k0]))) := by
  refine own_body (plainFor_of_name pn_1) (fun m => ef_rcon0 m aa rk tx pl nn tc) Z0 ?_
  intro p e s m below meth c T0 cx X0
  show own_Go p e below _ (T0.setTop (mkF m 0 #[rv aa, iv (Int32.ofNat nn), iv tc, rv rk, rv tx, rv pl, .val .null, .unset, .unset, .unset, .unset, .unset, .unset, .unset, .unset] []))
  rcases htx with ⟨rfl, rfl, rfl, rfl, rfl⟩ | ⟨rfl, rfl, rfl, rfl, rfl⟩ | ⟨rfl, rfl, rfl, rfl, rfl⟩ | ⟨rfl, rfl, rfl, rfl, rfl⟩ | ⟨rfl, rfl, rfl, rfl, rfl⟩ | ⟨rfl, rfl, rfl, rfl, rfl⟩ | ⟨rfl, rfl, rfl, rfl, rfl⟩ | ⟨rfl, rfl, rfl, rfl, rfl⟩ | ⟨rfl, rfl, rfl, rfl, rfl⟩ | ⟨rfl, rfl, rfl, rfl, rfl⟩ | ⟨rfl, rfl, rfl, rfl, rfl⟩ | ⟨rfl, rfl, rfl, rfl, rfl⟩ | ⟨rfl, rfl, rfl, rfl, rfl⟩ | ⟨rfl, rfl, rfl, rfl, rfl⟩ | ⟨rfl, rfl, rfl, rfl, rfl⟩ | ⟨rfl, rfl, rfl, rfl, rfl⟩
  · refine segA_4_0 hw aa rk tx pl nn k0 k1 k2 k3 v0 v1 v2 v3 _ pl _ cx X0 ga ne_aa_rk ne_aa_tx ne_aa_pl E0 F0 F1 F2 F3 Ar At Ap Ap fun T h ts bt x9 x10 x11 X gbt nbt E0 F0 F1 F2 F3 Ar At Ap Ac Ab => ?_
    refine segB hw aa rk tx pl ts bt nn _ x9 x10 x11 k0 k1 k2 k3 _ cx X ga ne_aa_rk E0 F0 F1 F2 F3 Ar hn8 hk0 hk1 hk2 hk3 fun T h bs X KK gbs sbs F0 F1 F2 F3 As => ?_
    exact segC0 hw aa rk tx pl ts bt nn _ _ _ _ bs _ [k3, k2, k1, k0] _ _ _ 0 1 2 3 k0 k1 k2 k3 _ _ _ _ _ _ _ _ cx X ga ne_aa_rk ne_aa_tx ne_aa_pl nbt (Nat.ne_of_lt (Nat.lt_of_lt_of_le E0.lt sbs)) (E0.keep KK) F0 F1 F2 F3 As (Ar.keep KK (ninS (Ne.symm ne_aa_rk) nin0)) (At.keep KK (ninS (Ne.symm ne_aa_tx) nin0)) (Ap.keep KK (ninS (Ne.symm ne_aa_pl) nin0)) (Ab.keep KK (ninS (Ne.symm nbt) nin0)) hn8 rfl rfl (by decide) hk0 rfl rfl rfl (by decide) hk1 rfl rfl rfl (by decide) hk2 rfl rfl rfl (by decide) hk3 rfl rfl rfl (fun j => by have q := own_inv0 [k3, k2, k1, k0] j; simp only [own_C] at q ⊢; omega)
  · refine segA_4_1 hw aa rk tx pl nn k0 k1 k2 k3 v0 v1 v2 v3 _ pl _ cx X0 ga ne_aa_rk ne_aa_tx ne_aa_pl E0 F0 F1 F2 F3 Ar At Ap Ap fun T h ts bt x9 x10 x11 X gbt nbt E0 F0 F1 F2 F3 Ar At Ap Ac Ab => ?_
    refine segB hw aa rk tx pl ts bt nn _ x9 x10 x11 k0 k1 k2 k3 _ cx X ga ne_aa_rk E0 F0 F1 F2 F3 Ar hn8 hk0 hk1 hk2 hk3 fun T h bs X KK gbs sbs F0 F1 F2 F3 As => ?_
    exact segC0 hw aa rk tx pl ts bt nn _ _ _ _ bs _ [k3, k2, k1, k0] _ _ _ 3 0 1 2 k3 k0 k1 k2 _ _ _ _ _ _ _ _ cx X ga ne_aa_rk ne_aa_tx ne_aa_pl nbt (Nat.ne_of_lt (Nat.lt_of_lt_of_le E0.lt sbs)) (E0.keep KK) F0 F1 F2 F3 As (Ar.keep KK (ninS (Ne.symm ne_aa_rk) nin0)) (At.keep KK (ninS (Ne.symm ne_aa_tx) nin0)) (Ap.keep KK (ninS (Ne.symm ne_aa_pl) nin0)) (Ab.keep KK (ninS (Ne.symm nbt) nin0)) hn8 rfl rfl (by decide) hk3 rfl rfl rfl (by decide) hk0 rfl rfl rfl (by decide) hk1 rfl rfl rfl (by decide) hk2 rfl rfl rfl (fun j => by have q := own_inv0 [k3, k2, k1, k0] j; simp only [own_C] at q ⊢; omega)
  · refine segA_4_2 hw aa rk tx pl nn k0 k1 k2 k3 v0 v1 v2 v3 _ pl _ cx X0 ga ne_aa_rk ne_aa_tx ne_aa_pl E0 F0 F1 F2 F3 Ar At Ap Ap fun T h ts bt x9 x10 x11 X gbt nbt E0 F0 F1 F2 F3 Ar At Ap Ac Ab => ?_
    refine segB hw aa rk tx pl ts bt nn _ x9 x10 x11 k0 k1 k2 k3 _ cx X ga ne_aa_rk E0 F0 F1 F2 F3 Ar hn8 hk0 hk1 hk2 hk3 fun T h bs X KK gbs sbs F0 F1 F2 F3 As => ?_
    exact segC0 hw aa rk tx pl ts bt nn _ _ _ _ bs _ [k3, k2, k1, k0] _ _ _ 2 3 0 1 k2 k3 k0 k1 _ _ _ _ _ _ _ _ cx X ga ne_aa_rk ne_aa_tx ne_aa_pl nbt (Nat.ne_of_lt (Nat.lt_of_lt_of_le E0.lt sbs)) (E0.keep KK) F0 F1 F2 F3 As (Ar.keep KK (ninS (Ne.symm ne_aa_rk) nin0)) (At.keep KK (ninS (Ne.symm ne_aa_tx) nin0)) (Ap.keep KK (ninS (Ne.symm ne_aa_pl) nin0)) (Ab.keep KK (ninS (Ne.symm nbt) nin0)) hn8 rfl rfl (by decide) hk2 rfl rfl rfl (by decide) hk3 rfl rfl rfl (by decide) hk0 rfl rfl rfl (by decide) hk1 rfl rfl rfl (fun j => by have q := own_inv0 [k3, k2, k1, k0] j; simp only [own_C] at q ⊢; omega)
  · refine segA_4_3 hw aa rk tx pl nn k0 k1 k2 k3 v0 v1 v2 v3 _ pl _ cx X0 ga ne_aa_rk ne_aa_tx ne_aa_pl E0 F0 F1 F2 F3 Ar At Ap Ap fun T h ts bt x9 x10 x11 X gbt nbt E0 F0 F1 F2 F3 Ar At Ap Ac Ab => ?_
    refine segB hw aa rk tx pl ts bt nn _ x9 x10 x11 k0 k1 k2 k3 _ cx X ga ne_aa_rk E0 F0 F1 F2 F3 Ar hn8 hk0 hk1 hk2 hk3 fun T h bs X KK gbs sbs F0 F1 F2 F3 As => ?_
    exact segC0 hw aa rk tx pl ts bt nn _ _ _ _ bs _ [k3, k2, k1, k0] _ _ _ 1 2 3 0 k1 k2 k3 k0 _ _ _ _ _ _ _ _ cx X ga ne_aa_rk ne_aa_tx ne_aa_pl nbt (Nat.ne_of_lt (Nat.lt_of_lt_of_le E0.lt sbs)) (E0.keep KK) F0 F1 F2 F3 As (Ar.keep KK (ninS (Ne.symm ne_aa_rk) nin0)) (At.keep KK (ninS (Ne.symm ne_aa_tx) nin0)) (Ap.keep KK (ninS (Ne.symm ne_aa_pl) nin0)) (Ab.keep KK (ninS (Ne.symm nbt) nin0)) hn8 rfl rfl (by decide) hk1 rfl rfl rfl (by decide) hk2 rfl rfl rfl (by decide) hk3 rfl rfl rfl (by decide) hk0 rfl rfl rfl (fun j => by have q := own_inv0 [k3, k2, k1, k0] j; simp only [own_C] at q ⊢; omega)
  · refine segA_5_0 hw aa rk tx pl nn k0 k1 k2 k3 v0 v1 v2 v3 _ pl _ cx X0 ga ne_aa_rk ne_aa_tx ne_aa_pl E0 F0 F1 F2 F3 Ar At Ap Ap fun T h ts bt x9 x10 x11 X gbt nbt E0 F0 F1 F2 F3 Ar At Ap Ac Ab => ?_
    refine segB hw aa rk tx pl ts bt nn _ x9 x10 x11 k0 k1 k2 k3 _ cx X ga ne_aa_rk E0 F0 F1 F2 F3 Ar hn8 hk0 hk1 hk2 hk3 fun T h bs X KK gbs sbs F0 F1 F2 F3 As => ?_
    exact segC0 hw aa rk tx pl ts bt nn _ _ _ _ bs _ [k3, k2, k1, k0] _ _ _ 0 1 2 3 k0 k1 k2 k3 _ _ _ _ _ _ _ _ cx X ga ne_aa_rk ne_aa_tx ne_aa_pl nbt (Nat.ne_of_lt (Nat.lt_of_lt_of_le E0.lt sbs)) (E0.keep KK) F0 F1 F2 F3 As (Ar.keep KK (ninS (Ne.symm ne_aa_rk) nin0)) (At.keep KK (ninS (Ne.symm ne_aa_tx) nin0)) (Ap.keep KK (ninS (Ne.symm ne_aa_pl) nin0)) (Ab.keep KK (ninS (Ne.symm nbt) nin0)) hn8 rfl rfl (by decide) hk0 rfl rfl rfl (by decide) hk1 rfl rfl rfl (by decide) hk2 rfl rfl rfl (by decide) hk3 rfl rfl rfl (fun j => by have q := own_inv0 [k3, k2, k1, k0] j; simp only [own_C] at q ⊢; omega)
  · refine segA_5_1 hw aa rk tx pl nn k0 k1 k2 k3 v0 v1 v2 v3 _ pl _ cx X0 ga ne_aa_rk ne_aa_tx ne_aa_pl E0 F0 F1 F2 F3 Ar At Ap Ap fun T h ts bt x9 x10 x11 X gbt nbt E0 F0 F1 F2 F3 Ar At Ap Ac Ab => ?_
    refine segB hw aa rk tx pl ts bt nn _ x9 x10 x11 k0 k1 k2 k3 _ cx X ga ne_aa_rk E0 F0 F1 F2 F3 Ar hn8 hk0 hk1 hk2 hk3 fun T h bs X KK gbs sbs F0 F1 F2 F3 As => ?_
    exact segC0 hw aa rk tx pl ts bt nn _ _ _ _ bs _ [k3, k2, k1, k0] _ _ _ 0 1 2 3 k0 k1 k2 k3 _ _ _ _ _ _ _ _ cx X ga ne_aa_rk ne_aa_tx ne_aa_pl nbt (Nat.ne_of_lt (Nat.lt_of_lt_of_le E0.lt sbs)) (E0.keep KK) F0 F1 F2 F3 As (Ar.keep KK (ninS (Ne.symm ne_aa_rk) nin0)) (At.keep KK (ninS (Ne.symm ne_aa_tx) nin0)) (Ap.keep KK (ninS (Ne.symm ne_aa_pl) nin0)) (Ab.keep KK (ninS (Ne.symm nbt) nin0)) hn8 rfl rfl (by decide) hk0 rfl rfl rfl (by decide) hk1 rfl rfl rfl (by decide) hk2 rfl rfl rfl (by decide) hk3 rfl rfl rfl (fun j => by have q := own_inv0 [k3, k2, k1, k0] j; simp only [own_C] at q ⊢; omega)
  · refine segA_5_2 hw aa rk tx pl nn k0 k1 k2 k3 v0 v1 v2 v3 _ pl _ cx X0 ga ne_aa_rk ne_aa_tx ne_aa_pl E0 F0 F1 F2 F3 Ar At Ap Ap fun T h ts bt x9 x10 x11 X gbt nbt E0 F0 F1 F2 F3 Ar At Ap Ac Ab => ?_
    refine segB hw aa rk tx pl ts bt nn _ x9 x10 x11 k0 k1 k2 k3 _ cx X ga ne_aa_rk E0 F0 F1 F2 F3 Ar hn8 hk0 hk1 hk2 hk3 fun T h bs X KK gbs sbs F0 F1 F2 F3 As => ?_
    exact segC0 hw aa rk tx pl ts bt nn _ _ _ _ bs _ [k3, k2, k1, k0] _ _ _ 3 0 1 2 k3 k0 k1 k2 _ _ _ _ _ _ _ _ cx X ga ne_aa_rk ne_aa_tx ne_aa_pl nbt (Nat.ne_of_lt (Nat.lt_of_lt_of_le E0.lt sbs)) (E0.keep KK) F0 F1 F2 F3 As (Ar.keep KK (ninS (Ne.symm ne_aa_rk) nin0)) (At.keep KK (ninS (Ne.symm ne_aa_tx) nin0)) (Ap.keep KK (ninS (Ne.symm ne_aa_pl) nin0)) (Ab.keep KK (ninS (Ne.symm nbt) nin0)) hn8 rfl rfl (by decide) hk3 rfl rfl rfl (by decide) hk0 rfl rfl rfl (by decide) hk1 rfl rfl rfl (by decide) hk2 rfl rfl rfl (fun j => by have q := own_inv0 [k3, k2, k1, k0] j; simp only [own_C] at q ⊢; omega)
  · refine segA_5_3 hw aa rk tx pl nn k0 k1 k2 k3 v0 v1 v2 v3 _ pl _ cx X0 ga ne_aa_rk ne_aa_tx ne_aa_pl E0 F0 F1 F2 F3 Ar At Ap Ap fun T h ts bt x9 x10 x11 X gbt nbt E0 F0 F1 F2 F3 Ar At Ap Ac Ab => ?_
    refine segB hw aa rk tx pl ts bt nn _ x9 x10 x11 k0 k1 k2 k3 _ cx X ga ne_aa_rk E0 F0 F1 F2 F3 Ar hn8 hk0 hk1 hk2 hk3 fun T h bs X KK gbs sbs F0 F1 F2 F3 As => ?_
    exact segC0 hw aa rk tx pl ts bt nn _ _ _ _ bs _ [k3, k2, k1, k0] _ _ _ 2 3 0 1 k2 k3 k0 k1 _ _ _ _ _ _ _ _ cx X ga ne_aa_rk ne_aa_tx ne_aa_pl nbt (Nat.ne_of_lt (Nat.lt_of_lt_of_le E0.lt sbs)) (E0.keep KK) F0 F1 F2 F3 As (Ar.keep KK (ninS (Ne.symm ne_aa_rk) nin0)) (At.keep KK (ninS (Ne.symm ne_aa_tx) nin0)) (Ap.keep KK (ninS (Ne.symm ne_aa_pl) nin0)) (Ab.keep KK (ninS (Ne.symm nbt) nin0)) hn8 rfl rfl (by decide) hk2 rfl rfl rfl (by decide) hk3 rfl rfl rfl (by decide) hk0 rfl rfl rfl (by decide) hk1 rfl rfl rfl (fun j => by have q := own_inv0 [k3, k2, k1, k0] j; simp only [own_C] at q ⊢; omega)
  · refine segA_6_0 hw aa rk tx pl nn k0 k1 k2 k3 v0 v1 v2 v3 _ pl _ cx X0 ga ne_aa_rk ne_aa_tx ne_aa_pl E0 F0 F1 F2 F3 Ar At Ap Ap fun T h ts bt x9 x10 x11 X gbt nbt E0 F0 F1 F2 F3 Ar At Ap Ac Ab => ?_
    refine segB hw aa rk tx pl ts bt nn _ x9 x10 x11 k0 k1 k2 k3 _ cx X ga ne_aa_rk E0 F0 F1 F2 F3 Ar hn8 hk0 hk1 hk2 hk3 fun T h bs X KK gbs sbs F0 F1 F2 F3 As => ?_
    exact segC0 hw aa rk tx pl ts bt nn _ _ _ _ bs _ [k3, k2, k1, k0] _ _ _ 0 1 2 3 k0 k1 k2 k3 _ _ _ _ _ _ _ _ cx X ga ne_aa_rk ne_aa_tx ne_aa_pl nbt (Nat.ne_of_lt (Nat.lt_of_lt_of_le E0.lt sbs)) (E0.keep KK) F0 F1 F2 F3 As (Ar.keep KK (ninS (Ne.symm ne_aa_rk) nin0)) (At.keep KK (ninS (Ne.symm ne_aa_tx) nin0)) (Ap.keep KK (ninS (Ne.symm ne_aa_pl) nin0)) (Ab.keep KK (ninS (Ne.symm nbt) nin0)) hn8 rfl rfl (by decide) hk0 rfl rfl rfl (by decide) hk1 rfl rfl rfl (by decide) hk2 rfl rfl rfl (by decide) hk3 rfl rfl rfl (fun j => by have q := own_inv0 [k3, k2, k1, k0] j; simp only [own_C] at q ⊢; omega)
  · refine segA_6_1 hw aa rk tx pl nn k0 k1 k2 k3 v0 v1 v2 v3 _ pl _ cx X0 ga ne_aa_rk ne_aa_tx ne_aa_pl E0 F0 F1 F2 F3 Ar At Ap Ap fun T h ts bt x9 x10 x11 X gbt nbt E0 F0 F1 F2 F3 Ar At Ap Ac Ab => ?_
    refine segB hw aa rk tx pl ts bt nn _ x9 x10 x11 k0 k1 k2 k3 _ cx X ga ne_aa_rk E0 F0 F1 F2 F3 Ar hn8 hk0 hk1 hk2 hk3 fun T h bs X KK gbs sbs F0 F1 F2 F3 As => ?_
    exact segC0 hw aa rk tx pl ts bt nn _ _ _ _ bs _ [k3, k2, k1, k0] _ _ _ 0 1 2 3 k0 k1 k2 k3 _ _ _ _ _ _ _ _ cx X ga ne_aa_rk ne_aa_tx ne_aa_pl nbt (Nat.ne_of_lt (Nat.lt_of_lt_of_le E0.lt sbs)) (E0.keep KK) F0 F1 F2 F3 As (Ar.keep KK (ninS (Ne.symm ne_aa_rk) nin0)) (At.keep KK (ninS (Ne.symm ne_aa_tx) nin0)) (Ap.keep KK (ninS (Ne.symm ne_aa_pl) nin0)) (Ab.keep KK (ninS (Ne.symm nbt) nin0)) hn8 rfl rfl (by decide) hk0 rfl rfl rfl (by decide) hk1 rfl rfl rfl (by decide) hk2 rfl rfl rfl (by decide) hk3 rfl rfl rfl (fun j => by have q := own_inv0 [k3, k2, k1, k0] j; simp only [own_C] at q ⊢; omega)
  · refine segA_6_2 hw aa rk tx pl nn k0 k1 k2 k3 v0 v1 v2 v3 _ pl _ cx X0 ga ne_aa_rk ne_aa_tx ne_aa_pl E0 F0 F1 F2 F3 Ar At Ap Ap fun T h ts bt x9 x10 x11 X gbt nbt E0 F0 F1 F2 F3 Ar At Ap Ac Ab => ?_
    refine segB hw aa rk tx pl ts bt nn _ x9 x10 x11 k0 k1 k2 k3 _ cx X ga ne_aa_rk E0 F0 F1 F2 F3 Ar hn8 hk0 hk1 hk2 hk3 fun T h bs X KK gbs sbs F0 F1 F2 F3 As => ?_
    exact segC0 hw aa rk tx pl ts bt nn _ _ _ _ bs _ [k3, k2, k1, k0] _ _ _ 0 1 2 3 k0 k1 k2 k3 _ _ _ _ _ _ _ _ cx X ga ne_aa_rk ne_aa_tx ne_aa_pl nbt (Nat.ne_of_lt (Nat.lt_of_lt_of_le E0.lt sbs)) (E0.keep KK) F0 F1 F2 F3 As (Ar.keep KK (ninS (Ne.symm ne_aa_rk) nin0)) (At.keep KK (ninS (Ne.symm ne_aa_tx) nin0)) (Ap.keep KK (ninS (Ne.symm ne_aa_pl) nin0)) (Ab.keep KK (ninS (Ne.symm nbt) nin0)) hn8 rfl rfl (by decide) hk0 rfl rfl rfl (by decide) hk1 rfl rfl rfl (by decide) hk2 rfl rfl rfl (by decide) hk3 rfl rfl rfl (fun j => by have q := own_inv0 [k3, k2, k1, k0] j; simp only [own_C] at q ⊢; omega)
  · refine segA_6_3 hw aa rk tx pl nn k0 k1 k2 k3 v0 v1 v2 v3 _ pl _ cx X0 ga ne_aa_rk ne_aa_tx ne_aa_pl E0 F0 F1 F2 F3 Ar At Ap Ap fun T h ts bt x9 x10 x11 X gbt nbt E0 F0 F1 F2 F3 Ar At Ap Ac Ab => ?_
    refine segB hw aa rk tx pl ts bt nn _ x9 x10 x11 k0 k1 k2 k3 _ cx X ga ne_aa_rk E0 F0 F1 F2 F3 Ar hn8 hk0 hk1 hk2 hk3 fun T h bs X KK gbs sbs F0 F1 F2 F3 As => ?_
    exact segC0 hw aa rk tx pl ts bt nn _ _ _ _ bs _ [k3, k2, k1, k0] _ _ _ 3 0 1 2 k3 k0 k1 k2 _ _ _ _ _ _ _ _ cx X ga ne_aa_rk ne_aa_tx ne_aa_pl nbt (Nat.ne_of_lt (Nat.lt_of_lt_of_le E0.lt sbs)) (E0.keep KK) F0 F1 F2 F3 As (Ar.keep KK (ninS (Ne.symm ne_aa_rk) nin0)) (At.keep KK (ninS (Ne.symm ne_aa_tx) nin0)) (Ap.keep KK (ninS (Ne.symm ne_aa_pl) nin0)) (Ab.keep KK (ninS (Ne.symm nbt) nin0)) hn8 rfl rfl (by decide) hk3 rfl rfl rfl (by decide) hk0 rfl rfl rfl (by decide) hk1 rfl rfl rfl (by decide) hk2 rfl rfl rfl (fun j => by have q := own_inv0 [k3, k2, k1, k0] j; simp only [own_C] at q ⊢; omega)
  · refine segA_7_0 hw aa rk tx pl nn k0 k1 k2 k3 v0 v1 v2 v3 _ pl _ cx X0 ga ne_aa_rk ne_aa_tx ne_aa_pl E0 F0 F1 F2 F3 Ar At Ap Ap fun T h ts bt x9 x10 x11 X gbt nbt E0 F0 F1 F2 F3 Ar At Ap Ac Ab => ?_
    refine segB hw aa rk tx pl ts bt nn _ x9 x10 x11 k0 k1 k2 k3 _ cx X ga ne_aa_rk E0 F0 F1 F2 F3 Ar hn8 hk0 hk1 hk2 hk3 fun T h bs X KK gbs sbs F0 F1 F2 F3 As => ?_
    exact segC0 hw aa rk tx pl ts bt nn _ _ _ _ bs _ [k3, k2, k1, k0] _ _ _ 0 1 2 3 k0 k1 k2 k3 _ _ _ _ _ _ _ _ cx X ga ne_aa_rk ne_aa_tx ne_aa_pl nbt (Nat.ne_of_lt (Nat.lt_of_lt_of_le E0.lt sbs)) (E0.keep KK) F0 F1 F2 F3 As (Ar.keep KK (ninS (Ne.symm ne_aa_rk) nin0)) (At.keep KK (ninS (Ne.symm ne_aa_tx) nin0)) (Ap.keep KK (ninS (Ne.symm ne_aa_pl) nin0)) (Ab.keep KK (ninS (Ne.symm nbt) nin0)) hn8 rfl rfl (by decide) hk0 rfl rfl rfl (by decide) hk1 rfl rfl rfl (by decide) hk2 rfl rfl rfl (by decide) hk3 rfl rfl rfl (fun j => by have q := own_inv0 [k3, k2, k1, k0] j; simp only [own_C] at q ⊢; omega)
  · refine segA_7_1 hw aa rk tx pl nn k0 k1 k2 k3 v0 v1 v2 v3 _ pl _ cx X0 ga ne_aa_rk ne_aa_tx ne_aa_pl E0 F0 F1 F2 F3 Ar At Ap Ap fun T h ts bt x9 x10 x11 X gbt nbt E0 F0 F1 F2 F3 Ar At Ap Ac Ab => ?_
    refine segB hw aa rk tx pl ts bt nn _ x9 x10 x11 k0 k1 k2 k3 _ cx X ga ne_aa_rk E0 F0 F1 F2 F3 Ar hn8 hk0 hk1 hk2 hk3 fun T h bs X KK gbs sbs F0 F1 F2 F3 As => ?_
    exact segC0 hw aa rk tx pl ts bt nn _ _ _ _ bs _ [k3, k2, k1, k0] _ _ _ 0 1 2 3 k0 k1 k2 k3 _ _ _ _ _ _ _ _ cx X ga ne_aa_rk ne_aa_tx ne_aa_pl nbt (Nat.ne_of_lt (Nat.lt_of_lt_of_le E0.lt sbs)) (E0.keep KK) F0 F1 F2 F3 As (Ar.keep KK (ninS (Ne.symm ne_aa_rk) nin0)) (At.keep KK (ninS (Ne.symm ne_aa_tx) nin0)) (Ap.keep KK (ninS (Ne.symm ne_aa_pl) nin0)) (Ab.keep KK (ninS (Ne.symm nbt) nin0)) hn8 rfl rfl (by decide) hk0 rfl rfl rfl (by decide) hk1 rfl rfl rfl (by decide) hk2 rfl rfl rfl (by decide) hk3 rfl rfl rfl (fun j => by have q := own_inv0 [k3, k2, k1, k0] j; simp only [own_C] at q ⊢; omega)
  · refine segA_7_2 hw aa rk tx pl nn k0 k1 k2 k3 v0 v1 v2 v3 _ pl _ cx X0 ga ne_aa_rk ne_aa_tx ne_aa_pl E0 F0 F1 F2 F3 Ar At Ap Ap fun T h ts bt x9 x10 x11 X gbt nbt E0 F0 F1 F2 F3 Ar At Ap Ac Ab => ?_
    refine segB hw aa rk tx pl ts bt nn _ x9 x10 x11 k0 k1 k2 k3 _ cx X ga ne_aa_rk E0 F0 F1 F2 F3 Ar hn8 hk0 hk1 hk2 hk3 fun T h bs X KK gbs sbs F0 F1 F2 F3 As => ?_
    exact segC0 hw aa rk tx pl ts bt nn _ _ _ _ bs _ [k3, k2, k1, k0] _ _ _ 0 1 2 3 k0 k1 k2 k3 _ _ _ _ _ _ _ _ cx X ga ne_aa_rk ne_aa_tx ne_aa_pl nbt (Nat.ne_of_lt (Nat.lt_of_lt_of_le E0.lt sbs)) (E0.keep KK) F0 F1 F2 F3 As (Ar.keep KK (ninS (Ne.symm ne_aa_rk) nin0)) (At.keep KK (ninS (Ne.symm ne_aa_tx) nin0)) (Ap.keep KK (ninS (Ne.symm ne_aa_pl) nin0)) (Ab.keep KK (ninS (Ne.symm nbt) nin0)) hn8 rfl rfl (by decide) hk0 rfl rfl rfl (by decide) hk1 rfl rfl rfl (by decide) hk2 rfl rfl rfl (by decide) hk3 rfl rfl rfl (fun j => by have q := own_inv0 [k3, k2, k1, k0] j; simp only [own_C] at q ⊢; omega)
  · refine segA_7_3 hw aa rk tx pl nn k0 k1 k2 k3 v0 v1 v2 v3 _ pl _ cx X0 ga ne_aa_rk ne_aa_tx ne_aa_pl E0 F0 F1 F2 F3 Ar At Ap Ap fun T h ts bt x9 x10 x11 X gbt nbt E0 F0 F1 F2 F3 Ar At Ap Ac Ab => ?_
    refine segB hw aa rk tx pl ts bt nn _ x9 x10 x11 k0 k1 k2 k3 _ cx X ga ne_aa_rk E0 F0 F1 F2 F3 Ar hn8 hk0 hk1 hk2 hk3 fun T h bs X KK gbs sbs F0 F1 F2 F3 As => ?_
    exact segC0 hw aa rk tx pl ts bt nn _ _ _ _ bs _ [k3, k2, k1, k0] _ _ _ 0 1 2 3 k0 k1 k2 k3 _ _ _ _ _ _ _ _ cx X ga ne_aa_rk ne_aa_tx ne_aa_pl nbt (Nat.ne_of_lt (Nat.lt_of_lt_of_le E0.lt sbs)) (E0.keep KK) F0 F1 F2 F3 As (Ar.keep KK (ninS (Ne.symm ne_aa_rk) nin0)) (At.keep KK (ninS (Ne.symm ne_aa_tx) nin0)) (Ap.keep KK (ninS (Ne.symm ne_aa_pl) nin0)) (Ab.keep KK (ninS (Ne.symm nbt) nin0)) hn8 rfl rfl (by decide) hk0 rfl rfl rfl (by decide) hk1 rfl rfl rfl (by decide) hk2 rfl rfl rfl (by decide) hk3 rfl rfl rfl (fun j => by have q := own_inv0 [k3, k2, k1, k0] j; simp only [own_C] at q ⊢; omega)
theorem ef_rcon1 (m : MethodId) (aa : Addr) (rk : Addr) (tx : Addr) (pl : Addr) (nn : Nat) (tc : Int32) (cv : Addr) : entryFrame m #[(.ref aa), (.int (Int32.ofNat nn)), (.int tc), (.ref rk), (.ref tx), (.ref pl), (.ref cv)] 15 = mkF m 0 #[rv aa, iv (Int32.ofNat nn), iv tc, rv rk, rv tx, rv pl, rv cv, .unset, .unset, .unset, .unset, .unset, .unset, .unset, .unset] [] := by first | (simp [entryFrame, mkF, argsToLocals, Value.category]; done) | rfl
set_option maxRecDepth 65536 in
set_option maxHeartbeats 40000000 in
theorem rcon1 (l : Launch) (Z : State) (a0 : Array Value) (hw : ∀ d ∈ tables_1, d.before a0 Z = true) (aa : Addr) (rk : Addr) (tx : Addr) (pl : Addr) (nn : Nat) (k0 : Nat) (k1 : Nat) (k2 : Nat) (k3 : Nat) (tc : Int32) (t0 : Int32) (t1 : Int32) (t2 : Int32) (t3 : Int32) (v0 : Int32) (v1 : Int32) (v2 : Int32) (v3 : Int32) (cv : Addr) (w0 : Int32) (w1 : Int32) (w2 : Int32) (w3 : Int32) (h0 : Heap) (n0 : Nat) (Z0 : n0 ≤ h0.size) (ga : n0 ≤ aa) (ne_aa_rk : aa ≠ rk) (ne_aa_tx : aa ≠ tx) (ne_aa_pl : aa ≠ pl) (ne_aa_cv : aa ≠ cv) (E0 : Exa Z h0 aa "com/example/rough_dedup/roughdedup/ShingleIndex$Postings") (F0 : Fld Z h0 aa "com/example/rough_dedup/roughdedup/ShingleIndex$Postings" "starts" "[I" .null) (F1 : Fld Z h0 aa "com/example/rough_dedup/roughdedup/ShingleIndex$Postings" "texts" "[I" .null) (F2 : Fld Z h0 aa "com/example/rough_dedup/roughdedup/ShingleIndex$Postings" "places" "[I" .null) (F3 : Fld Z h0 aa "com/example/rough_dedup/roughdedup/ShingleIndex$Postings" "covered" "[I" .null) (Ar : own_Ar Z h0 rk .int [(.int (Int32.ofNat k0)), (.int (Int32.ofNat k1)), (.int (Int32.ofNat k2)), (.int (Int32.ofNat k3))]) (At : own_Ar Z h0 tx .int [(.int t0), (.int t1), (.int t2), (.int t3)]) (Ap : own_Ar Z h0 pl .int [(.int v0), (.int v1), (.int v2), (.int v3)]) (Ac : own_Ar Z h0 cv .int [(.int w0), (.int w1), (.int w2), (.int w3)]) (hn8 : nn ≤ 8) (hk0 : k0 < nn) (hk1 : k1 < nn) (hk2 : k2 < nn) (hk3 : k3 < nn) (htx : own_TX tc t0 t1 t2 t3) :
    own_Met l Z (⟨"com/example/rough_dedup/roughdedup/ShingleIndex$Postings", "<init>", "(II[I[I[I[I)V"⟩ : MethodName) prog_28_method_2_code 15 none ({ frames := 2, cells := 7, slots := 41, locals := 74 } : Room) #[(.ref aa), (.int (Int32.ofNat nn)), (.int tc), (.ref rk), (.ref tx), (.ref pl), (.ref cv)] h0 n0 (fun v' h' => ∃ b : Addr, v' = none ∧ Exa Z h' aa "com/example/rough_dedup/roughdedup/ShingleIndex$Postings" ∧ Fld Z h' aa "com/example/rough_dedup/roughdedup/ShingleIndex$Postings" "starts" "[I" (.ref b) ∧ own_Ar Z h' b .int (own_fl (nn + 1) (own_P [k3, k2, k1, k0]))) := by
  refine own_body (plainFor_of_name pn_1) (fun m => ef_rcon1 m aa rk tx pl nn tc cv) Z0 ?_
  intro p e s m below meth c T0 cx X0
  show own_Go p e below _ (T0.setTop (mkF m 0 #[rv aa, iv (Int32.ofNat nn), iv tc, rv rk, rv tx, rv pl, rv cv, .unset, .unset, .unset, .unset, .unset, .unset, .unset, .unset] []))
  rcases htx with ⟨rfl, rfl, rfl, rfl, rfl⟩ | ⟨rfl, rfl, rfl, rfl, rfl⟩ | ⟨rfl, rfl, rfl, rfl, rfl⟩ | ⟨rfl, rfl, rfl, rfl, rfl⟩ | ⟨rfl, rfl, rfl, rfl, rfl⟩ | ⟨rfl, rfl, rfl, rfl, rfl⟩ | ⟨rfl, rfl, rfl, rfl, rfl⟩ | ⟨rfl, rfl, rfl, rfl, rfl⟩ | ⟨rfl, rfl, rfl, rfl, rfl⟩ | ⟨rfl, rfl, rfl, rfl, rfl⟩ | ⟨rfl, rfl, rfl, rfl, rfl⟩ | ⟨rfl, rfl, rfl, rfl, rfl⟩ | ⟨rfl, rfl, rfl, rfl, rfl⟩ | ⟨rfl, rfl, rfl, rfl, rfl⟩ | ⟨rfl, rfl, rfl, rfl, rfl⟩ | ⟨rfl, rfl, rfl, rfl, rfl⟩
  · refine segA_4_0 hw aa rk tx pl nn k0 k1 k2 k3 v0 v1 v2 v3 _ cv _ cx X0 ga ne_aa_rk ne_aa_tx ne_aa_pl E0 F0 F1 F2 F3 Ar At Ap Ac fun T h ts bt x9 x10 x11 X gbt nbt E0 F0 F1 F2 F3 Ar At Ap Ac Ab => ?_
    refine segB hw aa rk tx pl ts bt nn _ x9 x10 x11 k0 k1 k2 k3 _ cx X ga ne_aa_rk E0 F0 F1 F2 F3 Ar hn8 hk0 hk1 hk2 hk3 fun T h bs X KK gbs sbs F0 F1 F2 F3 As => ?_
    exact segC1 hw aa rk tx pl cv ts bt nn _ _ _ _ bs _ [k3, k2, k1, k0] _ _ _ _ 0 1 2 3 k0 k1 k2 k3 _ _ _ _ _ _ _ _ _ _ _ _ cx X ga ne_aa_rk ne_aa_tx ne_aa_pl ne_aa_cv nbt (Nat.ne_of_lt (Nat.lt_of_lt_of_le E0.lt sbs)) (E0.keep KK) F0 F1 F2 F3 As (Ar.keep KK (ninS (Ne.symm ne_aa_rk) nin0)) (At.keep KK (ninS (Ne.symm ne_aa_tx) nin0)) (Ap.keep KK (ninS (Ne.symm ne_aa_pl) nin0)) (Ac.keep KK (ninS (Ne.symm ne_aa_cv) nin0)) (Ab.keep KK (ninS (Ne.symm nbt) nin0)) hn8 rfl rfl (by decide) hk0 rfl rfl rfl rfl (by decide) hk1 rfl rfl rfl rfl (by decide) hk2 rfl rfl rfl rfl (by decide) hk3 rfl rfl rfl rfl (fun j => by have q := own_inv0 [k3, k2, k1, k0] j; simp only [own_C] at q ⊢; omega)
  · refine segA_4_1 hw aa rk tx pl nn k0 k1 k2 k3 v0 v1 v2 v3 _ cv _ cx X0 ga ne_aa_rk ne_aa_tx ne_aa_pl E0 F0 F1 F2 F3 Ar At Ap Ac fun T h ts bt x9 x10 x11 X gbt nbt E0 F0 F1 F2 F3 Ar At Ap Ac Ab => ?_
    refine segB hw aa rk tx pl ts bt nn _ x9 x10 x11 k0 k1 k2 k3 _ cx X ga ne_aa_rk E0 F0 F1 F2 F3 Ar hn8 hk0 hk1 hk2 hk3 fun T h bs X KK gbs sbs F0 F1 F2 F3 As => ?_
    exact segC1 hw aa rk tx pl cv ts bt nn _ _ _ _ bs _ [k3, k2, k1, k0] _ _ _ _ 3 0 1 2 k3 k0 k1 k2 _ _ _ _ _ _ _ _ _ _ _ _ cx X ga ne_aa_rk ne_aa_tx ne_aa_pl ne_aa_cv nbt (Nat.ne_of_lt (Nat.lt_of_lt_of_le E0.lt sbs)) (E0.keep KK) F0 F1 F2 F3 As (Ar.keep KK (ninS (Ne.symm ne_aa_rk) nin0)) (At.keep KK (ninS (Ne.symm ne_aa_tx) nin0)) (Ap.keep KK (ninS (Ne.symm ne_aa_pl) nin0)) (Ac.keep KK (ninS (Ne.symm ne_aa_cv) nin0)) (Ab.keep KK (ninS (Ne.symm nbt) nin0)) hn8 rfl rfl (by decide) hk3 rfl rfl rfl rfl (by decide) hk0 rfl rfl rfl rfl (by decide) hk1 rfl rfl rfl rfl (by decide) hk2 rfl rfl rfl rfl (fun j => by have q := own_inv0 [k3, k2, k1, k0] j; simp only [own_C] at q ⊢; omega)
  · refine segA_4_2 hw aa rk tx pl nn k0 k1 k2 k3 v0 v1 v2 v3 _ cv _ cx X0 ga ne_aa_rk ne_aa_tx ne_aa_pl E0 F0 F1 F2 F3 Ar At Ap Ac fun T h ts bt x9 x10 x11 X gbt nbt E0 F0 F1 F2 F3 Ar At Ap Ac Ab => ?_
    refine segB hw aa rk tx pl ts bt nn _ x9 x10 x11 k0 k1 k2 k3 _ cx X ga ne_aa_rk E0 F0 F1 F2 F3 Ar hn8 hk0 hk1 hk2 hk3 fun T h bs X KK gbs sbs F0 F1 F2 F3 As => ?_
    exact segC1 hw aa rk tx pl cv ts bt nn _ _ _ _ bs _ [k3, k2, k1, k0] _ _ _ _ 2 3 0 1 k2 k3 k0 k1 _ _ _ _ _ _ _ _ _ _ _ _ cx X ga ne_aa_rk ne_aa_tx ne_aa_pl ne_aa_cv nbt (Nat.ne_of_lt (Nat.lt_of_lt_of_le E0.lt sbs)) (E0.keep KK) F0 F1 F2 F3 As (Ar.keep KK (ninS (Ne.symm ne_aa_rk) nin0)) (At.keep KK (ninS (Ne.symm ne_aa_tx) nin0)) (Ap.keep KK (ninS (Ne.symm ne_aa_pl) nin0)) (Ac.keep KK (ninS (Ne.symm ne_aa_cv) nin0)) (Ab.keep KK (ninS (Ne.symm nbt) nin0)) hn8 rfl rfl (by decide) hk2 rfl rfl rfl rfl (by decide) hk3 rfl rfl rfl rfl (by decide) hk0 rfl rfl rfl rfl (by decide) hk1 rfl rfl rfl rfl (fun j => by have q := own_inv0 [k3, k2, k1, k0] j; simp only [own_C] at q ⊢; omega)
  · refine segA_4_3 hw aa rk tx pl nn k0 k1 k2 k3 v0 v1 v2 v3 _ cv _ cx X0 ga ne_aa_rk ne_aa_tx ne_aa_pl E0 F0 F1 F2 F3 Ar At Ap Ac fun T h ts bt x9 x10 x11 X gbt nbt E0 F0 F1 F2 F3 Ar At Ap Ac Ab => ?_
    refine segB hw aa rk tx pl ts bt nn _ x9 x10 x11 k0 k1 k2 k3 _ cx X ga ne_aa_rk E0 F0 F1 F2 F3 Ar hn8 hk0 hk1 hk2 hk3 fun T h bs X KK gbs sbs F0 F1 F2 F3 As => ?_
    exact segC1 hw aa rk tx pl cv ts bt nn _ _ _ _ bs _ [k3, k2, k1, k0] _ _ _ _ 1 2 3 0 k1 k2 k3 k0 _ _ _ _ _ _ _ _ _ _ _ _ cx X ga ne_aa_rk ne_aa_tx ne_aa_pl ne_aa_cv nbt (Nat.ne_of_lt (Nat.lt_of_lt_of_le E0.lt sbs)) (E0.keep KK) F0 F1 F2 F3 As (Ar.keep KK (ninS (Ne.symm ne_aa_rk) nin0)) (At.keep KK (ninS (Ne.symm ne_aa_tx) nin0)) (Ap.keep KK (ninS (Ne.symm ne_aa_pl) nin0)) (Ac.keep KK (ninS (Ne.symm ne_aa_cv) nin0)) (Ab.keep KK (ninS (Ne.symm nbt) nin0)) hn8 rfl rfl (by decide) hk1 rfl rfl rfl rfl (by decide) hk2 rfl rfl rfl rfl (by decide) hk3 rfl rfl rfl rfl (by decide) hk0 rfl rfl rfl rfl (fun j => by have q := own_inv0 [k3, k2, k1, k0] j; simp only [own_C] at q ⊢; omega)
  · refine segA_5_0 hw aa rk tx pl nn k0 k1 k2 k3 v0 v1 v2 v3 _ cv _ cx X0 ga ne_aa_rk ne_aa_tx ne_aa_pl E0 F0 F1 F2 F3 Ar At Ap Ac fun T h ts bt x9 x10 x11 X gbt nbt E0 F0 F1 F2 F3 Ar At Ap Ac Ab => ?_
    refine segB hw aa rk tx pl ts bt nn _ x9 x10 x11 k0 k1 k2 k3 _ cx X ga ne_aa_rk E0 F0 F1 F2 F3 Ar hn8 hk0 hk1 hk2 hk3 fun T h bs X KK gbs sbs F0 F1 F2 F3 As => ?_
    exact segC1 hw aa rk tx pl cv ts bt nn _ _ _ _ bs _ [k3, k2, k1, k0] _ _ _ _ 0 1 2 3 k0 k1 k2 k3 _ _ _ _ _ _ _ _ _ _ _ _ cx X ga ne_aa_rk ne_aa_tx ne_aa_pl ne_aa_cv nbt (Nat.ne_of_lt (Nat.lt_of_lt_of_le E0.lt sbs)) (E0.keep KK) F0 F1 F2 F3 As (Ar.keep KK (ninS (Ne.symm ne_aa_rk) nin0)) (At.keep KK (ninS (Ne.symm ne_aa_tx) nin0)) (Ap.keep KK (ninS (Ne.symm ne_aa_pl) nin0)) (Ac.keep KK (ninS (Ne.symm ne_aa_cv) nin0)) (Ab.keep KK (ninS (Ne.symm nbt) nin0)) hn8 rfl rfl (by decide) hk0 rfl rfl rfl rfl (by decide) hk1 rfl rfl rfl rfl (by decide) hk2 rfl rfl rfl rfl (by decide) hk3 rfl rfl rfl rfl (fun j => by have q := own_inv0 [k3, k2, k1, k0] j; simp only [own_C] at q ⊢; omega)
  · refine segA_5_1 hw aa rk tx pl nn k0 k1 k2 k3 v0 v1 v2 v3 _ cv _ cx X0 ga ne_aa_rk ne_aa_tx ne_aa_pl E0 F0 F1 F2 F3 Ar At Ap Ac fun T h ts bt x9 x10 x11 X gbt nbt E0 F0 F1 F2 F3 Ar At Ap Ac Ab => ?_
    refine segB hw aa rk tx pl ts bt nn _ x9 x10 x11 k0 k1 k2 k3 _ cx X ga ne_aa_rk E0 F0 F1 F2 F3 Ar hn8 hk0 hk1 hk2 hk3 fun T h bs X KK gbs sbs F0 F1 F2 F3 As => ?_
    exact segC1 hw aa rk tx pl cv ts bt nn _ _ _ _ bs _ [k3, k2, k1, k0] _ _ _ _ 0 1 2 3 k0 k1 k2 k3 _ _ _ _ _ _ _ _ _ _ _ _ cx X ga ne_aa_rk ne_aa_tx ne_aa_pl ne_aa_cv nbt (Nat.ne_of_lt (Nat.lt_of_lt_of_le E0.lt sbs)) (E0.keep KK) F0 F1 F2 F3 As (Ar.keep KK (ninS (Ne.symm ne_aa_rk) nin0)) (At.keep KK (ninS (Ne.symm ne_aa_tx) nin0)) (Ap.keep KK (ninS (Ne.symm ne_aa_pl) nin0)) (Ac.keep KK (ninS (Ne.symm ne_aa_cv) nin0)) (Ab.keep KK (ninS (Ne.symm nbt) nin0)) hn8 rfl rfl (by decide) hk0 rfl rfl rfl rfl (by decide) hk1 rfl rfl rfl rfl (by decide) hk2 rfl rfl rfl rfl (by decide) hk3 rfl rfl rfl rfl (fun j => by have q := own_inv0 [k3, k2, k1, k0] j; simp only [own_C] at q ⊢; omega)
  · refine segA_5_2 hw aa rk tx pl nn k0 k1 k2 k3 v0 v1 v2 v3 _ cv _ cx X0 ga ne_aa_rk ne_aa_tx ne_aa_pl E0 F0 F1 F2 F3 Ar At Ap Ac fun T h ts bt x9 x10 x11 X gbt nbt E0 F0 F1 F2 F3 Ar At Ap Ac Ab => ?_
    refine segB hw aa rk tx pl ts bt nn _ x9 x10 x11 k0 k1 k2 k3 _ cx X ga ne_aa_rk E0 F0 F1 F2 F3 Ar hn8 hk0 hk1 hk2 hk3 fun T h bs X KK gbs sbs F0 F1 F2 F3 As => ?_
    exact segC1 hw aa rk tx pl cv ts bt nn _ _ _ _ bs _ [k3, k2, k1, k0] _ _ _ _ 3 0 1 2 k3 k0 k1 k2 _ _ _ _ _ _ _ _ _ _ _ _ cx X ga ne_aa_rk ne_aa_tx ne_aa_pl ne_aa_cv nbt (Nat.ne_of_lt (Nat.lt_of_lt_of_le E0.lt sbs)) (E0.keep KK) F0 F1 F2 F3 As (Ar.keep KK (ninS (Ne.symm ne_aa_rk) nin0)) (At.keep KK (ninS (Ne.symm ne_aa_tx) nin0)) (Ap.keep KK (ninS (Ne.symm ne_aa_pl) nin0)) (Ac.keep KK (ninS (Ne.symm ne_aa_cv) nin0)) (Ab.keep KK (ninS (Ne.symm nbt) nin0)) hn8 rfl rfl (by decide) hk3 rfl rfl rfl rfl (by decide) hk0 rfl rfl rfl rfl (by decide) hk1 rfl rfl rfl rfl (by decide) hk2 rfl rfl rfl rfl (fun j => by have q := own_inv0 [k3, k2, k1, k0] j; simp only [own_C] at q ⊢; omega)
  · refine segA_5_3 hw aa rk tx pl nn k0 k1 k2 k3 v0 v1 v2 v3 _ cv _ cx X0 ga ne_aa_rk ne_aa_tx ne_aa_pl E0 F0 F1 F2 F3 Ar At Ap Ac fun T h ts bt x9 x10 x11 X gbt nbt E0 F0 F1 F2 F3 Ar At Ap Ac Ab => ?_
    refine segB hw aa rk tx pl ts bt nn _ x9 x10 x11 k0 k1 k2 k3 _ cx X ga ne_aa_rk E0 F0 F1 F2 F3 Ar hn8 hk0 hk1 hk2 hk3 fun T h bs X KK gbs sbs F0 F1 F2 F3 As => ?_
    exact segC1 hw aa rk tx pl cv ts bt nn _ _ _ _ bs _ [k3, k2, k1, k0] _ _ _ _ 2 3 0 1 k2 k3 k0 k1 _ _ _ _ _ _ _ _ _ _ _ _ cx X ga ne_aa_rk ne_aa_tx ne_aa_pl ne_aa_cv nbt (Nat.ne_of_lt (Nat.lt_of_lt_of_le E0.lt sbs)) (E0.keep KK) F0 F1 F2 F3 As (Ar.keep KK (ninS (Ne.symm ne_aa_rk) nin0)) (At.keep KK (ninS (Ne.symm ne_aa_tx) nin0)) (Ap.keep KK (ninS (Ne.symm ne_aa_pl) nin0)) (Ac.keep KK (ninS (Ne.symm ne_aa_cv) nin0)) (Ab.keep KK (ninS (Ne.symm nbt) nin0)) hn8 rfl rfl (by decide) hk2 rfl rfl rfl rfl (by decide) hk3 rfl rfl rfl rfl (by decide) hk0 rfl rfl rfl rfl (by decide) hk1 rfl rfl rfl rfl (fun j => by have q := own_inv0 [k3, k2, k1, k0] j; simp only [own_C] at q ⊢; omega)
  · refine segA_6_0 hw aa rk tx pl nn k0 k1 k2 k3 v0 v1 v2 v3 _ cv _ cx X0 ga ne_aa_rk ne_aa_tx ne_aa_pl E0 F0 F1 F2 F3 Ar At Ap Ac fun T h ts bt x9 x10 x11 X gbt nbt E0 F0 F1 F2 F3 Ar At Ap Ac Ab => ?_
    refine segB hw aa rk tx pl ts bt nn _ x9 x10 x11 k0 k1 k2 k3 _ cx X ga ne_aa_rk E0 F0 F1 F2 F3 Ar hn8 hk0 hk1 hk2 hk3 fun T h bs X KK gbs sbs F0 F1 F2 F3 As => ?_
    exact segC1 hw aa rk tx pl cv ts bt nn _ _ _ _ bs _ [k3, k2, k1, k0] _ _ _ _ 0 1 2 3 k0 k1 k2 k3 _ _ _ _ _ _ _ _ _ _ _ _ cx X ga ne_aa_rk ne_aa_tx ne_aa_pl ne_aa_cv nbt (Nat.ne_of_lt (Nat.lt_of_lt_of_le E0.lt sbs)) (E0.keep KK) F0 F1 F2 F3 As (Ar.keep KK (ninS (Ne.symm ne_aa_rk) nin0)) (At.keep KK (ninS (Ne.symm ne_aa_tx) nin0)) (Ap.keep KK (ninS (Ne.symm ne_aa_pl) nin0)) (Ac.keep KK (ninS (Ne.symm ne_aa_cv) nin0)) (Ab.keep KK (ninS (Ne.symm nbt) nin0)) hn8 rfl rfl (by decide) hk0 rfl rfl rfl rfl (by decide) hk1 rfl rfl rfl rfl (by decide) hk2 rfl rfl rfl rfl (by decide) hk3 rfl rfl rfl rfl (fun j => by have q := own_inv0 [k3, k2, k1, k0] j; simp only [own_C] at q ⊢; omega)
  · refine segA_6_1 hw aa rk tx pl nn k0 k1 k2 k3 v0 v1 v2 v3 _ cv _ cx X0 ga ne_aa_rk ne_aa_tx ne_aa_pl E0 F0 F1 F2 F3 Ar At Ap Ac fun T h ts bt x9 x10 x11 X gbt nbt E0 F0 F1 F2 F3 Ar At Ap Ac Ab => ?_
    refine segB hw aa rk tx pl ts bt nn _ x9 x10 x11 k0 k1 k2 k3 _ cx X ga ne_aa_rk E0 F0 F1 F2 F3 Ar hn8 hk0 hk1 hk2 hk3 fun T h bs X KK gbs sbs F0 F1 F2 F3 As => ?_
    exact segC1 hw aa rk tx pl cv ts bt nn _ _ _ _ bs _ [k3, k2, k1, k0] _ _ _ _ 0 1 2 3 k0 k1 k2 k3 _ _ _ _ _ _ _ _ _ _ _ _ cx X ga ne_aa_rk ne_aa_tx ne_aa_pl ne_aa_cv nbt (Nat.ne_of_lt (Nat.lt_of_lt_of_le E0.lt sbs)) (E0.keep KK) F0 F1 F2 F3 As (Ar.keep KK (ninS (Ne.symm ne_aa_rk) nin0)) (At.keep KK (ninS (Ne.symm ne_aa_tx) nin0)) (Ap.keep KK (ninS (Ne.symm ne_aa_pl) nin0)) (Ac.keep KK (ninS (Ne.symm ne_aa_cv) nin0)) (Ab.keep KK (ninS (Ne.symm nbt) nin0)) hn8 rfl rfl (by decide) hk0 rfl rfl rfl rfl (by decide) hk1 rfl rfl rfl rfl (by decide) hk2 rfl rfl rfl rfl (by decide) hk3 rfl rfl rfl rfl (fun j => by have q := own_inv0 [k3, k2, k1, k0] j; simp only [own_C] at q ⊢; omega)
  · refine segA_6_2 hw aa rk tx pl nn k0 k1 k2 k3 v0 v1 v2 v3 _ cv _ cx X0 ga ne_aa_rk ne_aa_tx ne_aa_pl E0 F0 F1 F2 F3 Ar At Ap Ac fun T h ts bt x9 x10 x11 X gbt nbt E0 F0 F1 F2 F3 Ar At Ap Ac Ab => ?_
    refine segB hw aa rk tx pl ts bt nn _ x9 x10 x11 k0 k1 k2 k3 _ cx X ga ne_aa_rk E0 F0 F1 F2 F3 Ar hn8 hk0 hk1 hk2 hk3 fun T h bs X KK gbs sbs F0 F1 F2 F3 As => ?_
    exact segC1 hw aa rk tx pl cv ts bt nn _ _ _ _ bs _ [k3, k2, k1, k0] _ _ _ _ 0 1 2 3 k0 k1 k2 k3 _ _ _ _ _ _ _ _ _ _ _ _ cx X ga ne_aa_rk ne_aa_tx ne_aa_pl ne_aa_cv nbt (Nat.ne_of_lt (Nat.lt_of_lt_of_le E0.lt sbs)) (E0.keep KK) F0 F1 F2 F3 As (Ar.keep KK (ninS (Ne.symm ne_aa_rk) nin0)) (At.keep KK (ninS (Ne.symm ne_aa_tx) nin0)) (Ap.keep KK (ninS (Ne.symm ne_aa_pl) nin0)) (Ac.keep KK (ninS (Ne.symm ne_aa_cv) nin0)) (Ab.keep KK (ninS (Ne.symm nbt) nin0)) hn8 rfl rfl (by decide) hk0 rfl rfl rfl rfl (by decide) hk1 rfl rfl rfl rfl (by decide) hk2 rfl rfl rfl rfl (by decide) hk3 rfl rfl rfl rfl (fun j => by have q := own_inv0 [k3, k2, k1, k0] j; simp only [own_C] at q ⊢; omega)
  · refine segA_6_3 hw aa rk tx pl nn k0 k1 k2 k3 v0 v1 v2 v3 _ cv _ cx X0 ga ne_aa_rk ne_aa_tx ne_aa_pl E0 F0 F1 F2 F3 Ar At Ap Ac fun T h ts bt x9 x10 x11 X gbt nbt E0 F0 F1 F2 F3 Ar At Ap Ac Ab => ?_
    refine segB hw aa rk tx pl ts bt nn _ x9 x10 x11 k0 k1 k2 k3 _ cx X ga ne_aa_rk E0 F0 F1 F2 F3 Ar hn8 hk0 hk1 hk2 hk3 fun T h bs X KK gbs sbs F0 F1 F2 F3 As => ?_
    exact segC1 hw aa rk tx pl cv ts bt nn _ _ _ _ bs _ [k3, k2, k1, k0] _ _ _ _ 3 0 1 2 k3 k0 k1 k2 _ _ _ _ _ _ _ _ _ _ _ _ cx X ga ne_aa_rk ne_aa_tx ne_aa_pl ne_aa_cv nbt (Nat.ne_of_lt (Nat.lt_of_lt_of_le E0.lt sbs)) (E0.keep KK) F0 F1 F2 F3 As (Ar.keep KK (ninS (Ne.symm ne_aa_rk) nin0)) (At.keep KK (ninS (Ne.symm ne_aa_tx) nin0)) (Ap.keep KK (ninS (Ne.symm ne_aa_pl) nin0)) (Ac.keep KK (ninS (Ne.symm ne_aa_cv) nin0)) (Ab.keep KK (ninS (Ne.symm nbt) nin0)) hn8 rfl rfl (by decide) hk3 rfl rfl rfl rfl (by decide) hk0 rfl rfl rfl rfl (by decide) hk1 rfl rfl rfl rfl (by decide) hk2 rfl rfl rfl rfl (fun j => by have q := own_inv0 [k3, k2, k1, k0] j; simp only [own_C] at q ⊢; omega)
  · refine segA_7_0 hw aa rk tx pl nn k0 k1 k2 k3 v0 v1 v2 v3 _ cv _ cx X0 ga ne_aa_rk ne_aa_tx ne_aa_pl E0 F0 F1 F2 F3 Ar At Ap Ac fun T h ts bt x9 x10 x11 X gbt nbt E0 F0 F1 F2 F3 Ar At Ap Ac Ab => ?_
    refine segB hw aa rk tx pl ts bt nn _ x9 x10 x11 k0 k1 k2 k3 _ cx X ga ne_aa_rk E0 F0 F1 F2 F3 Ar hn8 hk0 hk1 hk2 hk3 fun T h bs X KK gbs sbs F0 F1 F2 F3 As => ?_
    exact segC1 hw aa rk tx pl cv ts bt nn _ _ _ _ bs _ [k3, k2, k1, k0] _ _ _ _ 0 1 2 3 k0 k1 k2 k3 _ _ _ _ _ _ _ _ _ _ _ _ cx X ga ne_aa_rk ne_aa_tx ne_aa_pl ne_aa_cv nbt (Nat.ne_of_lt (Nat.lt_of_lt_of_le E0.lt sbs)) (E0.keep KK) F0 F1 F2 F3 As (Ar.keep KK (ninS (Ne.symm ne_aa_rk) nin0)) (At.keep KK (ninS (Ne.symm ne_aa_tx) nin0)) (Ap.keep KK (ninS (Ne.symm ne_aa_pl) nin0)) (Ac.keep KK (ninS (Ne.symm ne_aa_cv) nin0)) (Ab.keep KK (ninS (Ne.symm nbt) nin0)) hn8 rfl rfl (by decide) hk0 rfl rfl rfl rfl (by decide) hk1 rfl rfl rfl rfl (by decide) hk2 rfl rfl rfl rfl (by decide) hk3 rfl rfl rfl rfl (fun j => by have q := own_inv0 [k3, k2, k1, k0] j; simp only [own_C] at q ⊢; omega)
  · refine segA_7_1 hw aa rk tx pl nn k0 k1 k2 k3 v0 v1 v2 v3 _ cv _ cx X0 ga ne_aa_rk ne_aa_tx ne_aa_pl E0 F0 F1 F2 F3 Ar At Ap Ac fun T h ts bt x9 x10 x11 X gbt nbt E0 F0 F1 F2 F3 Ar At Ap Ac Ab => ?_
    refine segB hw aa rk tx pl ts bt nn _ x9 x10 x11 k0 k1 k2 k3 _ cx X ga ne_aa_rk E0 F0 F1 F2 F3 Ar hn8 hk0 hk1 hk2 hk3 fun T h bs X KK gbs sbs F0 F1 F2 F3 As => ?_
    exact segC1 hw aa rk tx pl cv ts bt nn _ _ _ _ bs _ [k3, k2, k1, k0] _ _ _ _ 0 1 2 3 k0 k1 k2 k3 _ _ _ _ _ _ _ _ _ _ _ _ cx X ga ne_aa_rk ne_aa_tx ne_aa_pl ne_aa_cv nbt (Nat.ne_of_lt (Nat.lt_of_lt_of_le E0.lt sbs)) (E0.keep KK) F0 F1 F2 F3 As (Ar.keep KK (ninS (Ne.symm ne_aa_rk) nin0)) (At.keep KK (ninS (Ne.symm ne_aa_tx) nin0)) (Ap.keep KK (ninS (Ne.symm ne_aa_pl) nin0)) (Ac.keep KK (ninS (Ne.symm ne_aa_cv) nin0)) (Ab.keep KK (ninS (Ne.symm nbt) nin0)) hn8 rfl rfl (by decide) hk0 rfl rfl rfl rfl (by decide) hk1 rfl rfl rfl rfl (by decide) hk2 rfl rfl rfl rfl (by decide) hk3 rfl rfl rfl rfl (fun j => by have q := own_inv0 [k3, k2, k1, k0] j; simp only [own_C] at q ⊢; omega)
  · refine segA_7_2 hw aa rk tx pl nn k0 k1 k2 k3 v0 v1 v2 v3 _ cv _ cx X0 ga ne_aa_rk ne_aa_tx ne_aa_pl E0 F0 F1 F2 F3 Ar At Ap Ac fun T h ts bt x9 x10 x11 X gbt nbt E0 F0 F1 F2 F3 Ar At Ap Ac Ab => ?_
    refine segB hw aa rk tx pl ts bt nn _ x9 x10 x11 k0 k1 k2 k3 _ cx X ga ne_aa_rk E0 F0 F1 F2 F3 Ar hn8 hk0 hk1 hk2 hk3 fun T h bs X KK gbs sbs F0 F1 F2 F3 As => ?_
    exact segC1 hw aa rk tx pl cv ts bt nn _ _ _ _ bs _ [k3, k2, k1, k0] _ _ _ _ 0 1 2 3 k0 k1 k2 k3 _ _ _ _ _ _ _ _ _ _ _ _ cx X ga ne_aa_rk ne_aa_tx ne_aa_pl ne_aa_cv nbt (Nat.ne_of_lt (Nat.lt_of_lt_of_le E0.lt sbs)) (E0.keep KK) F0 F1 F2 F3 As (Ar.keep KK (ninS (Ne.symm ne_aa_rk) nin0)) (At.keep KK (ninS (Ne.symm ne_aa_tx) nin0)) (Ap.keep KK (ninS (Ne.symm ne_aa_pl) nin0)) (Ac.keep KK (ninS (Ne.symm ne_aa_cv) nin0)) (Ab.keep KK (ninS (Ne.symm nbt) nin0)) hn8 rfl rfl (by decide) hk0 rfl rfl rfl rfl (by decide) hk1 rfl rfl rfl rfl (by decide) hk2 rfl rfl rfl rfl (by decide) hk3 rfl rfl rfl rfl (fun j => by have q := own_inv0 [k3, k2, k1, k0] j; simp only [own_C] at q ⊢; omega)
  · refine segA_7_3 hw aa rk tx pl nn k0 k1 k2 k3 v0 v1 v2 v3 _ cv _ cx X0 ga ne_aa_rk ne_aa_tx ne_aa_pl E0 F0 F1 F2 F3 Ar At Ap Ac fun T h ts bt x9 x10 x11 X gbt nbt E0 F0 F1 F2 F3 Ar At Ap Ac Ab => ?_
    refine segB hw aa rk tx pl ts bt nn _ x9 x10 x11 k0 k1 k2 k3 _ cx X ga ne_aa_rk E0 F0 F1 F2 F3 Ar hn8 hk0 hk1 hk2 hk3 fun T h bs X KK gbs sbs F0 F1 F2 F3 As => ?_
    exact segC1 hw aa rk tx pl cv ts bt nn _ _ _ _ bs _ [k3, k2, k1, k0] _ _ _ _ 0 1 2 3 k0 k1 k2 k3 _ _ _ _ _ _ _ _ _ _ _ _ cx X ga ne_aa_rk ne_aa_tx ne_aa_pl ne_aa_cv nbt (Nat.ne_of_lt (Nat.lt_of_lt_of_le E0.lt sbs)) (E0.keep KK) F0 F1 F2 F3 As (Ar.keep KK (ninS (Ne.symm ne_aa_rk) nin0)) (At.keep KK (ninS (Ne.symm ne_aa_tx) nin0)) (Ap.keep KK (ninS (Ne.symm ne_aa_pl) nin0)) (Ac.keep KK (ninS (Ne.symm ne_aa_cv) nin0)) (Ab.keep KK (ninS (Ne.symm nbt) nin0)) hn8 rfl rfl (by decide) hk0 rfl rfl rfl rfl (by decide) hk1 rfl rfl rfl rfl (by decide) hk2 rfl rfl rfl rfl (by decide) hk3 rfl rfl rfl rfl (fun j => by have q := own_inv0 [k3, k2, k1, k0] j; simp only [own_C] at q ⊢; omega)
theorem own_cnt (L : List Nat) (q : Nat) (hL : L.length ≤ 4) : Int32.ofNat (own_P L (q + 1)) - Int32.ofNat (own_P L q) = Int32.ofNat (own_C L q) := by
  have h := own_PC L q
  have h2 := own_Ple L (q + 1)
  rw [own_sub _ _ (by omega) (by omega)]; congr 1; omega
theorem d5_0 : decode prog_28_method_3_code 0 = .ok (.aload_n 0, 1) := by decide +kernel
theorem d5_1 : decode prog_28_method_3_code 1 = .ok (.getfield 7, 3) := by decide +kernel
theorem d5_4 : decode prog_28_method_3_code 4 = .ok (.iload_n 1, 1) := by decide +kernel
theorem d5_5 : decode prog_28_method_3_code 5 = .ok (.iconst 1, 1) := by decide +kernel
theorem d5_6 : decode prog_28_method_3_code 6 = .ok (.iadd, 1) := by decide +kernel
theorem d5_7 : decode prog_28_method_3_code 7 = .ok (.iaload, 1) := by decide +kernel
theorem d5_8 : decode prog_28_method_3_code 8 = .ok (.aload_n 0, 1) := by decide +kernel
theorem d5_9 : decode prog_28_method_3_code 9 = .ok (.getfield 7, 3) := by decide +kernel
theorem d5_12 : decode prog_28_method_3_code 12 = .ok (.iload_n 1, 1) := by decide +kernel
theorem d5_13 : decode prog_28_method_3_code 13 = .ok (.iaload, 1) := by decide +kernel
theorem d5_14 : decode prog_28_method_3_code 14 = .ok (.isub, 1) := by decide +kernel
theorem d5_15 : decode prog_28_method_3_code 15 = .ok (.ireturn, 1) := by decide +kernel
theorem ef_rcount (m : MethodId) (aa : Addr) (qq : Nat) : entryFrame m #[(.ref aa), (.int (Int32.ofNat qq))] 2 = mkF m 0 #[rv aa, iv (Int32.ofNat qq)] [] := by first | (simp [entryFrame, mkF, argsToLocals, Value.category]; done) | rfl
set_option maxRecDepth 65536 in
set_option maxHeartbeats 40000000 in
theorem rcount (l : Launch) (Z : State) (a0 : Array Value) (hw : ∀ d ∈ tables_1, d.before a0 Z = true) (aa : Addr) (bb : Addr) (nn : Nat) (qq : Nat) (L : List Nat) (h0 : Heap) (n0 : Nat) (Z0 : n0 ≤ h0.size) (Fs : Fld Z h0 aa "com/example/rough_dedup/roughdedup/ShingleIndex$Postings" "starts" "[I" (.ref bb)) (As : own_Ar Z h0 bb .int (own_fl (nn + 1) (own_P L))) (hL : L.length ≤ 4) (hn8 : nn ≤ 8) (hq : qq < nn) :
    own_Met l Z (⟨"com/example/rough_dedup/roughdedup/ShingleIndex$Postings", "count", "(I)I"⟩ : MethodName) prog_28_method_3_code 2 (some .int) ({ frames := 0, cells := 0, slots := 0, locals := 0 } : Room) #[(.ref aa), (.int (Int32.ofNat qq))] h0 n0 (fun v' h' => v' = some (.int (Int32.ofNat (own_C L qq))) ∧ h' = h0) := by
  refine own_body (plainFor_of_name pn_1) (fun m => ef_rcount m aa qq) Z0 ?_
  intro p e s m below meth c T0 cx X0
  show own_Go p e below _ (T0.setTop (mkF m 0 #[rv aa, iv (Int32.ofNat qq)] []))
  refine o_aloadN cx X0 d5_0 rfl rfl ?_
  refine o_getF cx X0 d5_1 (o_w hw 12 rfl) Fs fun T2001 X2002 => ?_
  refine o_iloadN cx X2002 d5_4 rfl ?_
  refine o_iconst cx X2002 (z := (1 : Int32)) d5_5 rfl ?_
  refine o_iadd cx X2002 d5_6 rfl ?_
  rw [own_s]
  show own_Go p e below _ (T2001.setTop (mkF m 7 #[rv aa, iv (Int32.ofNat qq)] [(.int (Int32.ofNat (qq + 1))), (.ref bb)]))
  refine o_ldI cx X2002 (v := (.int (Int32.ofNat ((own_P L) (qq + 1))))) d5_7 As (qq + 1) (own_nn (by omega)) (own_nt (by omega)) (own_fl_get (by omega) rfl) ?_
  refine o_aloadN cx X2002 d5_8 rfl rfl ?_
  refine o_getF cx X2002 d5_9 (o_w hw 12 rfl) Fs fun T2003 X2004 => ?_
  refine o_iloadN cx X2004 d5_12 rfl ?_
  refine o_ldI cx X2004 (v := (.int (Int32.ofNat ((own_P L) qq)))) d5_13 As qq (own_nn (by omega)) (own_nt (by omega)) (own_fl_get (by omega) rfl) ?_
  refine o_isub cx X2004 d5_14 rfl ?_
  exact o_retI cx X2004 d5_15 ⟨congrArg (fun z => some (Value.int z)) (own_cnt L qq hL), rfl⟩ (by decide) (by decide)
theorem d7_0 : decode prog_28_method_4_code 0 = .ok (.aload_n 0, 1) := by decide +kernel
theorem d7_1 : decode prog_28_method_4_code 1 = .ok (.getfield 7, 3) := by decide +kernel
theorem d7_4 : decode prog_28_method_4_code 4 = .ok (.arraylength, 1) := by decide +kernel
theorem d7_5 : decode prog_28_method_4_code 5 = .ok (.iconst 1, 1) := by decide +kernel
theorem d7_6 : decode prog_28_method_4_code 6 = .ok (.isub, 1) := by decide +kernel
theorem d7_7 : decode prog_28_method_4_code 7 = .ok (.ireturn, 1) := by decide +kernel
theorem ef_rrc (m : MethodId) (aa : Addr) : entryFrame m #[(.ref aa)] 1 = mkF m 0 #[rv aa] [] := by first | (simp [entryFrame, mkF, argsToLocals, Value.category]; done) | rfl
set_option maxRecDepth 65536 in
set_option maxHeartbeats 40000000 in
theorem rrc (l : Launch) (Z : State) (a0 : Array Value) (hw : ∀ d ∈ tables_1, d.before a0 Z = true) (aa : Addr) (bb : Addr) (nn : Nat) (L : List Nat) (h0 : Heap) (n0 : Nat) (Z0 : n0 ≤ h0.size) (Fs : Fld Z h0 aa "com/example/rough_dedup/roughdedup/ShingleIndex$Postings" "starts" "[I" (.ref bb)) (As : own_Ar Z h0 bb .int (own_fl (nn + 1) (own_P L))) (hn8 : nn ≤ 8) :
    own_Met l Z (⟨"com/example/rough_dedup/roughdedup/ShingleIndex$Postings", "rankCount", "()I"⟩ : MethodName) prog_28_method_4_code 1 (some .int) ({ frames := 0, cells := 0, slots := 0, locals := 0 } : Room) #[(.ref aa)] h0 n0 (fun v' h' => v' = some (.int (Int32.ofNat nn)) ∧ h' = h0) := by
  refine own_body (plainFor_of_name pn_1) (fun m => ef_rrc m aa) Z0 ?_
  intro p e s m below meth c T0 cx X0
  show own_Go p e below _ (T0.setTop (mkF m 0 #[rv aa] []))
  refine o_aloadN cx X0 d7_0 rfl rfl ?_
  refine o_getF cx X0 d7_1 (o_w hw 12 rfl) Fs fun T2005 X2006 => ?_
  refine o_len cx X2006 (z := (Int32.ofNat (nn + 1))) d7_4 As (by rw [own_fl_len]) ?_
  refine o_iconst cx X2006 (z := (1 : Int32)) d7_5 rfl ?_
  refine o_isub cx X2006 d7_6 rfl ?_
  exact o_retI cx X2006 d7_7 ⟨congrArg (fun z => some (Value.int z)) (own_sub (nn + 1) 1 (by omega) (by omega)), rfl⟩ (by decide) (by decide)
theorem d6_0 : decode method_2_code 0 = .ok (.iconst 0, 1) := by decide +kernel
theorem d6_1 : decode method_2_code 1 = .ok (.istore 5, 2) := by decide +kernel
theorem d6_3 : decode method_2_code 3 = .ok (.iload_n 1, 1) := by decide +kernel
theorem d6_4 : decode method_2_code 4 = .ok (.iload_n 0, 1) := by decide +kernel
theorem d6_5 : decode method_2_code 5 = .ok (.if_icmp .ne 6, 3) := by decide +kernel
theorem d6_8 : decode method_2_code 8 = .ok (.iinc 5 1, 3) := by decide +kernel
theorem d6_11 : decode method_2_code 11 = .ok (.iload_n 2, 1) := by decide +kernel
theorem d6_12 : decode method_2_code 12 = .ok (.iload_n 0, 1) := by decide +kernel
theorem d6_13 : decode method_2_code 13 = .ok (.if_icmp .ne 6, 3) := by decide +kernel
theorem d6_16 : decode method_2_code 16 = .ok (.iinc 5 1, 3) := by decide +kernel
theorem d6_19 : decode method_2_code 19 = .ok (.iload_n 3, 1) := by decide +kernel
theorem d6_20 : decode method_2_code 20 = .ok (.iload_n 0, 1) := by decide +kernel
theorem d6_21 : decode method_2_code 21 = .ok (.if_icmp .ne 6, 3) := by decide +kernel
theorem d6_24 : decode method_2_code 24 = .ok (.iinc 5 1, 3) := by decide +kernel
theorem d6_27 : decode method_2_code 27 = .ok (.iload 4, 2) := by decide +kernel
theorem d6_29 : decode method_2_code 29 = .ok (.iload_n 0, 1) := by decide +kernel
theorem d6_30 : decode method_2_code 30 = .ok (.if_icmp .ne 6, 3) := by decide +kernel
theorem d6_33 : decode method_2_code 33 = .ok (.iinc 5 1, 3) := by decide +kernel
theorem d6_36 : decode method_2_code 36 = .ok (.iload 5, 2) := by decide +kernel
theorem d6_38 : decode method_2_code 38 = .ok (.ireturn, 1) := by decide +kernel
theorem pn_6 : plainName "com/example/rough_dedup/roughdedup/PostingsCountPinLaw" = true := by first | (simp [plainName, overriddenIn]; done) | decide +kernel
theorem ef_rref (m : MethodId) (qq : Nat) (k0 : Nat) (k1 : Nat) (k2 : Nat) (k3 : Nat) : entryFrame m #[(.int (Int32.ofNat qq)), (.int (Int32.ofNat k0)), (.int (Int32.ofNat k1)), (.int (Int32.ofNat k2)), (.int (Int32.ofNat k3))] 6 = mkF m 0 #[iv (Int32.ofNat qq), iv (Int32.ofNat k0), iv (Int32.ofNat k1), iv (Int32.ofNat k2), iv (Int32.ofNat k3), .unset] [] := by first | (simp [entryFrame, mkF, argsToLocals, Value.category]; done) | rfl
set_option maxRecDepth 65536 in
set_option maxHeartbeats 40000000 in
theorem rref (l : Launch) (Z : State) (a0 : Array Value) (hw : ∀ d ∈ tables_1, d.before a0 Z = true) (qq : Nat) (k0 : Nat) (k1 : Nat) (k2 : Nat) (k3 : Nat) (h0 : Heap) (n0 : Nat) (Z0 : n0 ≤ h0.size) (hq : qq < 9) (hk0 : k0 < 9) (hk1 : k1 < 9) (hk2 : k2 < 9) (hk3 : k3 < 9) :
    own_Met l Z (⟨"com/example/rough_dedup/roughdedup/PostingsCountPinLaw", "ref", "(IIIII)I"⟩ : MethodName) method_2_code 6 (some .int) ({ frames := 0, cells := 0, slots := 0, locals := 0 } : Room) #[(.int (Int32.ofNat qq)), (.int (Int32.ofNat k0)), (.int (Int32.ofNat k1)), (.int (Int32.ofNat k2)), (.int (Int32.ofNat k3))] h0 n0 (fun v' h' => v' = some (.int (Int32.ofNat (own_C [k3, k2, k1, k0] qq))) ∧ h' = h0) := by
  refine own_body (plainFor_of_name pn_6) (fun m => ef_rref m qq k0 k1 k2 k3) Z0 ?_
  intro p e s m below meth c T0 cx X0
  show own_Go p e below _ (T0.setTop (mkF m 0 #[iv (Int32.ofNat qq), iv (Int32.ofNat k0), iv (Int32.ofNat k1), iv (Int32.ofNat k2), iv (Int32.ofNat k3), .unset] []))
  refine o_iconst cx X0 (z := (0 : Int32)) d6_0 rfl ?_
  refine o_istore cx X0 (Ls' := #[iv (Int32.ofNat qq), iv (Int32.ofNat k0), iv (Int32.ofNat k1), iv (Int32.ofNat k2), iv (Int32.ofNat k3), iv 0]) d6_1 rfl ?_
  refine o_iloadN cx X0 d6_3 rfl ?_
  refine o_iloadN cx X0 d6_4 rfl ?_
  by_cases hc2007 : (Int32.ofNat k0) = (Int32.ofNat qq)
  · refine o_icmpNo cx X0 d6_5 (teq hc2007).2 ?_
    refine o_iinc cx X0 (z := (1 : Int32)) (Ls' := #[iv (Int32.ofNat qq), iv (Int32.ofNat k0), iv (Int32.ofNat k1), iv (Int32.ofNat k2), iv (Int32.ofNat k3), iv 1]) d6_8 rfl rfl rfl ?_
    refine o_iloadN cx X0 d6_11 rfl ?_
    refine o_iloadN cx X0 d6_12 rfl ?_
    by_cases hc2008 : (Int32.ofNat k1) = (Int32.ofNat qq)
    · refine o_icmpNo cx X0 d6_13 (teq hc2008).2 ?_
      refine o_iinc cx X0 (z := (2 : Int32)) (Ls' := #[iv (Int32.ofNat qq), iv (Int32.ofNat k0), iv (Int32.ofNat k1), iv (Int32.ofNat k2), iv (Int32.ofNat k3), iv 2]) d6_16 rfl rfl rfl ?_
      refine o_iloadN cx X0 d6_19 rfl ?_
      refine o_iloadN cx X0 d6_20 rfl ?_
      by_cases hc2009 : (Int32.ofNat k2) = (Int32.ofNat qq)
      · refine o_icmpNo cx X0 d6_21 (teq hc2009).2 ?_
        refine o_iinc cx X0 (z := (3 : Int32)) (Ls' := #[iv (Int32.ofNat qq), iv (Int32.ofNat k0), iv (Int32.ofNat k1), iv (Int32.ofNat k2), iv (Int32.ofNat k3), iv 3]) d6_24 rfl rfl rfl ?_
        refine o_iload cx X0 d6_27 rfl ?_
        refine o_iloadN cx X0 d6_29 rfl ?_
        by_cases hc2010 : (Int32.ofNat k3) = (Int32.ofNat qq)
        · refine o_icmpNo cx X0 d6_30 (teq hc2010).2 ?_
          refine o_iinc cx X0 (z := (4 : Int32)) (Ls' := #[iv (Int32.ofNat qq), iv (Int32.ofNat k0), iv (Int32.ofNat k1), iv (Int32.ofNat k2), iv (Int32.ofNat k3), iv 4]) d6_33 rfl rfl rfl ?_
          refine o_iload cx X0 d6_36 rfl ?_
          have e0 : k0 = qq := own_inj (by omega) (by omega) hc2007
          have e1 : k1 = qq := own_inj (by omega) (by omega) hc2008
          have e2 : k2 = qq := own_inj (by omega) (by omega) hc2009
          have e3 : k3 = qq := own_inj (by omega) (by omega) hc2010
          have ec : own_C [k3, k2, k1, k0] qq = 4 := by simp only [own_C]; rw [if_pos e3, if_pos e2, if_pos e1, if_pos e0]
          exact o_retI cx X0 d6_38 ⟨by rw [ec]; rfl, rfl⟩ (by decide) (by decide)
        · refine o_icmpYes cx X0 36 d6_30 (feq hc2010).2 (by decide) (by decide) ?_
          refine o_iload cx X0 d6_36 rfl ?_
          have e0 : k0 = qq := own_inj (by omega) (by omega) hc2007
          have e1 : k1 = qq := own_inj (by omega) (by omega) hc2008
          have e2 : k2 = qq := own_inj (by omega) (by omega) hc2009
          have e3 : ¬ k3 = qq := fun z => hc2010 (congrArg Int32.ofNat z)
          have ec : own_C [k3, k2, k1, k0] qq = 3 := by simp only [own_C]; rw [if_neg e3, if_pos e2, if_pos e1, if_pos e0]
          exact o_retI cx X0 d6_38 ⟨by rw [ec]; rfl, rfl⟩ (by decide) (by decide)
      · refine o_icmpYes cx X0 27 d6_21 (feq hc2009).2 (by decide) (by decide) ?_
        refine o_iload cx X0 d6_27 rfl ?_
        refine o_iloadN cx X0 d6_29 rfl ?_
        by_cases hc2011 : (Int32.ofNat k3) = (Int32.ofNat qq)
        · refine o_icmpNo cx X0 d6_30 (teq hc2011).2 ?_
          refine o_iinc cx X0 (z := (3 : Int32)) (Ls' := #[iv (Int32.ofNat qq), iv (Int32.ofNat k0), iv (Int32.ofNat k1), iv (Int32.ofNat k2), iv (Int32.ofNat k3), iv 3]) d6_33 rfl rfl rfl ?_
          refine o_iload cx X0 d6_36 rfl ?_
          have e0 : k0 = qq := own_inj (by omega) (by omega) hc2007
          have e1 : k1 = qq := own_inj (by omega) (by omega) hc2008
          have e2 : ¬ k2 = qq := fun z => hc2009 (congrArg Int32.ofNat z)
          have e3 : k3 = qq := own_inj (by omega) (by omega) hc2011
          have ec : own_C [k3, k2, k1, k0] qq = 3 := by simp only [own_C]; rw [if_pos e3, if_neg e2, if_pos e1, if_pos e0]
          exact o_retI cx X0 d6_38 ⟨by rw [ec]; rfl, rfl⟩ (by decide) (by decide)
        · refine o_icmpYes cx X0 36 d6_30 (feq hc2011).2 (by decide) (by decide) ?_
          refine o_iload cx X0 d6_36 rfl ?_
          have e0 : k0 = qq := own_inj (by omega) (by omega) hc2007
          have e1 : k1 = qq := own_inj (by omega) (by omega) hc2008
          have e2 : ¬ k2 = qq := fun z => hc2009 (congrArg Int32.ofNat z)
          have e3 : ¬ k3 = qq := fun z => hc2011 (congrArg Int32.ofNat z)
          have ec : own_C [k3, k2, k1, k0] qq = 2 := by simp only [own_C]; rw [if_neg e3, if_neg e2, if_pos e1, if_pos e0]
          exact o_retI cx X0 d6_38 ⟨by rw [ec]; rfl, rfl⟩ (by decide) (by decide)
    · refine o_icmpYes cx X0 19 d6_13 (feq hc2008).2 (by decide) (by decide) ?_
      refine o_iloadN cx X0 d6_19 rfl ?_
      refine o_iloadN cx X0 d6_20 rfl ?_
      by_cases hc2012 : (Int32.ofNat k2) = (Int32.ofNat qq)
      · refine o_icmpNo cx X0 d6_21 (teq hc2012).2 ?_
        refine o_iinc cx X0 (z := (2 : Int32)) (Ls' := #[iv (Int32.ofNat qq), iv (Int32.ofNat k0), iv (Int32.ofNat k1), iv (Int32.ofNat k2), iv (Int32.ofNat k3), iv 2]) d6_24 rfl rfl rfl ?_
        refine o_iload cx X0 d6_27 rfl ?_
        refine o_iloadN cx X0 d6_29 rfl ?_
        by_cases hc2013 : (Int32.ofNat k3) = (Int32.ofNat qq)
        · refine o_icmpNo cx X0 d6_30 (teq hc2013).2 ?_
          refine o_iinc cx X0 (z := (3 : Int32)) (Ls' := #[iv (Int32.ofNat qq), iv (Int32.ofNat k0), iv (Int32.ofNat k1), iv (Int32.ofNat k2), iv (Int32.ofNat k3), iv 3]) d6_33 rfl rfl rfl ?_
          refine o_iload cx X0 d6_36 rfl ?_
          have e0 : k0 = qq := own_inj (by omega) (by omega) hc2007
          have e1 : ¬ k1 = qq := fun z => hc2008 (congrArg Int32.ofNat z)
          have e2 : k2 = qq := own_inj (by omega) (by omega) hc2012
          have e3 : k3 = qq := own_inj (by omega) (by omega) hc2013
          have ec : own_C [k3, k2, k1, k0] qq = 3 := by simp only [own_C]; rw [if_pos e3, if_pos e2, if_neg e1, if_pos e0]
          exact o_retI cx X0 d6_38 ⟨by rw [ec]; rfl, rfl⟩ (by decide) (by decide)
        · refine o_icmpYes cx X0 36 d6_30 (feq hc2013).2 (by decide) (by decide) ?_
          refine o_iload cx X0 d6_36 rfl ?_
          have e0 : k0 = qq := own_inj (by omega) (by omega) hc2007
          have e1 : ¬ k1 = qq := fun z => hc2008 (congrArg Int32.ofNat z)
          have e2 : k2 = qq := own_inj (by omega) (by omega) hc2012
          have e3 : ¬ k3 = qq := fun z => hc2013 (congrArg Int32.ofNat z)
          have ec : own_C [k3, k2, k1, k0] qq = 2 := by simp only [own_C]; rw [if_neg e3, if_pos e2, if_neg e1, if_pos e0]
          exact o_retI cx X0 d6_38 ⟨by rw [ec]; rfl, rfl⟩ (by decide) (by decide)
      · refine o_icmpYes cx X0 27 d6_21 (feq hc2012).2 (by decide) (by decide) ?_
        refine o_iload cx X0 d6_27 rfl ?_
        refine o_iloadN cx X0 d6_29 rfl ?_
        by_cases hc2014 : (Int32.ofNat k3) = (Int32.ofNat qq)
        · refine o_icmpNo cx X0 d6_30 (teq hc2014).2 ?_
          refine o_iinc cx X0 (z := (2 : Int32)) (Ls' := #[iv (Int32.ofNat qq), iv (Int32.ofNat k0), iv (Int32.ofNat k1), iv (Int32.ofNat k2), iv (Int32.ofNat k3), iv 2]) d6_33 rfl rfl rfl ?_
          refine o_iload cx X0 d6_36 rfl ?_
          have e0 : k0 = qq := own_inj (by omega) (by omega) hc2007
          have e1 : ¬ k1 = qq := fun z => hc2008 (congrArg Int32.ofNat z)
          have e2 : ¬ k2 = qq := fun z => hc2012 (congrArg Int32.ofNat z)
          have e3 : k3 = qq := own_inj (by omega) (by omega) hc2014
          have ec : own_C [k3, k2, k1, k0] qq = 2 := by simp only [own_C]; rw [if_pos e3, if_neg e2, if_neg e1, if_pos e0]
          exact o_retI cx X0 d6_38 ⟨by rw [ec]; rfl, rfl⟩ (by decide) (by decide)
        · refine o_icmpYes cx X0 36 d6_30 (feq hc2014).2 (by decide) (by decide) ?_
          refine o_iload cx X0 d6_36 rfl ?_
          have e0 : k0 = qq := own_inj (by omega) (by omega) hc2007
          have e1 : ¬ k1 = qq := fun z => hc2008 (congrArg Int32.ofNat z)
          have e2 : ¬ k2 = qq := fun z => hc2012 (congrArg Int32.ofNat z)
          have e3 : ¬ k3 = qq := fun z => hc2014 (congrArg Int32.ofNat z)
          have ec : own_C [k3, k2, k1, k0] qq = 1 := by simp only [own_C]; rw [if_neg e3, if_neg e2, if_neg e1, if_pos e0]
          exact o_retI cx X0 d6_38 ⟨by rw [ec]; rfl, rfl⟩ (by decide) (by decide)
  · refine o_icmpYes cx X0 11 d6_5 (feq hc2007).2 (by decide) (by decide) ?_
    refine o_iloadN cx X0 d6_11 rfl ?_
    refine o_iloadN cx X0 d6_12 rfl ?_
    by_cases hc2015 : (Int32.ofNat k1) = (Int32.ofNat qq)
    · refine o_icmpNo cx X0 d6_13 (teq hc2015).2 ?_
      refine o_iinc cx X0 (z := (1 : Int32)) (Ls' := #[iv (Int32.ofNat qq), iv (Int32.ofNat k0), iv (Int32.ofNat k1), iv (Int32.ofNat k2), iv (Int32.ofNat k3), iv 1]) d6_16 rfl rfl rfl ?_
      refine o_iloadN cx X0 d6_19 rfl ?_
      refine o_iloadN cx X0 d6_20 rfl ?_
      by_cases hc2016 : (Int32.ofNat k2) = (Int32.ofNat qq)
      · refine o_icmpNo cx X0 d6_21 (teq hc2016).2 ?_
        refine o_iinc cx X0 (z := (2 : Int32)) (Ls' := #[iv (Int32.ofNat qq), iv (Int32.ofNat k0), iv (Int32.ofNat k1), iv (Int32.ofNat k2), iv (Int32.ofNat k3), iv 2]) d6_24 rfl rfl rfl ?_
        refine o_iload cx X0 d6_27 rfl ?_
        refine o_iloadN cx X0 d6_29 rfl ?_
        by_cases hc2017 : (Int32.ofNat k3) = (Int32.ofNat qq)
        · refine o_icmpNo cx X0 d6_30 (teq hc2017).2 ?_
          refine o_iinc cx X0 (z := (3 : Int32)) (Ls' := #[iv (Int32.ofNat qq), iv (Int32.ofNat k0), iv (Int32.ofNat k1), iv (Int32.ofNat k2), iv (Int32.ofNat k3), iv 3]) d6_33 rfl rfl rfl ?_
          refine o_iload cx X0 d6_36 rfl ?_
          have e0 : ¬ k0 = qq := fun z => hc2007 (congrArg Int32.ofNat z)
          have e1 : k1 = qq := own_inj (by omega) (by omega) hc2015
          have e2 : k2 = qq := own_inj (by omega) (by omega) hc2016
          have e3 : k3 = qq := own_inj (by omega) (by omega) hc2017
          have ec : own_C [k3, k2, k1, k0] qq = 3 := by simp only [own_C]; rw [if_pos e3, if_pos e2, if_pos e1, if_neg e0]
          exact o_retI cx X0 d6_38 ⟨by rw [ec]; rfl, rfl⟩ (by decide) (by decide)
        · refine o_icmpYes cx X0 36 d6_30 (feq hc2017).2 (by decide) (by decide) ?_
          refine o_iload cx X0 d6_36 rfl ?_
          have e0 : ¬ k0 = qq := fun z => hc2007 (congrArg Int32.ofNat z)
          have e1 : k1 = qq := own_inj (by omega) (by omega) hc2015
          have e2 : k2 = qq := own_inj (by omega) (by omega) hc2016
          have e3 : ¬ k3 = qq := fun z => hc2017 (congrArg Int32.ofNat z)
          have ec : own_C [k3, k2, k1, k0] qq = 2 := by simp only [own_C]; rw [if_neg e3, if_pos e2, if_pos e1, if_neg e0]
          exact o_retI cx X0 d6_38 ⟨by rw [ec]; rfl, rfl⟩ (by decide) (by decide)
      · refine o_icmpYes cx X0 27 d6_21 (feq hc2016).2 (by decide) (by decide) ?_
        refine o_iload cx X0 d6_27 rfl ?_
        refine o_iloadN cx X0 d6_29 rfl ?_
        by_cases hc2018 : (Int32.ofNat k3) = (Int32.ofNat qq)
        · refine o_icmpNo cx X0 d6_30 (teq hc2018).2 ?_
          refine o_iinc cx X0 (z := (2 : Int32)) (Ls' := #[iv (Int32.ofNat qq), iv (Int32.ofNat k0), iv (Int32.ofNat k1), iv (Int32.ofNat k2), iv (Int32.ofNat k3), iv 2]) d6_33 rfl rfl rfl ?_
          refine o_iload cx X0 d6_36 rfl ?_
          have e0 : ¬ k0 = qq := fun z => hc2007 (congrArg Int32.ofNat z)
          have e1 : k1 = qq := own_inj (by omega) (by omega) hc2015
          have e2 : ¬ k2 = qq := fun z => hc2016 (congrArg Int32.ofNat z)
          have e3 : k3 = qq := own_inj (by omega) (by omega) hc2018
          have ec : own_C [k3, k2, k1, k0] qq = 2 := by simp only [own_C]; rw [if_pos e3, if_neg e2, if_pos e1, if_neg e0]
          exact o_retI cx X0 d6_38 ⟨by rw [ec]; rfl, rfl⟩ (by decide) (by decide)
        · refine o_icmpYes cx X0 36 d6_30 (feq hc2018).2 (by decide) (by decide) ?_
          refine o_iload cx X0 d6_36 rfl ?_
          have e0 : ¬ k0 = qq := fun z => hc2007 (congrArg Int32.ofNat z)
          have e1 : k1 = qq := own_inj (by omega) (by omega) hc2015
          have e2 : ¬ k2 = qq := fun z => hc2016 (congrArg Int32.ofNat z)
          have e3 : ¬ k3 = qq := fun z => hc2018 (congrArg Int32.ofNat z)
          have ec : own_C [k3, k2, k1, k0] qq = 1 := by simp only [own_C]; rw [if_neg e3, if_neg e2, if_pos e1, if_neg e0]
          exact o_retI cx X0 d6_38 ⟨by rw [ec]; rfl, rfl⟩ (by decide) (by decide)
    · refine o_icmpYes cx X0 19 d6_13 (feq hc2015).2 (by decide) (by decide) ?_
      refine o_iloadN cx X0 d6_19 rfl ?_
      refine o_iloadN cx X0 d6_20 rfl ?_
      by_cases hc2019 : (Int32.ofNat k2) = (Int32.ofNat qq)
      · refine o_icmpNo cx X0 d6_21 (teq hc2019).2 ?_
        refine o_iinc cx X0 (z := (1 : Int32)) (Ls' := #[iv (Int32.ofNat qq), iv (Int32.ofNat k0), iv (Int32.ofNat k1), iv (Int32.ofNat k2), iv (Int32.ofNat k3), iv 1]) d6_24 rfl rfl rfl ?_
        refine o_iload cx X0 d6_27 rfl ?_
        refine o_iloadN cx X0 d6_29 rfl ?_
        by_cases hc2020 : (Int32.ofNat k3) = (Int32.ofNat qq)
        · refine o_icmpNo cx X0 d6_30 (teq hc2020).2 ?_
          refine o_iinc cx X0 (z := (2 : Int32)) (Ls' := #[iv (Int32.ofNat qq), iv (Int32.ofNat k0), iv (Int32.ofNat k1), iv (Int32.ofNat k2), iv (Int32.ofNat k3), iv 2]) d6_33 rfl rfl rfl ?_
          refine o_iload cx X0 d6_36 rfl ?_
          have e0 : ¬ k0 = qq := fun z => hc2007 (congrArg Int32.ofNat z)
          have e1 : ¬ k1 = qq := fun z => hc2015 (congrArg Int32.ofNat z)
          have e2 : k2 = qq := own_inj (by omega) (by omega) hc2019
          have e3 : k3 = qq := own_inj (by omega) (by omega) hc2020
          have ec : own_C [k3, k2, k1, k0] qq = 2 := by simp only [own_C]; rw [if_pos e3, if_pos e2, if_neg e1, if_neg e0]
          exact o_retI cx X0 d6_38 ⟨by rw [ec]; rfl, rfl⟩ (by decide) (by decide)
        · refine o_icmpYes cx X0 36 d6_30 (feq hc2020).2 (by decide) (by decide) ?_
          refine o_iload cx X0 d6_36 rfl ?_
          have e0 : ¬ k0 = qq := fun z => hc2007 (congrArg Int32.ofNat z)
          have e1 : ¬ k1 = qq := fun z => hc2015 (congrArg Int32.ofNat z)
          have e2 : k2 = qq := own_inj (by omega) (by omega) hc2019
          have e3 : ¬ k3 = qq := fun z => hc2020 (congrArg Int32.ofNat z)
          have ec : own_C [k3, k2, k1, k0] qq = 1 := by simp only [own_C]; rw [if_neg e3, if_pos e2, if_neg e1, if_neg e0]
          exact o_retI cx X0 d6_38 ⟨by rw [ec]; rfl, rfl⟩ (by decide) (by decide)
      · refine o_icmpYes cx X0 27 d6_21 (feq hc2019).2 (by decide) (by decide) ?_
        refine o_iload cx X0 d6_27 rfl ?_
        refine o_iloadN cx X0 d6_29 rfl ?_
        by_cases hc2021 : (Int32.ofNat k3) = (Int32.ofNat qq)
        · refine o_icmpNo cx X0 d6_30 (teq hc2021).2 ?_
          refine o_iinc cx X0 (z := (1 : Int32)) (Ls' := #[iv (Int32.ofNat qq), iv (Int32.ofNat k0), iv (Int32.ofNat k1), iv (Int32.ofNat k2), iv (Int32.ofNat k3), iv 1]) d6_33 rfl rfl rfl ?_
          refine o_iload cx X0 d6_36 rfl ?_
          have e0 : ¬ k0 = qq := fun z => hc2007 (congrArg Int32.ofNat z)
          have e1 : ¬ k1 = qq := fun z => hc2015 (congrArg Int32.ofNat z)
          have e2 : ¬ k2 = qq := fun z => hc2019 (congrArg Int32.ofNat z)
          have e3 : k3 = qq := own_inj (by omega) (by omega) hc2021
          have ec : own_C [k3, k2, k1, k0] qq = 1 := by simp only [own_C]; rw [if_pos e3, if_neg e2, if_neg e1, if_neg e0]
          exact o_retI cx X0 d6_38 ⟨by rw [ec]; rfl, rfl⟩ (by decide) (by decide)
        · refine o_icmpYes cx X0 36 d6_30 (feq hc2021).2 (by decide) (by decide) ?_
          refine o_iload cx X0 d6_36 rfl ?_
          have e0 : ¬ k0 = qq := fun z => hc2007 (congrArg Int32.ofNat z)
          have e1 : ¬ k1 = qq := fun z => hc2015 (congrArg Int32.ofNat z)
          have e2 : ¬ k2 = qq := fun z => hc2019 (congrArg Int32.ofNat z)
          have e3 : ¬ k3 = qq := fun z => hc2021 (congrArg Int32.ofNat z)
          have ec : own_C [k3, k2, k1, k0] qq = 0 := by simp only [own_C]; rw [if_neg e3, if_neg e2, if_neg e1, if_neg e0]
          exact o_retI cx X0 d6_38 ⟨by rw [ec]; rfl, rfl⟩ (by decide) (by decide)
theorem own_rcn (y : Int32) : ∃ nn : Nat, ((1 : Int32) + (y &&& (7 : Int32))) = Int32.ofNat nn ∧ 1 ≤ nn ∧ nn ≤ 8 := by
  have e : (y &&& (7 : Int32)).toInt = y.toInt % 8 := c_mask y 7 3 (by decide) (by decide)
  have e1 := c_iadd 1 (y &&& 7)
  have l1 : (1 : Int32).toInt = 1 := by decide
  have r := rng32 ((1 : Int32) + (y &&& (7 : Int32)))
  rw [l1] at e1
  refine ⟨((1 : Int32) + (y &&& (7 : Int32))).toInt.toNat, ?_, by omega, by omega⟩
  apply Int32.toInt_inj.mp; rw [own_ofI (by omega)]; omega
theorem own_nz64 {nn : Nat} (h1 : 1 ≤ nn) (h2 : nn ≤ 8) : ((Int32.ofNat nn).toInt64) ≠ 0 := fun z => by
  have := congrArg Int64.toInt z
  rw [c_i2l, own_ofI (by omega)] at this
  have l0 : (0 : Int64).toInt = 0 := by decide
  omega
theorem own_nz32 {nn : Nat} (h1 : 1 ≤ nn) (h2 : nn ≤ 8) : (Int32.ofNat nn) ≠ 0 := fun z => by
  have := congrArg Int32.toInt z
  rw [own_ofI (by omega)] at this
  have l0 : (0 : Int32).toInt = 0 := by decide
  omega
theorem own_rk (y : Int64) {nn : Nat} (h1 : 1 ≤ nn) (h2 : nn ≤ 8) : ∃ k : Nat, (((y &&& (65535 : Int64)) % ((Int32.ofNat nn).toInt64)).toInt32) = Int32.ofNat k ∧ k < nn := by
  have e : (y &&& (65535 : Int64)).toInt = y.toInt % 65536 := c_maskL y 65535 16 (by decide) (by decide)
  have e1 : ((y &&& (65535 : Int64)) % ((Int32.ofNat nn).toInt64)).toInt = (y &&& (65535 : Int64)).toInt % (nn : Int) := by
    rw [Int64.toInt_mod, c_i2l, own_ofI (by omega)]; exact Int.tmod_eq_emod_of_nonneg (by omega)
  have b1 := Int.emod_nonneg (y &&& (65535 : Int64)).toInt (b := (nn : Int)) (by omega)
  have b2 := Int.emod_lt_of_pos (y &&& (65535 : Int64)).toInt (b := (nn : Int)) (by omega)
  have e2 := c_l2i ((y &&& (65535 : Int64)) % ((Int32.ofNat nn).toInt64))
  have r := rng32 (((y &&& (65535 : Int64)) % ((Int32.ofNat nn).toInt64)).toInt32)
  refine ⟨(((y &&& (65535 : Int64)) % ((Int32.ofNat nn).toInt64)).toInt32).toInt.toNat, ?_, by omega⟩
  apply Int32.toInt_inj.mp; rw [own_ofI (by omega)]; omega
theorem own_qk (y : Int32) {nn : Nat} (h1 : 1 ≤ nn) (h2 : nn ≤ 8) : ∃ k : Nat, ((y &&& (2147483647 : Int32)) % (Int32.ofNat nn)) = Int32.ofNat k ∧ k < nn := by
  have e : (y &&& (2147483647 : Int32)).toInt = y.toInt % 2147483648 := c_mask y 2147483647 31 (by decide) (by decide)
  have e1 := (c_iremV (y &&& (2147483647 : Int32)) (Int32.ofNat nn)).1 (by omega) (by rw [own_ofI (by omega)]; omega)
  rw [own_ofI (by omega)] at e1
  refine ⟨((y &&& (2147483647 : Int32)) % (Int32.ofNat nn)).toInt.toNat, ?_, by omega⟩
  apply Int32.toInt_inj.mp; rw [own_ofI (by omega)]; omega
theorem own_and3 (y : Int32) : (y &&& (3 : Int32)) = (0 : Int32) ∨ (y &&& (3 : Int32)) = (1 : Int32) ∨ (y &&& (3 : Int32)) = (2 : Int32) ∨ (y &&& (3 : Int32)) = (3 : Int32) := by
  have e : (y &&& (3 : Int32)).toInt = y.toInt % 4 := c_mask y 3 2 (by decide) (by decide)
  have e0 : (0 : Int32).toInt = 0 := by decide
  have e1 : (1 : Int32).toInt = 1 := by decide
  have e2 : (2 : Int32).toInt = 2 := by decide
  have e3 : (3 : Int32).toInt = 3 := by decide
  simp only [← Int32.toInt_inj, e, e0, e1, e2, e3]; omega
theorem own_tx (y z : Int32) : ((4 : Int32) + (y &&& (3 : Int32))) ≠ 0 ∧ own_TX ((4 : Int32) + (y &&& (3 : Int32))) ((z &&& (3 : Int32)) % ((4 : Int32) + (y &&& (3 : Int32)))) (((z &&& (3 : Int32)) + (1 : Int32)) % ((4 : Int32) + (y &&& (3 : Int32)))) (((z &&& (3 : Int32)) + (2 : Int32)) % ((4 : Int32) + (y &&& (3 : Int32)))) (((z &&& (3 : Int32)) + (3 : Int32)) % ((4 : Int32) + (y &&& (3 : Int32)))) := by
  rcases own_and3 y with h | h | h | h <;> rcases own_and3 z with q | q | q | q <;> rw [h, q]
  · exact ⟨by decide, Or.inl ⟨by decide, by decide, by decide, by decide, by decide⟩⟩
  · exact ⟨by decide, Or.inr (Or.inl ⟨by decide, by decide, by decide, by decide, by decide⟩)⟩
  · exact ⟨by decide, Or.inr (Or.inr (Or.inl ⟨by decide, by decide, by decide, by decide, by decide⟩))⟩
  · exact ⟨by decide, Or.inr (Or.inr (Or.inr (Or.inl ⟨by decide, by decide, by decide, by decide, by decide⟩)))⟩
  · exact ⟨by decide, Or.inr (Or.inr (Or.inr (Or.inr (Or.inl ⟨by decide, by decide, by decide, by decide, by decide⟩))))⟩
  · exact ⟨by decide, Or.inr (Or.inr (Or.inr (Or.inr (Or.inr (Or.inl ⟨by decide, by decide, by decide, by decide, by decide⟩)))))⟩
  · exact ⟨by decide, Or.inr (Or.inr (Or.inr (Or.inr (Or.inr (Or.inr (Or.inl ⟨by decide, by decide, by decide, by decide, by decide⟩))))))⟩
  · exact ⟨by decide, Or.inr (Or.inr (Or.inr (Or.inr (Or.inr (Or.inr (Or.inr (Or.inl ⟨by decide, by decide, by decide, by decide, by decide⟩)))))))⟩
  · exact ⟨by decide, Or.inr (Or.inr (Or.inr (Or.inr (Or.inr (Or.inr (Or.inr (Or.inr (Or.inl ⟨by decide, by decide, by decide, by decide, by decide⟩))))))))⟩
  · exact ⟨by decide, Or.inr (Or.inr (Or.inr (Or.inr (Or.inr (Or.inr (Or.inr (Or.inr (Or.inr (Or.inl ⟨by decide, by decide, by decide, by decide, by decide⟩)))))))))⟩
  · exact ⟨by decide, Or.inr (Or.inr (Or.inr (Or.inr (Or.inr (Or.inr (Or.inr (Or.inr (Or.inr (Or.inr (Or.inl ⟨by decide, by decide, by decide, by decide, by decide⟩))))))))))⟩
  · exact ⟨by decide, Or.inr (Or.inr (Or.inr (Or.inr (Or.inr (Or.inr (Or.inr (Or.inr (Or.inr (Or.inr (Or.inr (Or.inl ⟨by decide, by decide, by decide, by decide, by decide⟩)))))))))))⟩
  · exact ⟨by decide, Or.inr (Or.inr (Or.inr (Or.inr (Or.inr (Or.inr (Or.inr (Or.inr (Or.inr (Or.inr (Or.inr (Or.inr (Or.inl ⟨by decide, by decide, by decide, by decide, by decide⟩))))))))))))⟩
  · exact ⟨by decide, Or.inr (Or.inr (Or.inr (Or.inr (Or.inr (Or.inr (Or.inr (Or.inr (Or.inr (Or.inr (Or.inr (Or.inr (Or.inr (Or.inl ⟨by decide, by decide, by decide, by decide, by decide⟩)))))))))))))⟩
  · exact ⟨by decide, Or.inr (Or.inr (Or.inr (Or.inr (Or.inr (Or.inr (Or.inr (Or.inr (Or.inr (Or.inr (Or.inr (Or.inr (Or.inr (Or.inr (Or.inl ⟨by decide, by decide, by decide, by decide, by decide⟩))))))))))))))⟩
  · exact ⟨by decide, Or.inr (Or.inr (Or.inr (Or.inr (Or.inr (Or.inr (Or.inr (Or.inr (Or.inr (Or.inr (Or.inr (Or.inr (Or.inr (Or.inr (Or.inr (⟨by decide, by decide, by decide, by decide, by decide⟩)))))))))))))))⟩
theorem pd_1 : parseMethodDescriptor "(II[I[I[I[I)V" = some ⟨[.int, .int, (.array .int), (.array .int), (.array .int), (.array .int)], none⟩ := by decide +kernel
theorem pd_5 : parseMethodDescriptor "(I)I" = some ⟨[.int], some .int⟩ := by decide +kernel
theorem pd_6 : parseMethodDescriptor "(IIIII)I" = some ⟨[.int, .int, .int, .int, .int], some .int⟩ := by decide +kernel
theorem pd_7 : parseMethodDescriptor "()I" = some ⟨[], some .int⟩ := by decide +kernel
theorem ef_rm0 (m : MethodId) (p0 : Int32) (p1 : Int32) (p2 : Int64) (p3 : Int32) (p4 : Int32) : entryFrame m #[(.int p0), (.int p1), (.long p2), (.int p3), (.int p4)] maxLocals = mkF m 0 #[iv p0, iv p1, .val (.long p2), .second, iv p3, iv p4, .unset, .unset, .unset, .unset, .unset, .unset, .unset, .unset, .unset, .unset, .unset, .unset, .unset, .unset, .unset, .unset] [] := by first | (simp [entryFrame, mkF, argsToLocals, Value.category, maxLocals]; done) | rfl
set_option maxRecDepth 65536 in
set_option maxHeartbeats 40000000 in
theorem rm0 (l : Launch) (Z : State) (a0 : Array Value) (hw : ∀ d ∈ tables_1, d.before a0 Z = true) (p0 : Int32) (p1 : Int32) (p2 : Int64) (p3 : Int32) (p4 : Int32) (h0 : Heap) (n0 : Nat) (Z0 : n0 ≤ h0.size) :
    own_Met l Z x code maxLocals ret room_1 #[(.int p0), (.int p1), (.long p2), (.int p3), (.int p4)] h0 n0 (fun v' _ => v' = some (.int 1)) := by
  refine own_body (plainFor_of_name pn_6) (fun m => ef_rm0 m p0 p1 p2 p3 p4) Z0 ?_
  intro p e s m below meth c T0 cx X0
  show own_Go p e below _ (T0.setTop (mkF m 0 #[iv p0, iv p1, .val (.long p2), .second, iv p3, iv p4, .unset, .unset, .unset, .unset, .unset, .unset, .unset, .unset, .unset, .unset, .unset, .unset, .unset, .unset, .unset, .unset] []))
  refine o_iconst cx X0 (z := (1 : Int32)) at_0 rfl ?_
  refine o_iloadN cx X0 at_1 rfl ?_
  refine o_bipush cx X0 (z := (7 : Int32)) at_2 rfl ?_
  refine o_iand cx X0 at_4 rfl ?_
  refine o_iadd cx X0 at_5 rfl ?_
  refine o_istore cx X0 (Ls' := #[iv p0, iv p1, .val (.long p2), .second, iv p3, iv p4, iv ((1 : Int32) + (p0 &&& (7 : Int32))), .unset, .unset, .unset, .unset, .unset, .unset, .unset, .unset, .unset, .unset, .unset, .unset, .unset, .unset, .unset]) at_6 rfl ?_
  obtain ⟨nn, enn, hn1, hn8⟩ := own_rcn p0
  rw [enn]
  show own_Go p e below _ (T0.setTop (mkF m 8 #[iv p0, iv p1, .val (.long p2), .second, iv p3, iv p4, iv (Int32.ofNat nn), .unset, .unset, .unset, .unset, .unset, .unset, .unset, .unset, .unset, .unset, .unset, .unset, .unset, .unset, .unset] []))
  refine o_iloadN cx X0 at_8 rfl ?_
  refine o_iconst cx X0 (z := (3 : Int32)) at_9 rfl ?_
  refine o_iushr cx X0 at_10 rfl ?_
  refine o_iconst cx X0 (z := (1 : Int32)) at_11 rfl ?_
  refine o_iand cx X0 at_12 rfl ?_
  by_cases hc2022 : (((p0.toUInt32 >>> ((3 : Int32) &&& 31).toUInt32).toInt32) &&& (1 : Int32)) = (0 : Int32)
  · refine o_ifYes cx X0 20 at_13 ((if0 _ _).trans (teq hc2022).1) (by decide) (by decide) ?_
    refine o_iconst cx X0 (z := (0 : Int32)) at_20 rfl ?_
    refine o_istore cx X0 (Ls' := #[iv p0, iv p1, .val (.long p2), .second, iv p3, iv p4, iv (Int32.ofNat nn), iv 0, .unset, .unset, .unset, .unset, .unset, .unset, .unset, .unset, .unset, .unset, .unset, .unset, .unset, .unset]) at_21 rfl ?_
    refine o_iconst cx X0 (z := (4 : Int32)) at_23 rfl ?_
    refine o_iloadN cx X0 at_24 rfl ?_
    refine o_iconst cx X0 (z := (3 : Int32)) at_25 rfl ?_
    refine o_iand cx X0 at_26 rfl ?_
    refine o_iadd cx X0 at_27 rfl ?_
    refine o_istore cx X0 (Ls' := #[iv p0, iv p1, .val (.long p2), .second, iv p3, iv p4, iv (Int32.ofNat nn), iv 0, iv ((4 : Int32) + (p1 &&& (3 : Int32))), .unset, .unset, .unset, .unset, .unset, .unset, .unset, .unset, .unset, .unset, .unset, .unset, .unset]) at_28 rfl ?_
    refine o_iloadN cx X0 at_30 rfl ?_
    refine o_iconst cx X0 (z := (2 : Int32)) at_31 rfl ?_
    refine o_iushr cx X0 at_32 rfl ?_
    refine o_iconst cx X0 (z := (3 : Int32)) at_33 rfl ?_
    refine o_iand cx X0 at_34 rfl ?_
    refine o_istore cx X0 (Ls' := #[iv p0, iv p1, .val (.long p2), .second, iv p3, iv p4, iv (Int32.ofNat nn), iv 0, iv ((4 : Int32) + (p1 &&& (3 : Int32))), iv (((p1.toUInt32 >>> ((2 : Int32) &&& 31).toUInt32).toInt32) &&& (3 : Int32)), .unset, .unset, .unset, .unset, .unset, .unset, .unset, .unset, .unset, .unset, .unset, .unset]) at_35 rfl ?_
    obtain ⟨tcz, htx⟩ := own_tx p1 ((p1.toUInt32 >>> ((2 : Int32) &&& 31).toUInt32).toInt32)
    obtain ⟨tc, etc⟩ : ∃ z : Int32, z = ((4 : Int32) + (p1 &&& (3 : Int32))) := ⟨_, rfl⟩
    obtain ⟨of, eof⟩ : ∃ z : Int32, z = (((p1.toUInt32 >>> ((2 : Int32) &&& 31).toUInt32).toInt32) &&& (3 : Int32)) := ⟨_, rfl⟩
    rw [← etc, ← eof]
    rw [← etc] at tcz htx
    rw [← eof] at htx
    show own_Go p e below _ (T0.setTop (mkF m 37 #[iv p0, iv p1, .val (.long p2), .second, iv p3, iv p4, iv (Int32.ofNat nn), iv 0, iv tc, iv of, .unset, .unset, .unset, .unset, .unset, .unset, .unset, .unset, .unset, .unset, .unset, .unset] []))
    refine o_lloadN cx X0 at_37 rfl ?_
    refine o_ldc2 cx X0 (z := (65535 : Int64)) at_38 (o_w hw 0 rfl) ?_
    refine o_land cx X0 at_41 rfl ?_
    refine o_iload cx X0 at_42 rfl ?_
    refine o_i2l cx X0 at_44 rfl ?_
    refine o_lrem cx X0 at_45 (own_nz64 hn1 hn8) rfl ?_
    refine o_l2i cx X0 at_46 rfl ?_
    refine o_istore cx X0 (Ls' := #[iv p0, iv p1, .val (.long p2), .second, iv p3, iv p4, iv (Int32.ofNat nn), iv 0, iv tc, iv of, iv (((p2 &&& (65535 : Int64)) % ((Int32.ofNat nn).toInt64)).toInt32), .unset, .unset, .unset, .unset, .unset, .unset, .unset, .unset, .unset, .unset, .unset]) at_47 rfl ?_
    obtain ⟨k0, ek0, hk0⟩ := own_rk p2 hn1 hn8
    rw [ek0]
    show own_Go p e below _ (T0.setTop (mkF m 49 #[iv p0, iv p1, .val (.long p2), .second, iv p3, iv p4, iv (Int32.ofNat nn), iv 0, iv tc, iv of, iv (Int32.ofNat k0), .unset, .unset, .unset, .unset, .unset, .unset, .unset, .unset, .unset, .unset, .unset] []))
    refine o_lloadN cx X0 at_49 rfl ?_
    refine o_bipush cx X0 (z := (16 : Int32)) at_50 rfl ?_
    refine o_lushr cx X0 at_52 rfl ?_
    refine o_ldc2 cx X0 (z := (65535 : Int64)) at_53 (o_w hw 0 rfl) ?_
    refine o_land cx X0 at_56 rfl ?_
    refine o_iload cx X0 at_57 rfl ?_
    refine o_i2l cx X0 at_59 rfl ?_
    refine o_lrem cx X0 at_60 (own_nz64 hn1 hn8) rfl ?_
    refine o_l2i cx X0 at_61 rfl ?_
    refine o_istore cx X0 (Ls' := #[iv p0, iv p1, .val (.long p2), .second, iv p3, iv p4, iv (Int32.ofNat nn), iv 0, iv tc, iv of, iv (Int32.ofNat k0), iv (((((p2.toUInt64 >>> ((16 : Int32) &&& 0x3f).toInt64.toUInt64).toInt64) &&& (65535 : Int64)) % ((Int32.ofNat nn).toInt64)).toInt32), .unset, .unset, .unset, .unset, .unset, .unset, .unset, .unset, .unset, .unset]) at_62 rfl ?_
    obtain ⟨k1, ek1, hk1⟩ := own_rk ((p2.toUInt64 >>> ((16 : Int32) &&& 0x3f).toInt64.toUInt64).toInt64) hn1 hn8
    rw [ek1]
    show own_Go p e below _ (T0.setTop (mkF m 64 #[iv p0, iv p1, .val (.long p2), .second, iv p3, iv p4, iv (Int32.ofNat nn), iv 0, iv tc, iv of, iv (Int32.ofNat k0), iv (Int32.ofNat k1), .unset, .unset, .unset, .unset, .unset, .unset, .unset, .unset, .unset, .unset] []))
    refine o_lloadN cx X0 at_64 rfl ?_
    refine o_bipush cx X0 (z := (32 : Int32)) at_65 rfl ?_
    refine o_lushr cx X0 at_67 rfl ?_
    refine o_ldc2 cx X0 (z := (65535 : Int64)) at_68 (o_w hw 0 rfl) ?_
    refine o_land cx X0 at_71 rfl ?_
    refine o_iload cx X0 at_72 rfl ?_
    refine o_i2l cx X0 at_74 rfl ?_
    refine o_lrem cx X0 at_75 (own_nz64 hn1 hn8) rfl ?_
    refine o_l2i cx X0 at_76 rfl ?_
    refine o_istore cx X0 (Ls' := #[iv p0, iv p1, .val (.long p2), .second, iv p3, iv p4, iv (Int32.ofNat nn), iv 0, iv tc, iv of, iv (Int32.ofNat k0), iv (Int32.ofNat k1), iv (((((p2.toUInt64 >>> ((32 : Int32) &&& 0x3f).toInt64.toUInt64).toInt64) &&& (65535 : Int64)) % ((Int32.ofNat nn).toInt64)).toInt32), .unset, .unset, .unset, .unset, .unset, .unset, .unset, .unset, .unset]) at_77 rfl ?_
    obtain ⟨k2, ek2, hk2⟩ := own_rk ((p2.toUInt64 >>> ((32 : Int32) &&& 0x3f).toInt64.toUInt64).toInt64) hn1 hn8
    rw [ek2]
    show own_Go p e below _ (T0.setTop (mkF m 79 #[iv p0, iv p1, .val (.long p2), .second, iv p3, iv p4, iv (Int32.ofNat nn), iv 0, iv tc, iv of, iv (Int32.ofNat k0), iv (Int32.ofNat k1), iv (Int32.ofNat k2), .unset, .unset, .unset, .unset, .unset, .unset, .unset, .unset, .unset] []))
    refine o_lloadN cx X0 at_79 rfl ?_
    refine o_bipush cx X0 (z := (48 : Int32)) at_80 rfl ?_
    refine o_lushr cx X0 at_82 rfl ?_
    refine o_ldc2 cx X0 (z := (65535 : Int64)) at_83 (o_w hw 0 rfl) ?_
    refine o_land cx X0 at_86 rfl ?_
    refine o_iload cx X0 at_87 rfl ?_
    refine o_i2l cx X0 at_89 rfl ?_
    refine o_lrem cx X0 at_90 (own_nz64 hn1 hn8) rfl ?_
    refine o_l2i cx X0 at_91 rfl ?_
    refine o_istore cx X0 (Ls' := #[iv p0, iv p1, .val (.long p2), .second, iv p3, iv p4, iv (Int32.ofNat nn), iv 0, iv tc, iv of, iv (Int32.ofNat k0), iv (Int32.ofNat k1), iv (Int32.ofNat k2), iv (((((p2.toUInt64 >>> ((48 : Int32) &&& 0x3f).toInt64.toUInt64).toInt64) &&& (65535 : Int64)) % ((Int32.ofNat nn).toInt64)).toInt32), .unset, .unset, .unset, .unset, .unset, .unset, .unset, .unset]) at_92 rfl ?_
    obtain ⟨k3, ek3, hk3⟩ := own_rk ((p2.toUInt64 >>> ((48 : Int32) &&& 0x3f).toInt64.toUInt64).toInt64) hn1 hn8
    rw [ek3]
    show own_Go p e below _ (T0.setTop (mkF m 94 #[iv p0, iv p1, .val (.long p2), .second, iv p3, iv p4, iv (Int32.ofNat nn), iv 0, iv tc, iv of, iv (Int32.ofNat k0), iv (Int32.ofNat k1), iv (Int32.ofNat k2), iv (Int32.ofNat k3), .unset, .unset, .unset, .unset, .unset, .unset, .unset, .unset] []))
    refine o_iconst cx X0 (z := (4 : Int32)) at_94 rfl ?_
    refine o_newP cx X0 at_95 (o_w hw 1 rfl) (by decide) 4 4 rfl (Nat.le_refl _) (by decide) (by decide) (by decide) fun T2024 h2026 b2023 gb2029 ge2030 X2025 E2027 A2028 => ?_
    have A2028 : own_Ar Z h2026 b2023 .int [(.int (0 : Int32)), (.int (0 : Int32)), (.int (0 : Int32)), (.int (0 : Int32))] := A2028
    refine o_dup cx X2025 at_97 rfl ?_
    refine o_iconst cx X2025 (z := (0 : Int32)) at_98 rfl ?_
    refine o_iload cx X2025 at_99 rfl ?_
    refine o_stI cx X2025 at_101 A2028 0 (by decide) rfl (Nat.le_of_ble_eq_true rfl) ge2030 fun T2031 h2033 X2032 W2034 A2028 => ?_
    have A2028 : own_Ar Z h2033 b2023 .int [(.int (Int32.ofNat k0)), (.int (0 : Int32)), (.int (0 : Int32)), (.int (0 : Int32))] := A2028
    refine o_dup cx X2032 at_102 rfl ?_
    refine o_iconst cx X2032 (z := (1 : Int32)) at_103 rfl ?_
    refine o_iload cx X2032 at_104 rfl ?_
    refine o_stI cx X2032 at_106 A2028 1 (by decide) rfl (Nat.le_of_ble_eq_true rfl) ge2030 fun T2035 h2037 X2036 W2038 A2028 => ?_
    have A2028 : own_Ar Z h2037 b2023 .int [(.int (Int32.ofNat k0)), (.int (Int32.ofNat k1)), (.int (0 : Int32)), (.int (0 : Int32))] := A2028
    refine o_dup cx X2036 at_107 rfl ?_
    refine o_iconst cx X2036 (z := (2 : Int32)) at_108 rfl ?_
    refine o_iload cx X2036 at_109 rfl ?_
    refine o_stI cx X2036 at_111 A2028 2 (by decide) rfl (Nat.le_of_ble_eq_true rfl) ge2030 fun T2039 h2041 X2040 W2042 A2028 => ?_
    have A2028 : own_Ar Z h2041 b2023 .int [(.int (Int32.ofNat k0)), (.int (Int32.ofNat k1)), (.int (Int32.ofNat k2)), (.int (0 : Int32))] := A2028
    refine o_dup cx X2040 at_112 rfl ?_
    refine o_iconst cx X2040 (z := (3 : Int32)) at_113 rfl ?_
    refine o_iload cx X2040 at_114 rfl ?_
    refine o_stI cx X2040 at_116 A2028 3 (by decide) rfl (Nat.le_of_ble_eq_true rfl) ge2030 fun T2043 h2045 X2044 W2046 A2028 => ?_
    have A2028 : own_Ar Z h2045 b2023 .int [(.int (Int32.ofNat k0)), (.int (Int32.ofNat k1)), (.int (Int32.ofNat k2)), (.int (Int32.ofNat k3))] := A2028
    refine o_astore cx X2044 (Ls' := #[iv p0, iv p1, .val (.long p2), .second, iv p3, iv p4, iv (Int32.ofNat nn), iv 0, iv tc, iv of, iv (Int32.ofNat k0), iv (Int32.ofNat k1), iv (Int32.ofNat k2), iv (Int32.ofNat k3), rv b2023, .unset, .unset, .unset, .unset, .unset, .unset, .unset]) at_117 rfl rfl ?_
    refine o_iconst cx X2044 (z := (4 : Int32)) at_119 rfl ?_
    refine o_newP cx X2044 at_120 (o_w hw 1 rfl) (by decide) 4 4 rfl (Nat.le_refl _) (by decide) (by decide) (by decide) fun T2048 h2050 b2047 gb2053 ge2054 X2049 E2051 A2052 => ?_
    have ne_b2023_b2047 : b2023 ≠ b2047 := by rw [gb2053]; exact Nat.ne_of_lt A2028.lt
    have A2028 := A2028.ext E2051
    have A2052 : own_Ar Z h2050 b2047 .int [(.int (0 : Int32)), (.int (0 : Int32)), (.int (0 : Int32)), (.int (0 : Int32))] := A2052
    refine o_dup cx X2049 at_122 rfl ?_
    refine o_iconst cx X2049 (z := (0 : Int32)) at_123 rfl ?_
    refine o_iload cx X2049 at_124 rfl ?_
    refine o_iload cx X2049 at_126 rfl ?_
    refine o_irem cx X2049 at_128 tcz rfl ?_
    refine o_stI cx X2049 at_129 A2052 0 (by decide) rfl (Nat.le_of_ble_eq_true rfl) ge2054 fun T2055 h2057 X2056 W2058 A2052 => ?_
    have A2028 := A2028.other W2058 ne_b2023_b2047
    have A2052 : own_Ar Z h2057 b2047 .int [(.int (of % tc)), (.int (0 : Int32)), (.int (0 : Int32)), (.int (0 : Int32))] := A2052
    refine o_dup cx X2056 at_130 rfl ?_
    refine o_iconst cx X2056 (z := (1 : Int32)) at_131 rfl ?_
    refine o_iload cx X2056 at_132 rfl ?_
    refine o_iconst cx X2056 (z := (1 : Int32)) at_134 rfl ?_
    refine o_iadd cx X2056 at_135 rfl ?_
    refine o_iload cx X2056 at_136 rfl ?_
    refine o_irem cx X2056 at_138 tcz rfl ?_
    refine o_stI cx X2056 at_139 A2052 1 (by decide) rfl (Nat.le_of_ble_eq_true rfl) ge2054 fun T2059 h2061 X2060 W2062 A2052 => ?_
    have A2028 := A2028.other W2062 ne_b2023_b2047
    have A2052 : own_Ar Z h2061 b2047 .int [(.int (of % tc)), (.int ((of + (1 : Int32)) % tc)), (.int (0 : Int32)), (.int (0 : Int32))] := A2052
    refine o_dup cx X2060 at_140 rfl ?_
    refine o_iconst cx X2060 (z := (2 : Int32)) at_141 rfl ?_
    refine o_iload cx X2060 at_142 rfl ?_
    refine o_iconst cx X2060 (z := (2 : Int32)) at_144 rfl ?_
    refine o_iadd cx X2060 at_145 rfl ?_
    refine o_iload cx X2060 at_146 rfl ?_
    refine o_irem cx X2060 at_148 tcz rfl ?_
    refine o_stI cx X2060 at_149 A2052 2 (by decide) rfl (Nat.le_of_ble_eq_true rfl) ge2054 fun T2063 h2065 X2064 W2066 A2052 => ?_
    have A2028 := A2028.other W2066 ne_b2023_b2047
    have A2052 : own_Ar Z h2065 b2047 .int [(.int (of % tc)), (.int ((of + (1 : Int32)) % tc)), (.int ((of + (2 : Int32)) % tc)), (.int (0 : Int32))] := A2052
    refine o_dup cx X2064 at_150 rfl ?_
    refine o_iconst cx X2064 (z := (3 : Int32)) at_151 rfl ?_
    refine o_iload cx X2064 at_152 rfl ?_
    refine o_iconst cx X2064 (z := (3 : Int32)) at_154 rfl ?_
    refine o_iadd cx X2064 at_155 rfl ?_
    refine o_iload cx X2064 at_156 rfl ?_
    refine o_irem cx X2064 at_158 tcz rfl ?_
    refine o_stI cx X2064 at_159 A2052 3 (by decide) rfl (Nat.le_of_ble_eq_true rfl) ge2054 fun T2067 h2069 X2068 W2070 A2052 => ?_
    have A2028 := A2028.other W2070 ne_b2023_b2047
    have A2052 : own_Ar Z h2069 b2047 .int [(.int (of % tc)), (.int ((of + (1 : Int32)) % tc)), (.int ((of + (2 : Int32)) % tc)), (.int ((of + (3 : Int32)) % tc))] := A2052
    refine o_astore cx X2068 (Ls' := #[iv p0, iv p1, .val (.long p2), .second, iv p3, iv p4, iv (Int32.ofNat nn), iv 0, iv tc, iv of, iv (Int32.ofNat k0), iv (Int32.ofNat k1), iv (Int32.ofNat k2), iv (Int32.ofNat k3), rv b2023, rv b2047, .unset, .unset, .unset, .unset, .unset, .unset]) at_160 rfl rfl ?_
    refine o_iconst cx X2068 (z := (4 : Int32)) at_162 rfl ?_
    refine o_newP cx X2068 at_163 (o_w hw 1 rfl) (by decide) 4 4 rfl (Nat.le_refl _) (by decide) (by decide) (by decide) fun T2072 h2074 b2071 gb2077 ge2078 X2073 E2075 A2076 => ?_
    have ne_b2023_b2071 : b2023 ≠ b2071 := by rw [gb2077]; exact Nat.ne_of_lt A2028.lt
    have ne_b2047_b2071 : b2047 ≠ b2071 := by rw [gb2077]; exact Nat.ne_of_lt A2052.lt
    have A2028 := A2028.ext E2075
    have A2052 := A2052.ext E2075
    have A2076 : own_Ar Z h2074 b2071 .int [(.int (0 : Int32)), (.int (0 : Int32)), (.int (0 : Int32)), (.int (0 : Int32))] := A2076
    refine o_dup cx X2073 at_165 rfl ?_
    refine o_iconst cx X2073 (z := (0 : Int32)) at_166 rfl ?_
    refine o_iload cx X2073 at_167 rfl ?_
    refine o_ldc cx X2073 (z := (65535 : Int32)) at_169 (o_w hw 2 rfl) ?_
    refine o_iand cx X2073 at_171 rfl ?_
    refine o_stI cx X2073 at_172 A2076 0 (by decide) rfl (Nat.le_of_ble_eq_true rfl) ge2078 fun T2079 h2081 X2080 W2082 A2076 => ?_
    have A2028 := A2028.other W2082 ne_b2023_b2071
    have A2052 := A2052.other W2082 ne_b2047_b2071
    have A2076 : own_Ar Z h2081 b2071 .int [(.int (p3 &&& (65535 : Int32))), (.int (0 : Int32)), (.int (0 : Int32)), (.int (0 : Int32))] := A2076
    refine o_dup cx X2080 at_173 rfl ?_
    refine o_iconst cx X2080 (z := (1 : Int32)) at_174 rfl ?_
    refine o_iload cx X2080 at_175 rfl ?_
    refine o_bipush cx X2080 (z := (16 : Int32)) at_177 rfl ?_
    refine o_iushr cx X2080 at_179 rfl ?_
    refine o_stI cx X2080 at_180 A2076 1 (by decide) rfl (Nat.le_of_ble_eq_true rfl) ge2078 fun T2083 h2085 X2084 W2086 A2076 => ?_
    have A2028 := A2028.other W2086 ne_b2023_b2071
    have A2052 := A2052.other W2086 ne_b2047_b2071
    have A2076 : own_Ar Z h2085 b2071 .int [(.int (p3 &&& (65535 : Int32))), (.int ((p3.toUInt32 >>> ((16 : Int32) &&& 31).toUInt32).toInt32)), (.int (0 : Int32)), (.int (0 : Int32))] := A2076
    refine o_dup cx X2084 at_181 rfl ?_
    refine o_iconst cx X2084 (z := (2 : Int32)) at_182 rfl ?_
    refine o_iload cx X2084 at_183 rfl ?_
    refine o_bipush cx X2084 (z := (8 : Int32)) at_185 rfl ?_
    refine o_iushr cx X2084 at_187 rfl ?_
    refine o_sipush cx X2084 (z := (255 : Int32)) at_188 rfl ?_
    refine o_iand cx X2084 at_191 rfl ?_
    refine o_stI cx X2084 at_192 A2076 2 (by decide) rfl (Nat.le_of_ble_eq_true rfl) ge2078 fun T2087 h2089 X2088 W2090 A2076 => ?_
    have A2028 := A2028.other W2090 ne_b2023_b2071
    have A2052 := A2052.other W2090 ne_b2047_b2071
    have A2076 : own_Ar Z h2089 b2071 .int [(.int (p3 &&& (65535 : Int32))), (.int ((p3.toUInt32 >>> ((16 : Int32) &&& 31).toUInt32).toInt32)), (.int (((p3.toUInt32 >>> ((8 : Int32) &&& 31).toUInt32).toInt32) &&& (255 : Int32))), (.int (0 : Int32))] := A2076
    refine o_dup cx X2088 at_193 rfl ?_
    refine o_iconst cx X2088 (z := (3 : Int32)) at_194 rfl ?_
    refine o_iload cx X2088 at_195 rfl ?_
    refine o_sipush cx X2088 (z := (255 : Int32)) at_197 rfl ?_
    refine o_iand cx X2088 at_200 rfl ?_
    refine o_stI cx X2088 at_201 A2076 3 (by decide) rfl (Nat.le_of_ble_eq_true rfl) ge2078 fun T2091 h2093 X2092 W2094 A2076 => ?_
    have A2028 := A2028.other W2094 ne_b2023_b2071
    have A2052 := A2052.other W2094 ne_b2047_b2071
    have A2076 : own_Ar Z h2093 b2071 .int [(.int (p3 &&& (65535 : Int32))), (.int ((p3.toUInt32 >>> ((16 : Int32) &&& 31).toUInt32).toInt32)), (.int (((p3.toUInt32 >>> ((8 : Int32) &&& 31).toUInt32).toInt32) &&& (255 : Int32))), (.int (p3 &&& (255 : Int32)))] := A2076
    refine o_astore cx X2092 (Ls' := #[iv p0, iv p1, .val (.long p2), .second, iv p3, iv p4, iv (Int32.ofNat nn), iv 0, iv tc, iv of, iv (Int32.ofNat k0), iv (Int32.ofNat k1), iv (Int32.ofNat k2), iv (Int32.ofNat k3), rv b2023, rv b2047, rv b2071, .unset, .unset, .unset, .unset, .unset]) at_202 rfl rfl ?_
    refine o_iload cx X2092 at_204 rfl ?_
    refine o_ifYes cx X2092 256 at_206 (by decide) (by decide) (by decide) ?_
    refine o_aconst_null cx X2092 at_256 ?_
    refine o_astore cx X2092 (Ls' := #[iv p0, iv p1, .val (.long p2), .second, iv p3, iv p4, iv (Int32.ofNat nn), iv 0, iv tc, iv of, iv (Int32.ofNat k0), iv (Int32.ofNat k1), iv (Int32.ofNat k2), iv (Int32.ofNat k3), rv b2023, rv b2047, rv b2071, .val .null, .unset, .unset, .unset, .unset]) at_257 rfl rfl ?_
    refine o_newO cx X2092 at_259 (o_w hw 3 rfl) (o_w hw 4 rfl) (o_w hw 5 rfl) (by decide) (by decide) fun T2096 h2098 b2095 gb2102 ge2103 X2097 E2099 A2100 D2101 => ?_
    have ne_b2023_b2095 : b2023 ≠ b2095 := by rw [gb2102]; exact Nat.ne_of_lt A2028.lt
    have ne_b2047_b2095 : b2047 ≠ b2095 := by rw [gb2102]; exact Nat.ne_of_lt A2052.lt
    have ne_b2071_b2095 : b2071 ≠ b2095 := by rw [gb2102]; exact Nat.ne_of_lt A2076.lt
    have A2028 := A2028.ext E2099
    have A2052 := A2052.ext E2099
    have A2076 := A2076.ext E2099
    have F_b2095_starts : Fld Z h2098 b2095 "com/example/rough_dedup/roughdedup/ShingleIndex$Postings" "starts" "[I" .null := D2101 (Or.inr (o_w hw 13 rfl)) (ty := (.array .int)) (by decide)
    have F_b2095_texts : Fld Z h2098 b2095 "com/example/rough_dedup/roughdedup/ShingleIndex$Postings" "texts" "[I" .null := D2101 (Or.inr (o_w hw 15 rfl)) (ty := (.array .int)) (by decide)
    have F_b2095_places : Fld Z h2098 b2095 "com/example/rough_dedup/roughdedup/ShingleIndex$Postings" "places" "[I" .null := D2101 (Or.inr (o_w hw 17 rfl)) (ty := (.array .int)) (by decide)
    have F_b2095_covered : Fld Z h2098 b2095 "com/example/rough_dedup/roughdedup/ShingleIndex$Postings" "covered" "[I" .null := D2101 (Or.inr (o_w hw 19 rfl)) (ty := (.array .int)) (by decide)
    refine o_dup cx X2097 at_262 rfl ?_
    refine o_iload cx X2097 at_263 rfl ?_
    refine o_iload cx X2097 at_265 rfl ?_
    refine o_aload cx X2097 at_267 rfl rfl ?_
    refine o_aload cx X2097 at_269 rfl rfl ?_
    refine o_aload cx X2097 at_271 rfl rfl ?_
    refine o_aload cx X2097 at_273 rfl rfl ?_
    refine o_callC cx X2097 (y' := (⟨"com/example/rough_dedup/roughdedup/ShingleIndex$Postings", "<init>", "(II[I[I[I[I)V"⟩ : MethodName)) (argsL := [(.int (Int32.ofNat nn)), (.int tc), (.ref b2023), (.ref b2047), (.ref b2071), .null]) (st := [(.ref b2095)]) (a := b2095) at_275 (o_w hw 6 rfl) (o_w hw 7 rfl) (o_w hw 5 rfl) (o_w hw 8 rfl) (by decide) rfl (rcon0 l Z a0 hw b2095 b2023 b2047 b2071 nn k0 k1 k2 k3 tc (of % tc) ((of + (1 : Int32)) % tc) ((of + (2 : Int32)) % tc) ((of + (3 : Int32)) % tc) (p3 &&& (65535 : Int32)) ((p3.toUInt32 >>> ((16 : Int32) &&& 31).toUInt32).toInt32) (((p3.toUInt32 >>> ((8 : Int32) &&& 31).toUInt32).toInt32) &&& (255 : Int32)) (p3 &&& (255 : Int32))  h2098 n0 X2097.ge0 ge2103 (Ne.symm ne_b2023_b2095) (Ne.symm ne_b2047_b2095) (Ne.symm ne_b2071_b2095) A2100 F_b2095_starts F_b2095_texts F_b2095_places F_b2095_covered A2028 A2052 A2076  hn8 hk0 hk1 hk2 hk3 htx) (by decide) 1 rfl (by decide) rfl (lenOf pd_1 rfl) rfl rfl (by decide) (by decide) fun v2107 T2104 h2106 X2105 Q2108 => ?_
    obtain ⟨bb, rfl, Ec, Fc, Ac⟩ := Q2108
    show own_Go p e below _ (T2104.setTop (mkF m 278 #[iv p0, iv p1, .val (.long p2), .second, iv p3, iv p4, iv (Int32.ofNat nn), iv 0, iv tc, iv of, iv (Int32.ofNat k0), iv (Int32.ofNat k1), iv (Int32.ofNat k2), iv (Int32.ofNat k3), rv b2023, rv b2047, rv b2071, .val .null, .unset, .unset, .unset, .unset] [(.ref b2095)]))
    refine o_astore cx X2105 (Ls' := #[iv p0, iv p1, .val (.long p2), .second, iv p3, iv p4, iv (Int32.ofNat nn), iv 0, iv tc, iv of, iv (Int32.ofNat k0), iv (Int32.ofNat k1), iv (Int32.ofNat k2), iv (Int32.ofNat k3), rv b2023, rv b2047, rv b2071, .val .null, rv b2095, .unset, .unset, .unset]) at_278 rfl rfl ?_
    refine o_iload cx X2105 at_280 rfl ?_
    refine o_ldc cx X2105 (z := (2147483647 : Int32)) at_282 (o_w hw 32 rfl) ?_
    refine o_iand cx X2105 at_284 rfl ?_
    refine o_iload cx X2105 at_285 rfl ?_
    refine o_irem cx X2105 at_287 (own_nz32 hn1 hn8) rfl ?_
    refine o_istore cx X2105 (Ls' := #[iv p0, iv p1, .val (.long p2), .second, iv p3, iv p4, iv (Int32.ofNat nn), iv 0, iv tc, iv of, iv (Int32.ofNat k0), iv (Int32.ofNat k1), iv (Int32.ofNat k2), iv (Int32.ofNat k3), rv b2023, rv b2047, rv b2071, .val .null, rv b2095, iv ((p4 &&& (2147483647 : Int32)) % (Int32.ofNat nn)), .unset, .unset]) at_288 rfl ?_
    obtain ⟨kq, ekq, hkq⟩ := own_qk p4 hn1 hn8
    rw [ekq]
    show own_Go p e below _ (T2104.setTop (mkF m 290 #[iv p0, iv p1, .val (.long p2), .second, iv p3, iv p4, iv (Int32.ofNat nn), iv 0, iv tc, iv of, iv (Int32.ofNat k0), iv (Int32.ofNat k1), iv (Int32.ofNat k2), iv (Int32.ofNat k3), rv b2023, rv b2047, rv b2071, .val .null, rv b2095, iv (Int32.ofNat kq), .unset, .unset] []))
    refine o_iload cx X2105 at_290 rfl ?_
    refine o_iconst cx X2105 (z := (1 : Int32)) at_292 rfl ?_
    refine o_isub cx X2105 at_293 rfl ?_
    rw [show Int32.ofNat nn - (1 : Int32) = Int32.ofNat (nn - 1) from own_sub nn 1 hn1 (by omega)]
    show own_Go p e below _ (T2104.setTop (mkF m 294 #[iv p0, iv p1, .val (.long p2), .second, iv p3, iv p4, iv (Int32.ofNat nn), iv 0, iv tc, iv of, iv (Int32.ofNat k0), iv (Int32.ofNat k1), iv (Int32.ofNat k2), iv (Int32.ofNat k3), rv b2023, rv b2047, rv b2071, .val .null, rv b2095, iv (Int32.ofNat kq), .unset, .unset] [(.int (Int32.ofNat (nn - 1)))]))
    refine o_istore cx X2105 (Ls' := #[iv p0, iv p1, .val (.long p2), .second, iv p3, iv p4, iv (Int32.ofNat nn), iv 0, iv tc, iv of, iv (Int32.ofNat k0), iv (Int32.ofNat k1), iv (Int32.ofNat k2), iv (Int32.ofNat k3), rv b2023, rv b2047, rv b2071, .val .null, rv b2095, iv (Int32.ofNat kq), iv (Int32.ofNat (nn - 1)), .unset]) at_294 rfl ?_
    refine o_aload cx X2105 at_296 rfl rfl ?_
    refine o_iload cx X2105 at_298 rfl ?_
    refine o_callVp cx X2105 (y' := (⟨"com/example/rough_dedup/roughdedup/ShingleIndex$Postings", "count", "(I)I"⟩ : MethodName)) (argsL := [(.int (Int32.ofNat kq))]) (st := []) (a := b2095) at_300 (o_w hw 33 rfl) (o_w hw 34 rfl) (o_w hw 36 rfl) (o_w hw 35 rfl) (o_w hw 5 rfl) (o_w hw 37 rfl) (by decide) Ec (rcount l Z a0 hw b2095 bb nn kq [k3, k2, k1, k0] h2106 n0 X2105.ge0 Fc Ac (Nat.le_refl 4) hn8 (by omega)) (by decide) 0 rfl (by decide) rfl (lenOf pd_5 rfl) rfl rfl (by decide) (by decide) fun T2109 X2110 => ?_
    show own_Go p e below _ (T2109.setTop (mkF m 303 #[iv p0, iv p1, .val (.long p2), .second, iv p3, iv p4, iv (Int32.ofNat nn), iv 0, iv tc, iv of, iv (Int32.ofNat k0), iv (Int32.ofNat k1), iv (Int32.ofNat k2), iv (Int32.ofNat k3), rv b2023, rv b2047, rv b2071, .val .null, rv b2095, iv (Int32.ofNat kq), iv (Int32.ofNat (nn - 1)), .unset] [(.int (Int32.ofNat (own_C [k3, k2, k1, k0] kq)))]))
    refine o_iload cx X2110 at_303 rfl ?_
    refine o_iload cx X2110 at_305 rfl ?_
    refine o_iload cx X2110 at_307 rfl ?_
    refine o_iload cx X2110 at_309 rfl ?_
    refine o_iload cx X2110 at_311 rfl ?_
    refine o_callSp cx X2110 (y' := (⟨"com/example/rough_dedup/roughdedup/PostingsCountPinLaw", "ref", "(IIIII)I"⟩ : MethodName)) (argsL := [(.int (Int32.ofNat kq)), (.int (Int32.ofNat k0)), (.int (Int32.ofNat k1)), (.int (Int32.ofNat k2)), (.int (Int32.ofNat k3))]) (st := [(.int (Int32.ofNat (own_C [k3, k2, k1, k0] kq)))]) at_313 (o_w hw 38 rfl) (o_w hw 39 rfl) (o_w hw 40 rfl) (o_w hw 41 rfl) (by decide) (rref l Z a0 hw kq k0 k1 k2 k3 h2106 n0 X2110.ge0 (by omega) (by omega) (by omega) (by omega) (by omega)) (by decide) 1 rfl (by decide) rfl (lenOf pd_6 rfl) rfl rfl (by decide) (by decide) fun T2114 X2115 => ?_
    show own_Go p e below _ (T2114.setTop (mkF m 316 #[iv p0, iv p1, .val (.long p2), .second, iv p3, iv p4, iv (Int32.ofNat nn), iv 0, iv tc, iv of, iv (Int32.ofNat k0), iv (Int32.ofNat k1), iv (Int32.ofNat k2), iv (Int32.ofNat k3), rv b2023, rv b2047, rv b2071, .val .null, rv b2095, iv (Int32.ofNat kq), iv (Int32.ofNat (nn - 1)), .unset] [(.int (Int32.ofNat (own_C [k3, k2, k1, k0] kq))), (.int (Int32.ofNat (own_C [k3, k2, k1, k0] kq)))]))
    refine o_icmpNo cx X2115 at_316 (teq rfl).2 ?_
    refine o_iconst cx X2115 (z := (1 : Int32)) at_319 rfl ?_
    refine o_goto cx X2115 324 at_320 (by decide) (by decide) ?_
    refine o_istore cx X2115 (Ls' := #[iv p0, iv p1, .val (.long p2), .second, iv p3, iv p4, iv (Int32.ofNat nn), iv 0, iv tc, iv of, iv (Int32.ofNat k0), iv (Int32.ofNat k1), iv (Int32.ofNat k2), iv (Int32.ofNat k3), rv b2023, rv b2047, rv b2071, .val .null, rv b2095, iv (Int32.ofNat kq), iv (Int32.ofNat (nn - 1)), iv 1]) at_324 rfl ?_
    refine o_iload cx X2115 at_326 rfl ?_
    refine o_ifNo cx X2115 at_328 (by decide) ?_
    refine o_aload cx X2115 at_331 rfl rfl ?_
    refine o_iconst cx X2115 (z := (0 : Int32)) at_333 rfl ?_
    refine o_callVp cx X2115 (y' := (⟨"com/example/rough_dedup/roughdedup/ShingleIndex$Postings", "count", "(I)I"⟩ : MethodName)) (argsL := [(.int (0 : Int32))]) (st := []) (a := b2095) at_334 (o_w hw 33 rfl) (o_w hw 34 rfl) (o_w hw 36 rfl) (o_w hw 35 rfl) (o_w hw 5 rfl) (o_w hw 37 rfl) (by decide) Ec (rcount l Z a0 hw b2095 bb nn 0 [k3, k2, k1, k0] h2106 n0 X2115.ge0 Fc Ac (Nat.le_refl 4) hn8 (by omega)) (by decide) 0 rfl (by decide) rfl (lenOf pd_5 rfl) rfl rfl (by decide) (by decide) fun T2119 X2120 => ?_
    show own_Go p e below _ (T2119.setTop (mkF m 337 #[iv p0, iv p1, .val (.long p2), .second, iv p3, iv p4, iv (Int32.ofNat nn), iv 0, iv tc, iv of, iv (Int32.ofNat k0), iv (Int32.ofNat k1), iv (Int32.ofNat k2), iv (Int32.ofNat k3), rv b2023, rv b2047, rv b2071, .val .null, rv b2095, iv (Int32.ofNat kq), iv (Int32.ofNat (nn - 1)), iv 1] [(.int (Int32.ofNat (own_C [k3, k2, k1, k0] 0)))]))
    refine o_iconst cx X2120 (z := (0 : Int32)) at_337 rfl ?_
    refine o_iload cx X2120 at_338 rfl ?_
    refine o_iload cx X2120 at_340 rfl ?_
    refine o_iload cx X2120 at_342 rfl ?_
    refine o_iload cx X2120 at_344 rfl ?_
    refine o_callSp cx X2120 (y' := (⟨"com/example/rough_dedup/roughdedup/PostingsCountPinLaw", "ref", "(IIIII)I"⟩ : MethodName)) (argsL := [(.int (0 : Int32)), (.int (Int32.ofNat k0)), (.int (Int32.ofNat k1)), (.int (Int32.ofNat k2)), (.int (Int32.ofNat k3))]) (st := [(.int (Int32.ofNat (own_C [k3, k2, k1, k0] 0)))]) at_346 (o_w hw 38 rfl) (o_w hw 39 rfl) (o_w hw 40 rfl) (o_w hw 41 rfl) (by decide) (rref l Z a0 hw 0 k0 k1 k2 k3 h2106 n0 X2120.ge0 (by omega) (by omega) (by omega) (by omega) (by omega)) (by decide) 1 rfl (by decide) rfl (lenOf pd_6 rfl) rfl rfl (by decide) (by decide) fun T2124 X2125 => ?_
    show own_Go p e below _ (T2124.setTop (mkF m 349 #[iv p0, iv p1, .val (.long p2), .second, iv p3, iv p4, iv (Int32.ofNat nn), iv 0, iv tc, iv of, iv (Int32.ofNat k0), iv (Int32.ofNat k1), iv (Int32.ofNat k2), iv (Int32.ofNat k3), rv b2023, rv b2047, rv b2071, .val .null, rv b2095, iv (Int32.ofNat kq), iv (Int32.ofNat (nn - 1)), iv 1] [(.int (Int32.ofNat (own_C [k3, k2, k1, k0] 0))), (.int (Int32.ofNat (own_C [k3, k2, k1, k0] 0)))]))
    refine o_icmpNo cx X2125 at_349 (teq rfl).2 ?_
    refine o_iconst cx X2125 (z := (1 : Int32)) at_352 rfl ?_
    refine o_goto cx X2125 357 at_353 (by decide) (by decide) ?_
    refine o_istore cx X2125 (Ls' := #[iv p0, iv p1, .val (.long p2), .second, iv p3, iv p4, iv (Int32.ofNat nn), iv 0, iv tc, iv of, iv (Int32.ofNat k0), iv (Int32.ofNat k1), iv (Int32.ofNat k2), iv (Int32.ofNat k3), rv b2023, rv b2047, rv b2071, .val .null, rv b2095, iv (Int32.ofNat kq), iv (Int32.ofNat (nn - 1)), iv 1]) at_357 rfl ?_
    refine o_iload cx X2125 at_359 rfl ?_
    refine o_ifNo cx X2125 at_361 (by decide) ?_
    refine o_aload cx X2125 at_364 rfl rfl ?_
    refine o_iload cx X2125 at_366 rfl ?_
    refine o_callVp cx X2125 (y' := (⟨"com/example/rough_dedup/roughdedup/ShingleIndex$Postings", "count", "(I)I"⟩ : MethodName)) (argsL := [(.int (Int32.ofNat (nn - 1)))]) (st := []) (a := b2095) at_368 (o_w hw 33 rfl) (o_w hw 34 rfl) (o_w hw 36 rfl) (o_w hw 35 rfl) (o_w hw 5 rfl) (o_w hw 37 rfl) (by decide) Ec (rcount l Z a0 hw b2095 bb nn (nn - 1) [k3, k2, k1, k0] h2106 n0 X2125.ge0 Fc Ac (Nat.le_refl 4) hn8 (by omega)) (by decide) 0 rfl (by decide) rfl (lenOf pd_5 rfl) rfl rfl (by decide) (by decide) fun T2129 X2130 => ?_
    show own_Go p e below _ (T2129.setTop (mkF m 371 #[iv p0, iv p1, .val (.long p2), .second, iv p3, iv p4, iv (Int32.ofNat nn), iv 0, iv tc, iv of, iv (Int32.ofNat k0), iv (Int32.ofNat k1), iv (Int32.ofNat k2), iv (Int32.ofNat k3), rv b2023, rv b2047, rv b2071, .val .null, rv b2095, iv (Int32.ofNat kq), iv (Int32.ofNat (nn - 1)), iv 1] [(.int (Int32.ofNat (own_C [k3, k2, k1, k0] (nn - 1))))]))
    refine o_iload cx X2130 at_371 rfl ?_
    refine o_iload cx X2130 at_373 rfl ?_
    refine o_iload cx X2130 at_375 rfl ?_
    refine o_iload cx X2130 at_377 rfl ?_
    refine o_iload cx X2130 at_379 rfl ?_
    refine o_callSp cx X2130 (y' := (⟨"com/example/rough_dedup/roughdedup/PostingsCountPinLaw", "ref", "(IIIII)I"⟩ : MethodName)) (argsL := [(.int (Int32.ofNat (nn - 1))), (.int (Int32.ofNat k0)), (.int (Int32.ofNat k1)), (.int (Int32.ofNat k2)), (.int (Int32.ofNat k3))]) (st := [(.int (Int32.ofNat (own_C [k3, k2, k1, k0] (nn - 1))))]) at_381 (o_w hw 38 rfl) (o_w hw 39 rfl) (o_w hw 40 rfl) (o_w hw 41 rfl) (by decide) (rref l Z a0 hw (nn - 1) k0 k1 k2 k3 h2106 n0 X2130.ge0 (by omega) (by omega) (by omega) (by omega) (by omega)) (by decide) 1 rfl (by decide) rfl (lenOf pd_6 rfl) rfl rfl (by decide) (by decide) fun T2134 X2135 => ?_
    show own_Go p e below _ (T2134.setTop (mkF m 384 #[iv p0, iv p1, .val (.long p2), .second, iv p3, iv p4, iv (Int32.ofNat nn), iv 0, iv tc, iv of, iv (Int32.ofNat k0), iv (Int32.ofNat k1), iv (Int32.ofNat k2), iv (Int32.ofNat k3), rv b2023, rv b2047, rv b2071, .val .null, rv b2095, iv (Int32.ofNat kq), iv (Int32.ofNat (nn - 1)), iv 1] [(.int (Int32.ofNat (own_C [k3, k2, k1, k0] (nn - 1)))), (.int (Int32.ofNat (own_C [k3, k2, k1, k0] (nn - 1))))]))
    refine o_icmpNo cx X2135 at_384 (teq rfl).2 ?_
    refine o_iconst cx X2135 (z := (1 : Int32)) at_387 rfl ?_
    refine o_goto cx X2135 392 at_388 (by decide) (by decide) ?_
    refine o_istore cx X2135 (Ls' := #[iv p0, iv p1, .val (.long p2), .second, iv p3, iv p4, iv (Int32.ofNat nn), iv 0, iv tc, iv of, iv (Int32.ofNat k0), iv (Int32.ofNat k1), iv (Int32.ofNat k2), iv (Int32.ofNat k3), rv b2023, rv b2047, rv b2071, .val .null, rv b2095, iv (Int32.ofNat kq), iv (Int32.ofNat (nn - 1)), iv 1]) at_392 rfl ?_
    refine o_iload cx X2135 at_394 rfl ?_
    refine o_ifNo cx X2135 at_396 (by decide) ?_
    refine o_aload cx X2135 at_399 rfl rfl ?_
    refine o_callVp cx X2135 (y' := (⟨"com/example/rough_dedup/roughdedup/ShingleIndex$Postings", "rankCount", "()I"⟩ : MethodName)) (argsL := []) (st := []) (a := b2095) at_401 (o_w hw 42 rfl) (o_w hw 43 rfl) (o_w hw 45 rfl) (o_w hw 44 rfl) (o_w hw 5 rfl) (o_w hw 46 rfl) (by decide) Ec (rrc l Z a0 hw b2095 bb nn [k3, k2, k1, k0] h2106 n0 X2135.ge0 Fc Ac hn8) (by decide) 0 rfl (by decide) rfl (lenOf pd_7 rfl) rfl rfl (by decide) (by decide) fun T2139 X2140 => ?_
    show own_Go p e below _ (T2139.setTop (mkF m 404 #[iv p0, iv p1, .val (.long p2), .second, iv p3, iv p4, iv (Int32.ofNat nn), iv 0, iv tc, iv of, iv (Int32.ofNat k0), iv (Int32.ofNat k1), iv (Int32.ofNat k2), iv (Int32.ofNat k3), rv b2023, rv b2047, rv b2071, .val .null, rv b2095, iv (Int32.ofNat kq), iv (Int32.ofNat (nn - 1)), iv 1] [(.int (Int32.ofNat nn))]))
    refine o_iload cx X2140 at_404 rfl ?_
    refine o_icmpNo cx X2140 at_406 (teq rfl).2 ?_
    refine o_iconst cx X2140 (z := (1 : Int32)) at_409 rfl ?_
    refine o_goto cx X2140 414 at_410 (by decide) (by decide) ?_
    refine o_istore cx X2140 (Ls' := #[iv p0, iv p1, .val (.long p2), .second, iv p3, iv p4, iv (Int32.ofNat nn), iv 0, iv tc, iv of, iv (Int32.ofNat k0), iv (Int32.ofNat k1), iv (Int32.ofNat k2), iv (Int32.ofNat k3), rv b2023, rv b2047, rv b2071, .val .null, rv b2095, iv (Int32.ofNat kq), iv (Int32.ofNat (nn - 1)), iv 1]) at_414 rfl ?_
    refine o_iload cx X2140 at_416 rfl ?_
    exact o_retN cx X2140 (z' := (1 : Int32)) at_418 (by simp) rfl rfl (by decide) (by decide)
  · refine o_ifNo cx X0 at_13 ((if0 _ _).trans (feq hc2022).1) ?_
    refine o_iconst cx X0 (z := (1 : Int32)) at_16 rfl ?_
    refine o_goto cx X0 21 at_17 (by decide) (by decide) ?_
    refine o_istore cx X0 (Ls' := #[iv p0, iv p1, .val (.long p2), .second, iv p3, iv p4, iv (Int32.ofNat nn), iv 1, .unset, .unset, .unset, .unset, .unset, .unset, .unset, .unset, .unset, .unset, .unset, .unset, .unset, .unset]) at_21 rfl ?_
    refine o_iconst cx X0 (z := (4 : Int32)) at_23 rfl ?_
    refine o_iloadN cx X0 at_24 rfl ?_
    refine o_iconst cx X0 (z := (3 : Int32)) at_25 rfl ?_
    refine o_iand cx X0 at_26 rfl ?_
    refine o_iadd cx X0 at_27 rfl ?_
    refine o_istore cx X0 (Ls' := #[iv p0, iv p1, .val (.long p2), .second, iv p3, iv p4, iv (Int32.ofNat nn), iv 1, iv ((4 : Int32) + (p1 &&& (3 : Int32))), .unset, .unset, .unset, .unset, .unset, .unset, .unset, .unset, .unset, .unset, .unset, .unset, .unset]) at_28 rfl ?_
    refine o_iloadN cx X0 at_30 rfl ?_
    refine o_iconst cx X0 (z := (2 : Int32)) at_31 rfl ?_
    refine o_iushr cx X0 at_32 rfl ?_
    refine o_iconst cx X0 (z := (3 : Int32)) at_33 rfl ?_
    refine o_iand cx X0 at_34 rfl ?_
    refine o_istore cx X0 (Ls' := #[iv p0, iv p1, .val (.long p2), .second, iv p3, iv p4, iv (Int32.ofNat nn), iv 1, iv ((4 : Int32) + (p1 &&& (3 : Int32))), iv (((p1.toUInt32 >>> ((2 : Int32) &&& 31).toUInt32).toInt32) &&& (3 : Int32)), .unset, .unset, .unset, .unset, .unset, .unset, .unset, .unset, .unset, .unset, .unset, .unset]) at_35 rfl ?_
    obtain ⟨tcz, htx⟩ := own_tx p1 ((p1.toUInt32 >>> ((2 : Int32) &&& 31).toUInt32).toInt32)
    obtain ⟨tc, etc⟩ : ∃ z : Int32, z = ((4 : Int32) + (p1 &&& (3 : Int32))) := ⟨_, rfl⟩
    obtain ⟨of, eof⟩ : ∃ z : Int32, z = (((p1.toUInt32 >>> ((2 : Int32) &&& 31).toUInt32).toInt32) &&& (3 : Int32)) := ⟨_, rfl⟩
    rw [← etc, ← eof]
    rw [← etc] at tcz htx
    rw [← eof] at htx
    show own_Go p e below _ (T0.setTop (mkF m 37 #[iv p0, iv p1, .val (.long p2), .second, iv p3, iv p4, iv (Int32.ofNat nn), iv 1, iv tc, iv of, .unset, .unset, .unset, .unset, .unset, .unset, .unset, .unset, .unset, .unset, .unset, .unset] []))
    refine o_lloadN cx X0 at_37 rfl ?_
    refine o_ldc2 cx X0 (z := (65535 : Int64)) at_38 (o_w hw 0 rfl) ?_
    refine o_land cx X0 at_41 rfl ?_
    refine o_iload cx X0 at_42 rfl ?_
    refine o_i2l cx X0 at_44 rfl ?_
    refine o_lrem cx X0 at_45 (own_nz64 hn1 hn8) rfl ?_
    refine o_l2i cx X0 at_46 rfl ?_
    refine o_istore cx X0 (Ls' := #[iv p0, iv p1, .val (.long p2), .second, iv p3, iv p4, iv (Int32.ofNat nn), iv 1, iv tc, iv of, iv (((p2 &&& (65535 : Int64)) % ((Int32.ofNat nn).toInt64)).toInt32), .unset, .unset, .unset, .unset, .unset, .unset, .unset, .unset, .unset, .unset, .unset]) at_47 rfl ?_
    obtain ⟨k0, ek0, hk0⟩ := own_rk p2 hn1 hn8
    rw [ek0]
    show own_Go p e below _ (T0.setTop (mkF m 49 #[iv p0, iv p1, .val (.long p2), .second, iv p3, iv p4, iv (Int32.ofNat nn), iv 1, iv tc, iv of, iv (Int32.ofNat k0), .unset, .unset, .unset, .unset, .unset, .unset, .unset, .unset, .unset, .unset, .unset] []))
    refine o_lloadN cx X0 at_49 rfl ?_
    refine o_bipush cx X0 (z := (16 : Int32)) at_50 rfl ?_
    refine o_lushr cx X0 at_52 rfl ?_
    refine o_ldc2 cx X0 (z := (65535 : Int64)) at_53 (o_w hw 0 rfl) ?_
    refine o_land cx X0 at_56 rfl ?_
    refine o_iload cx X0 at_57 rfl ?_
    refine o_i2l cx X0 at_59 rfl ?_
    refine o_lrem cx X0 at_60 (own_nz64 hn1 hn8) rfl ?_
    refine o_l2i cx X0 at_61 rfl ?_
    refine o_istore cx X0 (Ls' := #[iv p0, iv p1, .val (.long p2), .second, iv p3, iv p4, iv (Int32.ofNat nn), iv 1, iv tc, iv of, iv (Int32.ofNat k0), iv (((((p2.toUInt64 >>> ((16 : Int32) &&& 0x3f).toInt64.toUInt64).toInt64) &&& (65535 : Int64)) % ((Int32.ofNat nn).toInt64)).toInt32), .unset, .unset, .unset, .unset, .unset, .unset, .unset, .unset, .unset, .unset]) at_62 rfl ?_
    obtain ⟨k1, ek1, hk1⟩ := own_rk ((p2.toUInt64 >>> ((16 : Int32) &&& 0x3f).toInt64.toUInt64).toInt64) hn1 hn8
    rw [ek1]
    show own_Go p e below _ (T0.setTop (mkF m 64 #[iv p0, iv p1, .val (.long p2), .second, iv p3, iv p4, iv (Int32.ofNat nn), iv 1, iv tc, iv of, iv (Int32.ofNat k0), iv (Int32.ofNat k1), .unset, .unset, .unset, .unset, .unset, .unset, .unset, .unset, .unset, .unset] []))
    refine o_lloadN cx X0 at_64 rfl ?_
    refine o_bipush cx X0 (z := (32 : Int32)) at_65 rfl ?_
    refine o_lushr cx X0 at_67 rfl ?_
    refine o_ldc2 cx X0 (z := (65535 : Int64)) at_68 (o_w hw 0 rfl) ?_
    refine o_land cx X0 at_71 rfl ?_
    refine o_iload cx X0 at_72 rfl ?_
    refine o_i2l cx X0 at_74 rfl ?_
    refine o_lrem cx X0 at_75 (own_nz64 hn1 hn8) rfl ?_
    refine o_l2i cx X0 at_76 rfl ?_
    refine o_istore cx X0 (Ls' := #[iv p0, iv p1, .val (.long p2), .second, iv p3, iv p4, iv (Int32.ofNat nn), iv 1, iv tc, iv of, iv (Int32.ofNat k0), iv (Int32.ofNat k1), iv (((((p2.toUInt64 >>> ((32 : Int32) &&& 0x3f).toInt64.toUInt64).toInt64) &&& (65535 : Int64)) % ((Int32.ofNat nn).toInt64)).toInt32), .unset, .unset, .unset, .unset, .unset, .unset, .unset, .unset, .unset]) at_77 rfl ?_
    obtain ⟨k2, ek2, hk2⟩ := own_rk ((p2.toUInt64 >>> ((32 : Int32) &&& 0x3f).toInt64.toUInt64).toInt64) hn1 hn8
    rw [ek2]
    show own_Go p e below _ (T0.setTop (mkF m 79 #[iv p0, iv p1, .val (.long p2), .second, iv p3, iv p4, iv (Int32.ofNat nn), iv 1, iv tc, iv of, iv (Int32.ofNat k0), iv (Int32.ofNat k1), iv (Int32.ofNat k2), .unset, .unset, .unset, .unset, .unset, .unset, .unset, .unset, .unset] []))
    refine o_lloadN cx X0 at_79 rfl ?_
    refine o_bipush cx X0 (z := (48 : Int32)) at_80 rfl ?_
    refine o_lushr cx X0 at_82 rfl ?_
    refine o_ldc2 cx X0 (z := (65535 : Int64)) at_83 (o_w hw 0 rfl) ?_
    refine o_land cx X0 at_86 rfl ?_
    refine o_iload cx X0 at_87 rfl ?_
    refine o_i2l cx X0 at_89 rfl ?_
    refine o_lrem cx X0 at_90 (own_nz64 hn1 hn8) rfl ?_
    refine o_l2i cx X0 at_91 rfl ?_
    refine o_istore cx X0 (Ls' := #[iv p0, iv p1, .val (.long p2), .second, iv p3, iv p4, iv (Int32.ofNat nn), iv 1, iv tc, iv of, iv (Int32.ofNat k0), iv (Int32.ofNat k1), iv (Int32.ofNat k2), iv (((((p2.toUInt64 >>> ((48 : Int32) &&& 0x3f).toInt64.toUInt64).toInt64) &&& (65535 : Int64)) % ((Int32.ofNat nn).toInt64)).toInt32), .unset, .unset, .unset, .unset, .unset, .unset, .unset, .unset]) at_92 rfl ?_
    obtain ⟨k3, ek3, hk3⟩ := own_rk ((p2.toUInt64 >>> ((48 : Int32) &&& 0x3f).toInt64.toUInt64).toInt64) hn1 hn8
    rw [ek3]
    show own_Go p e below _ (T0.setTop (mkF m 94 #[iv p0, iv p1, .val (.long p2), .second, iv p3, iv p4, iv (Int32.ofNat nn), iv 1, iv tc, iv of, iv (Int32.ofNat k0), iv (Int32.ofNat k1), iv (Int32.ofNat k2), iv (Int32.ofNat k3), .unset, .unset, .unset, .unset, .unset, .unset, .unset, .unset] []))
    refine o_iconst cx X0 (z := (4 : Int32)) at_94 rfl ?_
    refine o_newP cx X0 at_95 (o_w hw 1 rfl) (by decide) 4 4 rfl (Nat.le_refl _) (by decide) (by decide) (by decide) fun T2145 h2147 b2144 gb2150 ge2151 X2146 E2148 A2149 => ?_
    have A2149 : own_Ar Z h2147 b2144 .int [(.int (0 : Int32)), (.int (0 : Int32)), (.int (0 : Int32)), (.int (0 : Int32))] := A2149
    refine o_dup cx X2146 at_97 rfl ?_
    refine o_iconst cx X2146 (z := (0 : Int32)) at_98 rfl ?_
    refine o_iload cx X2146 at_99 rfl ?_
    refine o_stI cx X2146 at_101 A2149 0 (by decide) rfl (Nat.le_of_ble_eq_true rfl) ge2151 fun T2152 h2154 X2153 W2155 A2149 => ?_
    have A2149 : own_Ar Z h2154 b2144 .int [(.int (Int32.ofNat k0)), (.int (0 : Int32)), (.int (0 : Int32)), (.int (0 : Int32))] := A2149
    refine o_dup cx X2153 at_102 rfl ?_
    refine o_iconst cx X2153 (z := (1 : Int32)) at_103 rfl ?_
    refine o_iload cx X2153 at_104 rfl ?_
    refine o_stI cx X2153 at_106 A2149 1 (by decide) rfl (Nat.le_of_ble_eq_true rfl) ge2151 fun T2156 h2158 X2157 W2159 A2149 => ?_
    have A2149 : own_Ar Z h2158 b2144 .int [(.int (Int32.ofNat k0)), (.int (Int32.ofNat k1)), (.int (0 : Int32)), (.int (0 : Int32))] := A2149
    refine o_dup cx X2157 at_107 rfl ?_
    refine o_iconst cx X2157 (z := (2 : Int32)) at_108 rfl ?_
    refine o_iload cx X2157 at_109 rfl ?_
    refine o_stI cx X2157 at_111 A2149 2 (by decide) rfl (Nat.le_of_ble_eq_true rfl) ge2151 fun T2160 h2162 X2161 W2163 A2149 => ?_
    have A2149 : own_Ar Z h2162 b2144 .int [(.int (Int32.ofNat k0)), (.int (Int32.ofNat k1)), (.int (Int32.ofNat k2)), (.int (0 : Int32))] := A2149
    refine o_dup cx X2161 at_112 rfl ?_
    refine o_iconst cx X2161 (z := (3 : Int32)) at_113 rfl ?_
    refine o_iload cx X2161 at_114 rfl ?_
    refine o_stI cx X2161 at_116 A2149 3 (by decide) rfl (Nat.le_of_ble_eq_true rfl) ge2151 fun T2164 h2166 X2165 W2167 A2149 => ?_
    have A2149 : own_Ar Z h2166 b2144 .int [(.int (Int32.ofNat k0)), (.int (Int32.ofNat k1)), (.int (Int32.ofNat k2)), (.int (Int32.ofNat k3))] := A2149
    refine o_astore cx X2165 (Ls' := #[iv p0, iv p1, .val (.long p2), .second, iv p3, iv p4, iv (Int32.ofNat nn), iv 1, iv tc, iv of, iv (Int32.ofNat k0), iv (Int32.ofNat k1), iv (Int32.ofNat k2), iv (Int32.ofNat k3), rv b2144, .unset, .unset, .unset, .unset, .unset, .unset, .unset]) at_117 rfl rfl ?_
    refine o_iconst cx X2165 (z := (4 : Int32)) at_119 rfl ?_
    refine o_newP cx X2165 at_120 (o_w hw 1 rfl) (by decide) 4 4 rfl (Nat.le_refl _) (by decide) (by decide) (by decide) fun T2169 h2171 b2168 gb2174 ge2175 X2170 E2172 A2173 => ?_
    have ne_b2144_b2168 : b2144 ≠ b2168 := by rw [gb2174]; exact Nat.ne_of_lt A2149.lt
    have A2149 := A2149.ext E2172
    have A2173 : own_Ar Z h2171 b2168 .int [(.int (0 : Int32)), (.int (0 : Int32)), (.int (0 : Int32)), (.int (0 : Int32))] := A2173
    refine o_dup cx X2170 at_122 rfl ?_
    refine o_iconst cx X2170 (z := (0 : Int32)) at_123 rfl ?_
    refine o_iload cx X2170 at_124 rfl ?_
    refine o_iload cx X2170 at_126 rfl ?_
    refine o_irem cx X2170 at_128 tcz rfl ?_
    refine o_stI cx X2170 at_129 A2173 0 (by decide) rfl (Nat.le_of_ble_eq_true rfl) ge2175 fun T2176 h2178 X2177 W2179 A2173 => ?_
    have A2149 := A2149.other W2179 ne_b2144_b2168
    have A2173 : own_Ar Z h2178 b2168 .int [(.int (of % tc)), (.int (0 : Int32)), (.int (0 : Int32)), (.int (0 : Int32))] := A2173
    refine o_dup cx X2177 at_130 rfl ?_
    refine o_iconst cx X2177 (z := (1 : Int32)) at_131 rfl ?_
    refine o_iload cx X2177 at_132 rfl ?_
    refine o_iconst cx X2177 (z := (1 : Int32)) at_134 rfl ?_
    refine o_iadd cx X2177 at_135 rfl ?_
    refine o_iload cx X2177 at_136 rfl ?_
    refine o_irem cx X2177 at_138 tcz rfl ?_
    refine o_stI cx X2177 at_139 A2173 1 (by decide) rfl (Nat.le_of_ble_eq_true rfl) ge2175 fun T2180 h2182 X2181 W2183 A2173 => ?_
    have A2149 := A2149.other W2183 ne_b2144_b2168
    have A2173 : own_Ar Z h2182 b2168 .int [(.int (of % tc)), (.int ((of + (1 : Int32)) % tc)), (.int (0 : Int32)), (.int (0 : Int32))] := A2173
    refine o_dup cx X2181 at_140 rfl ?_
    refine o_iconst cx X2181 (z := (2 : Int32)) at_141 rfl ?_
    refine o_iload cx X2181 at_142 rfl ?_
    refine o_iconst cx X2181 (z := (2 : Int32)) at_144 rfl ?_
    refine o_iadd cx X2181 at_145 rfl ?_
    refine o_iload cx X2181 at_146 rfl ?_
    refine o_irem cx X2181 at_148 tcz rfl ?_
    refine o_stI cx X2181 at_149 A2173 2 (by decide) rfl (Nat.le_of_ble_eq_true rfl) ge2175 fun T2184 h2186 X2185 W2187 A2173 => ?_
    have A2149 := A2149.other W2187 ne_b2144_b2168
    have A2173 : own_Ar Z h2186 b2168 .int [(.int (of % tc)), (.int ((of + (1 : Int32)) % tc)), (.int ((of + (2 : Int32)) % tc)), (.int (0 : Int32))] := A2173
    refine o_dup cx X2185 at_150 rfl ?_
    refine o_iconst cx X2185 (z := (3 : Int32)) at_151 rfl ?_
    refine o_iload cx X2185 at_152 rfl ?_
    refine o_iconst cx X2185 (z := (3 : Int32)) at_154 rfl ?_
    refine o_iadd cx X2185 at_155 rfl ?_
    refine o_iload cx X2185 at_156 rfl ?_
    refine o_irem cx X2185 at_158 tcz rfl ?_
    refine o_stI cx X2185 at_159 A2173 3 (by decide) rfl (Nat.le_of_ble_eq_true rfl) ge2175 fun T2188 h2190 X2189 W2191 A2173 => ?_
    have A2149 := A2149.other W2191 ne_b2144_b2168
    have A2173 : own_Ar Z h2190 b2168 .int [(.int (of % tc)), (.int ((of + (1 : Int32)) % tc)), (.int ((of + (2 : Int32)) % tc)), (.int ((of + (3 : Int32)) % tc))] := A2173
    refine o_astore cx X2189 (Ls' := #[iv p0, iv p1, .val (.long p2), .second, iv p3, iv p4, iv (Int32.ofNat nn), iv 1, iv tc, iv of, iv (Int32.ofNat k0), iv (Int32.ofNat k1), iv (Int32.ofNat k2), iv (Int32.ofNat k3), rv b2144, rv b2168, .unset, .unset, .unset, .unset, .unset, .unset]) at_160 rfl rfl ?_
    refine o_iconst cx X2189 (z := (4 : Int32)) at_162 rfl ?_
    refine o_newP cx X2189 at_163 (o_w hw 1 rfl) (by decide) 4 4 rfl (Nat.le_refl _) (by decide) (by decide) (by decide) fun T2193 h2195 b2192 gb2198 ge2199 X2194 E2196 A2197 => ?_
    have ne_b2144_b2192 : b2144 ≠ b2192 := by rw [gb2198]; exact Nat.ne_of_lt A2149.lt
    have ne_b2168_b2192 : b2168 ≠ b2192 := by rw [gb2198]; exact Nat.ne_of_lt A2173.lt
    have A2149 := A2149.ext E2196
    have A2173 := A2173.ext E2196
    have A2197 : own_Ar Z h2195 b2192 .int [(.int (0 : Int32)), (.int (0 : Int32)), (.int (0 : Int32)), (.int (0 : Int32))] := A2197
    refine o_dup cx X2194 at_165 rfl ?_
    refine o_iconst cx X2194 (z := (0 : Int32)) at_166 rfl ?_
    refine o_iload cx X2194 at_167 rfl ?_
    refine o_ldc cx X2194 (z := (65535 : Int32)) at_169 (o_w hw 2 rfl) ?_
    refine o_iand cx X2194 at_171 rfl ?_
    refine o_stI cx X2194 at_172 A2197 0 (by decide) rfl (Nat.le_of_ble_eq_true rfl) ge2199 fun T2200 h2202 X2201 W2203 A2197 => ?_
    have A2149 := A2149.other W2203 ne_b2144_b2192
    have A2173 := A2173.other W2203 ne_b2168_b2192
    have A2197 : own_Ar Z h2202 b2192 .int [(.int (p3 &&& (65535 : Int32))), (.int (0 : Int32)), (.int (0 : Int32)), (.int (0 : Int32))] := A2197
    refine o_dup cx X2201 at_173 rfl ?_
    refine o_iconst cx X2201 (z := (1 : Int32)) at_174 rfl ?_
    refine o_iload cx X2201 at_175 rfl ?_
    refine o_bipush cx X2201 (z := (16 : Int32)) at_177 rfl ?_
    refine o_iushr cx X2201 at_179 rfl ?_
    refine o_stI cx X2201 at_180 A2197 1 (by decide) rfl (Nat.le_of_ble_eq_true rfl) ge2199 fun T2204 h2206 X2205 W2207 A2197 => ?_
    have A2149 := A2149.other W2207 ne_b2144_b2192
    have A2173 := A2173.other W2207 ne_b2168_b2192
    have A2197 : own_Ar Z h2206 b2192 .int [(.int (p3 &&& (65535 : Int32))), (.int ((p3.toUInt32 >>> ((16 : Int32) &&& 31).toUInt32).toInt32)), (.int (0 : Int32)), (.int (0 : Int32))] := A2197
    refine o_dup cx X2205 at_181 rfl ?_
    refine o_iconst cx X2205 (z := (2 : Int32)) at_182 rfl ?_
    refine o_iload cx X2205 at_183 rfl ?_
    refine o_bipush cx X2205 (z := (8 : Int32)) at_185 rfl ?_
    refine o_iushr cx X2205 at_187 rfl ?_
    refine o_sipush cx X2205 (z := (255 : Int32)) at_188 rfl ?_
    refine o_iand cx X2205 at_191 rfl ?_
    refine o_stI cx X2205 at_192 A2197 2 (by decide) rfl (Nat.le_of_ble_eq_true rfl) ge2199 fun T2208 h2210 X2209 W2211 A2197 => ?_
    have A2149 := A2149.other W2211 ne_b2144_b2192
    have A2173 := A2173.other W2211 ne_b2168_b2192
    have A2197 : own_Ar Z h2210 b2192 .int [(.int (p3 &&& (65535 : Int32))), (.int ((p3.toUInt32 >>> ((16 : Int32) &&& 31).toUInt32).toInt32)), (.int (((p3.toUInt32 >>> ((8 : Int32) &&& 31).toUInt32).toInt32) &&& (255 : Int32))), (.int (0 : Int32))] := A2197
    refine o_dup cx X2209 at_193 rfl ?_
    refine o_iconst cx X2209 (z := (3 : Int32)) at_194 rfl ?_
    refine o_iload cx X2209 at_195 rfl ?_
    refine o_sipush cx X2209 (z := (255 : Int32)) at_197 rfl ?_
    refine o_iand cx X2209 at_200 rfl ?_
    refine o_stI cx X2209 at_201 A2197 3 (by decide) rfl (Nat.le_of_ble_eq_true rfl) ge2199 fun T2212 h2214 X2213 W2215 A2197 => ?_
    have A2149 := A2149.other W2215 ne_b2144_b2192
    have A2173 := A2173.other W2215 ne_b2168_b2192
    have A2197 : own_Ar Z h2214 b2192 .int [(.int (p3 &&& (65535 : Int32))), (.int ((p3.toUInt32 >>> ((16 : Int32) &&& 31).toUInt32).toInt32)), (.int (((p3.toUInt32 >>> ((8 : Int32) &&& 31).toUInt32).toInt32) &&& (255 : Int32))), (.int (p3 &&& (255 : Int32)))] := A2197
    refine o_astore cx X2213 (Ls' := #[iv p0, iv p1, .val (.long p2), .second, iv p3, iv p4, iv (Int32.ofNat nn), iv 1, iv tc, iv of, iv (Int32.ofNat k0), iv (Int32.ofNat k1), iv (Int32.ofNat k2), iv (Int32.ofNat k3), rv b2144, rv b2168, rv b2192, .unset, .unset, .unset, .unset, .unset]) at_202 rfl rfl ?_
    refine o_iload cx X2213 at_204 rfl ?_
    refine o_ifNo cx X2213 at_206 (by decide) ?_
    refine o_iconst cx X2213 (z := (4 : Int32)) at_209 rfl ?_
    refine o_newP cx X2213 at_210 (o_w hw 1 rfl) (by decide) 4 4 rfl (Nat.le_refl _) (by decide) (by decide) (by decide) fun T2217 h2219 b2216 gb2222 ge2223 X2218 E2220 A2221 => ?_
    have ne_b2144_b2216 : b2144 ≠ b2216 := by rw [gb2222]; exact Nat.ne_of_lt A2149.lt
    have ne_b2168_b2216 : b2168 ≠ b2216 := by rw [gb2222]; exact Nat.ne_of_lt A2173.lt
    have ne_b2192_b2216 : b2192 ≠ b2216 := by rw [gb2222]; exact Nat.ne_of_lt A2197.lt
    have A2149 := A2149.ext E2220
    have A2173 := A2173.ext E2220
    have A2197 := A2197.ext E2220
    have A2221 : own_Ar Z h2219 b2216 .int [(.int (0 : Int32)), (.int (0 : Int32)), (.int (0 : Int32)), (.int (0 : Int32))] := A2221
    refine o_dup cx X2218 at_212 rfl ?_
    refine o_iconst cx X2218 (z := (0 : Int32)) at_213 rfl ?_
    refine o_iload cx X2218 at_214 rfl ?_
    refine o_sipush cx X2218 (z := (255 : Int32)) at_216 rfl ?_
    refine o_iand cx X2218 at_219 rfl ?_
    refine o_stI cx X2218 at_220 A2221 0 (by decide) rfl (Nat.le_of_ble_eq_true rfl) ge2223 fun T2224 h2226 X2225 W2227 A2221 => ?_
    have A2149 := A2149.other W2227 ne_b2144_b2216
    have A2173 := A2173.other W2227 ne_b2168_b2216
    have A2197 := A2197.other W2227 ne_b2192_b2216
    have A2221 : own_Ar Z h2226 b2216 .int [(.int (p3 &&& (255 : Int32))), (.int (0 : Int32)), (.int (0 : Int32)), (.int (0 : Int32))] := A2221
    refine o_dup cx X2225 at_221 rfl ?_
    refine o_iconst cx X2225 (z := (1 : Int32)) at_222 rfl ?_
    refine o_iload cx X2225 at_223 rfl ?_
    refine o_bipush cx X2225 (z := (8 : Int32)) at_225 rfl ?_
    refine o_iushr cx X2225 at_227 rfl ?_
    refine o_sipush cx X2225 (z := (255 : Int32)) at_228 rfl ?_
    refine o_iand cx X2225 at_231 rfl ?_
    refine o_stI cx X2225 at_232 A2221 1 (by decide) rfl (Nat.le_of_ble_eq_true rfl) ge2223 fun T2228 h2230 X2229 W2231 A2221 => ?_
    have A2149 := A2149.other W2231 ne_b2144_b2216
    have A2173 := A2173.other W2231 ne_b2168_b2216
    have A2197 := A2197.other W2231 ne_b2192_b2216
    have A2221 : own_Ar Z h2230 b2216 .int [(.int (p3 &&& (255 : Int32))), (.int (((p3.toUInt32 >>> ((8 : Int32) &&& 31).toUInt32).toInt32) &&& (255 : Int32))), (.int (0 : Int32)), (.int (0 : Int32))] := A2221
    refine o_dup cx X2229 at_233 rfl ?_
    refine o_iconst cx X2229 (z := (2 : Int32)) at_234 rfl ?_
    refine o_iload cx X2229 at_235 rfl ?_
    refine o_bipush cx X2229 (z := (16 : Int32)) at_237 rfl ?_
    refine o_iushr cx X2229 at_239 rfl ?_
    refine o_sipush cx X2229 (z := (255 : Int32)) at_240 rfl ?_
    refine o_iand cx X2229 at_243 rfl ?_
    refine o_stI cx X2229 at_244 A2221 2 (by decide) rfl (Nat.le_of_ble_eq_true rfl) ge2223 fun T2232 h2234 X2233 W2235 A2221 => ?_
    have A2149 := A2149.other W2235 ne_b2144_b2216
    have A2173 := A2173.other W2235 ne_b2168_b2216
    have A2197 := A2197.other W2235 ne_b2192_b2216
    have A2221 : own_Ar Z h2234 b2216 .int [(.int (p3 &&& (255 : Int32))), (.int (((p3.toUInt32 >>> ((8 : Int32) &&& 31).toUInt32).toInt32) &&& (255 : Int32))), (.int (((p3.toUInt32 >>> ((16 : Int32) &&& 31).toUInt32).toInt32) &&& (255 : Int32))), (.int (0 : Int32))] := A2221
    refine o_dup cx X2233 at_245 rfl ?_
    refine o_iconst cx X2233 (z := (3 : Int32)) at_246 rfl ?_
    refine o_iload cx X2233 at_247 rfl ?_
    refine o_bipush cx X2233 (z := (24 : Int32)) at_249 rfl ?_
    refine o_iushr cx X2233 at_251 rfl ?_
    refine o_stI cx X2233 at_252 A2221 3 (by decide) rfl (Nat.le_of_ble_eq_true rfl) ge2223 fun T2236 h2238 X2237 W2239 A2221 => ?_
    have A2149 := A2149.other W2239 ne_b2144_b2216
    have A2173 := A2173.other W2239 ne_b2168_b2216
    have A2197 := A2197.other W2239 ne_b2192_b2216
    have A2221 : own_Ar Z h2238 b2216 .int [(.int (p3 &&& (255 : Int32))), (.int (((p3.toUInt32 >>> ((8 : Int32) &&& 31).toUInt32).toInt32) &&& (255 : Int32))), (.int (((p3.toUInt32 >>> ((16 : Int32) &&& 31).toUInt32).toInt32) &&& (255 : Int32))), (.int ((p3.toUInt32 >>> ((24 : Int32) &&& 31).toUInt32).toInt32))] := A2221
    refine o_goto cx X2237 257 at_253 (by decide) (by decide) ?_
    refine o_astore cx X2237 (Ls' := #[iv p0, iv p1, .val (.long p2), .second, iv p3, iv p4, iv (Int32.ofNat nn), iv 1, iv tc, iv of, iv (Int32.ofNat k0), iv (Int32.ofNat k1), iv (Int32.ofNat k2), iv (Int32.ofNat k3), rv b2144, rv b2168, rv b2192, rv b2216, .unset, .unset, .unset, .unset]) at_257 rfl rfl ?_
    refine o_newO cx X2237 at_259 (o_w hw 3 rfl) (o_w hw 4 rfl) (o_w hw 5 rfl) (by decide) (by decide) fun T2241 h2243 b2240 gb2247 ge2248 X2242 E2244 A2245 D2246 => ?_
    have ne_b2144_b2240 : b2144 ≠ b2240 := by rw [gb2247]; exact Nat.ne_of_lt A2149.lt
    have ne_b2168_b2240 : b2168 ≠ b2240 := by rw [gb2247]; exact Nat.ne_of_lt A2173.lt
    have ne_b2192_b2240 : b2192 ≠ b2240 := by rw [gb2247]; exact Nat.ne_of_lt A2197.lt
    have ne_b2216_b2240 : b2216 ≠ b2240 := by rw [gb2247]; exact Nat.ne_of_lt A2221.lt
    have A2149 := A2149.ext E2244
    have A2173 := A2173.ext E2244
    have A2197 := A2197.ext E2244
    have A2221 := A2221.ext E2244
    have F_b2240_starts : Fld Z h2243 b2240 "com/example/rough_dedup/roughdedup/ShingleIndex$Postings" "starts" "[I" .null := D2246 (Or.inr (o_w hw 13 rfl)) (ty := (.array .int)) (by decide)
    have F_b2240_texts : Fld Z h2243 b2240 "com/example/rough_dedup/roughdedup/ShingleIndex$Postings" "texts" "[I" .null := D2246 (Or.inr (o_w hw 15 rfl)) (ty := (.array .int)) (by decide)
    have F_b2240_places : Fld Z h2243 b2240 "com/example/rough_dedup/roughdedup/ShingleIndex$Postings" "places" "[I" .null := D2246 (Or.inr (o_w hw 17 rfl)) (ty := (.array .int)) (by decide)
    have F_b2240_covered : Fld Z h2243 b2240 "com/example/rough_dedup/roughdedup/ShingleIndex$Postings" "covered" "[I" .null := D2246 (Or.inr (o_w hw 19 rfl)) (ty := (.array .int)) (by decide)
    refine o_dup cx X2242 at_262 rfl ?_
    refine o_iload cx X2242 at_263 rfl ?_
    refine o_iload cx X2242 at_265 rfl ?_
    refine o_aload cx X2242 at_267 rfl rfl ?_
    refine o_aload cx X2242 at_269 rfl rfl ?_
    refine o_aload cx X2242 at_271 rfl rfl ?_
    refine o_aload cx X2242 at_273 rfl rfl ?_
    refine o_callC cx X2242 (y' := (⟨"com/example/rough_dedup/roughdedup/ShingleIndex$Postings", "<init>", "(II[I[I[I[I)V"⟩ : MethodName)) (argsL := [(.int (Int32.ofNat nn)), (.int tc), (.ref b2144), (.ref b2168), (.ref b2192), (.ref b2216)]) (st := [(.ref b2240)]) (a := b2240) at_275 (o_w hw 6 rfl) (o_w hw 7 rfl) (o_w hw 5 rfl) (o_w hw 8 rfl) (by decide) rfl (rcon1 l Z a0 hw b2240 b2144 b2168 b2192 nn k0 k1 k2 k3 tc (of % tc) ((of + (1 : Int32)) % tc) ((of + (2 : Int32)) % tc) ((of + (3 : Int32)) % tc) (p3 &&& (65535 : Int32)) ((p3.toUInt32 >>> ((16 : Int32) &&& 31).toUInt32).toInt32) (((p3.toUInt32 >>> ((8 : Int32) &&& 31).toUInt32).toInt32) &&& (255 : Int32)) (p3 &&& (255 : Int32)) b2216 (p3 &&& (255 : Int32)) (((p3.toUInt32 >>> ((8 : Int32) &&& 31).toUInt32).toInt32) &&& (255 : Int32)) (((p3.toUInt32 >>> ((16 : Int32) &&& 31).toUInt32).toInt32) &&& (255 : Int32)) ((p3.toUInt32 >>> ((24 : Int32) &&& 31).toUInt32).toInt32) h2243 n0 X2242.ge0 ge2248 (Ne.symm ne_b2144_b2240) (Ne.symm ne_b2168_b2240) (Ne.symm ne_b2192_b2240) (Ne.symm ne_b2216_b2240) A2245 F_b2240_starts F_b2240_texts F_b2240_places F_b2240_covered A2149 A2173 A2197 A2221 hn8 hk0 hk1 hk2 hk3 htx) (by decide) 1 rfl (by decide) rfl (lenOf pd_1 rfl) rfl rfl (by decide) (by decide) fun v2252 T2249 h2251 X2250 Q2253 => ?_
    obtain ⟨bb, rfl, Ec, Fc, Ac⟩ := Q2253
    show own_Go p e below _ (T2249.setTop (mkF m 278 #[iv p0, iv p1, .val (.long p2), .second, iv p3, iv p4, iv (Int32.ofNat nn), iv 1, iv tc, iv of, iv (Int32.ofNat k0), iv (Int32.ofNat k1), iv (Int32.ofNat k2), iv (Int32.ofNat k3), rv b2144, rv b2168, rv b2192, rv b2216, .unset, .unset, .unset, .unset] [(.ref b2240)]))
    refine o_astore cx X2250 (Ls' := #[iv p0, iv p1, .val (.long p2), .second, iv p3, iv p4, iv (Int32.ofNat nn), iv 1, iv tc, iv of, iv (Int32.ofNat k0), iv (Int32.ofNat k1), iv (Int32.ofNat k2), iv (Int32.ofNat k3), rv b2144, rv b2168, rv b2192, rv b2216, rv b2240, .unset, .unset, .unset]) at_278 rfl rfl ?_
    refine o_iload cx X2250 at_280 rfl ?_
    refine o_ldc cx X2250 (z := (2147483647 : Int32)) at_282 (o_w hw 32 rfl) ?_
    refine o_iand cx X2250 at_284 rfl ?_
    refine o_iload cx X2250 at_285 rfl ?_
    refine o_irem cx X2250 at_287 (own_nz32 hn1 hn8) rfl ?_
    refine o_istore cx X2250 (Ls' := #[iv p0, iv p1, .val (.long p2), .second, iv p3, iv p4, iv (Int32.ofNat nn), iv 1, iv tc, iv of, iv (Int32.ofNat k0), iv (Int32.ofNat k1), iv (Int32.ofNat k2), iv (Int32.ofNat k3), rv b2144, rv b2168, rv b2192, rv b2216, rv b2240, iv ((p4 &&& (2147483647 : Int32)) % (Int32.ofNat nn)), .unset, .unset]) at_288 rfl ?_
    obtain ⟨kq, ekq, hkq⟩ := own_qk p4 hn1 hn8
    rw [ekq]
    show own_Go p e below _ (T2249.setTop (mkF m 290 #[iv p0, iv p1, .val (.long p2), .second, iv p3, iv p4, iv (Int32.ofNat nn), iv 1, iv tc, iv of, iv (Int32.ofNat k0), iv (Int32.ofNat k1), iv (Int32.ofNat k2), iv (Int32.ofNat k3), rv b2144, rv b2168, rv b2192, rv b2216, rv b2240, iv (Int32.ofNat kq), .unset, .unset] []))
    refine o_iload cx X2250 at_290 rfl ?_
    refine o_iconst cx X2250 (z := (1 : Int32)) at_292 rfl ?_
    refine o_isub cx X2250 at_293 rfl ?_
    rw [show Int32.ofNat nn - (1 : Int32) = Int32.ofNat (nn - 1) from own_sub nn 1 hn1 (by omega)]
    show own_Go p e below _ (T2249.setTop (mkF m 294 #[iv p0, iv p1, .val (.long p2), .second, iv p3, iv p4, iv (Int32.ofNat nn), iv 1, iv tc, iv of, iv (Int32.ofNat k0), iv (Int32.ofNat k1), iv (Int32.ofNat k2), iv (Int32.ofNat k3), rv b2144, rv b2168, rv b2192, rv b2216, rv b2240, iv (Int32.ofNat kq), .unset, .unset] [(.int (Int32.ofNat (nn - 1)))]))
    refine o_istore cx X2250 (Ls' := #[iv p0, iv p1, .val (.long p2), .second, iv p3, iv p4, iv (Int32.ofNat nn), iv 1, iv tc, iv of, iv (Int32.ofNat k0), iv (Int32.ofNat k1), iv (Int32.ofNat k2), iv (Int32.ofNat k3), rv b2144, rv b2168, rv b2192, rv b2216, rv b2240, iv (Int32.ofNat kq), iv (Int32.ofNat (nn - 1)), .unset]) at_294 rfl ?_
    refine o_aload cx X2250 at_296 rfl rfl ?_
    refine o_iload cx X2250 at_298 rfl ?_
    refine o_callVp cx X2250 (y' := (⟨"com/example/rough_dedup/roughdedup/ShingleIndex$Postings", "count", "(I)I"⟩ : MethodName)) (argsL := [(.int (Int32.ofNat kq))]) (st := []) (a := b2240) at_300 (o_w hw 33 rfl) (o_w hw 34 rfl) (o_w hw 36 rfl) (o_w hw 35 rfl) (o_w hw 5 rfl) (o_w hw 37 rfl) (by decide) Ec (rcount l Z a0 hw b2240 bb nn kq [k3, k2, k1, k0] h2251 n0 X2250.ge0 Fc Ac (Nat.le_refl 4) hn8 (by omega)) (by decide) 0 rfl (by decide) rfl (lenOf pd_5 rfl) rfl rfl (by decide) (by decide) fun T2254 X2255 => ?_
    show own_Go p e below _ (T2254.setTop (mkF m 303 #[iv p0, iv p1, .val (.long p2), .second, iv p3, iv p4, iv (Int32.ofNat nn), iv 1, iv tc, iv of, iv (Int32.ofNat k0), iv (Int32.ofNat k1), iv (Int32.ofNat k2), iv (Int32.ofNat k3), rv b2144, rv b2168, rv b2192, rv b2216, rv b2240, iv (Int32.ofNat kq), iv (Int32.ofNat (nn - 1)), .unset] [(.int (Int32.ofNat (own_C [k3, k2, k1, k0] kq)))]))
    refine o_iload cx X2255 at_303 rfl ?_
    refine o_iload cx X2255 at_305 rfl ?_
    refine o_iload cx X2255 at_307 rfl ?_
    refine o_iload cx X2255 at_309 rfl ?_
    refine o_iload cx X2255 at_311 rfl ?_
    refine o_callSp cx X2255 (y' := (⟨"com/example/rough_dedup/roughdedup/PostingsCountPinLaw", "ref", "(IIIII)I"⟩ : MethodName)) (argsL := [(.int (Int32.ofNat kq)), (.int (Int32.ofNat k0)), (.int (Int32.ofNat k1)), (.int (Int32.ofNat k2)), (.int (Int32.ofNat k3))]) (st := [(.int (Int32.ofNat (own_C [k3, k2, k1, k0] kq)))]) at_313 (o_w hw 38 rfl) (o_w hw 39 rfl) (o_w hw 40 rfl) (o_w hw 41 rfl) (by decide) (rref l Z a0 hw kq k0 k1 k2 k3 h2251 n0 X2255.ge0 (by omega) (by omega) (by omega) (by omega) (by omega)) (by decide) 1 rfl (by decide) rfl (lenOf pd_6 rfl) rfl rfl (by decide) (by decide) fun T2259 X2260 => ?_
    show own_Go p e below _ (T2259.setTop (mkF m 316 #[iv p0, iv p1, .val (.long p2), .second, iv p3, iv p4, iv (Int32.ofNat nn), iv 1, iv tc, iv of, iv (Int32.ofNat k0), iv (Int32.ofNat k1), iv (Int32.ofNat k2), iv (Int32.ofNat k3), rv b2144, rv b2168, rv b2192, rv b2216, rv b2240, iv (Int32.ofNat kq), iv (Int32.ofNat (nn - 1)), .unset] [(.int (Int32.ofNat (own_C [k3, k2, k1, k0] kq))), (.int (Int32.ofNat (own_C [k3, k2, k1, k0] kq)))]))
    refine o_icmpNo cx X2260 at_316 (teq rfl).2 ?_
    refine o_iconst cx X2260 (z := (1 : Int32)) at_319 rfl ?_
    refine o_goto cx X2260 324 at_320 (by decide) (by decide) ?_
    refine o_istore cx X2260 (Ls' := #[iv p0, iv p1, .val (.long p2), .second, iv p3, iv p4, iv (Int32.ofNat nn), iv 1, iv tc, iv of, iv (Int32.ofNat k0), iv (Int32.ofNat k1), iv (Int32.ofNat k2), iv (Int32.ofNat k3), rv b2144, rv b2168, rv b2192, rv b2216, rv b2240, iv (Int32.ofNat kq), iv (Int32.ofNat (nn - 1)), iv 1]) at_324 rfl ?_
    refine o_iload cx X2260 at_326 rfl ?_
    refine o_ifNo cx X2260 at_328 (by decide) ?_
    refine o_aload cx X2260 at_331 rfl rfl ?_
    refine o_iconst cx X2260 (z := (0 : Int32)) at_333 rfl ?_
    refine o_callVp cx X2260 (y' := (⟨"com/example/rough_dedup/roughdedup/ShingleIndex$Postings", "count", "(I)I"⟩ : MethodName)) (argsL := [(.int (0 : Int32))]) (st := []) (a := b2240) at_334 (o_w hw 33 rfl) (o_w hw 34 rfl) (o_w hw 36 rfl) (o_w hw 35 rfl) (o_w hw 5 rfl) (o_w hw 37 rfl) (by decide) Ec (rcount l Z a0 hw b2240 bb nn 0 [k3, k2, k1, k0] h2251 n0 X2260.ge0 Fc Ac (Nat.le_refl 4) hn8 (by omega)) (by decide) 0 rfl (by decide) rfl (lenOf pd_5 rfl) rfl rfl (by decide) (by decide) fun T2264 X2265 => ?_
    show own_Go p e below _ (T2264.setTop (mkF m 337 #[iv p0, iv p1, .val (.long p2), .second, iv p3, iv p4, iv (Int32.ofNat nn), iv 1, iv tc, iv of, iv (Int32.ofNat k0), iv (Int32.ofNat k1), iv (Int32.ofNat k2), iv (Int32.ofNat k3), rv b2144, rv b2168, rv b2192, rv b2216, rv b2240, iv (Int32.ofNat kq), iv (Int32.ofNat (nn - 1)), iv 1] [(.int (Int32.ofNat (own_C [k3, k2, k1, k0] 0)))]))
    refine o_iconst cx X2265 (z := (0 : Int32)) at_337 rfl ?_
    refine o_iload cx X2265 at_338 rfl ?_
    refine o_iload cx X2265 at_340 rfl ?_
    refine o_iload cx X2265 at_342 rfl ?_
    refine o_iload cx X2265 at_344 rfl ?_
    refine o_callSp cx X2265 (y' := (⟨"com/example/rough_dedup/roughdedup/PostingsCountPinLaw", "ref", "(IIIII)I"⟩ : MethodName)) (argsL := [(.int (0 : Int32)), (.int (Int32.ofNat k0)), (.int (Int32.ofNat k1)), (.int (Int32.ofNat k2)), (.int (Int32.ofNat k3))]) (st := [(.int (Int32.ofNat (own_C [k3, k2, k1, k0] 0)))]) at_346 (o_w hw 38 rfl) (o_w hw 39 rfl) (o_w hw 40 rfl) (o_w hw 41 rfl) (by decide) (rref l Z a0 hw 0 k0 k1 k2 k3 h2251 n0 X2265.ge0 (by omega) (by omega) (by omega) (by omega) (by omega)) (by decide) 1 rfl (by decide) rfl (lenOf pd_6 rfl) rfl rfl (by decide) (by decide) fun T2269 X2270 => ?_
    show own_Go p e below _ (T2269.setTop (mkF m 349 #[iv p0, iv p1, .val (.long p2), .second, iv p3, iv p4, iv (Int32.ofNat nn), iv 1, iv tc, iv of, iv (Int32.ofNat k0), iv (Int32.ofNat k1), iv (Int32.ofNat k2), iv (Int32.ofNat k3), rv b2144, rv b2168, rv b2192, rv b2216, rv b2240, iv (Int32.ofNat kq), iv (Int32.ofNat (nn - 1)), iv 1] [(.int (Int32.ofNat (own_C [k3, k2, k1, k0] 0))), (.int (Int32.ofNat (own_C [k3, k2, k1, k0] 0)))]))
    refine o_icmpNo cx X2270 at_349 (teq rfl).2 ?_
    refine o_iconst cx X2270 (z := (1 : Int32)) at_352 rfl ?_
    refine o_goto cx X2270 357 at_353 (by decide) (by decide) ?_
    refine o_istore cx X2270 (Ls' := #[iv p0, iv p1, .val (.long p2), .second, iv p3, iv p4, iv (Int32.ofNat nn), iv 1, iv tc, iv of, iv (Int32.ofNat k0), iv (Int32.ofNat k1), iv (Int32.ofNat k2), iv (Int32.ofNat k3), rv b2144, rv b2168, rv b2192, rv b2216, rv b2240, iv (Int32.ofNat kq), iv (Int32.ofNat (nn - 1)), iv 1]) at_357 rfl ?_
    refine o_iload cx X2270 at_359 rfl ?_
    refine o_ifNo cx X2270 at_361 (by decide) ?_
    refine o_aload cx X2270 at_364 rfl rfl ?_
    refine o_iload cx X2270 at_366 rfl ?_
    refine o_callVp cx X2270 (y' := (⟨"com/example/rough_dedup/roughdedup/ShingleIndex$Postings", "count", "(I)I"⟩ : MethodName)) (argsL := [(.int (Int32.ofNat (nn - 1)))]) (st := []) (a := b2240) at_368 (o_w hw 33 rfl) (o_w hw 34 rfl) (o_w hw 36 rfl) (o_w hw 35 rfl) (o_w hw 5 rfl) (o_w hw 37 rfl) (by decide) Ec (rcount l Z a0 hw b2240 bb nn (nn - 1) [k3, k2, k1, k0] h2251 n0 X2270.ge0 Fc Ac (Nat.le_refl 4) hn8 (by omega)) (by decide) 0 rfl (by decide) rfl (lenOf pd_5 rfl) rfl rfl (by decide) (by decide) fun T2274 X2275 => ?_
    show own_Go p e below _ (T2274.setTop (mkF m 371 #[iv p0, iv p1, .val (.long p2), .second, iv p3, iv p4, iv (Int32.ofNat nn), iv 1, iv tc, iv of, iv (Int32.ofNat k0), iv (Int32.ofNat k1), iv (Int32.ofNat k2), iv (Int32.ofNat k3), rv b2144, rv b2168, rv b2192, rv b2216, rv b2240, iv (Int32.ofNat kq), iv (Int32.ofNat (nn - 1)), iv 1] [(.int (Int32.ofNat (own_C [k3, k2, k1, k0] (nn - 1))))]))
    refine o_iload cx X2275 at_371 rfl ?_
    refine o_iload cx X2275 at_373 rfl ?_
    refine o_iload cx X2275 at_375 rfl ?_
    refine o_iload cx X2275 at_377 rfl ?_
    refine o_iload cx X2275 at_379 rfl ?_
    refine o_callSp cx X2275 (y' := (⟨"com/example/rough_dedup/roughdedup/PostingsCountPinLaw", "ref", "(IIIII)I"⟩ : MethodName)) (argsL := [(.int (Int32.ofNat (nn - 1))), (.int (Int32.ofNat k0)), (.int (Int32.ofNat k1)), (.int (Int32.ofNat k2)), (.int (Int32.ofNat k3))]) (st := [(.int (Int32.ofNat (own_C [k3, k2, k1, k0] (nn - 1))))]) at_381 (o_w hw 38 rfl) (o_w hw 39 rfl) (o_w hw 40 rfl) (o_w hw 41 rfl) (by decide) (rref l Z a0 hw (nn - 1) k0 k1 k2 k3 h2251 n0 X2275.ge0 (by omega) (by omega) (by omega) (by omega) (by omega)) (by decide) 1 rfl (by decide) rfl (lenOf pd_6 rfl) rfl rfl (by decide) (by decide) fun T2279 X2280 => ?_
    show own_Go p e below _ (T2279.setTop (mkF m 384 #[iv p0, iv p1, .val (.long p2), .second, iv p3, iv p4, iv (Int32.ofNat nn), iv 1, iv tc, iv of, iv (Int32.ofNat k0), iv (Int32.ofNat k1), iv (Int32.ofNat k2), iv (Int32.ofNat k3), rv b2144, rv b2168, rv b2192, rv b2216, rv b2240, iv (Int32.ofNat kq), iv (Int32.ofNat (nn - 1)), iv 1] [(.int (Int32.ofNat (own_C [k3, k2, k1, k0] (nn - 1)))), (.int (Int32.ofNat (own_C [k3, k2, k1, k0] (nn - 1))))]))
    refine o_icmpNo cx X2280 at_384 (teq rfl).2 ?_
    refine o_iconst cx X2280 (z := (1 : Int32)) at_387 rfl ?_
    refine o_goto cx X2280 392 at_388 (by decide) (by decide) ?_
    refine o_istore cx X2280 (Ls' := #[iv p0, iv p1, .val (.long p2), .second, iv p3, iv p4, iv (Int32.ofNat nn), iv 1, iv tc, iv of, iv (Int32.ofNat k0), iv (Int32.ofNat k1), iv (Int32.ofNat k2), iv (Int32.ofNat k3), rv b2144, rv b2168, rv b2192, rv b2216, rv b2240, iv (Int32.ofNat kq), iv (Int32.ofNat (nn - 1)), iv 1]) at_392 rfl ?_
    refine o_iload cx X2280 at_394 rfl ?_
    refine o_ifNo cx X2280 at_396 (by decide) ?_
    refine o_aload cx X2280 at_399 rfl rfl ?_
    refine o_callVp cx X2280 (y' := (⟨"com/example/rough_dedup/roughdedup/ShingleIndex$Postings", "rankCount", "()I"⟩ : MethodName)) (argsL := []) (st := []) (a := b2240) at_401 (o_w hw 42 rfl) (o_w hw 43 rfl) (o_w hw 45 rfl) (o_w hw 44 rfl) (o_w hw 5 rfl) (o_w hw 46 rfl) (by decide) Ec (rrc l Z a0 hw b2240 bb nn [k3, k2, k1, k0] h2251 n0 X2280.ge0 Fc Ac hn8) (by decide) 0 rfl (by decide) rfl (lenOf pd_7 rfl) rfl rfl (by decide) (by decide) fun T2284 X2285 => ?_
    show own_Go p e below _ (T2284.setTop (mkF m 404 #[iv p0, iv p1, .val (.long p2), .second, iv p3, iv p4, iv (Int32.ofNat nn), iv 1, iv tc, iv of, iv (Int32.ofNat k0), iv (Int32.ofNat k1), iv (Int32.ofNat k2), iv (Int32.ofNat k3), rv b2144, rv b2168, rv b2192, rv b2216, rv b2240, iv (Int32.ofNat kq), iv (Int32.ofNat (nn - 1)), iv 1] [(.int (Int32.ofNat nn))]))
    refine o_iload cx X2285 at_404 rfl ?_
    refine o_icmpNo cx X2285 at_406 (teq rfl).2 ?_
    refine o_iconst cx X2285 (z := (1 : Int32)) at_409 rfl ?_
    refine o_goto cx X2285 414 at_410 (by decide) (by decide) ?_
    refine o_istore cx X2285 (Ls' := #[iv p0, iv p1, .val (.long p2), .second, iv p3, iv p4, iv (Int32.ofNat nn), iv 1, iv tc, iv of, iv (Int32.ofNat k0), iv (Int32.ofNat k1), iv (Int32.ofNat k2), iv (Int32.ofNat k3), rv b2144, rv b2168, rv b2192, rv b2216, rv b2240, iv (Int32.ofNat kq), iv (Int32.ofNat (nn - 1)), iv 1]) at_414 rfl ?_
    refine o_iload cx X2285 at_416 rfl ?_
    exact o_retN cx X2285 (z' := (1 : Int32)) at_418 (by simp) rfl rfl (by decide) (by decide)
set_option maxRecDepth 65536 in
set_option maxHeartbeats 40000000 in
theorem comes_1 {Post : Tables → Env → Array Value → State → Outcome → State → Prop} (hpost : ∀ tb e args s v u, (limb_1_1.after args s (.returned v) u = true ∧ limb_1_2.after args s (.returned v) u = true ∧ True) → FrameEnd s (.returned v) u (Jvm.fieldLocs frame_1_writes args s ++ Jvm.arrayLocs frame_1_arrays args s ++ Jvm.staticLocs frame_1_statics s) 32 192 → Post tb e args s (.returned v) u) :
    ArmFor flags0 classFile x code maxLocals ret World_1 tables_1 room_1 Calls_1 rest_1 Pre_1 Post := by
  intro l hfl _ _ p e ha hc hk s m args below hf hA hF happ hP
  obtain ⟨hcalls, hrest, hpre⟩ := hP
  obtain ⟨-, -, -, hnamed, -, -, -, hat⟩ := (Spec.applies_iff hf).mp happ
  obtain ⟨hg, hn⟩ := and_e (Cond.before_iff.mp (show (Jvm.Cond.and given_1 narrow_1).before args s = true from hpre))
  obtain ⟨q0, g0⟩ := and_e hg
  obtain ⟨q1, g1⟩ := and_e g0
  obtain ⟨q2, g2⟩ := and_e g1
  obtain ⟨q3, g3⟩ := and_e g2
  obtain ⟨q4, g4⟩ := and_e g3
  obtain ⟨w0, w1, w2, w3, w4, rfl⟩ : ∃ w0 w1 w2 w3 w4 : Value, args = #[w0, w1, w2, w3, w4] := by
    have hs : args.size = 5 := by simpa [Cond.value, given_1] using q0
    obtain ⟨L⟩ := args
    match L, hs with
    | [w0, w1, w2, w3, w4], _ => exact ⟨w0, w1, w2, w3, w4, rfl⟩
  have hw := fun d (hd : d ∈ tables_1) => atoms_spec (ws := Jvm.Cond.code x code maxLocals ret :: tables_1) hat d (List.mem_cons_of_mem _ hd)
  obtain ⟨i0, ei0⟩ := is_v q1
  obtain rfl : w0 = (.int i0) := Option.some.inj ei0
  obtain ⟨i1, ei1⟩ := is_v q2
  obtain rfl : w1 = (.int i1) := Option.some.inj ei1
  obtain ⟨i2, ei2⟩ := isL_v q3
  obtain rfl : w2 = (.long i2) := Option.some.inj ei2
  obtain ⟨i3, ei3⟩ := is_v q4
  obtain rfl : w3 = (.int i3) := Option.some.inj ei3
  obtain ⟨i4, ei4⟩ := is_v g4
  obtain rfl : w4 = (.int i4) := Option.some.inj ei4
  obtain ⟨n, o, h1, h2, h3, v, L, rfl, ⟨hv, _, N⟩, hq⟩ := rm0 l s _ hw i0 i1 i2 i3 i4 s.heap s.heap.size (Nat.le_refl _) tables_1 p e ha hc hk s m _ below hf ((Spec.applies_iff_loose hf).mp happ).1 ⟨rfl, State.Warmed39.refl s, rfl⟩ trivial
  obtain rfl : v = some (.int 1) := hv
  refine ⟨n, _, h1, h2, h3, hpost _ _ _ _ _ _ ⟨Cond.after_iff.mpr rfl, Cond.after_iff.mpr (eq_i res_at (Term.int_eval (1)) rfl), trivial⟩ ⟨hq.1, hq.2.1, (hq.2.2.sift fun y hy => Or.inr (N y hy)).mono (by decide) (by decide)⟩⟩
theorem main_1_1 : Claimed_1_1 := comes_1 fun _ _ _ _ _ _ h hF => ⟨h.1, hF⟩
theorem main_1_2 : Claimed_1_2 := comes_1 fun _ _ _ _ _ _ h hF => ⟨h.2.1, hF⟩
end Jvm.Pilot.@@N@@
namespace Jvm.Pilot.@@N@@
open Jvm Jvm.ClassFile Sem Op Lib Jvm.Free Jvm.Stand Jvm.Pilot.@@N@@.Jvm.D
/-! MADE BY PROGRAM (witnessworld.py) out of the Statement's table words and the real class files: 12 classes; the members and pool entries that the words name. The judged class is class 1, her method 2. -/
namespace start1
open Jvm.ClassFile
def u (s : String) : CpInfo := .utf8 (stringToUtf16 s)
/-- a pool by its gaps: so many unusable entries, then the entry; so many at the end -/
def gap : Nat → List CpInfo → List CpInfo
  | 0, r => r
  | n + 1, r => .unusable :: gap n r
def poolList (es : List (Nat × CpInfo)) (last : Nat) : List CpInfo := es.foldr (fun e r => gap e.1 (e.2 :: r)) (gap last [])
def pool (es : List (Nat × CpInfo)) (last : Nat) : Array CpInfo := ⟨poolList es last⟩
def fileOf (pool : Array CpInfo) (this : Nat) (attrs : Array Attribute := #[]) (ms : Array MethodInfo := #[]) (fl : Nat := 33) (sup : Nat := 0) (ifs : Array Nat := #[]) (fds : Array FieldInfo := #[]) : ClassFile where
  minorVersion := 0
  majorVersion := 65
  constantPool := pool
  accessFlags := fl
  thisClass := this
  superClass := sup
  interfaces := ifs
  fields := fds
  methods := ms
  attributes := attrs
def plain (name : String) (sup : Option ClassId) : Class where
  name := name
  kind := .ordinary
  loader := none
  accessFlags := 33
  super := sup
  interfaces := #[]
  cf := none
  fields := #[]
  methods := #[]
  instanceTypes := #[]
  staticTypes := #[]
  resolved := #[]
  callSites := []
  init := .initialized
  statics := none
  mirror := none

def pool0 : Array CpInfo := pool [(5, u "<init>"), (0, u "()V"), (1, .class_ 10), (1, u "java/lang/Object")] 113

def k0c0 : Code := { maxStack := 0, maxLocals := 1, code := object_method_1_code, exceptionTable := #[], attributes := #[] }
def k0m0 : Method := { name := "<init>", desc := "()V", sig := { parameters := [], returnType := none }, accessFlags := 1, code := some k0c0 }
/-- java/lang/Object -/
def k0 : Class := { plain "java/lang/Object" none with
  accessFlags := 33
  interfaces := #[]
  cf := some (fileOf pool0 8 #[] #[{ accessFlags := 1, nameIndex := 5, descriptorIndex := 6, attributes := #[] }] 33 0 #[] #[])
  fields := #[]
  methods := #[k0m0]
  instanceTypes := #[]
  staticTypes := #[]
  resolved := Array.replicate 124 none
  statics := none }

def pool1 : Array CpInfo := pool [(2, .class_ 4), (1, u "java/lang/Object"), (0, u "<init>"), (0, u "()V"), (0, .long 65535), (1, .integer 65535), (0, .class_ 11), (0, u "com/example/rough_dedup/roughdedup/ShingleIndex$Postings"), (0, .methodref 10 13), (0, .nameAndType 5 14), (0, u "(II[I[I[I[I)V"), (0, .integer 2147483647), (0, .methodref 10 17), (0, .nameAndType 18 19), (0, u "count"), (0, u "(I)I"), (0, .methodref 21 22), (0, .class_ 23), (0, .nameAndType 24 25), (0, u "com/example/rough_dedup/roughdedup/PostingsCountPinLaw"), (0, u "ref"), (0, u "(IIIII)I"), (0, .methodref 10 27), (0, .nameAndType 28 29), (0, u "rankCount"), (0, u "()I"), (3, u "law"), (0, u "(IIJII)Z")] 8

def k1m0 : Method := { name := "<init>", desc := "()V", sig := { parameters := [], returnType := none }, accessFlags := 1, code := none }
def k1c1 : Code := { maxStack := 2, maxLocals := 6, code := method_2_code, exceptionTable := #[], attributes := #[] }
def k1m1 : Method := { name := "ref", desc := "(IIIII)I", sig := { parameters := [.int, .int, .int, .int, .int], returnType := some .int }, accessFlags := 10, code := some k1c1 }
def k1c2 : Code := { maxStack := 8, maxLocals := 22, code := code, exceptionTable := #[], attributes := #[] }
def k1m2 : Method := { name := "law", desc := "(IIJII)Z", sig := { parameters := [.int, .int, .long, .int, .int], returnType := some .boolean }, accessFlags := 9, code := some k1c2 }
/-- com/example/rough_dedup/roughdedup/PostingsCountPinLaw -/
def k1 : Class := { plain "com/example/rough_dedup/roughdedup/PostingsCountPinLaw" (some 0) with
  accessFlags := 49
  interfaces := #[]
  cf := some (fileOf pool1 21 #[] #[{ accessFlags := 1, nameIndex := 5, descriptorIndex := 6, attributes := #[] }, { accessFlags := 10, nameIndex := 24, descriptorIndex := 25, attributes := #[] }, { accessFlags := 9, nameIndex := 33, descriptorIndex := 34, attributes := #[] }] 49 2 #[] #[])
  fields := #[]
  methods := #[k1m0, k1m1, k1m2]
  instanceTypes := #[]
  staticTypes := #[]
  resolved := Array.replicate 43 none
  statics := none }

def pool2 : Array CpInfo := pool [(1, .methodref 2 3), (0, .class_ 4), (0, .nameAndType 5 6), (0, u "java/lang/Object"), (0, u "<init>"), (0, u "()V"), (0, .fieldref 8 9), (0, .class_ 10), (0, .nameAndType 11 12), (0, u "com/example/rough_dedup/roughdedup/ShingleIndex$Postings"), (0, u "starts"), (0, u "[I"), (0, .fieldref 8 14), (0, .nameAndType 15 12), (0, u "texts"), (0, .fieldref 8 17), (0, .nameAndType 18 12), (0, u "places"), (0, .fieldref 8 20), (0, .nameAndType 21 12), (0, u "covered"), (0, .methodref 23 24), (0, .class_ 25), (0, .nameAndType 26 27), (0, u "java/util/Arrays"), (0, u "copyOf"), (0, u "([II)[I"), (7, u "(II[I[I[I[I)V"), (0, u "count"), (0, u "(I)I"), (0, u "rankCount"), (0, u "()I"), (3, .class_ 44), (0, u "com/example/rough_dedup/roughdedup/ShingleIndex")] 2

def k2c0 : Code := { maxStack := 6, maxLocals := 15, code := prog_28_method_2_code, exceptionTable := #[], attributes := #[] }
def k2m0 : Method := { name := "<init>", desc := "(II[I[I[I[I)V", sig := { parameters := [.int, .int, (.array .int), (.array .int), (.array .int), (.array .int)], returnType := none }, accessFlags := 0, code := some k2c0 }
def k2c1 : Code := { maxStack := 3, maxLocals := 2, code := prog_28_method_3_code, exceptionTable := #[], attributes := #[] }
def k2m1 : Method := { name := "count", desc := "(I)I", sig := { parameters := [.int], returnType := some .int }, accessFlags := 0, code := some k2c1 }
def k2c2 : Code := { maxStack := 2, maxLocals := 1, code := prog_28_method_4_code, exceptionTable := #[], attributes := #[] }
def k2m2 : Method := { name := "rankCount", desc := "()I", sig := { parameters := [], returnType := some .int }, accessFlags := 0, code := some k2c2 }
/-- com/example/rough_dedup/roughdedup/ShingleIndex$Postings -/
def k2 : Class := { plain "com/example/rough_dedup/roughdedup/ShingleIndex$Postings" (some 0) with
  accessFlags := 48
  interfaces := #[]
  cf := some (fileOf pool2 8 #[.nestHost 43] #[{ accessFlags := 0, nameIndex := 5, descriptorIndex := 35, attributes := #[] }, { accessFlags := 0, nameIndex := 36, descriptorIndex := 37, attributes := #[] }, { accessFlags := 0, nameIndex := 38, descriptorIndex := 39, attributes := #[] }] 48 2 #[] #[{ accessFlags := 18, nameIndex := 11, descriptorIndex := 12, attributes := #[] }, { accessFlags := 18, nameIndex := 15, descriptorIndex := 12, attributes := #[] }, { accessFlags := 18, nameIndex := 18, descriptorIndex := 12, attributes := #[] }, { accessFlags := 18, nameIndex := 21, descriptorIndex := 12, attributes := #[] }])
  fields := #[{ name := "starts", type := (.array .int), accessFlags := 18, slot := 0, constantValue := 0 }, { name := "texts", type := (.array .int), accessFlags := 18, slot := 1, constantValue := 0 }, { name := "places", type := (.array .int), accessFlags := 18, slot := 2, constantValue := 0 }, { name := "covered", type := (.array .int), accessFlags := 18, slot := 3, constantValue := 0 }]
  methods := #[k2m0, k2m1, k2m2]
  instanceTypes := #[(.array .int), (.array .int), (.array .int), (.array .int)]
  staticTypes := #[]
  resolved := Array.replicate 47 none
  statics := none }

def pool3 : Array CpInfo := pool [(2, .class_ 4), (1, u "java/lang/Object"), (0, u "<init>"), (0, u "()V"), (7, .class_ 16), (1, u "java/util/Arrays"), (57, .class_ 76), (1, u "java/util/Arrays$NaturalOrder"), (36, .class_ 115), (1, u "java/util/Arrays$LegacyMergeSort"), (1, u "Z"), (32, .methodref 151 152), (0, .class_ 153), (0, .nameAndType 154 155), (0, u "java/lang/System"), (0, u "arraycopy"), (0, u "(Ljava/lang/Object;ILjava/lang/Object;II)V"), (146, u "copyOf"), (1, .methodref 305 306), (0, .class_ 307), (0, .nameAndType 308 309), (0, u "java/lang/Math"), (0, u "min"), (0, u "(II)I"), (65, .class_ 376), (0, u "java/util/Arrays$ArrayList"), (68, u "$assertionsDisabled"), (269, u "MIN_ARRAY_SORT_GRAN"), (0, u "I"), (2, u "INSERTIONSORT_THRESHOLD"), (151, u "([II)[I"), (103, .class_ 976), (0, u "java/util/Arrays$ArrayItr")] 52

def k3m0 : Method := { name := "<init>", desc := "()V", sig := { parameters := [], returnType := none }, accessFlags := 2, code := none }
def k3c1 : Code := { maxStack := 6, maxLocals := 3, code := jdk_65_method_123_code, exceptionTable := #[], attributes := #[] }
def k3m1 : Method := { name := "copyOf", desc := "([II)[I", sig := { parameters := [(.array .int), .int], returnType := some (.array .int) }, accessFlags := 9, code := some k3c1 }
/-- java/util/Arrays -/
def k3 : Class := { plain "java/util/Arrays" (some 0) with
  accessFlags := 49
  interfaces := #[]
  cf := some (fileOf pool3 14 #[.nestMembers #[975, 375, 113, 74]] #[{ accessFlags := 2, nameIndex := 5, descriptorIndex := 6, attributes := #[] }, { accessFlags := 9, nameIndex := 302, descriptorIndex := 871, attributes := #[] }] 49 2 #[] #[{ accessFlags := 26, nameIndex := 715, descriptorIndex := 716, attributes := #[] }, { accessFlags := 26, nameIndex := 719, descriptorIndex := 716, attributes := #[] }, { accessFlags := 4120, nameIndex := 445, descriptorIndex := 117, attributes := #[] }])
  fields := #[{ name := "MIN_ARRAY_SORT_GRAN", type := .int, accessFlags := 26, slot := 0, constantValue := 0 }, { name := "INSERTIONSORT_THRESHOLD", type := .int, accessFlags := 26, slot := 1, constantValue := 0 }, { name := "$assertionsDisabled", type := .boolean, accessFlags := 4120, slot := 2, constantValue := 0 }]
  methods := #[k3m0, k3m1]
  instanceTypes := #[]
  staticTypes := #[.int, .int, .boolean]
  resolved := Array.replicate 1029 none
  statics := none }

def pool4 : Array CpInfo := pool [(1, .class_ 2), (0, u "java/lang/Math"), (1, .class_ 6), (1, u "java/lang/Object"), (0, u "<init>"), (0, u "()V"), (89, .class_ 100), (1, u "java/lang/Math$RandomNumberGeneratorHolder"), (71, u "negativeZeroFloatBits"), (0, u "J"), (2, u "negativeZeroDoubleBits"), (24, u "min"), (43, u "$assertionsDisabled"), (0, u "Z"), (88, u "(II)I"), (2, u "twoToTheDoubleScaleDown"), (0, u "D"), (4, u "twoToTheDoubleScaleUp"), (9, u "E"), (3, u "PI"), (2, u "TAU"), (2, u "DEGREES_TO_RADIANS"), (0, u "RADIANS_TO_DEGREES")] 94

def k4m0 : Method := { name := "<init>", desc := "()V", sig := { parameters := [], returnType := none }, accessFlags := 2, code := none }
def k4c1 : Code := { maxStack := 2, maxLocals := 2, code := jdk_29_method_69_code, exceptionTable := #[], attributes := #[] }
def k4m1 : Method := { name := "min", desc := "(II)I", sig := { parameters := [.int, .int], returnType := some .int }, accessFlags := 9, code := some k4c1 }
/-- java/lang/Math -/
def k4 : Class := { plain "java/lang/Math" (some 0) with
  accessFlags := 49
  interfaces := #[]
  cf := some (fileOf pool4 1 #[.nestMembers #[98]] #[{ accessFlags := 2, nameIndex := 7, descriptorIndex := 8, attributes := #[] }, { accessFlags := 9, nameIndex := 201, descriptorIndex := 335, attributes := #[] }] 49 4 #[] #[{ accessFlags := 25, nameIndex := 354, descriptorIndex := 339, attributes := #[] }, { accessFlags := 25, nameIndex := 358, descriptorIndex := 339, attributes := #[] }, { accessFlags := 25, nameIndex := 361, descriptorIndex := 339, attributes := #[] }, { accessFlags := 26, nameIndex := 364, descriptorIndex := 339, attributes := #[] }, { accessFlags := 26, nameIndex := 365, descriptorIndex := 339, attributes := #[] }, { accessFlags := 26, nameIndex := 172, descriptorIndex := 173, attributes := #[] }, { accessFlags := 26, nameIndex := 176, descriptorIndex := 173, attributes := #[] }, { accessFlags := 8, nameIndex := 344, descriptorIndex := 339, attributes := #[] }, { accessFlags := 8, nameIndex := 338, descriptorIndex := 339, attributes := #[] }, { accessFlags := 4120, nameIndex := 245, descriptorIndex := 246, attributes := #[] }])
  fields := #[{ name := "E", type := .double, accessFlags := 25, slot := 0, constantValue := 0 }, { name := "PI", type := .double, accessFlags := 25, slot := 1, constantValue := 0 }, { name := "TAU", type := .double, accessFlags := 25, slot := 2, constantValue := 0 }, { name := "DEGREES_TO_RADIANS", type := .double, accessFlags := 26, slot := 3, constantValue := 0 }, { name := "RADIANS_TO_DEGREES", type := .double, accessFlags := 26, slot := 4, constantValue := 0 }, { name := "negativeZeroFloatBits", type := .long, accessFlags := 26, slot := 5, constantValue := 0 }, { name := "negativeZeroDoubleBits", type := .long, accessFlags := 26, slot := 6, constantValue := 0 }, { name := "twoToTheDoubleScaleUp", type := .double, accessFlags := 8, slot := 7, constantValue := 0 }, { name := "twoToTheDoubleScaleDown", type := .double, accessFlags := 8, slot := 8, constantValue := 0 }, { name := "$assertionsDisabled", type := .boolean, accessFlags := 4120, slot := 9, constantValue := 0 }]
  methods := #[k4m0, k4m1]
  instanceTypes := #[]
  staticTypes := #[.double, .double, .double, .double, .double, .long, .long, .double, .double, .boolean]
  resolved := Array.replicate 460 none
  statics := none }

def pool5 : Array CpInfo := pool [(2, .class_ 4), (1, u "java/lang/Object"), (0, u "<init>"), (0, u "()V"), (1, .class_ 10), (1, u "java/lang/System"), (0, u "allowSecurityManager"), (0, u "I"), (16, u "cons"), (0, u "Ljava/io/Console;"), (77, .class_ 110), (1, u "java/lang/System$CallersHolder"), (43, u "initialErrStream"), (0, u "Ljava/io/PrintStream;"), (19, u "security"), (0, u "Ljava/lang/SecurityManager;"), (31, .class_ 209), (0, u "java/lang/System$1"), (7, u "props"), (0, u "Ljava/util/Properties;"), (2, u "lineSeparator"), (0, u "Ljava/lang/String;"), (96, .class_ 321), (1, u "java/lang/System$LoggerFinder"), (5, .class_ 328), (0, u "java/lang/System$Logger"), (67, u "err"), (2, u "out"), (91, u "notSupportedJnuEncoding"), (15, u "in"), (17, u "initialIn"), (0, u "Ljava/io/InputStream;"), (35, u "bootLayer"), (0, u "Ljava/lang/ModuleLayer;"), (99, .class_ 664), (0, u "java/lang/System$2"), (9, u "NEVER"), (2, u "MAYBE"), (49, u "arraycopy"), (0, u "(Ljava/lang/Object;ILjava/lang/Object;II)V"), (72, .class_ 802), (0, u "java/lang/System$Logger$Level")] 31

def k5m0 : Method := { name := "<init>", desc := "()V", sig := { parameters := [], returnType := none }, accessFlags := 2, code := none }
def k5m1 : Method := { name := "arraycopy", desc := "(Ljava/lang/Object;ILjava/lang/Object;II)V", sig := { parameters := [(.object "java/lang/Object"), .int, (.object "java/lang/Object"), .int, .int], returnType := none }, accessFlags := 265, code := none }
/-- java/lang/System -/
def k5 : Class := { plain "java/lang/System" (some 0) with
  accessFlags := 49
  interfaces := #[]
  cf := some (fileOf pool5 8 #[.nestMembers #[319, 327, 801, 108, 663, 208]] #[{ accessFlags := 2, nameIndex := 5, descriptorIndex := 6, attributes := #[] }, { accessFlags := 265, nameIndex := 727, descriptorIndex := 728, attributes := #[] }] 49 2 #[] #[{ accessFlags := 25, nameIndex := 507, descriptorIndex := 526, attributes := #[] }, { accessFlags := 25, nameIndex := 399, descriptorIndex := 155, attributes := #[] }, { accessFlags := 25, nameIndex := 396, descriptorIndex := 155, attributes := #[] }, { accessFlags := 10, nameIndex := 525, descriptorIndex := 526, attributes := #[] }, { accessFlags := 26, nameIndex := 674, descriptorIndex := 12, attributes := #[] }, { accessFlags := 26, nameIndex := 677, descriptorIndex := 12, attributes := #[] }, { accessFlags := 10, nameIndex := 11, descriptorIndex := 12, attributes := #[] }, { accessFlags := 74, nameIndex := 175, descriptorIndex := 176, attributes := #[] }, { accessFlags := 10, nameIndex := 491, descriptorIndex := 222, attributes := #[] }, { accessFlags := 74, nameIndex := 29, descriptorIndex := 30, attributes := #[] }, { accessFlags := 74, nameIndex := 154, descriptorIndex := 155, attributes := #[] }, { accessFlags := 10, nameIndex := 217, descriptorIndex := 218, attributes := #[] }, { accessFlags := 10, nameIndex := 221, descriptorIndex := 222, attributes := #[] }, { accessFlags := 8, nameIndex := 562, descriptorIndex := 563, attributes := #[] }])
  fields := #[{ name := "in", type := (.object "java/io/InputStream"), accessFlags := 25, slot := 0, constantValue := 0 }, { name := "out", type := (.object "java/io/PrintStream"), accessFlags := 25, slot := 1, constantValue := 0 }, { name := "err", type := (.object "java/io/PrintStream"), accessFlags := 25, slot := 2, constantValue := 0 }, { name := "initialIn", type := (.object "java/io/InputStream"), accessFlags := 10, slot := 3, constantValue := 0 }, { name := "NEVER", type := .int, accessFlags := 26, slot := 4, constantValue := 0 }, { name := "MAYBE", type := .int, accessFlags := 26, slot := 5, constantValue := 0 }, { name := "allowSecurityManager", type := .int, accessFlags := 10, slot := 6, constantValue := 0 }, { name := "security", type := (.object "java/lang/SecurityManager"), accessFlags := 74, slot := 7, constantValue := 0 }, { name := "notSupportedJnuEncoding", type := (.object "java/lang/String"), accessFlags := 10, slot := 8, constantValue := 0 }, { name := "cons", type := (.object "java/io/Console"), accessFlags := 74, slot := 9, constantValue := 0 }, { name := "initialErrStream", type := (.object "java/io/PrintStream"), accessFlags := 74, slot := 10, constantValue := 0 }, { name := "props", type := (.object "java/util/Properties"), accessFlags := 10, slot := 11, constantValue := 0 }, { name := "lineSeparator", type := (.object "java/lang/String"), accessFlags := 10, slot := 12, constantValue := 0 }, { name := "bootLayer", type := (.object "java/lang/ModuleLayer"), accessFlags := 8, slot := 13, constantValue := 0 }]
  methods := #[k5m0, k5m1]
  instanceTypes := #[]
  staticTypes := #[(.object "java/io/InputStream"), (.object "java/io/PrintStream"), (.object "java/io/PrintStream"), (.object "java/io/InputStream"), .int, .int, .int, (.object "java/lang/SecurityManager"), (.object "java/lang/String"), (.object "java/io/Console"), (.object "java/io/PrintStream"), (.object "java/util/Properties"), (.object "java/lang/String"), (.object "java/lang/ModuleLayer")]
  resolved := Array.replicate 834 none
  statics := none }

def pool6 : Array CpInfo := pool [(1, u "java/lang/Cloneable"), (0, .class_ 1), (0, u "java/lang/Object"), (0, .class_ 3)] 3

/-- java/lang/Cloneable -/
def k6 : Class := { plain "java/lang/Cloneable" (some 0) with
  accessFlags := 1537
  interfaces := #[]
  cf := some (fileOf pool6 2 #[] #[] 1537 4 #[] #[])
  fields := #[]
  methods := #[]
  instanceTypes := #[]
  staticTypes := #[]
  resolved := Array.replicate 8 none
  statics := none }

def pool7 : Array CpInfo := pool [(1, u "java/io/Serializable"), (0, .class_ 1), (0, u "java/lang/Object"), (0, .class_ 3)] 3

/-- java/io/Serializable -/
def k7 : Class := { plain "java/io/Serializable" (some 0) with
  accessFlags := 1537
  interfaces := #[]
  cf := some (fileOf pool7 2 #[] #[] 1537 4 #[] #[])
  fields := #[]
  methods := #[]
  instanceTypes := #[]
  staticTypes := #[]
  resolved := Array.replicate 8 none
  statics := none }

/-- the primitive byte -/
def k8 : Class := { plain "byte" none with kind := .primitive 'B', accessFlags := 0x411 }
/-- [B -/
def k9 : Class := { plain "[B" (some 0) with kind := .array 8 .byte, interfaces := #[6, 7], accessFlags := 1041 }

/-- the primitive int -/
def k10 : Class := { plain "int" none with kind := .primitive 'I', accessFlags := 0x411 }
/-- [I -/
def k11 : Class := { plain "[I" (some 0) with kind := .array 10 .int, interfaces := #[6, 7], accessFlags := 1041 }

def heap : Heap := #[]
def classes : Array Class := #[k0, k1, k2, k3, k4, k5, k6, k7, k8, k9, k10, k11]
def interned : List (Array UInt16 × Addr) := []
def slotsUsed : Nat := 0
def theMethod : MethodId := ⟨1, 2⟩
def args0 : Array Value := #[.int 5, .int 3, .long 4, .int 2, .int 1]
def aboutOver (below : List Frame) : State where
  vm := { classes := classes, interned := interned.toArray }
  heap := heap
  slotsUsed := slotsUsed
  threads := #[{ frames := .invoking theMethod args0 :: below }]
def below0 : List Frame := [.native { method := ⟨0, 0⟩, args := #[] }]
def about1 : State := aboutOver below0
def p0 : Program := .bare "" "" ""
def e0 : Env := launch0.env 0 0 0
theorem w_frames : about1.frames = Frame.invoking theMethod args0 :: below0 := rfl
set_option maxRecDepth 65536 in
theorem w_args : argsFit about1.vm theMethod args0 = true := by decide +kernel
set_option maxRecDepth 65536 in
theorem w_heap : heapFits about1 = true := by decide +kernel
set_option maxRecDepth 65536 in
theorem w_runnable : about1.curStatus? = some .runnable := by decide +kernel
set_option maxRecDepth 65536 in
theorem w_alone : about1.alone = true := by decide +kernel
set_option maxRecDepth 65536 in
theorem w_named : about1.methodNamed? x = some theMethod := by decide +kernel
set_option maxRecDepth 65536 in
theorem w_hears : about1.hears theMethod below0 = true := by decide +kernel
set_option maxRecDepth 65536 in
theorem w_ripe : about1.ripe theMethod args0 below0 = true := by decide +kernel
theorem w_running : about1.status = .running := rfl
set_option maxRecDepth 65536 in
theorem w_room : about1.hasRoom e0.platform room_1 = true :=
  launch0.hasRoom_least _ room_1 (by decide +kernel) (by decide +kernel) (by decide +kernel) (by decide +kernel) (by decide +kernel) (by decide +kernel)
theorem allAtoms_all (ts : List Jvm.Cond) (a : Array Jvm.Value) (st : Jvm.State) : (allAtoms ts).before a st = ts.all (fun c => c.before a st) := by
  induction ts with
  | nil => rfl
  | cons c t ih =>
    show (Jvm.Cond.and c (allAtoms t)).before a st = _
    rw [Jvm.Cond.before_and, ih, List.all_cons]
def words1 : List Jvm.Cond := Jvm.Cond.code x code maxLocals ret :: tables_1
/-- a 'code' word, met by the world's own term for the bytes: nothing is compared byte by byte -/
theorem code_word {y : MethodName} {bytes : ByteArray} {mx : Nat} {rt : Option FieldType} {a : Array Value} {s : State} {m : MethodId} {meth : Method} {c : Code} (h1 : s.methodNamed? y = some m) (h2 : s.vm.method? m = some meth) (h3 : meth.code = some c) (h4 : c.code = bytes)
    (h5 : (c.maxLocals == mx && c.exceptionTable.isEmpty && decide (c.maxStack ≤ mostOperands) && decide (meth.sig.returnType = rt) && !meth.locks && decide (parseMethodDescriptor y.desc = some meth.sig)) = true) : (Jvm.Cond.code y bytes mx rt).before a s = true := by
  simp only [Bool.and_eq_true, beq_iff_eq, Bool.not_eq_true', decide_eq_true_eq] at h5
  obtain ⟨⟨⟨⟨⟨g1, g2⟩, g3⟩, g4⟩, g5⟩, g6⟩ := h5
  simp [Cond.before, Cond.holds, Cond.value, h1, h2, h3, h4, g1, g2, g3, g4, g5, g6]
def isCode : Jvm.Cond → Bool
  | .code _ _ _ _ => true
  | _ => false
theorem all_split {L : List Jvm.Cond} {P : Jvm.Cond → Bool} (h1 : L.all (fun c => isCode c || P c) = true) (h2 : ∀ c ∈ L.filter isCode, P c = true) : L.all P = true := by
  refine List.all_eq_true.mpr fun c hc => ?_
  have h := List.all_eq_true.mp h1 c hc
  rcases Bool.eq_false_or_eq_true (isCode c) with hi | hi
  · exact h2 c (List.mem_filter.mpr ⟨hc, hi⟩)
  · simpa [hi] using h
set_option maxRecDepth 65536 in
theorem w_c0 : (Jvm.Cond.code x code maxLocals ret).before args0 about1 = true := code_word (m := ⟨1, 2⟩) (meth := k1m2) (c := k1c2) (by decide +kernel) rfl rfl rfl (by decide +kernel)
set_option maxRecDepth 65536 in
theorem w_c1 : (Jvm.Cond.code ({ cls := "com/example/rough_dedup/roughdedup/ShingleIndex$Postings", name := "<init>", desc := "(II[I[I[I[I)V" } : Jvm.MethodName) prog_28_method_2_code (15 : Nat) (Option.none : Option Jvm.ClassFile.FieldType)).before args0 about1 = true := code_word (m := ⟨2, 0⟩) (meth := k2m0) (c := k2c0) (by decide +kernel) rfl rfl rfl (by decide +kernel)
set_option maxRecDepth 65536 in
theorem w_c2 : (Jvm.Cond.code ({ cls := "java/lang/Object", name := "<init>", desc := "()V" } : Jvm.MethodName) object_method_1_code (1 : Nat) (Option.none : Option Jvm.ClassFile.FieldType)).before args0 about1 = true := code_word (m := ⟨0, 0⟩) (meth := k0m0) (c := k0c0) (by decide +kernel) rfl rfl rfl (by decide +kernel)
set_option maxRecDepth 65536 in
theorem w_c3 : (Jvm.Cond.code ({ cls := "java/util/Arrays", name := "copyOf", desc := "([II)[I" } : Jvm.MethodName) jdk_65_method_123_code (3 : Nat) (Option.some (Jvm.ClassFile.FieldType.array Jvm.ClassFile.FieldType.int))).before args0 about1 = true := code_word (m := ⟨3, 1⟩) (meth := k3m1) (c := k3c1) (by decide +kernel) rfl rfl rfl (by decide +kernel)
set_option maxRecDepth 65536 in
theorem w_c4 : (Jvm.Cond.code ({ cls := "java/lang/Math", name := "min", desc := "(II)I" } : Jvm.MethodName) jdk_29_method_69_code (2 : Nat) (Option.some Jvm.ClassFile.FieldType.int)).before args0 about1 = true := code_word (m := ⟨4, 1⟩) (meth := k4m1) (c := k4c1) (by decide +kernel) rfl rfl rfl (by decide +kernel)
set_option maxRecDepth 65536 in
theorem w_c5 : (Jvm.Cond.code ({ cls := "com/example/rough_dedup/roughdedup/ShingleIndex$Postings", name := "count", desc := "(I)I" } : Jvm.MethodName) prog_28_method_3_code (2 : Nat) (Option.some Jvm.ClassFile.FieldType.int)).before args0 about1 = true := code_word (m := ⟨2, 1⟩) (meth := k2m1) (c := k2c1) (by decide +kernel) rfl rfl rfl (by decide +kernel)
set_option maxRecDepth 65536 in
theorem w_c6 : (Jvm.Cond.code ({ cls := "com/example/rough_dedup/roughdedup/PostingsCountPinLaw", name := "ref", desc := "(IIIII)I" } : Jvm.MethodName) method_2_code (6 : Nat) (Option.some Jvm.ClassFile.FieldType.int)).before args0 about1 = true := code_word (m := ⟨1, 1⟩) (meth := k1m1) (c := k1c1) (by decide +kernel) rfl rfl rfl (by decide +kernel)
set_option maxRecDepth 65536 in
theorem w_c7 : (Jvm.Cond.code ({ cls := "com/example/rough_dedup/roughdedup/ShingleIndex$Postings", name := "rankCount", desc := "()I" } : Jvm.MethodName) prog_28_method_4_code (1 : Nat) (Option.some Jvm.ClassFile.FieldType.int)).before args0 about1 = true := code_word (m := ⟨2, 2⟩) (meth := k2m2) (c := k2c2) (by decide +kernel) rfl rfl rfl (by decide +kernel)
def codes1 : List Jvm.Cond := [Jvm.Cond.code x code maxLocals ret, Jvm.Cond.code ({ cls := "com/example/rough_dedup/roughdedup/ShingleIndex$Postings", name := "<init>", desc := "(II[I[I[I[I)V" } : Jvm.MethodName) prog_28_method_2_code (15 : Nat) (Option.none : Option Jvm.ClassFile.FieldType), Jvm.Cond.code ({ cls := "java/lang/Object", name := "<init>", desc := "()V" } : Jvm.MethodName) object_method_1_code (1 : Nat) (Option.none : Option Jvm.ClassFile.FieldType), Jvm.Cond.code ({ cls := "java/util/Arrays", name := "copyOf", desc := "([II)[I" } : Jvm.MethodName) jdk_65_method_123_code (3 : Nat) (Option.some (Jvm.ClassFile.FieldType.array Jvm.ClassFile.FieldType.int)), Jvm.Cond.code ({ cls := "java/lang/Math", name := "min", desc := "(II)I" } : Jvm.MethodName) jdk_29_method_69_code (2 : Nat) (Option.some Jvm.ClassFile.FieldType.int), Jvm.Cond.code ({ cls := "com/example/rough_dedup/roughdedup/ShingleIndex$Postings", name := "count", desc := "(I)I" } : Jvm.MethodName) prog_28_method_3_code (2 : Nat) (Option.some Jvm.ClassFile.FieldType.int), Jvm.Cond.code ({ cls := "com/example/rough_dedup/roughdedup/PostingsCountPinLaw", name := "ref", desc := "(IIIII)I" } : Jvm.MethodName) method_2_code (6 : Nat) (Option.some Jvm.ClassFile.FieldType.int), Jvm.Cond.code ({ cls := "com/example/rough_dedup/roughdedup/ShingleIndex$Postings", name := "rankCount", desc := "()I" } : Jvm.MethodName) prog_28_method_4_code (1 : Nat) (Option.some Jvm.ClassFile.FieldType.int)]
set_option maxRecDepth 65536 in
theorem codes_eq : words1.filter isCode = codes1 := rfl
theorem w_codes : ∀ c ∈ words1.filter isCode, c.before args0 about1 = true := by
  rw [codes_eq]
  intro c hc
  simp only [codes1, List.mem_cons, List.not_mem_nil, or_false] at hc
  rcases hc with rfl | rfl | rfl | rfl | rfl | rfl | rfl | rfl
  · exact w_c0
  · exact w_c1
  · exact w_c2
  · exact w_c3
  · exact w_c4
  · exact w_c5
  · exact w_c6
  · exact w_c7
set_option maxRecDepth 65536 in
theorem w_t1 : (words1.take 24).all (fun c => isCode c || c.before args0 about1) = true := by decide +kernel
set_option maxRecDepth 65536 in
theorem w_t2 : (words1.drop 24).all (fun c => isCode c || c.before args0 about1) = true := by decide +kernel
theorem w_tables : (allAtoms (Jvm.Cond.code x code maxLocals ret :: tables_1)).before args0 about1 = true := by
  rw [allAtoms_all]
  show words1.all (fun c => c.before args0 about1) = true
  refine all_split ?_ w_codes
  rw [← List.take_append_drop 24 words1, List.all_append, w_t1, w_t2]
  rfl
set_option maxRecDepth 65536 in
theorem w_case : (Jvm.Cond.and given_1 narrow_1).before args0 about1 = true := by decide +kernel
theorem w_applies : (headSpec (Jvm.Cond.code x code maxLocals ret :: tables_1) room_1).applies x e0.platform about1 = true :=
  (Spec.applies_iff w_frames).mpr ⟨w_running, w_runnable, w_alone, w_named, w_hears, w_ripe, w_room, w_tables⟩
theorem atStart : AtStart classFile x code maxLocals ret World_1 tables_1 room_1 Calls_1 rest_1 Pre_1 launch0 p0 e0 about1 theMethod args0 below0 :=
  ⟨lists_1, trivial, launch0.admits_env _ _ _, launch0.least_env, fairChoices_fair.cas, fairChoices_fair.clock, w_frames, w_args, w_heap, w_applies, trivial, trivial, w_case⟩
end start1
theorem witness_1 : WitnessClaimed_1 := ⟨start1.p0, start1.e0, start1.about1, start1.theMethod, start1.args0, start1.below0, start1.atStart⟩
end Jvm.Pilot.@@N@@
