import JvmDerived
import JvmDerived.Pilot.@@N@@Statement
import JvmDerived.Pilot.@@N@@Code
set_option linter.unusedVariables false
set_option linter.unusedSimpArgs false
namespace Jvm.RoadKit
open Sem ClassFile Op Lib Jvm.Stand Jvm.Free Jvm.LawKit
section New
variable {p : Program} {l : Launch} {e : Env} {R : Room} {s : State} {m : MethodId} {args : Array Value} {below : List Frame} {meth : Method} {c : Code} {T : State} {locs : List Loc} {cells slots : Nat}
theorem retI (X : Stand p l e R s m args below meth c T locs cells slots) (hx : p.tables.exec = Jvm.exec) {pc : Nat} {Ls : Array Slot} {z : Int32} {rest : List Value} (hret : meth.sig.returnType = some .int) (hd : decode c.code pc = .ok (.ireturn, 1)) {fs : List Frame}
    (hl : ∀ (f : JFrame) (acts : List Action), f.method = m → f.locked = none → f.entered = [] → (doReturn e (T.setTop f) acts (some (.int z))).1 = T.setFrames fs) : Steps p.tables e below (T.setTop (mkF m pc Ls (.int z :: rest))) (T.setFrames fs) := by
  have hm' : T.vm.method? m = some meth := X.method'
  have hn : narrow .int (.int z) = .int z := rfl
  show Steps p.tables e below (T.setTop { method := m, pc := pc, locals := Ls, stack := _ :: rest, locked := none }) _
  jvm_step X.here [X.here.top, hx, hd, hm', hret, hn]
  first | (intro acts; rw [hl _ acts rfl rfl rfl]) | rw [hl _ _ rfl rfl rfl]
  exact Steps.refl _
end New
end Jvm.RoadKit
namespace Jvm.Pilot.@@N@@
open Jvm Jvm.ClassFile Sem Op Lib Jvm.Free Jvm.Stand Jvm.LawKit Jvm.RoadKit Bundle Jvm.Pilot.@@N@@.Jvm.D
section Own
variable {p : Program} {l : Launch} {e : Env} {R : Room} {s : State} {m : MethodId} {args : Array Value} {below : List Frame} {meth : Method} {c : Code} {T : State} {n0 C S : Nat} {Z : State} {a0 : Array Value} {h h' : Heap} {P : State → Outcome → Prop} {Q : Option Value → Heap → Prop}
/-- from U the run comes to an end at which P holds -/
def own_Go (p : Program) (e : Env) (below : List Frame) (P : State → Outcome → Prop) (U : State) : Prop := ∃ t o, Steps p.tables e below U t ∧ P t o
theorem own_st {U U' : State} (k : ∀ t, Steps p.tables e below U' t → Steps p.tables e below U t) (g : own_Go p e below P U') : own_Go p e below P U := by
  obtain ⟨t, o, a, b⟩ := g; exact ⟨t, o, k t a, b⟩
/-- where the run stands: its state, its heap, how many cells and slots are spent; nothing below n0 was written -/
def own_Sd (p : Program) (l : Launch) (e : Env) (R : Room) (s : State) (m : MethodId) (args : Array Value) (below : List Frame) (meth : Method) (c : Code) (n0 : Nat) (T : State) (h : Heap) (C S : Nat) : Prop :=
  ∃ locs, Stand p l e R s m args below meth c T locs C S ∧ Fr n0 locs ∧ T.heap = h ∧ n0 ≤ s.heap.size ∧ s.heap.size ≤ h.size
theorem own_Sd.here (X : own_Sd p l e R s m args below meth c n0 T h C S) : At T m c below := by obtain ⟨_, X, _⟩ := X; exact X.here
theorem own_Sd.ge0 (X : own_Sd p l e R s m args below meth c n0 T h C S) : n0 ≤ h.size := by obtain ⟨_, _, _, _, h1, h2⟩ := X; exact Nat.le_trans h1 h2
theorem own_Sd.more (X : own_Sd p l e R s m args below meth c n0 T h C S) {C' S' : Nat} (hc : C ≤ C') (hs : S ≤ S') : own_Sd p l e R s m args below meth c n0 T h C' S' := by
  obtain ⟨L, X, r⟩ := X; exact ⟨L, X.more hc hs, r⟩
/-- what the body of one method knows of itself -/
def own_Cx (p : Program) (s : State) (m : MethodId) (meth : Method) (c : Code) (Z : State) (bytes : ByteArray) (maxL : Nat) (y : MethodName) (ret : Option FieldType) : Prop :=
  p.tables.exec = Jvm.exec ∧ c.code = bytes ∧ c.maxLocals = maxL ∧ s.vm.findClass y.cls = some m.cls ∧ meth.name = y.name ∧ meth.sig.returnType = ret ∧ meth.locks = false ∧ Z.Warmed39 s.vm
def own_End (below : List Frame) (s : State) (R : Room) (n0 : Nat) (Q : Option Value → Heap → Prop) (t : State) (o : Outcome) : Prop :=
  t.status = .running ∧ Ended t below o ∧ ∃ v L, o = .returned v ∧ (Q v t.heap ∧ s.heap.size ≤ t.heap.size ∧ Fr n0 L) ∧ FrameEnd s o t L R.cells R.slots
/-- a method's contract: on these arguments, at this heap, it returns so that Q -/
def own_Met (l : Launch) (Z : State) (y : MethodName) (bytes : ByteArray) (maxL : Nat) (ret : Option FieldType) (rm : Room) (as' : Array Value) (h0 : Heap) (n0 : Nat) (Q : Option Value → Heap → Prop) : Prop :=
  ∀ ws, MetFree l y (head1 (Jvm.Cond.code y bytes maxL ret :: ws) rm) (fun a U => a = as' ∧ Z.Warmed39 U.vm ∧ U.heap = h0) (fun _ _ _ _ _ => True)
    (fun _ U o U' => ∃ v L, o = .returned v ∧ (Q v U'.heap ∧ h0.size ≤ U'.heap.size ∧ Fr n0 L) ∧ FrameEnd U o U' L rm.cells rm.slots)
theorem own_body {y : MethodName} {bytes : ByteArray} {maxL : Nat} {ret : Option FieldType} {rm : Room} {as' : Array Value} {h0 : Heap} {Ls : Array Slot} (hpl : plainFor y = true) (hfr : ∀ m, entryFrame m as' maxL = mkF m 0 Ls []) (hn : n0 ≤ h0.size)
    (B : ∀ (p : Program) (e : Env) (s : State) (m : MethodId) (below : List Frame) (meth : Method) (c : Code) (T : State), own_Cx p s m meth c Z bytes maxL y ret → own_Sd p l e rm s m as' below meth c n0 T h0 0 0 → own_Go p e below (own_End below s rm n0 Q) (T.setTop (mkF m 0 Ls []))) :
    own_Met l Z y bytes maxL ret rm as' h0 n0 Q := by
  intro ws
  refine MetFree.of_bodySF hpl hisR ?_
  intro p e s m args below meth c s₁ Bd hml0 hP hK
  obtain ⟨rfl, hZ, hh⟩ := hP
  have X0 : Stand p l e rm s m args below meth c s₁ [] 0 0 := Stand.of_body Bd
  have e0 : s₁.heap = h0 := by rw [← hh, Bd.state]; rfl
  have hs : s.heap.size = h0.size := by rw [hh]
  obtain ⟨t, o, st, h1, h2, v, L, h3, h4, h5⟩ := B p e s m below meth c s₁ ⟨Bd.exec, Bd.bytes, hml0, findClass_of_methodNamed Bd.named, (name_of_methodNamed Bd.named Bd.method).1, Bd.returns, Bd.notSynchronized, hZ⟩ ⟨[], X0, Fr.nil n0, e0, by rw [hs]; exact hn, by rw [hs]; exact Nat.le_refl _⟩
  rw [hs] at h4
  exact ⟨t, o, castTop (hfr m) st, h1, h2, v, L, h3, h4, h5⟩
theorem own_fin (X : own_Sd p l e R s m args below meth c n0 T h C S) (hlk : meth.locks = false) {v : Option Value} (hv : meth.sig.returnType = none → v = none) (hC : C ≤ R.cells) (hS : S ≤ R.slots) (q : Q v h) {U : State}
    (k : ∀ (T' : State) (locs : List Loc) (fs : List Frame), T' = T → Stand p l e R s m args below meth c T locs C S → (∀ (f : JFrame) (acts : List Action), f.method = m → f.locked = none → f.entered = [] → (doReturn e (T.setTop f) acts v).1 = T.setFrames fs) → Steps p.tables e below U (T.setFrames fs)) : own_Go p e below (own_End below s R n0 Q) U := by
  obtain ⟨L, X, N, eT, hn, hs⟩ := X
  obtain ⟨fs, hr, hrun, hended, hW, hsame⟩ := X.leave (v := v) hv hlk
  have e1 : (T.setFrames fs).heap = h := eT
  refine ⟨_, _, k T L fs rfl X hr, hrun, hended, v, L, rfl, ⟨?_, ?_, N⟩, ⟨_, rfl⟩, hW, hsame.mono hC hS⟩
  · rw [e1]; exact q
  · rw [e1]; exact hs
theorem own_retI (X : own_Sd p l e R s m args below meth c n0 T h C S) (hx : p.tables.exec = Jvm.exec) (hret : meth.sig.returnType = some .int) (hlk : meth.locks = false) {pc : Nat} {Ls : Array Slot} {z : Int32} {rest : List Value} (hd : decode c.code pc = .ok (.ireturn, 1)) (hC : C ≤ R.cells) (hS : S ≤ R.slots) (q : Q (some (.int z)) h) :
    own_Go p e below (own_End below s R n0 Q) (T.setTop (mkF m pc Ls (.int z :: rest))) :=
  own_fin X hlk (fun h => by rw [hret] at h; cases h) hC hS q fun _ _ _ _ X hr => retI X hx hret hd hr
theorem own_retN (X : own_Sd p l e R s m args below meth c n0 T h C S) (hx : p.tables.exec = Jvm.exec) {t : FieldType} (hret : meth.sig.returnType = some t) (ht : t = .boolean ∨ t = .byte ∨ t = .char ∨ t = .short) (hlk : meth.locks = false) {pc : Nat} {Ls : Array Slot} {z : Int32} {rest : List Value} (hd : decode c.code pc = .ok (.ireturn, 1)) (hC : C ≤ R.cells) (hS : S ≤ R.slots) (q : Q (some (.int (nar t z))) h) :
    own_Go p e below (own_End below s R n0 Q) (T.setTop (mkF m pc Ls (.int z :: rest))) :=
  own_fin X hlk (fun h => by rw [hret] at h; cases h) hC hS q fun _ _ _ _ X hr => retN X hx hret ht hd hr
theorem own_retJ (X : own_Sd p l e R s m args below meth c n0 T h C S) (hx : p.tables.exec = Jvm.exec) (hret : meth.sig.returnType = some .long) (hlk : meth.locks = false) {pc : Nat} {Ls : Array Slot} {z : Int64} {rest : List Value} (hd : decode c.code pc = .ok (.lreturn, 1)) (hC : C ≤ R.cells) (hS : S ≤ R.slots) (q : Q (some (.long z)) h) :
    own_Go p e below (own_End below s R n0 Q) (T.setTop (mkF m pc Ls (.long z :: rest))) :=
  own_fin X hlk (fun h => by rw [hret] at h; cases h) hC hS q fun _ _ _ _ X hr => retOut X hx hret rfl (Or.inr (Or.inl ⟨rfl, rfl, z, rfl⟩)) hd hr
theorem own_retA (X : own_Sd p l e R s m args below meth c n0 T h C S) (hx : p.tables.exec = Jvm.exec) {t : FieldType} (hret : meth.sig.returnType = some t) (ht : t.isReference = true) (hlk : meth.locks = false) {pc : Nat} {Ls : Array Slot} {w : Value} (hw : w.isRef = true) (hn : narrow t w = w) {rest : List Value} (hd : decode c.code pc = .ok (.areturn, 1)) (hC : C ≤ R.cells) (hS : S ≤ R.slots) (q : Q (some w) h) :
    own_Go p e below (own_End below s R n0 Q) (T.setTop (mkF m pc Ls (w :: rest))) :=
  own_fin X hlk (fun h => by rw [hret] at h; cases h) hC hS q fun _ _ _ _ X hr => retOut X hx hret hn (Or.inr (Or.inr (Or.inr (Or.inr ⟨rfl, ht, hw⟩)))) hd hr
theorem own_retV (X : own_Sd p l e R s m args below meth c n0 T h C S) (hx : p.tables.exec = Jvm.exec) (hret : meth.sig.returnType = none) (hlk : meth.locks = false) {pc : Nat} {Ls : Array Slot} (hd : decode c.code pc = .ok (.return_, 1)) (hC : C ≤ R.cells) (hS : S ≤ R.slots) (q : Q none h) :
    own_Go p e below (own_End below s R n0 Q) (T.setTop (mkF m pc Ls [])) :=
  own_fin X hlk (fun _ => rfl) hC hS q fun _ _ _ _ X hr => X.returnOut hx hret hd hr
/-! single steps that want a Stand -/
theorem own_irem (X : own_Sd p l e R s m args below meth c n0 T h C S) (hx : p.tables.exec = Jvm.exec) {g : JFrame} {x y : Int32} {rest : List Value} (hd : decode c.code g.pc = .ok (.irem, 1)) (hs : g.stack = .int y :: .int x :: rest) (hy : y ≠ 0) (hg : g.method = m)
    (k : own_Go p e below P (T.setTop { g with pc := g.pc + 1, stack := .int (x % y) :: rest })) : own_Go p e below P (T.setTop g) := by
  obtain ⟨_, X, _⟩ := X; exact own_st (fun _ q => iremM X hx hg hd hs hy q) k
theorem own_ldc (X : own_Sd p l e R s m args below meth c n0 T h C S) (hx : p.tables.exec = Jvm.exec) (hZ : Z.Warmed39 s.vm) {own : String} {index : Nat} {v : Int32} (hown : s.vm.findClass own = some m.cls) (w : (Cond.constant own index v).before a0 Z = true) {g : JFrame} (hg : g.method = m) (hd : decode c.code g.pc = .ok (.ldc index, 2))
    (k : own_Go p e below P (T.setTop { g with pc := g.pc + 2, stack := .int v :: g.stack })) : own_Go p e below P (T.setTop g) := by
  obtain ⟨_, X, _⟩ := X; exact own_st (fun _ q => X.ldcInt hx hown (mvT hZ w) hg hd _ q) k
theorem own_ldc2 (X : own_Sd p l e R s m args below meth c n0 T h C S) (hx : p.tables.exec = Jvm.exec) (hZ : Z.Warmed39 s.vm) {own : String} {index : Nat} {v : Int64} (hown : s.vm.findClass own = some m.cls) (w : (Cond.constantLong own index v).before a0 Z = true) {g : JFrame} (hg : g.method = m) (hd : decode c.code g.pc = .ok (.ldc2_w index, 3))
    (k : own_Go p e below P (T.setTop { g with pc := g.pc + 3, stack := .long v :: g.stack })) : own_Go p e below P (T.setTop g) := by
  obtain ⟨_, X, _⟩ := X; exact own_st (fun _ q => X.ldc2Long hx hown (mvT hZ w) hg hd _ q) k
theorem own_acmp (X : own_Sd p l e R s m args below meth c n0 T h C S) (hx : p.tables.exec = Jvm.exec) {g : JFrame} (hg : g.method = m) {cd : ACond} {x y : Value} (h1 : x.isRef = true) (h2 : y.isRef = true) {rest : List Value} {o : Int} {pc0 pc' : Nat} {same : Bool} (hpc : g.pc = pc0) (hd : decode c.code g.pc = .ok (.if_acmp cd o, 3)) (hs : g.stack = y :: x :: rest) (hsame : decide (x = y) = same) (ho : 0 ≤ (pc0 : Int) + o) (hp : pc' = if acV cd same then ((pc0 : Int) + o).toNat else pc0 + 3)
    (k : own_Go p e below P (T.setTop { g with pc := pc', stack := rest })) : own_Go p e below P (T.setTop g) := by
  obtain ⟨_, X, _⟩ := X; exact own_st (fun _ q => Jvm.RoadKit.acmp X hx hg h1 h2 hpc hd hs hsame ho hp q) k
theorem own_lrem (X : own_Sd p l e R s m args below meth c n0 T h C S) (hx : p.tables.exec = Jvm.exec) {g : JFrame} {x y : Int64} {rest : List Value} (hd : decode c.code g.pc = .ok (.lrem, 1)) (hs : g.stack = .long y :: .long x :: rest) (hy : y ≠ 0) (hg : g.method = m)
    (k : own_Go p e below P (T.setTop { g with pc := g.pc + 1, stack := .long (x % y) :: rest })) : own_Go p e below P (T.setTop g) :=
  own_st (fun _ q => XS.lrem X.here hx hg hd hs hy (by rw [lrem_mod]; exact q)) k
theorem own_dupX2 (X : own_Sd p l e R s m args below meth c n0 T h C S) (hx : p.tables.exec = Jvm.exec) {g : JFrame} {x y z : Value} {rest : List Value} (hd : decode c.code g.pc = .ok (.dup_x2, 1)) (hs : g.stack = x :: y :: z :: rest) (h1 : x.category = 1) (h2 : y.category = 1) (h3 : z.category = 1) (hg : g.method = m)
    (k : own_Go p e below P (T.setTop { g with pc := g.pc + 1, stack := x :: y :: z :: x :: rest })) : own_Go p e below P (T.setTop g) := by
  refine own_st (fun t q => ?_) k
  subst hg
  have h := X.here
  jvm_step h [h.top, hx, hd, hs, h1, h2, h3]
  exact q
/-! fields, objects -/
theorem own_getF (X : own_Sd p l e R s m args below meth c n0 T h C S) (hx : p.tables.exec = Jvm.exec) (hZ : Z.Warmed39 s.vm) {own O n d : String} {index : Nat} (hown : s.vm.findClass own = some m.cls) (w : (Cond.fieldLink own index O n d).before a0 Z = true) {a : Addr} {v : Value} (F : Fld Z h a O n d v) {g : JFrame} (hg : g.method = m) {rest : List Value} (hs : g.stack = .ref a :: rest) (hd : decode c.code g.pc = .ok (.getfield index, 3))
    (k : ∀ T', own_Sd p l e R s m args below meth c n0 T' h C S → own_Go p e below P (T'.setTop { g with pc := g.pc + 3, stack := v :: rest })) : own_Go p e below P (T.setTop g) := by
  obtain ⟨L, X, N, eT, r⟩ := X
  obtain ⟨T', X', e', st⟩ := getF X hx hZ hown (host := "") (Or.inl w) Via.refl eT F hg hs hd
  exact own_st st (k T' ⟨L, X', N, e', r⟩)
theorem own_putF (X : own_Sd p l e R s m args below meth c n0 T h C S) (hx : p.tables.exec = Jvm.exec) (hZ : Z.Warmed39 s.vm) {own O n d K : String} {index kk : Nat} {ty : FieldType} (hown : s.vm.findClass own = some m.cls) (w : (Cond.fieldLink own index O n d).before a0 Z = true) {a : Addr} {v v' old : Value} (F : Fld Z h a O n d old) (E : Exa Z h a K) (L : (Cond.lays K O n d).before a0 Z = true ∨ ((Cond.laysFinal K O n d).before a0 Z = true ∧ own = O ∧ meth.name = "<init>")) (wi : (Cond.instantiable K kk).before a0 Z = true)
    (hty : parseFieldDescriptor d = some ty) (hn : narrow ty v = v') (hf : fits ty v' = true) (ga : n0 ≤ a) {g : JFrame} (hg : g.method = m) {rest : List Value} (hs : g.stack = v :: .ref a :: rest) (hd : decode c.code g.pc = .ok (.putfield index, 3))
    (k : ∀ T' h', own_Sd p l e R s m args below meth c n0 T' h' C S → Wr h h' a (Jvm.RoadKit.slotOf Z O n d) v' → own_Go p e below P (T'.setTop { g with pc := g.pc + 3, stack := rest })) : own_Go p e below P (T.setTop g) := by
  obtain ⟨L0, X, N, eT, r1, r2⟩ := X
  obtain ⟨T', h', X', e', W, st⟩ := putFN X hx hZ hown w Via.refl eT F E L wi hty hn hf hg hs hd
  exact own_st st (k T' h' ⟨_, X', Fr.snoc X' N ga, e', r1, by rw [W.size]; exact r2⟩ W)
theorem own_newO (X : own_Sd p l e R s m args below meth c n0 T h C S) (hx : p.tables.exec = Jvm.exec) (hZ : Z.Warmed39 s.vm) {own K : String} {index n : Nat} (hown : s.vm.findClass own = some m.cls) (w : (Cond.classLink own index K).before a0 Z = true) (wi : (Cond.instantiable K n).before a0 Z = true) (wz : (Cond.initialized K).before a0 Z = true)
    {g : JFrame} (hg : g.method = m) (hd : decode c.code g.pc = .ok (.new index, 3)) (hc : C + 1 ≤ R.cells) (hl : S + n ≤ R.slots)
    (k : ∀ T' h' b, b = h.size → n0 ≤ b → own_Sd p l e R s m args below meth c n0 T' h' (C + 1) (S + n) → Ext h h' → Exa Z h' b K → (∀ {O nm d : String} {ty : FieldType}, Laid Z a0 K O nm d → parseFieldDescriptor d = some ty → Fld Z h' b O nm d (defaultValue ty)) → own_Go p e below P (T'.setTop { g with pc := g.pc + 3, stack := .ref b :: g.stack })) : own_Go p e below P (T.setTop g) := by
  have hn := X.ge0
  obtain ⟨L, X, N, eT, r1, r2⟩ := X
  obtain ⟨T', h', X', e', E, A, D, -, st⟩ := newO X hx hZ hown w wi wz eT hg hd hc hl
  exact own_st st (k T' h' h.size rfl hn ⟨L, X', N, e', r1, Nat.le_trans r2 E.1⟩ E A D)
theorem own_initO (X : own_Sd p l e R s m args below meth c n0 T h C S) (hx : p.tables.exec = Jvm.exec) (hZ : Z.Warmed39 s.vm) {own : String} {idx : Nat} (hown : s.vm.findClass own = some m.cls) (w1 : (Cond.methodLink own idx Lib.objectInit).before a0 Z = true) (w2 : (Cond.instanceMethod Lib.objectInit).before a0 Z = true)
    (w3 : (Cond.code Lib.objectInit ⟨#[0xb1]⟩ 1 none).before a0 Z = true) {g : JFrame} (hg : g.method = m) (hsize : g.locals.size = c.maxLocals) {a : Addr} {rest : List Value} (hs : g.stack = .ref a :: rest) (hd : decode c.code g.pc = .ok (.invokespecial idx, 3))
    (hf : 1 ≤ R.frames) {W : Nat} (hW : 2 * g.monitorRoom + (rest.map fun v => v.category).sum ≤ W) (hl : W + 12 ≤ R.locals)
    (k : ∀ T', own_Sd p l e R s m args below meth c n0 T' h C S → own_Go p e below P (T'.setTop { g with pc := g.pc + 3, stack := rest })) : own_Go p e below P (T.setTop g) := by
  obtain ⟨L, X, N, eT, r⟩ := X
  obtain ⟨T', X', e', st⟩ := initO X hx hZ hown w1 w2 w3 eT hg hsize hs hd hf hW hl
  exact own_st st (k T' ⟨L, X', N, e', r⟩)
/-! calls -/
theorem own_back {y : MethodName} {bytes : ByteArray} {maxL : Nat} {ret : Option FieldType} {rm : Room} {as' : Array Value} {len W : Nat} (hM : own_Met l Z y bytes maxL ret rm as' h n0 Q) (hZ : Z.Warmed39 s.vm) (wc : (Cond.code y bytes maxL ret).before a0 Z = true) (wz : (Cond.initialized y.cls).before a0 Z = true) (hf : rm.frames + 1 ≤ R.frames) (hl : W + (maxL + 11) + rm.locals ≤ R.locals) :
    Back l R p e below s args y len W (fun A a => a = as' ∧ A.U.heap = h ∧ A.cells + rm.cells ≤ R.cells ∧ A.slots + rm.slots ≤ R.slots) (fun A _ v B => ∃ L, (Q v B.U.heap ∧ h.size ≤ B.U.heap.size ∧ Fr n0 L) ∧ B.locs = A.locs ++ L ∧ B.cells = A.cells + rm.cells ∧ B.slots = A.slots + rm.slots) :=
  backOf (Q := fun v h' L => Q v h' ∧ h.size ≤ h'.size ∧ Fr n0 L) (hM []) hZ wc wz hf hl
theorem own_callS (X : own_Sd p l e R s m args below meth c n0 T h C S) (hx : p.tables.exec = Jvm.exec) (hZ : Z.Warmed39 s.vm) {own : String} {index : Nat} {y : MethodName} {bytes : ByteArray} {maxL : Nat} {ret : Option FieldType} (hown : s.vm.findClass own = some m.cls)
    (w1 : (Cond.methodLink own index y).before a0 Z = true) (w2 : (Cond.static y).before a0 Z = true) (w3 : (Cond.initialized y.cls).before a0 Z = true) (w4 : (Cond.code y bytes maxL ret).before a0 Z = true) (hy : y.cls ≠ "java/lang/invoke/MethodHandle" ∧ y.cls ≠ "java/lang/invoke/VarHandle")
    {rm : Room} {as' : Array Value} (hM : own_Met l Z y bytes maxL ret rm as' h n0 Q) (hf : rm.frames + 1 ≤ R.frames) {W : Nat} (hlo : W + (maxL + 11) + rm.locals ≤ R.locals) {g : JFrame} (hg : g.method = m) (hsize : g.locals.size = c.maxLocals) {argsL rest : List Value} (hlen : ∀ sig, parseMethodDescriptor y.desc = some sig → argsL.length = sig.parameters.length) (has : argsL.toArray = as')
    (hstack : g.stack = argsL.reverse ++ rest) (hW : 2 * g.monitorRoom + (rest.map fun v => v.category).sum ≤ W) (hd : decode c.code g.pc = .ok (.invokestatic index, 3)) (hc : C + rm.cells ≤ R.cells) (hs : S + rm.slots ≤ R.slots)
    (k : ∀ v T' h', own_Sd p l e R s m args below meth c n0 T' h' (C + rm.cells) (S + rm.slots) → Q v h' → own_Go p e below P (T'.setTop { g with pc := g.pc + 3, stack := v.toList ++ rest })) : own_Go p e below P (T.setTop g) := by
  obtain ⟨L, X, N, eT, r1, r2⟩ := X
  obtain ⟨v, _, ⟨T', L', k', n'⟩, -, X', ⟨Lc, ⟨hQ, hsz, hN⟩, e1, e2, e3⟩, st⟩ := Jvm.LawKit.callS X hx hown (mvT hZ w1) (mvT hZ w2) (mvT hZ w3) (mvT hZ w4) hy (own_back (W := W) hM hZ w4 w3 hf hlo) hg hsize hlen hstack hW hd (fun _ _ => ⟨has, eT, hc, hs⟩)
  dsimp only [Pt.U, Pt.locs, Pt.cells, Pt.slots] at X' e1 e2 e3 st hQ hsz
  subst e1 e2 e3
  exact own_st st (k v T' T'.heap ⟨_, X', Fr.app N hN, rfl, r1, Nat.le_trans r2 hsz⟩ hQ)
theorem own_callC (X : own_Sd p l e R s m args below meth c n0 T h C S) (hx : p.tables.exec = Jvm.exec) (hZ : Z.Warmed39 s.vm) {own : String} {index : Nat} {y : MethodName} {bytes : ByteArray} {maxL : Nat} (hy1 : y.name = "<init>") (hown : s.vm.findClass own = some m.cls)
    (w1 : (Cond.methodLink own index y).before a0 Z = true) (w2 : (Cond.instanceMethod y).before a0 Z = true) (w3 : (Cond.initialized y.cls).before a0 Z = true) (w4 : (Cond.code y bytes maxL none).before a0 Z = true) (hy : y.cls ≠ "java/lang/invoke/MethodHandle" ∧ y.cls ≠ "java/lang/invoke/VarHandle")
    {rm : Room} {as' : Array Value} (hM : own_Met l Z y bytes maxL none rm as' h n0 Q) (hf : rm.frames + 1 ≤ R.frames) {W : Nat} (hlo : W + (maxL + 11) + rm.locals ≤ R.locals) {g : JFrame} (hg : g.method = m) (hsize : g.locals.size = c.maxLocals) {a : Addr} {argsL rest : List Value} (hlen : ∀ sig, parseMethodDescriptor y.desc = some sig → argsL.length = sig.parameters.length) (has : (.ref a :: argsL).toArray = as')
    (hstack : g.stack = argsL.reverse ++ .ref a :: rest) (hW : 2 * g.monitorRoom + (rest.map fun v => v.category).sum ≤ W) (hd : decode c.code g.pc = .ok (.invokespecial index, 3)) (hc : C + rm.cells ≤ R.cells) (hs : S + rm.slots ≤ R.slots)
    (k : ∀ v T' h', own_Sd p l e R s m args below meth c n0 T' h' (C + rm.cells) (S + rm.slots) → Q v h' → own_Go p e below P (T'.setTop { g with pc := g.pc + 3, stack := v.toList ++ rest })) : own_Go p e below P (T.setTop g) := by
  obtain ⟨L, X, N, eT, r1, r2⟩ := X
  obtain ⟨v, _, ⟨T', L', k', n'⟩, -, X', ⟨Lc, ⟨hQ, hsz, hN⟩, e1, e2, e3⟩, st⟩ := X.specialBack hx hy1 hown (mvT hZ w1) (mvT hZ w2) (mvT hZ w4) hy (own_back (W := W) hM hZ w4 w3 hf hlo) hg hsize (Steps.refl _) hlen hstack hW hd (fun _ _ => ⟨has, eT, hc, hs⟩)
  dsimp only [Pt.U, Pt.locs, Pt.cells, Pt.slots] at X' e1 e2 e3 st hQ hsz
  subst e1 e2 e3
  exact own_st (fun _ q => st.trans q) (k v T' T'.heap ⟨_, X', Fr.app N hN, rfl, r1, Nat.le_trans r2 hsz⟩ hQ)
theorem own_callV (X : own_Sd p l e R s m args below meth c n0 T h C S) (hx : p.tables.exec = Jvm.exec) (hZ : Z.Warmed39 s.vm) {own K : String} {index : Nat} {y : MethodName} {bytes : ByteArray} {maxL : Nat} {ret : Option FieldType} (hown : s.vm.findClass own = some m.cls)
    (w1 : (Cond.methodLink own index y).before a0 Z = true) (w2 : (Cond.declares y).before a0 Z = true) (w5 : (Cond.selects K y y).before a0 Z = true) (w6 : (Cond.instanceMethod y).before a0 Z = true) (w3 : (Cond.initialized y.cls).before a0 Z = true) (w4 : (Cond.code y bytes maxL ret).before a0 Z = true) (hy : y.cls ≠ "java/lang/invoke/MethodHandle" ∧ y.cls ≠ "java/lang/invoke/VarHandle")
    {a : Addr} (E : Exa Z h a K) {rm : Room} {as' : Array Value} (hM : own_Met l Z y bytes maxL ret rm as' h n0 Q) (hf : rm.frames + 1 ≤ R.frames) {W : Nat} (hlo : W + (maxL + 11) + rm.locals ≤ R.locals) {g : JFrame} (hg : g.method = m) (hsize : g.locals.size = c.maxLocals) {argsL rest : List Value} (hlen : ∀ sig, parseMethodDescriptor y.desc = some sig → argsL.length = sig.parameters.length) (has : (.ref a :: argsL).toArray = as')
    (hstack : g.stack = argsL.reverse ++ .ref a :: rest) (hW : 2 * g.monitorRoom + (rest.map fun v => v.category).sum ≤ W) (hd : decode c.code g.pc = .ok (.invokevirtual index, 3)) (hc : C + rm.cells ≤ R.cells) (hs : S + rm.slots ≤ R.slots)
    (k : ∀ v T' h', own_Sd p l e R s m args below meth c n0 T' h' (C + rm.cells) (S + rm.slots) → Q v h' → own_Go p e below P (T'.setTop { g with pc := g.pc + 3, stack := v.toList ++ rest })) : own_Go p e below P (T.setTop g) := by
  obtain ⟨L, X, N, eT, r1, r2⟩ := X
  obtain ⟨cB, kB, q1, q2, q3⟩ := isOf hZ eT E
  obtain ⟨v, _, ⟨T', L', k', n'⟩, -, X', ⟨Lc, ⟨hQ, hsz, hN⟩, e1, e2, e3⟩, st⟩ := X.virtualBack hx hown (mvT hZ w1) (mvT hZ w2) (notFace_of_selects (args := #[]) (mvT hZ w5)) (mvT hZ w5) (mvT hZ w6) hy (own_back (W := W) hM hZ w4 w3 hf hlo) q1 q3 hg hsize (Steps.refl _) hlen hstack hW hd (fun _ _ => ⟨has, eT, hc, hs⟩)
  dsimp only [Pt.U, Pt.locs, Pt.cells, Pt.slots] at X' e1 e2 e3 st hQ hsz
  subst e1 e2 e3
  exact own_st (fun _ q => st.trans q) (k v T' T'.heap ⟨_, X', Fr.app N hN, rfl, r1, Nat.le_trans r2 hsz⟩ hQ)
theorem own_callP (X : own_Sd p l e R s m args below meth c n0 T h C S) (hx : p.tables.exec = Jvm.exec) (hZ : Z.Warmed39 s.vm) {own K K' : String} {index : Nat} {y y' : MethodName} {bytes : ByteArray} {maxL : Nat} {ret : Option FieldType} (hown : s.vm.findClass own = some m.cls)
    (w1 : (Cond.methodLink own index y).before a0 Z = true) (w7 : (Cond.privateMethod y).before a0 Z = true) (w5 : (Cond.selects K y' y').before a0 Z = true) (hyy : y'.cls = y.cls) (w6 : (Cond.instanceMethod y).before a0 Z = true) (w3 : (Cond.initialized y.cls).before a0 Z = true) (w4 : (Cond.code y bytes maxL ret).before a0 Z = true) (hy : y.cls ≠ "java/lang/invoke/MethodHandle" ∧ y.cls ≠ "java/lang/invoke/VarHandle")
    {a : Addr} (E : Exa Z h a K') {rm : Room} {as' : Array Value} (hM : own_Met l Z y bytes maxL ret rm as' h n0 Q) (hf : rm.frames + 1 ≤ R.frames) {W : Nat} (hlo : W + (maxL + 11) + rm.locals ≤ R.locals) {g : JFrame} (hg : g.method = m) (hsize : g.locals.size = c.maxLocals) {argsL rest : List Value} (hlen : ∀ sig, parseMethodDescriptor y.desc = some sig → argsL.length = sig.parameters.length) (has : (.ref a :: argsL).toArray = as')
    (hstack : g.stack = argsL.reverse ++ .ref a :: rest) (hW : 2 * g.monitorRoom + (rest.map fun v => v.category).sum ≤ W) (hd : decode c.code g.pc = .ok (.invokevirtual index, 3)) (hc : C + rm.cells ≤ R.cells) (hs : S + rm.slots ≤ R.slots)
    (k : ∀ v T' h', own_Sd p l e R s m args below meth c n0 T' h' (C + rm.cells) (S + rm.slots) → Q v h' → own_Go p e below P (T'.setTop { g with pc := g.pc + 3, stack := v.toList ++ rest })) : own_Go p e below P (T.setTop g) := by
  obtain ⟨L, X, N, eT, r1, r2⟩ := X
  obtain ⟨c2, q2, m2, -, -, q3, -, kP, hkP, hkPi⟩ := Cond.selects_spec (mvT hZ w5 : (Cond.selects K y' y').before args s = true)
  have hcl := findClass_of_methodNamed q3
  rw [hyy] at hcl
  have hp := Cond.privateMethod_at (mvP hZ w7 (args := #[]))
  have hsel := selects_self_of_private (args := args) hcl hkP hkPi hp (mvT hZ w6) hy
  obtain ⟨cl, h1, h2⟩ := E.cell
  obtain ⟨v, _, ⟨T', L', k', n'⟩, -, X', ⟨Lc, ⟨hQ, hsz, hN⟩, e1, e2, e3⟩, st⟩ := X.privateBack hx hown (mvT hZ w1) (mvT hZ w6) hsel hp (mvT hZ w4) hy (own_back (W := W) hM hZ w4 w3 hf hlo) hg hsize (Steps.refl _) (by rw [eT]; exact h1) h2 hlen hstack hW hd (fun _ _ => ⟨has, eT, hc, hs⟩)
  dsimp only [Pt.U, Pt.locs, Pt.cells, Pt.slots] at X' e1 e2 e3 st hQ hsz
  subst e1 e2 e3
  exact own_st (fun _ q => st.trans q) (k v T' T'.heap ⟨_, X', Fr.app N hN, rfl, r1, Nat.le_trans r2 hsz⟩ hQ)
/-! calls of methods that leave the heap as it is -/
theorem own_callSp (X : own_Sd p l e R s m args below meth c n0 T h C S) (hx : p.tables.exec = Jvm.exec) (hZ : Z.Warmed39 s.vm) {own : String} {index : Nat} {y : MethodName} {bytes : ByteArray} {maxL : Nat} {ret : Option FieldType} (hown : s.vm.findClass own = some m.cls)
    (w1 : (Cond.methodLink own index y).before a0 Z = true) (w2 : (Cond.static y).before a0 Z = true) (w3 : (Cond.initialized y.cls).before a0 Z = true) (w4 : (Cond.code y bytes maxL ret).before a0 Z = true) (hy : y.cls ≠ "java/lang/invoke/MethodHandle" ∧ y.cls ≠ "java/lang/invoke/VarHandle")
    {rm : Room} {as' : Array Value} {r : Option Value} (hM : own_Met l Z y bytes maxL ret rm as' h n0 (fun v' h' => v' = r ∧ h' = h)) (hf : rm.frames + 1 ≤ R.frames) {W : Nat} (hlo : W + (maxL + 11) + rm.locals ≤ R.locals) {g : JFrame} (hg : g.method = m) (hsize : g.locals.size = c.maxLocals) {argsL rest : List Value} (hlen : ∀ sig, parseMethodDescriptor y.desc = some sig → argsL.length = sig.parameters.length) (has : argsL.toArray = as')
    (hstack : g.stack = argsL.reverse ++ rest) (hW : 2 * g.monitorRoom + (rest.map fun v => v.category).sum ≤ W) (hd : decode c.code g.pc = .ok (.invokestatic index, 3)) (hc : C + rm.cells ≤ R.cells) (hs : S + rm.slots ≤ R.slots)
    (k : ∀ T', own_Sd p l e R s m args below meth c n0 T' h (C + rm.cells) (S + rm.slots) → own_Go p e below P (T'.setTop { g with pc := g.pc + 3, stack := r.toList ++ rest })) : own_Go p e below P (T.setTop g) :=
  own_callS X hx hZ hown w1 w2 w3 w4 hy hM hf hlo hg hsize hlen has hstack hW hd hc hs fun v T' h' X' q => by
    obtain ⟨e1, e2⟩ := q; rw [e1]; rw [e2] at X'; exact k T' X'
theorem own_callVp (X : own_Sd p l e R s m args below meth c n0 T h C S) (hx : p.tables.exec = Jvm.exec) (hZ : Z.Warmed39 s.vm) {own K : String} {index : Nat} {y : MethodName} {bytes : ByteArray} {maxL : Nat} {ret : Option FieldType} (hown : s.vm.findClass own = some m.cls)
    (w1 : (Cond.methodLink own index y).before a0 Z = true) (w2 : (Cond.declares y).before a0 Z = true) (w5 : (Cond.selects K y y).before a0 Z = true) (w6 : (Cond.instanceMethod y).before a0 Z = true) (w3 : (Cond.initialized y.cls).before a0 Z = true) (w4 : (Cond.code y bytes maxL ret).before a0 Z = true) (hy : y.cls ≠ "java/lang/invoke/MethodHandle" ∧ y.cls ≠ "java/lang/invoke/VarHandle")
    {a : Addr} (E : Exa Z h a K) {rm : Room} {as' : Array Value} {r : Option Value} (hM : own_Met l Z y bytes maxL ret rm as' h n0 (fun v' h' => v' = r ∧ h' = h)) (hf : rm.frames + 1 ≤ R.frames) {W : Nat} (hlo : W + (maxL + 11) + rm.locals ≤ R.locals) {g : JFrame} (hg : g.method = m) (hsize : g.locals.size = c.maxLocals) {argsL rest : List Value} (hlen : ∀ sig, parseMethodDescriptor y.desc = some sig → argsL.length = sig.parameters.length) (has : (.ref a :: argsL).toArray = as')
    (hstack : g.stack = argsL.reverse ++ .ref a :: rest) (hW : 2 * g.monitorRoom + (rest.map fun v => v.category).sum ≤ W) (hd : decode c.code g.pc = .ok (.invokevirtual index, 3)) (hc : C + rm.cells ≤ R.cells) (hs : S + rm.slots ≤ R.slots)
    (k : ∀ T', own_Sd p l e R s m args below meth c n0 T' h (C + rm.cells) (S + rm.slots) → own_Go p e below P (T'.setTop { g with pc := g.pc + 3, stack := r.toList ++ rest })) : own_Go p e below P (T.setTop g) :=
  own_callV X hx hZ hown w1 w2 w5 w6 w3 w4 hy E hM hf hlo hg hsize hlen has hstack hW hd hc hs fun v T' h' X' q => by
    obtain ⟨e1, e2⟩ := q; rw [e1]; rw [e2] at X'; exact k T' X'
theorem own_callCp (X : own_Sd p l e R s m args below meth c n0 T h C S) (hx : p.tables.exec = Jvm.exec) (hZ : Z.Warmed39 s.vm) {own : String} {index : Nat} {y : MethodName} {bytes : ByteArray} {maxL : Nat} (hy1 : y.name = "<init>") (hown : s.vm.findClass own = some m.cls)
    (w1 : (Cond.methodLink own index y).before a0 Z = true) (w2 : (Cond.instanceMethod y).before a0 Z = true) (w3 : (Cond.initialized y.cls).before a0 Z = true) (w4 : (Cond.code y bytes maxL none).before a0 Z = true) (hy : y.cls ≠ "java/lang/invoke/MethodHandle" ∧ y.cls ≠ "java/lang/invoke/VarHandle")
    {rm : Room} {as' : Array Value} {r : Option Value} (hM : own_Met l Z y bytes maxL none rm as' h n0 (fun v' h' => v' = r ∧ h' = h)) (hf : rm.frames + 1 ≤ R.frames) {W : Nat} (hlo : W + (maxL + 11) + rm.locals ≤ R.locals) {g : JFrame} (hg : g.method = m) (hsize : g.locals.size = c.maxLocals) {a : Addr} {argsL rest : List Value} (hlen : ∀ sig, parseMethodDescriptor y.desc = some sig → argsL.length = sig.parameters.length) (has : (.ref a :: argsL).toArray = as')
    (hstack : g.stack = argsL.reverse ++ .ref a :: rest) (hW : 2 * g.monitorRoom + (rest.map fun v => v.category).sum ≤ W) (hd : decode c.code g.pc = .ok (.invokespecial index, 3)) (hc : C + rm.cells ≤ R.cells) (hs : S + rm.slots ≤ R.slots)
    (k : ∀ T', own_Sd p l e R s m args below meth c n0 T' h (C + rm.cells) (S + rm.slots) → own_Go p e below P (T'.setTop { g with pc := g.pc + 3, stack := r.toList ++ rest })) : own_Go p e below P (T.setTop g) :=
  own_callC X hx hZ hy1 hown w1 w2 w3 w4 hy hM hf hlo hg hsize hlen has hstack hW hd hc hs fun v T' h' X' q => by
    obtain ⟨e1, e2⟩ := q; rw [e1]; rw [e2] at X'; exact k T' X'
theorem own_callPp (X : own_Sd p l e R s m args below meth c n0 T h C S) (hx : p.tables.exec = Jvm.exec) (hZ : Z.Warmed39 s.vm) {own K K' : String} {index : Nat} {y y' : MethodName} {bytes : ByteArray} {maxL : Nat} {ret : Option FieldType} (hown : s.vm.findClass own = some m.cls)
    (w1 : (Cond.methodLink own index y).before a0 Z = true) (w7 : (Cond.privateMethod y).before a0 Z = true) (w5 : (Cond.selects K y' y').before a0 Z = true) (hyy : y'.cls = y.cls) (w6 : (Cond.instanceMethod y).before a0 Z = true) (w3 : (Cond.initialized y.cls).before a0 Z = true) (w4 : (Cond.code y bytes maxL ret).before a0 Z = true) (hy : y.cls ≠ "java/lang/invoke/MethodHandle" ∧ y.cls ≠ "java/lang/invoke/VarHandle")
    {a : Addr} (E : Exa Z h a K') {rm : Room} {as' : Array Value} {r : Option Value} (hM : own_Met l Z y bytes maxL ret rm as' h n0 (fun v' h' => v' = r ∧ h' = h)) (hf : rm.frames + 1 ≤ R.frames) {W : Nat} (hlo : W + (maxL + 11) + rm.locals ≤ R.locals) {g : JFrame} (hg : g.method = m) (hsize : g.locals.size = c.maxLocals) {argsL rest : List Value} (hlen : ∀ sig, parseMethodDescriptor y.desc = some sig → argsL.length = sig.parameters.length) (has : (.ref a :: argsL).toArray = as')
    (hstack : g.stack = argsL.reverse ++ .ref a :: rest) (hW : 2 * g.monitorRoom + (rest.map fun v => v.category).sum ≤ W) (hd : decode c.code g.pc = .ok (.invokevirtual index, 3)) (hc : C + rm.cells ≤ R.cells) (hs : S + rm.slots ≤ R.slots)
    (k : ∀ T', own_Sd p l e R s m args below meth c n0 T' h (C + rm.cells) (S + rm.slots) → own_Go p e below P (T'.setTop { g with pc := g.pc + 3, stack := r.toList ++ rest })) : own_Go p e below P (T.setTop g) :=
  own_callP X hx hZ hown w1 w7 w5 hyy w6 w3 w4 hy E hM hf hlo hg hsize hlen has hstack hW hd hc hs fun v T' h' X' q => by
    obtain ⟨e1, e2⟩ := q; rw [e1]; rw [e2] at X'; exact k T' X'
end Own
section OwnS
variable {p : Program} {l : Launch} {e : Env} {R : Room} {s : State} {m : MethodId} {args : Array Value} {below : List Frame} {meth : Method} {c : Code} {T : State} {n0 C S : Nat} {Z : State} {a0 : Array Value} {h h' : Heap} {P : State → Outcome → Prop} {Q : Option Value → Heap → Prop} {a b : Addr} {ty : FieldType} {vs : List Value} {v : Value} {sl i : Nat}
variable {bytes : ByteArray} {maxL : Nat} {y : MethodName} {ret : Option FieldType} {pc : Nat} {Ls Ls' : Array Slot} {st : List Value}
theorem o_w (hw : ∀ d ∈ tables_1, d.before a0 Z = true) (i : Nat) {d : Jvm.Cond} (q : tables_1[i]? = some d) : d.before a0 Z = true := hw d (List.mem_of_getElem? q)
theorem o_iload (cx : own_Cx p s m meth c Z bytes maxL y ret) (X : own_Sd p l e R s m args below meth c n0 T h C S) {k : Nat} {z : Int32} (hd : decode bytes pc = .ok (.iload k, 2)) (hl : Ls[k]? = some (.val (.int z))) (k : own_Go p e below P (T.setTop (mkF m (pc + 2) Ls (.int z :: st)))) : own_Go p e below P (T.setTop (mkF m pc Ls st)) := by
  obtain ⟨hx, hby, -⟩ := cx
  exact own_st (fun _ q => XS.iload X.here hx rfl (hb hby hd) hl q) k
theorem o_lload (cx : own_Cx p s m meth c Z bytes maxL y ret) (X : own_Sd p l e R s m args below meth c n0 T h C S) {k : Nat} {z : Int64} (hd : decode bytes pc = .ok (.lload k, 2)) (hl : Ls[k]? = some (.val (.long z))) (k : own_Go p e below P (T.setTop (mkF m (pc + 2) Ls (.long z :: st)))) : own_Go p e below P (T.setTop (mkF m pc Ls st)) := by
  obtain ⟨hx, hby, -⟩ := cx
  exact own_st (fun _ q => XS.lload X.here hx rfl (hb hby hd) hl q) k
theorem o_aload (cx : own_Cx p s m meth c Z bytes maxL y ret) (X : own_Sd p l e R s m args below meth c n0 T h C S) {k : Nat} {v : Value} (hd : decode bytes pc = .ok (.aload k, 2)) (hl : Ls[k]? = some (.val v)) (hv : v.isRef = true) (k : own_Go p e below P (T.setTop (mkF m (pc + 2) Ls (v :: st)))) : own_Go p e below P (T.setTop (mkF m pc Ls st)) := by
  obtain ⟨hx, hby, -⟩ := cx
  exact own_st (fun _ q => XS.aload X.here hx rfl (hb hby hd) hl hv q) k
theorem o_istore (cx : own_Cx p s m meth c Z bytes maxL y ret) (X : own_Sd p l e R s m args below meth c n0 T h C S) {k : Nat} {z : Int32} (hd : decode bytes pc = .ok (.istore k, 2)) (hl : storeLocals Ls k (.int z) = some Ls') (k : own_Go p e below P (T.setTop (mkF m (pc + 2) Ls' st))) : own_Go p e below P (T.setTop (mkF m pc Ls (.int z :: st))) := by
  obtain ⟨hx, hby, -⟩ := cx
  exact own_st (fun _ q => XS.istore X.here hx rfl (hb hby hd) rfl hl q) k
theorem o_lstore (cx : own_Cx p s m meth c Z bytes maxL y ret) (X : own_Sd p l e R s m args below meth c n0 T h C S) {k : Nat} {z : Int64} (hd : decode bytes pc = .ok (.lstore k, 2)) (hl : storeLocals Ls k (.long z) = some Ls') (k : own_Go p e below P (T.setTop (mkF m (pc + 2) Ls' st))) : own_Go p e below P (T.setTop (mkF m pc Ls (.long z :: st))) := by
  obtain ⟨hx, hby, -⟩ := cx
  exact own_st (fun _ q => XS.lstore X.here hx rfl (hb hby hd) rfl hl q) k
theorem o_astore (cx : own_Cx p s m meth c Z bytes maxL y ret) (X : own_Sd p l e R s m args below meth c n0 T h C S) {k : Nat} {v : Value} (hd : decode bytes pc = .ok (.astore k, 2)) (hv : v.isRef = true) (hl : storeLocals Ls k v = some Ls') (k : own_Go p e below P (T.setTop (mkF m (pc + 2) Ls' st))) : own_Go p e below P (T.setTop (mkF m pc Ls (v :: st))) := by
  obtain ⟨hx, hby, -⟩ := cx
  exact own_st (fun _ q => XS.astore X.here hx rfl (hb hby hd) rfl hv hl q) k
theorem o_iloadN (cx : own_Cx p s m meth c Z bytes maxL y ret) (X : own_Sd p l e R s m args below meth c n0 T h C S) {k : Fin 4} {z : Int32} (hd : decode bytes pc = .ok (.iload_n k, 1)) (hl : Ls[k.val]? = some (.val (.int z))) (k : own_Go p e below P (T.setTop (mkF m (pc + 1) Ls (.int z :: st)))) : own_Go p e below P (T.setTop (mkF m pc Ls st)) := by
  obtain ⟨hx, hby, -⟩ := cx
  exact own_st (fun _ q => XS.iloadN X.here hx rfl (hb hby hd) hl q) k
theorem o_lloadN (cx : own_Cx p s m meth c Z bytes maxL y ret) (X : own_Sd p l e R s m args below meth c n0 T h C S) {k : Fin 4} {z : Int64} (hd : decode bytes pc = .ok (.lload_n k, 1)) (hl : Ls[k.val]? = some (.val (.long z))) (k : own_Go p e below P (T.setTop (mkF m (pc + 1) Ls (.long z :: st)))) : own_Go p e below P (T.setTop (mkF m pc Ls st)) := by
  obtain ⟨hx, hby, -⟩ := cx
  exact own_st (fun _ q => XS.lloadN X.here hx rfl (hb hby hd) hl q) k
theorem o_aloadN (cx : own_Cx p s m meth c Z bytes maxL y ret) (X : own_Sd p l e R s m args below meth c n0 T h C S) {k : Fin 4} {v : Value} (hd : decode bytes pc = .ok (.aload_n k, 1)) (hl : Ls[k.val]? = some (.val v)) (hv : v.isRef = true) (k : own_Go p e below P (T.setTop (mkF m (pc + 1) Ls (v :: st)))) : own_Go p e below P (T.setTop (mkF m pc Ls st)) := by
  obtain ⟨hx, hby, -⟩ := cx
  exact own_st (fun _ q => XS.aloadN X.here hx rfl (hb hby hd) hl hv q) k
theorem o_istoreN (cx : own_Cx p s m meth c Z bytes maxL y ret) (X : own_Sd p l e R s m args below meth c n0 T h C S) {k : Fin 4} {z : Int32} (hd : decode bytes pc = .ok (.istore_n k, 1)) (hl : storeLocals Ls k.val (.int z) = some Ls') (k : own_Go p e below P (T.setTop (mkF m (pc + 1) Ls' st))) : own_Go p e below P (T.setTop (mkF m pc Ls (.int z :: st))) := by
  obtain ⟨hx, hby, -⟩ := cx
  exact own_st (fun _ q => XS.istoreN X.here hx rfl (hb hby hd) rfl hl q) k
theorem o_lstoreN (cx : own_Cx p s m meth c Z bytes maxL y ret) (X : own_Sd p l e R s m args below meth c n0 T h C S) {k : Fin 4} {z : Int64} (hd : decode bytes pc = .ok (.lstore_n k, 1)) (hl : storeLocals Ls k.val (.long z) = some Ls') (k : own_Go p e below P (T.setTop (mkF m (pc + 1) Ls' st))) : own_Go p e below P (T.setTop (mkF m pc Ls (.long z :: st))) := by
  obtain ⟨hx, hby, -⟩ := cx
  exact own_st (fun _ q => XS.lstoreN X.here hx rfl (hb hby hd) rfl hl q) k
theorem o_astoreN (cx : own_Cx p s m meth c Z bytes maxL y ret) (X : own_Sd p l e R s m args below meth c n0 T h C S) {k : Fin 4} {v : Value} (hd : decode bytes pc = .ok (.astore_n k, 1)) (hv : v.isRef = true) (hl : storeLocals Ls k.val v = some Ls') (k : own_Go p e below P (T.setTop (mkF m (pc + 1) Ls' st))) : own_Go p e below P (T.setTop (mkF m pc Ls (v :: st))) := by
  obtain ⟨hx, hby, -⟩ := cx
  exact own_st (fun _ q => XS.astoreN X.here hx rfl (hb hby hd) rfl hv hl q) k
theorem o_iconst (cx : own_Cx p s m meth c Z bytes maxL y ret) (X : own_Sd p l e R s m args below meth c n0 T h C S) {i : Int} {z : Int32} (hd : decode bytes pc = .ok (.iconst i, 1)) (hz : Int32.ofInt i = z) (k : own_Go p e below P (T.setTop (mkF m (pc + 1) Ls (.int z :: st)))) : own_Go p e below P (T.setTop (mkF m pc Ls st)) := by
  obtain ⟨hx, hby, -⟩ := cx
  exact own_st (fun _ q => XS.iconst X.here hx rfl (hb hby hd) (by rw [hz]; exact q)) k
theorem o_bipush (cx : own_Cx p s m meth c Z bytes maxL y ret) (X : own_Sd p l e R s m args below meth c n0 T h C S) {i : Int} {z : Int32} (hd : decode bytes pc = .ok (.bipush i, 2)) (hz : (Int8.ofInt i).toInt32 = z) (k : own_Go p e below P (T.setTop (mkF m (pc + 2) Ls (.int z :: st)))) : own_Go p e below P (T.setTop (mkF m pc Ls st)) := by
  obtain ⟨hx, hby, -⟩ := cx
  exact own_st (fun _ q => XS.bipush X.here hx rfl (hb hby hd) (by rw [hz]; exact q)) k
theorem o_sipush (cx : own_Cx p s m meth c Z bytes maxL y ret) (X : own_Sd p l e R s m args below meth c n0 T h C S) {i : Int} {z : Int32} (hd : decode bytes pc = .ok (.sipush i, 3)) (hz : (Int16.ofInt i).toInt32 = z) (k : own_Go p e below P (T.setTop (mkF m (pc + 3) Ls (.int z :: st)))) : own_Go p e below P (T.setTop (mkF m pc Ls st)) := by
  obtain ⟨hx, hby, -⟩ := cx
  exact own_st (fun _ q => XS.sipush X.here hx rfl (hb hby hd) (by rw [hz]; exact q)) k
theorem o_lconst (cx : own_Cx p s m meth c Z bytes maxL y ret) (X : own_Sd p l e R s m args below meth c n0 T h C S) {j : Fin 2} {z : Int64} (hd : decode bytes pc = .ok (.lconst j, 1)) (hz : Int64.ofNat j = z) (k : own_Go p e below P (T.setTop (mkF m (pc + 1) Ls (.long z :: st)))) : own_Go p e below P (T.setTop (mkF m pc Ls st)) := by
  obtain ⟨hx, hby, -⟩ := cx
  exact own_st (fun _ q => XS.lconst X.here hx rfl (hb hby hd) (by rw [hz]; exact q)) k
theorem o_aconst_null (cx : own_Cx p s m meth c Z bytes maxL y ret) (X : own_Sd p l e R s m args below meth c n0 T h C S)  (hd : decode bytes pc = .ok (.aconst_null, 1))  (k : own_Go p e below P (T.setTop (mkF m (pc + 1) Ls (.null :: st)))) : own_Go p e below P (T.setTop (mkF m pc Ls st)) := by
  obtain ⟨hx, hby, -⟩ := cx
  exact own_st (fun _ q => XS.aconstNull X.here hx rfl (hb hby hd) q) k
theorem o_iadd (cx : own_Cx p s m meth c Z bytes maxL y ret) (X : own_Sd p l e R s m args below meth c n0 T h C S) {x w z : Int32} (hd : decode bytes pc = .ok (.iadd, 1)) (hz : (x + w) = z) (k : own_Go p e below P (T.setTop (mkF m (pc + 1) Ls (.int z :: st)))) : own_Go p e below P (T.setTop (mkF m pc Ls (.int w :: .int x :: st))) := by
  obtain ⟨hx, hby, -⟩ := cx
  exact own_st (fun _ q => XS.iadd X.here hx rfl (hb hby hd) rfl (by rw [hz]; exact q)) k
theorem o_isub (cx : own_Cx p s m meth c Z bytes maxL y ret) (X : own_Sd p l e R s m args below meth c n0 T h C S) {x w z : Int32} (hd : decode bytes pc = .ok (.isub, 1)) (hz : (x - w) = z) (k : own_Go p e below P (T.setTop (mkF m (pc + 1) Ls (.int z :: st)))) : own_Go p e below P (T.setTop (mkF m pc Ls (.int w :: .int x :: st))) := by
  obtain ⟨hx, hby, -⟩ := cx
  exact own_st (fun _ q => XS.isub X.here hx rfl (hb hby hd) rfl (by rw [hz]; exact q)) k
theorem o_imul (cx : own_Cx p s m meth c Z bytes maxL y ret) (X : own_Sd p l e R s m args below meth c n0 T h C S) {x w z : Int32} (hd : decode bytes pc = .ok (.imul, 1)) (hz : (x * w) = z) (k : own_Go p e below P (T.setTop (mkF m (pc + 1) Ls (.int z :: st)))) : own_Go p e below P (T.setTop (mkF m pc Ls (.int w :: .int x :: st))) := by
  obtain ⟨hx, hby, -⟩ := cx
  exact own_st (fun _ q => XS.imul X.here hx rfl (hb hby hd) rfl (by rw [hz]; exact q)) k
theorem o_iand (cx : own_Cx p s m meth c Z bytes maxL y ret) (X : own_Sd p l e R s m args below meth c n0 T h C S) {x w z : Int32} (hd : decode bytes pc = .ok (.iand, 1)) (hz : (x &&& w) = z) (k : own_Go p e below P (T.setTop (mkF m (pc + 1) Ls (.int z :: st)))) : own_Go p e below P (T.setTop (mkF m pc Ls (.int w :: .int x :: st))) := by
  obtain ⟨hx, hby, -⟩ := cx
  exact own_st (fun _ q => XS.iand X.here hx rfl (hb hby hd) rfl (by rw [hz]; exact q)) k
theorem o_ior (cx : own_Cx p s m meth c Z bytes maxL y ret) (X : own_Sd p l e R s m args below meth c n0 T h C S) {x w z : Int32} (hd : decode bytes pc = .ok (.ior, 1)) (hz : (x ||| w) = z) (k : own_Go p e below P (T.setTop (mkF m (pc + 1) Ls (.int z :: st)))) : own_Go p e below P (T.setTop (mkF m pc Ls (.int w :: .int x :: st))) := by
  obtain ⟨hx, hby, -⟩ := cx
  exact own_st (fun _ q => XS.ior X.here hx rfl (hb hby hd) rfl (by rw [hz]; exact q)) k
theorem o_ixor (cx : own_Cx p s m meth c Z bytes maxL y ret) (X : own_Sd p l e R s m args below meth c n0 T h C S) {x w z : Int32} (hd : decode bytes pc = .ok (.ixor, 1)) (hz : (x ^^^ w) = z) (k : own_Go p e below P (T.setTop (mkF m (pc + 1) Ls (.int z :: st)))) : own_Go p e below P (T.setTop (mkF m pc Ls (.int w :: .int x :: st))) := by
  obtain ⟨hx, hby, -⟩ := cx
  exact own_st (fun _ q => XS.ixor X.here hx rfl (hb hby hd) rfl (by rw [hz]; exact q)) k
theorem o_ishl (cx : own_Cx p s m meth c Z bytes maxL y ret) (X : own_Sd p l e R s m args below meth c n0 T h C S) {x w z : Int32} (hd : decode bytes pc = .ok (.ishl, 1)) (hz : (x <<< (w &&& 31)) = z) (k : own_Go p e below P (T.setTop (mkF m (pc + 1) Ls (.int z :: st)))) : own_Go p e below P (T.setTop (mkF m pc Ls (.int w :: .int x :: st))) := by
  obtain ⟨hx, hby, -⟩ := cx
  exact own_st (fun _ q => XS.ishl X.here hx rfl (hb hby hd) rfl (by rw [hz]; exact q)) k
theorem o_ishr (cx : own_Cx p s m meth c Z bytes maxL y ret) (X : own_Sd p l e R s m args below meth c n0 T h C S) {x w z : Int32} (hd : decode bytes pc = .ok (.ishr, 1)) (hz : (x >>> (w &&& 31)) = z) (k : own_Go p e below P (T.setTop (mkF m (pc + 1) Ls (.int z :: st)))) : own_Go p e below P (T.setTop (mkF m pc Ls (.int w :: .int x :: st))) := by
  obtain ⟨hx, hby, -⟩ := cx
  exact own_st (fun _ q => XS.ishr X.here hx rfl (hb hby hd) rfl (by rw [hz]; exact q)) k
theorem o_iushr (cx : own_Cx p s m meth c Z bytes maxL y ret) (X : own_Sd p l e R s m args below meth c n0 T h C S) {x w z : Int32} (hd : decode bytes pc = .ok (.iushr, 1)) (hz : ((x.toUInt32 >>> (w &&& 31).toUInt32).toInt32) = z) (k : own_Go p e below P (T.setTop (mkF m (pc + 1) Ls (.int z :: st)))) : own_Go p e below P (T.setTop (mkF m pc Ls (.int w :: .int x :: st))) := by
  obtain ⟨hx, hby, -⟩ := cx
  exact own_st (fun _ q => XS.iushr X.here hx rfl (hb hby hd) rfl (by rw [hz]; exact q)) k
theorem o_ladd (cx : own_Cx p s m meth c Z bytes maxL y ret) (X : own_Sd p l e R s m args below meth c n0 T h C S) {x w z : Int64} (hd : decode bytes pc = .ok (.ladd, 1)) (hz : (x + w) = z) (k : own_Go p e below P (T.setTop (mkF m (pc + 1) Ls (.long z :: st)))) : own_Go p e below P (T.setTop (mkF m pc Ls (.long w :: .long x :: st))) := by
  obtain ⟨hx, hby, -⟩ := cx
  exact own_st (fun _ q => XS.ladd X.here hx rfl (hb hby hd) rfl (by rw [hz]; exact q)) k
theorem o_lsub (cx : own_Cx p s m meth c Z bytes maxL y ret) (X : own_Sd p l e R s m args below meth c n0 T h C S) {x w z : Int64} (hd : decode bytes pc = .ok (.lsub, 1)) (hz : (x - w) = z) (k : own_Go p e below P (T.setTop (mkF m (pc + 1) Ls (.long z :: st)))) : own_Go p e below P (T.setTop (mkF m pc Ls (.long w :: .long x :: st))) := by
  obtain ⟨hx, hby, -⟩ := cx
  exact own_st (fun _ q => XS.lsub X.here hx rfl (hb hby hd) rfl (by rw [hz]; exact q)) k
theorem o_lmul (cx : own_Cx p s m meth c Z bytes maxL y ret) (X : own_Sd p l e R s m args below meth c n0 T h C S) {x w z : Int64} (hd : decode bytes pc = .ok (.lmul, 1)) (hz : (x * w) = z) (k : own_Go p e below P (T.setTop (mkF m (pc + 1) Ls (.long z :: st)))) : own_Go p e below P (T.setTop (mkF m pc Ls (.long w :: .long x :: st))) := by
  obtain ⟨hx, hby, -⟩ := cx
  exact own_st (fun _ q => XS.lmul X.here hx rfl (hb hby hd) rfl (by rw [hz]; exact q)) k
theorem o_land (cx : own_Cx p s m meth c Z bytes maxL y ret) (X : own_Sd p l e R s m args below meth c n0 T h C S) {x w z : Int64} (hd : decode bytes pc = .ok (.land, 1)) (hz : (x &&& w) = z) (k : own_Go p e below P (T.setTop (mkF m (pc + 1) Ls (.long z :: st)))) : own_Go p e below P (T.setTop (mkF m pc Ls (.long w :: .long x :: st))) := by
  obtain ⟨hx, hby, -⟩ := cx
  exact own_st (fun _ q => XS.land X.here hx rfl (hb hby hd) rfl (by rw [hz]; exact q)) k
theorem o_lor (cx : own_Cx p s m meth c Z bytes maxL y ret) (X : own_Sd p l e R s m args below meth c n0 T h C S) {x w z : Int64} (hd : decode bytes pc = .ok (.lor, 1)) (hz : (x ||| w) = z) (k : own_Go p e below P (T.setTop (mkF m (pc + 1) Ls (.long z :: st)))) : own_Go p e below P (T.setTop (mkF m pc Ls (.long w :: .long x :: st))) := by
  obtain ⟨hx, hby, -⟩ := cx
  exact own_st (fun _ q => XS.lor X.here hx rfl (hb hby hd) rfl (by rw [hz]; exact q)) k
theorem o_lxor (cx : own_Cx p s m meth c Z bytes maxL y ret) (X : own_Sd p l e R s m args below meth c n0 T h C S) {x w z : Int64} (hd : decode bytes pc = .ok (.lxor, 1)) (hz : (x ^^^ w) = z) (k : own_Go p e below P (T.setTop (mkF m (pc + 1) Ls (.long z :: st)))) : own_Go p e below P (T.setTop (mkF m pc Ls (.long w :: .long x :: st))) := by
  obtain ⟨hx, hby, -⟩ := cx
  exact own_st (fun _ q => XS.lxor X.here hx rfl (hb hby hd) rfl (by rw [hz]; exact q)) k
theorem o_lshl (cx : own_Cx p s m meth c Z bytes maxL y ret) (X : own_Sd p l e R s m args below meth c n0 T h C S) {x : Int64} {w : Int32} {z : Int64} (hd : decode bytes pc = .ok (.lshl, 1)) (hz : (x <<< (w &&& 0x3f).toInt64) = z) (k : own_Go p e below P (T.setTop (mkF m (pc + 1) Ls (.long z :: st)))) : own_Go p e below P (T.setTop (mkF m pc Ls (.int w :: .long x :: st))) := by
  obtain ⟨hx, hby, -⟩ := cx
  exact own_st (fun _ q => XS.lshl X.here hx rfl (hb hby hd) rfl (by rw [hz]; exact q)) k
theorem o_lshr (cx : own_Cx p s m meth c Z bytes maxL y ret) (X : own_Sd p l e R s m args below meth c n0 T h C S) {x : Int64} {w : Int32} {z : Int64} (hd : decode bytes pc = .ok (.lshr, 1)) (hz : (x >>> (w &&& 0x3f).toInt64) = z) (k : own_Go p e below P (T.setTop (mkF m (pc + 1) Ls (.long z :: st)))) : own_Go p e below P (T.setTop (mkF m pc Ls (.int w :: .long x :: st))) := by
  obtain ⟨hx, hby, -⟩ := cx
  exact own_st (fun _ q => XS.lshr X.here hx rfl (hb hby hd) rfl (by rw [hz]; exact q)) k
theorem o_lushr (cx : own_Cx p s m meth c Z bytes maxL y ret) (X : own_Sd p l e R s m args below meth c n0 T h C S) {x : Int64} {w : Int32} {z : Int64} (hd : decode bytes pc = .ok (.lushr, 1)) (hz : ((x.toUInt64 >>> (w &&& 0x3f).toInt64.toUInt64).toInt64) = z) (k : own_Go p e below P (T.setTop (mkF m (pc + 1) Ls (.long z :: st)))) : own_Go p e below P (T.setTop (mkF m pc Ls (.int w :: .long x :: st))) := by
  obtain ⟨hx, hby, -⟩ := cx
  exact own_st (fun _ q => XS.lushr X.here hx rfl (hb hby hd) rfl (by rw [hz]; exact q)) k
theorem o_ineg (cx : own_Cx p s m meth c Z bytes maxL y ret) (X : own_Sd p l e R s m args below meth c n0 T h C S) {x : Int32} {z : Int32} (hd : decode bytes pc = .ok (.ineg, 1)) (hz : (-x) = z) (k : own_Go p e below P (T.setTop (mkF m (pc + 1) Ls (.int z :: st)))) : own_Go p e below P (T.setTop (mkF m pc Ls (.int x :: st))) := by
  obtain ⟨hx, hby, -⟩ := cx
  exact own_st (fun _ q => XS.ineg X.here hx rfl (hb hby hd) rfl (by rw [hz]; exact q)) k
theorem o_lneg (cx : own_Cx p s m meth c Z bytes maxL y ret) (X : own_Sd p l e R s m args below meth c n0 T h C S) {x : Int64} {z : Int64} (hd : decode bytes pc = .ok (.lneg, 1)) (hz : (-x) = z) (k : own_Go p e below P (T.setTop (mkF m (pc + 1) Ls (.long z :: st)))) : own_Go p e below P (T.setTop (mkF m pc Ls (.long x :: st))) := by
  obtain ⟨hx, hby, -⟩ := cx
  exact own_st (fun _ q => XS.lneg X.here hx rfl (hb hby hd) rfl (by rw [hz]; exact q)) k
theorem o_i2l (cx : own_Cx p s m meth c Z bytes maxL y ret) (X : own_Sd p l e R s m args below meth c n0 T h C S) {x : Int32} {z : Int64} (hd : decode bytes pc = .ok (.i2l, 1)) (hz : (x.toInt64) = z) (k : own_Go p e below P (T.setTop (mkF m (pc + 1) Ls (.long z :: st)))) : own_Go p e below P (T.setTop (mkF m pc Ls (.int x :: st))) := by
  obtain ⟨hx, hby, -⟩ := cx
  exact own_st (fun _ q => XS.i2l X.here hx rfl (hb hby hd) rfl (by rw [hz]; exact q)) k
theorem o_l2i (cx : own_Cx p s m meth c Z bytes maxL y ret) (X : own_Sd p l e R s m args below meth c n0 T h C S) {x : Int64} {z : Int32} (hd : decode bytes pc = .ok (.l2i, 1)) (hz : (x.toInt32) = z) (k : own_Go p e below P (T.setTop (mkF m (pc + 1) Ls (.int z :: st)))) : own_Go p e below P (T.setTop (mkF m pc Ls (.long x :: st))) := by
  obtain ⟨hx, hby, -⟩ := cx
  exact own_st (fun _ q => XS.l2i X.here hx rfl (hb hby hd) rfl (by rw [hz]; exact q)) k
theorem o_i2b (cx : own_Cx p s m meth c Z bytes maxL y ret) (X : own_Sd p l e R s m args below meth c n0 T h C S) {x : Int32} {z : Int32} (hd : decode bytes pc = .ok (.i2b, 1)) (hz : (x.toInt8.toInt32) = z) (k : own_Go p e below P (T.setTop (mkF m (pc + 1) Ls (.int z :: st)))) : own_Go p e below P (T.setTop (mkF m pc Ls (.int x :: st))) := by
  obtain ⟨hx, hby, -⟩ := cx
  exact own_st (fun _ q => XS.i2b X.here hx rfl (hb hby hd) rfl (by rw [hz]; exact q)) k
theorem o_i2s (cx : own_Cx p s m meth c Z bytes maxL y ret) (X : own_Sd p l e R s m args below meth c n0 T h C S) {x : Int32} {z : Int32} (hd : decode bytes pc = .ok (.i2s, 1)) (hz : (x.toInt16.toInt32) = z) (k : own_Go p e below P (T.setTop (mkF m (pc + 1) Ls (.int z :: st)))) : own_Go p e below P (T.setTop (mkF m pc Ls (.int x :: st))) := by
  obtain ⟨hx, hby, -⟩ := cx
  exact own_st (fun _ q => XS.i2s X.here hx rfl (hb hby hd) rfl (by rw [hz]; exact q)) k
theorem o_i2c (cx : own_Cx p s m meth c Z bytes maxL y ret) (X : own_Sd p l e R s m args below meth c n0 T h C S) {x : Int32} {z : Int32} (hd : decode bytes pc = .ok (.i2c, 1)) (hz : (x.toUInt32.toUInt16.toUInt32.toInt32) = z) (k : own_Go p e below P (T.setTop (mkF m (pc + 1) Ls (.int z :: st)))) : own_Go p e below P (T.setTop (mkF m pc Ls (.int x :: st))) := by
  obtain ⟨hx, hby, -⟩ := cx
  exact own_st (fun _ q => XS.i2c X.here hx rfl (hb hby hd) rfl (by rw [hz]; exact q)) k
theorem o_lcmp (cx : own_Cx p s m meth c Z bytes maxL y ret) (X : own_Sd p l e R s m args below meth c n0 T h C S) {x w : Int64} {z : Int32} (hd : decode bytes pc = .ok (.lcmp, 1)) (hz : lcmpW x w = z) (k : own_Go p e below P (T.setTop (mkF m (pc + 1) Ls (.int z :: st)))) : own_Go p e below P (T.setTop (mkF m pc Ls (.long w :: .long x :: st))) := by
  obtain ⟨hx, hby, -⟩ := cx
  exact own_st (fun _ q => XS.lcmp X.here hx rfl (hb hby hd) rfl (by rw [← hz] at q; exact q)) k
theorem o_irem (cx : own_Cx p s m meth c Z bytes maxL y ret) (X : own_Sd p l e R s m args below meth c n0 T h C S) {x w z : Int32} (hd : decode bytes pc = .ok (.irem, 1)) (hw : w ≠ 0) (hz : x % w = z) (k : own_Go p e below P (T.setTop (mkF m (pc + 1) Ls (.int z :: st)))) : own_Go p e below P (T.setTop (mkF m pc Ls (.int w :: .int x :: st))) := by
  obtain ⟨hx, hby, -⟩ := cx
  exact own_st (fun _ q => by obtain ⟨_, X, _⟩ := X; exact iremM X hx rfl (hb hby hd) rfl hw (by rw [hz]; exact q)) k
theorem o_lrem (cx : own_Cx p s m meth c Z bytes maxL y ret) (X : own_Sd p l e R s m args below meth c n0 T h C S) {x w z : Int64} (hd : decode bytes pc = .ok (.lrem, 1)) (hw : w ≠ 0) (hz : x % w = z) (k : own_Go p e below P (T.setTop (mkF m (pc + 1) Ls (.long z :: st)))) : own_Go p e below P (T.setTop (mkF m pc Ls (.long w :: .long x :: st))) := by
  obtain ⟨hx, hby, -⟩ := cx
  exact own_st (fun _ q => XS.lrem X.here hx rfl (hb hby hd) rfl hw (by rw [lrem_mod, hz]; exact q)) k
theorem o_iinc (cx : own_Cx p s m meth c Z bytes maxL y ret) (X : own_Sd p l e R s m args below meth c n0 T h C S) {k : Nat} {i : Int} {x z : Int32} (hd : decode bytes pc = .ok (.iinc k i, 3)) (hl : Ls[k]? = some (.val (.int x))) (hz : x + Int32.ofInt i = z) (hl' : storeLocals Ls k (.int z) = some Ls') (k : own_Go p e below P (T.setTop (mkF m (pc + 3) Ls' st))) : own_Go p e below P (T.setTop (mkF m pc Ls st)) := by
  obtain ⟨hx, hby, -⟩ := cx
  exact own_st (fun _ q => XS.iinc X.here hx rfl (hb hby hd) hl (by rw [hz]; exact hl') q) k
theorem o_dup (cx : own_Cx p s m meth c Z bytes maxL y ret) (X : own_Sd p l e R s m args below meth c n0 T h C S) {v : Value} (hd : decode bytes pc = .ok (.dup, 1)) (hc : v.category = 1) (k : own_Go p e below P (T.setTop (mkF m (pc + 1) Ls (v :: v :: st)))) : own_Go p e below P (T.setTop (mkF m pc Ls (v :: st))) := by
  obtain ⟨hx, hby, -⟩ := cx
  exact own_st (fun _ q => XS.dup X.here hx rfl (hb hby hd) rfl hc q) k
theorem o_pop (cx : own_Cx p s m meth c Z bytes maxL y ret) (X : own_Sd p l e R s m args below meth c n0 T h C S) {v : Value} (hd : decode bytes pc = .ok (.pop, 1)) (hc : v.category = 1) (k : own_Go p e below P (T.setTop (mkF m (pc + 1) Ls st))) : own_Go p e below P (T.setTop (mkF m pc Ls (v :: st))) := by
  obtain ⟨hx, hby, -⟩ := cx
  exact own_st (fun _ q => XS.pop X.here hx rfl (hb hby hd) rfl hc q) k
theorem o_dup_x1 (cx : own_Cx p s m meth c Z bytes maxL y ret) (X : own_Sd p l e R s m args below meth c n0 T h C S) {v w : Value} (hd : decode bytes pc = .ok (.dup_x1, 1)) (hc : v.category = 1) (hc' : w.category = 1) (k : own_Go p e below P (T.setTop (mkF m (pc + 1) Ls (v :: w :: v :: st)))) : own_Go p e below P (T.setTop (mkF m pc Ls (v :: w :: st))) := by
  obtain ⟨hx, hby, -⟩ := cx
  exact own_st (fun _ q => XS.dupX1 X.here hx rfl (hb hby hd) rfl hc hc' q) k
theorem o_dup2 (cx : own_Cx p s m meth c Z bytes maxL y ret) (X : own_Sd p l e R s m args below meth c n0 T h C S) {v w : Value} (hd : decode bytes pc = .ok (.dup2, 1)) (hc : v.category = 1) (hc' : w.category = 1) (k : own_Go p e below P (T.setTop (mkF m (pc + 1) Ls (v :: w :: v :: w :: st)))) : own_Go p e below P (T.setTop (mkF m pc Ls (v :: w :: st))) := by
  obtain ⟨hx, hby, -⟩ := cx
  exact own_st (fun _ q => Jvm.Free.XT.dup2 X.here hx rfl (hb hby hd) rfl hc hc' q) k
theorem o_dup_x2 (cx : own_Cx p s m meth c Z bytes maxL y ret) (X : own_Sd p l e R s m args below meth c n0 T h C S) {x w z : Value} (hd : decode bytes pc = .ok (.dup_x2, 1)) (h1 : x.category = 1) (h2 : w.category = 1) (h3 : z.category = 1) (k : own_Go p e below P (T.setTop (mkF m (pc + 1) Ls (x :: w :: z :: x :: st)))) : own_Go p e below P (T.setTop (mkF m pc Ls (x :: w :: z :: st))) := by
  obtain ⟨hx, hby, -⟩ := cx
  exact own_dupX2 X hx (g := mkF m pc Ls (x :: w :: z :: st)) (hb hby hd) rfl h1 h2 h3 rfl k
theorem o_goto (cx : own_Cx p s m meth c Z bytes maxL y ret) (X : own_Sd p l e R s m args below meth c n0 T h C S) {o : Int} (n : Nat) (hd : decode bytes pc = .ok (.goto o, 3)) (ho : 0 ≤ (pc : Int) + o) (hp : ((pc : Int) + o).toNat = n) (k : own_Go p e below P (T.setTop (mkF m n Ls st))) : own_Go p e below P (T.setTop (mkF m pc Ls st)) := by
  obtain ⟨hx, hby, -⟩ := cx
  exact own_st (fun _ q => XS.goto X.here hx rfl rfl (hb hby hd) ho hp q) k
theorem o_ifYes (cx : own_Cx p s m meth c Z bytes maxL y ret) (X : own_Sd p l e R s m args below meth c n0 T h C S) {cd : ClassFile.Cond} {x : Int32} {o : Int} (n : Nat) (hd : decode bytes pc = .ok (.ifCond cd o, 3)) (hc : ifCond.holds cd x = true) (ho : 0 ≤ (pc : Int) + o) (hp : ((pc : Int) + o).toNat = n) (k : own_Go p e below P (T.setTop (mkF m n Ls st))) : own_Go p e below P (T.setTop (mkF m pc Ls (.int x :: st))) := by
  obtain ⟨hx, hby, -⟩ := cx
  exact own_st (fun _ q => XS.ifYes X.here hx rfl rfl (hb hby hd) rfl hc ho hp q) k
theorem o_ifNo (cx : own_Cx p s m meth c Z bytes maxL y ret) (X : own_Sd p l e R s m args below meth c n0 T h C S) {cd : ClassFile.Cond} {x : Int32} {o : Int} (hd : decode bytes pc = .ok (.ifCond cd o, 3)) (hc : ifCond.holds cd x = false) (k : own_Go p e below P (T.setTop (mkF m (pc + 3) Ls st))) : own_Go p e below P (T.setTop (mkF m pc Ls (.int x :: st))) := by
  obtain ⟨hx, hby, -⟩ := cx
  exact own_st (fun _ q => XS.ifNo X.here hx rfl (hb hby hd) rfl hc q) k
theorem o_icmpYes (cx : own_Cx p s m meth c Z bytes maxL y ret) (X : own_Sd p l e R s m args below meth c n0 T h C S) {cd : ClassFile.Cond} {x w : Int32} {o : Int} (n : Nat) (hd : decode bytes pc = .ok (.if_icmp cd o, 3)) (hc : if_icmp.holds cd x w = true) (ho : 0 ≤ (pc : Int) + o) (hp : ((pc : Int) + o).toNat = n) (k : own_Go p e below P (T.setTop (mkF m n Ls st))) : own_Go p e below P (T.setTop (mkF m pc Ls (.int w :: .int x :: st))) := by
  obtain ⟨hx, hby, -⟩ := cx
  exact own_st (fun _ q => XS.icmpYes X.here hx rfl rfl (hb hby hd) rfl hc ho hp q) k
theorem o_icmpNo (cx : own_Cx p s m meth c Z bytes maxL y ret) (X : own_Sd p l e R s m args below meth c n0 T h C S) {cd : ClassFile.Cond} {x w : Int32} {o : Int} (hd : decode bytes pc = .ok (.if_icmp cd o, 3)) (hc : if_icmp.holds cd x w = false) (k : own_Go p e below P (T.setTop (mkF m (pc + 3) Ls st))) : own_Go p e below P (T.setTop (mkF m pc Ls (.int w :: .int x :: st))) := by
  obtain ⟨hx, hby, -⟩ := cx
  exact own_st (fun _ q => XS.icmpNo X.here hx rfl (hb hby hd) rfl hc q) k
theorem o_ifnullYes (cx : own_Cx p s m meth c Z bytes maxL y ret) (X : own_Sd p l e R s m args below meth c n0 T h C S) {o : Int} (n : Nat) (hd : decode bytes pc = .ok (.ifnull o, 3)) (ho : 0 ≤ (pc : Int) + o) (hp : ((pc : Int) + o).toNat = n) (k : own_Go p e below P (T.setTop (mkF m n Ls st))) : own_Go p e below P (T.setTop (mkF m pc Ls (.null :: st))) := by
  obtain ⟨hx, hby, -⟩ := cx
  exact own_st (fun _ q => XS.ifnullYes X.here hx rfl rfl (hb hby hd) rfl ho hp q) k
theorem o_ifnullNo (cx : own_Cx p s m meth c Z bytes maxL y ret) (X : own_Sd p l e R s m args below meth c n0 T h C S) {o : Int} {b : Addr} (hd : decode bytes pc = .ok (.ifnull o, 3))  (k : own_Go p e below P (T.setTop (mkF m (pc + 3) Ls st))) : own_Go p e below P (T.setTop (mkF m pc Ls (.ref b :: st))) := by
  obtain ⟨hx, hby, -⟩ := cx
  exact own_st (fun _ q => XS.ifnullNo X.here hx rfl (hb hby hd) rfl q) k
theorem o_ifnonnullYes (cx : own_Cx p s m meth c Z bytes maxL y ret) (X : own_Sd p l e R s m args below meth c n0 T h C S) {o : Int} (n : Nat) {b : Addr} (hd : decode bytes pc = .ok (.ifnonnull o, 3)) (ho : 0 ≤ (pc : Int) + o) (hp : ((pc : Int) + o).toNat = n) (k : own_Go p e below P (T.setTop (mkF m n Ls st))) : own_Go p e below P (T.setTop (mkF m pc Ls (.ref b :: st))) := by
  obtain ⟨hx, hby, -⟩ := cx
  exact own_st (fun _ q => XS.ifnonnullYes X.here hx rfl rfl (hb hby hd) rfl ho hp q) k
theorem o_ifnonnullNo (cx : own_Cx p s m meth c Z bytes maxL y ret) (X : own_Sd p l e R s m args below meth c n0 T h C S) {o : Int} (hd : decode bytes pc = .ok (.ifnonnull o, 3))  (k : own_Go p e below P (T.setTop (mkF m (pc + 3) Ls st))) : own_Go p e below P (T.setTop (mkF m pc Ls (.null :: st))) := by
  obtain ⟨hx, hby, -⟩ := cx
  exact own_st (fun _ q => XS.ifnonnullNo X.here hx rfl (hb hby hd) rfl q) k
theorem o_acmp (cx : own_Cx p s m meth c Z bytes maxL y ret) (X : own_Sd p l e R s m args below meth c n0 T h C S) {cd : ACond} {x w : Value} {o : Int} (n : Nat) (same : Bool) (hd : decode bytes pc = .ok (.if_acmp cd o, 3)) (h1 : x.isRef = true) (h2 : w.isRef = true) (hsame : decide (x = w) = same) (ho : 0 ≤ (pc : Int) + o) (hp : n = if acV cd same then ((pc : Int) + o).toNat else pc + 3) (k : own_Go p e below P (T.setTop (mkF m n Ls st))) : own_Go p e below P (T.setTop (mkF m pc Ls (w :: x :: st))) := by
  obtain ⟨hx, hby, hml, hown, hnm, hret, hlk, hZ⟩ := cx
  exact own_acmp X hx (g := mkF m pc Ls (w :: x :: st)) rfl h1 h2 rfl (hb hby hd) rfl hsame ho hp k
theorem o_ldc (cx : own_Cx p s m meth c Z bytes maxL y ret) (X : own_Sd p l e R s m args below meth c n0 T h C S) {j : Nat} {z : Int32} (hd : decode bytes pc = .ok (.ldc j, 2)) (w : (Jvm.Cond.constant y.cls j z).before a0 Z = true) (k : own_Go p e below P (T.setTop (mkF m (pc + 2) Ls (.int z :: st)))) : own_Go p e below P (T.setTop (mkF m pc Ls st)) := by
  obtain ⟨hx, hby, hml, hown, hnm, hret, hlk, hZ⟩ := cx
  exact own_ldc X hx hZ hown w (g := mkF m pc Ls st) rfl (hb hby hd) k
theorem o_ldc2 (cx : own_Cx p s m meth c Z bytes maxL y ret) (X : own_Sd p l e R s m args below meth c n0 T h C S) {j : Nat} {z : Int64} (hd : decode bytes pc = .ok (.ldc2_w j, 3)) (w : (Jvm.Cond.constantLong y.cls j z).before a0 Z = true) (k : own_Go p e below P (T.setTop (mkF m (pc + 3) Ls (.long z :: st)))) : own_Go p e below P (T.setTop (mkF m pc Ls st)) := by
  obtain ⟨hx, hby, hml, hown, hnm, hret, hlk, hZ⟩ := cx
  exact own_ldc2 X hx hZ hown w (g := mkF m pc Ls st) rfl (hb hby hd) k
theorem o_getF (cx : own_Cx p s m meth c Z bytes maxL y ret) (X : own_Sd p l e R s m args below meth c n0 T h C S) {O n d : String} {j : Nat} (hd : decode bytes pc = .ok (.getfield j, 3)) (w : (Jvm.Cond.fieldLink y.cls j O n d).before a0 Z = true) (F : Fld Z h a O n d v) (k : ∀ T', own_Sd p l e R s m args below meth c n0 T' h C S → own_Go p e below P (T'.setTop (mkF m (pc + 3) Ls (v :: st)))) : own_Go p e below P (T.setTop (mkF m pc Ls (.ref a :: st))) := by
  obtain ⟨hx, hby, hml, hown, hnm, hret, hlk, hZ⟩ := cx
  exact own_getF X hx hZ hown w F (g := mkF m pc Ls (.ref a :: st)) rfl rfl (hb hby hd) k
theorem o_putF (cx : own_Cx p s m meth c Z bytes maxL y ret) (X : own_Sd p l e R s m args below meth c n0 T h C S) {O n d K : String} {j kk : Nat} {v' old : Value} (hd : decode bytes pc = .ok (.putfield j, 3)) (w : (Jvm.Cond.fieldLink y.cls j O n d).before a0 Z = true) (F : Fld Z h a O n d old) (E : Exa Z h a K) (L : (Jvm.Cond.lays K O n d).before a0 Z = true ∨ ((Jvm.Cond.laysFinal K O n d).before a0 Z = true ∧ y.cls = O ∧ y.name = "<init>")) (wi : (Jvm.Cond.instantiable K kk).before a0 Z = true) (hty : parseFieldDescriptor d = some ty) (hn : narrow ty v = v') (hf : fits ty v' = true) (ga : n0 ≤ a) (k : ∀ T' h', own_Sd p l e R s m args below meth c n0 T' h' C S → Wr h h' a (Jvm.RoadKit.slotOf Z O n d) v' → own_Go p e below P (T'.setTop (mkF m (pc + 3) Ls st))) : own_Go p e below P (T.setTop (mkF m pc Ls (v :: .ref a :: st))) := by
  obtain ⟨hx, hby, hml, hown, hnm, hret, hlk, hZ⟩ := cx
  exact own_putF X hx hZ hown w F E (by rw [hnm]; exact L) wi hty hn hf ga (g := mkF m pc Ls (v :: .ref a :: st)) rfl rfl (hb hby hd) k
theorem o_newO (cx : own_Cx p s m meth c Z bytes maxL y ret) (X : own_Sd p l e R s m args below meth c n0 T h C S) {K : String} {j n : Nat} (hd : decode bytes pc = .ok (.new j, 3)) (w : (Jvm.Cond.classLink y.cls j K).before a0 Z = true) (wi : (Jvm.Cond.instantiable K n).before a0 Z = true) (wz : (Jvm.Cond.initialized K).before a0 Z = true) (hc : C + 1 ≤ R.cells) (hl : S + n ≤ R.slots) (k : ∀ T' h' b, b = h.size → n0 ≤ b → own_Sd p l e R s m args below meth c n0 T' h' (C + 1) (S + n) → Ext h h' → Exa Z h' b K → (∀ {O nm d : String} {ty : FieldType}, Laid Z a0 K O nm d → parseFieldDescriptor d = some ty → Fld Z h' b O nm d (defaultValue ty)) → own_Go p e below P (T'.setTop (mkF m (pc + 3) Ls (.ref b :: st)))) : own_Go p e below P (T.setTop (mkF m pc Ls st)) := by
  obtain ⟨hx, hby, hml, hown, hnm, hret, hlk, hZ⟩ := cx
  exact own_newO X hx hZ hown w wi wz (g := mkF m pc Ls st) rfl (hb hby hd) hc hl k
theorem o_initO (cx : own_Cx p s m meth c Z bytes maxL y ret) (X : own_Sd p l e R s m args below meth c n0 T h C S) {j : Nat} (hd : decode bytes pc = .ok (.invokespecial j, 3)) (w1 : (Jvm.Cond.methodLink y.cls j Lib.objectInit).before a0 Z = true) (w2 : (Jvm.Cond.instanceMethod Lib.objectInit).before a0 Z = true) (w3 : (Jvm.Cond.code Lib.objectInit ⟨#[0xb1]⟩ 1 none).before a0 Z = true) (hsz : Ls.size = maxL) (hf : 1 ≤ R.frames) (W : Nat) (hW : (st.map fun v => v.category).sum = W) (hl : W + 12 ≤ R.locals) (k : ∀ T', own_Sd p l e R s m args below meth c n0 T' h C S → own_Go p e below P (T'.setTop (mkF m (pc + 3) Ls st))) : own_Go p e below P (T.setTop (mkF m pc Ls (.ref a :: st))) := by
  obtain ⟨hx, hby, hml, hown, hnm, hret, hlk, hZ⟩ := cx
  exact own_initO X hx hZ hown w1 w2 w3 (g := mkF m pc Ls (.ref a :: st)) rfl (by rw [hml]; exact hsz) rfl (hb hby hd) hf (W := W) (by show 2 * 0 + _ ≤ _; omega) hl k
theorem o_callS (cx : own_Cx p s m meth c Z bytes maxL y ret) (X : own_Sd p l e R s m args below meth c n0 T h C S) {y' : MethodName} {bytes' : ByteArray} {maxL' : Nat} {ret' : Option FieldType} {j : Nat} {stk : List Value} (hd : decode bytes pc = .ok (.invokestatic j, 3)) (w1 : (Jvm.Cond.methodLink y.cls j y').before a0 Z = true) (w2 : (Jvm.Cond.static y').before a0 Z = true) (w3 : (Jvm.Cond.initialized y'.cls).before a0 Z = true) (w4 : (Jvm.Cond.code y' bytes' maxL' ret').before a0 Z = true) (hy : y'.cls ≠ "java/lang/invoke/MethodHandle" ∧ y'.cls ≠ "java/lang/invoke/VarHandle") {rm : Room} {as' : Array Value}  (hM : own_Met l Z y' bytes' maxL' ret' rm as' h n0 Q) (hf : rm.frames + 1 ≤ R.frames) (W : Nat) (hW : (st.map fun v => v.category).sum = W) (hlo : W + (maxL' + 11) + rm.locals ≤ R.locals) (hsz : Ls.size = maxL) {argsL : List Value} (hlen : ∀ sig, parseMethodDescriptor y'.desc = some sig → argsL.length = sig.parameters.length) (has : argsL.toArray = as') (hstk : stk = argsL.reverse ++ st) (hc : C + rm.cells ≤ R.cells) (hs : S + rm.slots ≤ R.slots) (k : ∀ v T' h', own_Sd p l e R s m args below meth c n0 T' h' (C + rm.cells) (S + rm.slots) → Q v h' → own_Go p e below P (T'.setTop (mkF m (pc + 3) Ls (v.toList ++ st)))) : own_Go p e below P (T.setTop (mkF m pc Ls stk)) := by
  obtain ⟨hx, hby, hml, hown, hnm, hret, hlk, hZ⟩ := cx
  exact own_callS X hx hZ hown w1 w2 w3 w4 hy hM hf (W := W) hlo (g := mkF m pc Ls stk) rfl (by rw [hml]; exact hsz) hlen has hstk (by show 2 * 0 + _ ≤ _; omega) (hb hby hd) hc hs k
theorem o_callC (cx : own_Cx p s m meth c Z bytes maxL y ret) (X : own_Sd p l e R s m args below meth c n0 T h C S) {y' : MethodName} {bytes' : ByteArray} {maxL' : Nat} {j : Nat} {stk : List Value} (hd : decode bytes pc = .ok (.invokespecial j, 3)) (w1 : (Jvm.Cond.methodLink y.cls j y').before a0 Z = true) (w2 : (Jvm.Cond.instanceMethod y').before a0 Z = true) (w3 : (Jvm.Cond.initialized y'.cls).before a0 Z = true) (w4 : (Jvm.Cond.code y' bytes' maxL' none).before a0 Z = true) (hy : y'.cls ≠ "java/lang/invoke/MethodHandle" ∧ y'.cls ≠ "java/lang/invoke/VarHandle") (hy1 : y'.name = "<init>") {rm : Room} {as' : Array Value}  (hM : own_Met l Z y' bytes' maxL' none rm as' h n0 Q) (hf : rm.frames + 1 ≤ R.frames) (W : Nat) (hW : (st.map fun v => v.category).sum = W) (hlo : W + (maxL' + 11) + rm.locals ≤ R.locals) (hsz : Ls.size = maxL) {argsL : List Value} (hlen : ∀ sig, parseMethodDescriptor y'.desc = some sig → argsL.length = sig.parameters.length) (has : (.ref a :: argsL).toArray = as') (hstk : stk = argsL.reverse ++ .ref a :: st) (hc : C + rm.cells ≤ R.cells) (hs : S + rm.slots ≤ R.slots) (k : ∀ v T' h', own_Sd p l e R s m args below meth c n0 T' h' (C + rm.cells) (S + rm.slots) → Q v h' → own_Go p e below P (T'.setTop (mkF m (pc + 3) Ls (v.toList ++ st)))) : own_Go p e below P (T.setTop (mkF m pc Ls stk)) := by
  obtain ⟨hx, hby, hml, hown, hnm, hret, hlk, hZ⟩ := cx
  exact own_callC X hx hZ hy1 hown w1 w2 w3 w4 hy hM hf (W := W) hlo (g := mkF m pc Ls stk) rfl (by rw [hml]; exact hsz) hlen has hstk (by show 2 * 0 + _ ≤ _; omega) (hb hby hd) hc hs k
theorem o_callV (cx : own_Cx p s m meth c Z bytes maxL y ret) (X : own_Sd p l e R s m args below meth c n0 T h C S) {y' : MethodName} {bytes' : ByteArray} {maxL' : Nat} {ret' : Option FieldType} {j : Nat} {stk : List Value} {K : String} (hd : decode bytes pc = .ok (.invokevirtual j, 3)) (w1 : (Jvm.Cond.methodLink y.cls j y').before a0 Z = true) (w2 : (Jvm.Cond.declares y').before a0 Z = true) (w5 : (Jvm.Cond.selects K y' y').before a0 Z = true) (w6 : (Jvm.Cond.instanceMethod y').before a0 Z = true) (w3 : (Jvm.Cond.initialized y'.cls).before a0 Z = true) (w4 : (Jvm.Cond.code y' bytes' maxL' ret').before a0 Z = true) (hy : y'.cls ≠ "java/lang/invoke/MethodHandle" ∧ y'.cls ≠ "java/lang/invoke/VarHandle") (E : Exa Z h a K) {rm : Room} {as' : Array Value}  (hM : own_Met l Z y' bytes' maxL' ret' rm as' h n0 Q) (hf : rm.frames + 1 ≤ R.frames) (W : Nat) (hW : (st.map fun v => v.category).sum = W) (hlo : W + (maxL' + 11) + rm.locals ≤ R.locals) (hsz : Ls.size = maxL) {argsL : List Value} (hlen : ∀ sig, parseMethodDescriptor y'.desc = some sig → argsL.length = sig.parameters.length) (has : (.ref a :: argsL).toArray = as') (hstk : stk = argsL.reverse ++ .ref a :: st) (hc : C + rm.cells ≤ R.cells) (hs : S + rm.slots ≤ R.slots) (k : ∀ v T' h', own_Sd p l e R s m args below meth c n0 T' h' (C + rm.cells) (S + rm.slots) → Q v h' → own_Go p e below P (T'.setTop (mkF m (pc + 3) Ls (v.toList ++ st)))) : own_Go p e below P (T.setTop (mkF m pc Ls stk)) := by
  obtain ⟨hx, hby, hml, hown, hnm, hret, hlk, hZ⟩ := cx
  exact own_callV X hx hZ hown w1 w2 w5 w6 w3 w4 hy E hM hf (W := W) hlo (g := mkF m pc Ls stk) rfl (by rw [hml]; exact hsz) hlen has hstk (by show 2 * 0 + _ ≤ _; omega) (hb hby hd) hc hs k
theorem o_callP (cx : own_Cx p s m meth c Z bytes maxL y ret) (X : own_Sd p l e R s m args below meth c n0 T h C S) {y' : MethodName} {bytes' : ByteArray} {maxL' : Nat} {ret' : Option FieldType} {j : Nat} {stk : List Value} {K K' : String} {y2 : MethodName} (hd : decode bytes pc = .ok (.invokevirtual j, 3)) (w1 : (Jvm.Cond.methodLink y.cls j y').before a0 Z = true) (w7 : (Jvm.Cond.privateMethod y').before a0 Z = true) (w5 : (Jvm.Cond.selects K y2 y2).before a0 Z = true) (hyy : y2.cls = y'.cls) (w6 : (Jvm.Cond.instanceMethod y').before a0 Z = true) (w3 : (Jvm.Cond.initialized y'.cls).before a0 Z = true) (w4 : (Jvm.Cond.code y' bytes' maxL' ret').before a0 Z = true) (hy : y'.cls ≠ "java/lang/invoke/MethodHandle" ∧ y'.cls ≠ "java/lang/invoke/VarHandle") (E : Exa Z h a K') {rm : Room} {as' : Array Value}  (hM : own_Met l Z y' bytes' maxL' ret' rm as' h n0 Q) (hf : rm.frames + 1 ≤ R.frames) (W : Nat) (hW : (st.map fun v => v.category).sum = W) (hlo : W + (maxL' + 11) + rm.locals ≤ R.locals) (hsz : Ls.size = maxL) {argsL : List Value} (hlen : ∀ sig, parseMethodDescriptor y'.desc = some sig → argsL.length = sig.parameters.length) (has : (.ref a :: argsL).toArray = as') (hstk : stk = argsL.reverse ++ .ref a :: st) (hc : C + rm.cells ≤ R.cells) (hs : S + rm.slots ≤ R.slots) (k : ∀ v T' h', own_Sd p l e R s m args below meth c n0 T' h' (C + rm.cells) (S + rm.slots) → Q v h' → own_Go p e below P (T'.setTop (mkF m (pc + 3) Ls (v.toList ++ st)))) : own_Go p e below P (T.setTop (mkF m pc Ls stk)) := by
  obtain ⟨hx, hby, hml, hown, hnm, hret, hlk, hZ⟩ := cx
  exact own_callP X hx hZ hown w1 w7 w5 hyy w6 w3 w4 hy E hM hf (W := W) hlo (g := mkF m pc Ls stk) rfl (by rw [hml]; exact hsz) hlen has hstk (by show 2 * 0 + _ ≤ _; omega) (hb hby hd) hc hs k
theorem o_callSp (cx : own_Cx p s m meth c Z bytes maxL y ret) (X : own_Sd p l e R s m args below meth c n0 T h C S) {y' : MethodName} {bytes' : ByteArray} {maxL' : Nat} {ret' : Option FieldType} {j : Nat} {stk : List Value} (hd : decode bytes pc = .ok (.invokestatic j, 3)) (w1 : (Jvm.Cond.methodLink y.cls j y').before a0 Z = true) (w2 : (Jvm.Cond.static y').before a0 Z = true) (w3 : (Jvm.Cond.initialized y'.cls).before a0 Z = true) (w4 : (Jvm.Cond.code y' bytes' maxL' ret').before a0 Z = true) (hy : y'.cls ≠ "java/lang/invoke/MethodHandle" ∧ y'.cls ≠ "java/lang/invoke/VarHandle") {rm : Room} {as' : Array Value} {r : Option Value} (hM : own_Met l Z y' bytes' maxL' ret' rm as' h n0 (fun v' h' => v' = r ∧ h' = h)) (hf : rm.frames + 1 ≤ R.frames) (W : Nat) (hW : (st.map fun v => v.category).sum = W) (hlo : W + (maxL' + 11) + rm.locals ≤ R.locals) (hsz : Ls.size = maxL) {argsL : List Value} (hlen : ∀ sig, parseMethodDescriptor y'.desc = some sig → argsL.length = sig.parameters.length) (has : argsL.toArray = as') (hstk : stk = argsL.reverse ++ st) (hc : C + rm.cells ≤ R.cells) (hs : S + rm.slots ≤ R.slots) (k : ∀ T', own_Sd p l e R s m args below meth c n0 T' h (C + rm.cells) (S + rm.slots) → own_Go p e below P (T'.setTop (mkF m (pc + 3) Ls (r.toList ++ st)))) : own_Go p e below P (T.setTop (mkF m pc Ls stk)) := by
  obtain ⟨hx, hby, hml, hown, hnm, hret, hlk, hZ⟩ := cx
  exact own_callSp X hx hZ hown w1 w2 w3 w4 hy hM hf (W := W) hlo (g := mkF m pc Ls stk) rfl (by rw [hml]; exact hsz) hlen has hstk (by show 2 * 0 + _ ≤ _; omega) (hb hby hd) hc hs k
theorem o_callCp (cx : own_Cx p s m meth c Z bytes maxL y ret) (X : own_Sd p l e R s m args below meth c n0 T h C S) {y' : MethodName} {bytes' : ByteArray} {maxL' : Nat} {j : Nat} {stk : List Value} (hd : decode bytes pc = .ok (.invokespecial j, 3)) (w1 : (Jvm.Cond.methodLink y.cls j y').before a0 Z = true) (w2 : (Jvm.Cond.instanceMethod y').before a0 Z = true) (w3 : (Jvm.Cond.initialized y'.cls).before a0 Z = true) (w4 : (Jvm.Cond.code y' bytes' maxL' none).before a0 Z = true) (hy : y'.cls ≠ "java/lang/invoke/MethodHandle" ∧ y'.cls ≠ "java/lang/invoke/VarHandle") (hy1 : y'.name = "<init>") {rm : Room} {as' : Array Value} {r : Option Value} (hM : own_Met l Z y' bytes' maxL' none rm as' h n0 (fun v' h' => v' = r ∧ h' = h)) (hf : rm.frames + 1 ≤ R.frames) (W : Nat) (hW : (st.map fun v => v.category).sum = W) (hlo : W + (maxL' + 11) + rm.locals ≤ R.locals) (hsz : Ls.size = maxL) {argsL : List Value} (hlen : ∀ sig, parseMethodDescriptor y'.desc = some sig → argsL.length = sig.parameters.length) (has : (.ref a :: argsL).toArray = as') (hstk : stk = argsL.reverse ++ .ref a :: st) (hc : C + rm.cells ≤ R.cells) (hs : S + rm.slots ≤ R.slots) (k : ∀ T', own_Sd p l e R s m args below meth c n0 T' h (C + rm.cells) (S + rm.slots) → own_Go p e below P (T'.setTop (mkF m (pc + 3) Ls (r.toList ++ st)))) : own_Go p e below P (T.setTop (mkF m pc Ls stk)) := by
  obtain ⟨hx, hby, hml, hown, hnm, hret, hlk, hZ⟩ := cx
  exact own_callCp X hx hZ hy1 hown w1 w2 w3 w4 hy hM hf (W := W) hlo (g := mkF m pc Ls stk) rfl (by rw [hml]; exact hsz) hlen has hstk (by show 2 * 0 + _ ≤ _; omega) (hb hby hd) hc hs k
theorem o_callVp (cx : own_Cx p s m meth c Z bytes maxL y ret) (X : own_Sd p l e R s m args below meth c n0 T h C S) {y' : MethodName} {bytes' : ByteArray} {maxL' : Nat} {ret' : Option FieldType} {j : Nat} {stk : List Value} {K : String} (hd : decode bytes pc = .ok (.invokevirtual j, 3)) (w1 : (Jvm.Cond.methodLink y.cls j y').before a0 Z = true) (w2 : (Jvm.Cond.declares y').before a0 Z = true) (w5 : (Jvm.Cond.selects K y' y').before a0 Z = true) (w6 : (Jvm.Cond.instanceMethod y').before a0 Z = true) (w3 : (Jvm.Cond.initialized y'.cls).before a0 Z = true) (w4 : (Jvm.Cond.code y' bytes' maxL' ret').before a0 Z = true) (hy : y'.cls ≠ "java/lang/invoke/MethodHandle" ∧ y'.cls ≠ "java/lang/invoke/VarHandle") (E : Exa Z h a K) {rm : Room} {as' : Array Value} {r : Option Value} (hM : own_Met l Z y' bytes' maxL' ret' rm as' h n0 (fun v' h' => v' = r ∧ h' = h)) (hf : rm.frames + 1 ≤ R.frames) (W : Nat) (hW : (st.map fun v => v.category).sum = W) (hlo : W + (maxL' + 11) + rm.locals ≤ R.locals) (hsz : Ls.size = maxL) {argsL : List Value} (hlen : ∀ sig, parseMethodDescriptor y'.desc = some sig → argsL.length = sig.parameters.length) (has : (.ref a :: argsL).toArray = as') (hstk : stk = argsL.reverse ++ .ref a :: st) (hc : C + rm.cells ≤ R.cells) (hs : S + rm.slots ≤ R.slots) (k : ∀ T', own_Sd p l e R s m args below meth c n0 T' h (C + rm.cells) (S + rm.slots) → own_Go p e below P (T'.setTop (mkF m (pc + 3) Ls (r.toList ++ st)))) : own_Go p e below P (T.setTop (mkF m pc Ls stk)) := by
  obtain ⟨hx, hby, hml, hown, hnm, hret, hlk, hZ⟩ := cx
  exact own_callVp X hx hZ hown w1 w2 w5 w6 w3 w4 hy E hM hf (W := W) hlo (g := mkF m pc Ls stk) rfl (by rw [hml]; exact hsz) hlen has hstk (by show 2 * 0 + _ ≤ _; omega) (hb hby hd) hc hs k
theorem o_callPp (cx : own_Cx p s m meth c Z bytes maxL y ret) (X : own_Sd p l e R s m args below meth c n0 T h C S) {y' : MethodName} {bytes' : ByteArray} {maxL' : Nat} {ret' : Option FieldType} {j : Nat} {stk : List Value} {K K' : String} {y2 : MethodName} (hd : decode bytes pc = .ok (.invokevirtual j, 3)) (w1 : (Jvm.Cond.methodLink y.cls j y').before a0 Z = true) (w7 : (Jvm.Cond.privateMethod y').before a0 Z = true) (w5 : (Jvm.Cond.selects K y2 y2).before a0 Z = true) (hyy : y2.cls = y'.cls) (w6 : (Jvm.Cond.instanceMethod y').before a0 Z = true) (w3 : (Jvm.Cond.initialized y'.cls).before a0 Z = true) (w4 : (Jvm.Cond.code y' bytes' maxL' ret').before a0 Z = true) (hy : y'.cls ≠ "java/lang/invoke/MethodHandle" ∧ y'.cls ≠ "java/lang/invoke/VarHandle") (E : Exa Z h a K') {rm : Room} {as' : Array Value} {r : Option Value} (hM : own_Met l Z y' bytes' maxL' ret' rm as' h n0 (fun v' h' => v' = r ∧ h' = h)) (hf : rm.frames + 1 ≤ R.frames) (W : Nat) (hW : (st.map fun v => v.category).sum = W) (hlo : W + (maxL' + 11) + rm.locals ≤ R.locals) (hsz : Ls.size = maxL) {argsL : List Value} (hlen : ∀ sig, parseMethodDescriptor y'.desc = some sig → argsL.length = sig.parameters.length) (has : (.ref a :: argsL).toArray = as') (hstk : stk = argsL.reverse ++ .ref a :: st) (hc : C + rm.cells ≤ R.cells) (hs : S + rm.slots ≤ R.slots) (k : ∀ T', own_Sd p l e R s m args below meth c n0 T' h (C + rm.cells) (S + rm.slots) → own_Go p e below P (T'.setTop (mkF m (pc + 3) Ls (r.toList ++ st)))) : own_Go p e below P (T.setTop (mkF m pc Ls stk)) := by
  obtain ⟨hx, hby, hml, hown, hnm, hret, hlk, hZ⟩ := cx
  exact own_callPp X hx hZ hown w1 w7 w5 hyy w6 w3 w4 hy E hM hf (W := W) hlo (g := mkF m pc Ls stk) rfl (by rw [hml]; exact hsz) hlen has hstk (by show 2 * 0 + _ ≤ _; omega) (hb hby hd) hc hs k
theorem o_retI (cx : own_Cx p s m meth c Z bytes maxL y (some .int)) (X : own_Sd p l e R s m args below meth c n0 T h C S) {z : Int32} (hd : decode bytes pc = .ok (.ireturn, 1)) (q : Q (some (.int z)) h) (hC : C ≤ R.cells) (hS : S ≤ R.slots) : own_Go p e below (own_End below s R n0 Q) (T.setTop (mkF m pc Ls (.int z :: st))) := by
  obtain ⟨hx, hby, hml, hown, hnm, hret, hlk, hZ⟩ := cx
  exact own_retI X hx hret hlk (hb hby hd) hC hS q
theorem o_retN {t : FieldType} (cx : own_Cx p s m meth c Z bytes maxL y (some t)) (X : own_Sd p l e R s m args below meth c n0 T h C S) {z z' : Int32} (hd : decode bytes pc = .ok (.ireturn, 1)) (ht : t = .boolean ∨ t = .byte ∨ t = .char ∨ t = .short) (hz : nar t z = z') (q : Q (some (.int z')) h) (hC : C ≤ R.cells) (hS : S ≤ R.slots) : own_Go p e below (own_End below s R n0 Q) (T.setTop (mkF m pc Ls (.int z :: st))) := by
  obtain ⟨hx, hby, hml, hown, hnm, hret, hlk, hZ⟩ := cx
  exact own_retN X hx hret ht hlk (hb hby hd) hC hS (by rw [hz]; exact q)
theorem o_retJ (cx : own_Cx p s m meth c Z bytes maxL y (some .long)) (X : own_Sd p l e R s m args below meth c n0 T h C S) {z : Int64} (hd : decode bytes pc = .ok (.lreturn, 1)) (q : Q (some (.long z)) h) (hC : C ≤ R.cells) (hS : S ≤ R.slots) : own_Go p e below (own_End below s R n0 Q) (T.setTop (mkF m pc Ls (.long z :: st))) := by
  obtain ⟨hx, hby, hml, hown, hnm, hret, hlk, hZ⟩ := cx
  exact own_retJ X hx hret hlk (hb hby hd) hC hS q
theorem o_retA {t : FieldType} (cx : own_Cx p s m meth c Z bytes maxL y (some t)) (X : own_Sd p l e R s m args below meth c n0 T h C S) {w : Value} (hd : decode bytes pc = .ok (.areturn, 1)) (ht : t.isReference = true) (hw : w.isRef = true) (hn : narrow t w = w) (q : Q (some w) h) (hC : C ≤ R.cells) (hS : S ≤ R.slots) : own_Go p e below (own_End below s R n0 Q) (T.setTop (mkF m pc Ls (w :: st))) := by
  obtain ⟨hx, hby, hml, hown, hnm, hret, hlk, hZ⟩ := cx
  exact own_retA X hx hret ht hlk hw hn (hb hby hd) hC hS q
theorem o_retV (cx : own_Cx p s m meth c Z bytes maxL y none) (X : own_Sd p l e R s m args below meth c n0 T h C S)  (hd : decode bytes pc = .ok (.return_, 1)) (q : Q none h) (hC : C ≤ R.cells) (hS : S ≤ R.slots) : own_Go p e below (own_End below s R n0 Q) (T.setTop (mkF m pc Ls [])) := by
  obtain ⟨hx, hby, hml, hown, hnm, hret, hlk, hZ⟩ := cx
  exact own_retV X hx hret hlk (hb hby hd) hC hS q
end OwnS
section OwnA
variable {p : Program} {l : Launch} {e : Env} {R : Room} {s : State} {m : MethodId} {args : Array Value} {below : List Frame} {meth : Method} {c : Code} {T : State} {n0 C S : Nat} {Z : State} {a0 : Array Value} {h h' : Heap} {P : State → Outcome → Prop} {a b : Addr} {ty : FieldType} {vs : List Value} {v : Value} {sl i : Nat} {wsA : List Addr}
/-- an array with just these elements -/
def own_Ar (Z : State) (h : Heap) (a : Addr) (ty : FieldType) (vs : List Value) : Prop := ∃ cl : Cell, Arr Z h a cl ty ∧ cl.slots = vs.toArray ∧ vs.length < 2 ^ 31
theorem own_Ar.lt (F : own_Ar Z h a ty vs) : a < h.size := by obtain ⟨_, A, _⟩ := F; exact A.lt
theorem own_Ar.ext (F : own_Ar Z h a ty vs) (E : Ext h h') : own_Ar Z h' a ty vs := by obtain ⟨c, A, r⟩ := F; exact ⟨c, A.ext E, r⟩
theorem own_Ar.other (F : own_Ar Z h b ty vs) (W : Wr h h' a sl v) (q : b ≠ a) : own_Ar Z h' b ty vs := by obtain ⟨c, A, r⟩ := F; exact ⟨c, A.other W q, r⟩
theorem own_Ar.keep (F : own_Ar Z h a ty vs) (K : Keep h h' wsA) (q : a ∉ wsA) : own_Ar Z h' a ty vs := by obtain ⟨c, A, r⟩ := F; exact ⟨c, ⟨K.2.1 a c A.1 q, A.2⟩, r⟩
theorem own_Ar.set (F : own_Ar Z h a ty vs) (W : Wr h h' a i v) : own_Ar Z h' a ty (vs.set i v) := by
  obtain ⟨cl, A, e, hl⟩ := F
  exact ⟨_, A.same W, by simp [Cell.setSlot, e], by simpa using hl⟩
theorem own_newP (X : own_Sd p l e R s m args below meth c n0 T h C S) (hx : p.tables.exec = Jvm.exec) (hZ : Z.Warmed39 s.vm) {aty : ArrayType} (w : (Cond.arrayClass (newarray.typeOf aty)).before a0 Z = true) {g : JFrame} (hg : g.method = m) (hd : decode c.code g.pc = .ok (.newarray aty, 2)) {n : Int32} {rest : List Value} (hs : g.stack = .int n :: rest)
    (hn : ¬ n < 0) {N cap : Nat} (hN : n.toNatClampNeg = N) (hcap : N ≤ cap) (hb : cap * 8 ≤ 536870912) (hc : C + 1 ≤ R.cells) (hl : S + cap ≤ R.slots)
    (k : ∀ T' h' b, b = h.size → n0 ≤ b → own_Sd p l e R s m args below meth c n0 T' h' (C + 1) (S + cap) → Ext h h' → own_Ar Z h' b (newarray.typeOf aty) (List.replicate N (defaultValue (newarray.typeOf aty))) → own_Go p e below P (T'.setTop { g with pc := g.pc + 2, stack := .ref b :: rest })) : own_Go p e below P (T.setTop g) := by
  have hn0 := X.ge0
  obtain ⟨L, X, N', eT, r1, r2⟩ := X
  obtain ⟨T', h', cA, X', e', E, A, st⟩ := newP X hx hZ w eT hg hd hs hn (cap := cap) (by rw [hN]; exact hcap) hb hc hl
  refine own_st st (k T' h' h.size rfl hn0 ⟨L, X', N', e', r1, Nat.le_trans r2 E.1⟩ E ⟨_, A, ?_, ?_⟩)
  · simp [newA, hN]
  · have := (back32 hn).2; rw [List.length_replicate]; omega
theorem own_inb {cl : Cell} (e : cl.slots = vs.toArray) {j : Int32} (hj : ¬ j < 0) (hi : j.toNatClampNeg = i) (hl : i < vs.length) : ¬ (j < 0 ∨ cl.slots.size ≤ j.toNatClampNeg) := by
  rw [e, hi]; intro q; rcases q with q | q
  · exact hj q
  · simp at q; omega
theorem own_stB (X : own_Sd p l e R s m args below meth c n0 T h C S) (hx : p.tables.exec = Jvm.exec) (hZ : Z.Warmed39 s.vm) (A : own_Ar Z h a .byte vs) {j x x' : Int32} (hj : ¬ j < 0) (hi : j.toNatClampNeg = i) (hl : i < vs.length) (hv : x.toInt8.toInt32 = x') (ga : n0 ≤ a) {g : JFrame} (hg : g.method = m) {rest : List Value} (hs : g.stack = .int x :: .int j :: .ref a :: rest) (hd : decode c.code g.pc = .ok (.bastore, 1))
    (k : ∀ T' h', own_Sd p l e R s m args below meth c n0 T' h' C S → Wr h h' a i (.int x') → own_Ar Z h' a .byte (vs.set i (.int x')) → own_Go p e below P (T'.setTop { g with pc := g.pc + 1, stack := rest })) : own_Go p e below P (T.setTop g) := by
  obtain ⟨L, X, N, eT, r1, r2⟩ := X
  have A0 := A
  obtain ⟨cl, A1, e1, hl1⟩ := A
  obtain ⟨T', h', X', e', W, st⟩ := stB X hx hZ eT A1 (own_inb e1 hj hi hl) hg hs hd
  have W' : Wr h h' a i (.int x') := by rw [← hi, ← hv]; exact W
  exact own_st st (k T' h' ⟨_, X', Fr.snoc X' N ga, e', r1, by rw [W.size]; exact r2⟩ W' (A0.set W'))
theorem own_stI (X : own_Sd p l e R s m args below meth c n0 T h C S) (hx : p.tables.exec = Jvm.exec) (hZ : Z.Warmed39 s.vm) (A : own_Ar Z h a .int vs) {j x : Int32} (hj : ¬ j < 0) (hi : j.toNatClampNeg = i) (hl : i < vs.length) (ga : n0 ≤ a) {g : JFrame} (hg : g.method = m) {rest : List Value} (hs : g.stack = .int x :: .int j :: .ref a :: rest) (hd : decode c.code g.pc = .ok (.iastore, 1))
    (k : ∀ T' h', own_Sd p l e R s m args below meth c n0 T' h' C S → Wr h h' a i (.int x) → own_Ar Z h' a .int (vs.set i (.int x)) → own_Go p e below P (T'.setTop { g with pc := g.pc + 1, stack := rest })) : own_Go p e below P (T.setTop g) := by
  obtain ⟨L, X, N, eT, r1, r2⟩ := X
  have A0 := A
  obtain ⟨cl, A1, e1, hl1⟩ := A
  obtain ⟨T', h', X', e', W, st⟩ := stI X hx hZ eT A1 (own_inb e1 hj hi hl) hg hs hd
  have W' : Wr h h' a i (.int x) := by rw [← hi]; exact W
  exact own_st st (k T' h' ⟨_, X', Fr.snoc X' N ga, e', r1, by rw [W.size]; exact r2⟩ W' (A0.set W'))
theorem own_stJ (X : own_Sd p l e R s m args below meth c n0 T h C S) (hx : p.tables.exec = Jvm.exec) (hZ : Z.Warmed39 s.vm) (A : own_Ar Z h a .long vs) {j : Int32} {x : Int64} (hj : ¬ j < 0) (hi : j.toNatClampNeg = i) (hl : i < vs.length) (ga : n0 ≤ a) {g : JFrame} (hg : g.method = m) {rest : List Value} (hs : g.stack = .long x :: .int j :: .ref a :: rest) (hd : decode c.code g.pc = .ok (.lastore, 1))
    (k : ∀ T' h', own_Sd p l e R s m args below meth c n0 T' h' C S → Wr h h' a i (.long x) → own_Ar Z h' a .long (vs.set i (.long x)) → own_Go p e below P (T'.setTop { g with pc := g.pc + 1, stack := rest })) : own_Go p e below P (T.setTop g) := by
  obtain ⟨L, X, N, eT, r1, r2⟩ := X
  have A0 := A
  obtain ⟨cl, A1, e1, hl1⟩ := A
  obtain ⟨T', h', X', e', W, st⟩ := stJ X hx hZ eT A1 (own_inb e1 hj hi hl) hg hs hd
  have W' : Wr h h' a i (.long x) := by rw [← hi]; exact W
  exact own_st st (k T' h' ⟨_, X', Fr.snoc X' N ga, e', r1, by rw [W.size]; exact r2⟩ W' (A0.set W'))
theorem own_at {cl : Cell} (e : cl.slots = vs.toArray) {j : Int32} (hi : j.toNatClampNeg = i) (hv : vs[i]? = some v) : cl.slots[j.toNatClampNeg]? = some v := by rw [e, hi]; simpa using hv
theorem own_ltl (hv : vs[i]? = some v) : i < vs.length := (List.getElem?_eq_some_iff.mp hv).1
theorem own_ldB (X : own_Sd p l e R s m args below meth c n0 T h C S) (hx : p.tables.exec = Jvm.exec) (hZ : Z.Warmed39 s.vm) (A : own_Ar Z h a .byte vs) {j : Int32} (hj : ¬ j < 0) (hi : j.toNatClampNeg = i) (hv : vs[i]? = some v) {g : JFrame} (hg : g.method = m) {rest : List Value} (hs : g.stack = .int j :: .ref a :: rest) (hd : decode c.code g.pc = .ok (.baload, 1))
    (k : own_Go p e below P (T.setTop { g with pc := g.pc + 1, stack := v :: rest })) : own_Go p e below P (T.setTop g) := by
  obtain ⟨L, X, N, eT, r⟩ := X
  obtain ⟨cl, A1, e1, hl1⟩ := A
  exact own_st (fun _ q => X.baloadBytes hx (by rw [eT]; exact A1.1) (State.isArrayOf_alike hZ.alike A1.2.1) A1.2.2 (own_inb e1 hj hi (own_ltl hv)) (own_at e1 hi hv) hg hs hd _ q) k
theorem own_ldI (X : own_Sd p l e R s m args below meth c n0 T h C S) (hx : p.tables.exec = Jvm.exec) (hZ : Z.Warmed39 s.vm) (A : own_Ar Z h a .int vs) {j : Int32} (hj : ¬ j < 0) (hi : j.toNatClampNeg = i) (hv : vs[i]? = some v) {g : JFrame} (hg : g.method = m) {rest : List Value} (hs : g.stack = .int j :: .ref a :: rest) (hd : decode c.code g.pc = .ok (.iaload, 1))
    (k : own_Go p e below P (T.setTop { g with pc := g.pc + 1, stack := v :: rest })) : own_Go p e below P (T.setTop g) := by
  obtain ⟨L, X, N, eT, r⟩ := X
  obtain ⟨cl, A1, e1, hl1⟩ := A
  exact own_st (fun _ q => X.iaload hx (by rw [eT]; exact A1.1) (State.isArrayOf_alike hZ.alike A1.2.1) A1.2.2 (own_inb e1 hj hi (own_ltl hv)) (own_at e1 hi hv) hg hs hd _ q) k
theorem own_ldJ (X : own_Sd p l e R s m args below meth c n0 T h C S) (hx : p.tables.exec = Jvm.exec) (hZ : Z.Warmed39 s.vm) (A : own_Ar Z h a .long vs) {j : Int32} (hj : ¬ j < 0) (hi : j.toNatClampNeg = i) (hv : vs[i]? = some v) {g : JFrame} (hg : g.method = m) {rest : List Value} (hs : g.stack = .int j :: .ref a :: rest) (hd : decode c.code g.pc = .ok (.laload, 1))
    (k : own_Go p e below P (T.setTop { g with pc := g.pc + 1, stack := v :: rest })) : own_Go p e below P (T.setTop g) := by
  obtain ⟨L, X, N, eT, r⟩ := X
  obtain ⟨cl, A1, e1, hl1⟩ := A
  exact own_st (fun _ q => X.laload hx (by rw [eT]; exact A1.1) (State.isArrayOf_alike hZ.alike A1.2.1) A1.2.2 (own_inb e1 hj hi (own_ltl hv)) (own_at e1 hi hv) hg hs hd _ q) k
theorem own_len (X : own_Sd p l e R s m args below meth c n0 T h C S) (hx : p.tables.exec = Jvm.exec) (hZ : Z.Warmed39 s.vm) (A : own_Ar Z h a ty vs) {z : Int32} (hz : vs.length.toInt32 = z) {g : JFrame} (hg : g.method = m) {rest : List Value} (hs : g.stack = .ref a :: rest) (hd : decode c.code g.pc = .ok (.arraylength, 1))
    (k : own_Go p e below P (T.setTop { g with pc := g.pc + 1, stack := .int z :: rest })) : own_Go p e below P (T.setTop g) := by
  obtain ⟨L, X, N, eT, r⟩ := X
  obtain ⟨cl, A1, e1, hl1⟩ := A
  have ez : cl.slots.size.toInt32 = z := by rw [e1, ← hz]; simp
  exact own_st (fun _ q => X.arraylength hx (by rw [eT]; exact A1.1) (State.isArrayOf_alike hZ.alike A1.2.1) hg hs hd _ (by rw [ez]; exact q)) k
theorem own_i8 (x : Int32) : x.toInt8.toInt32.toInt8.toInt32 = x.toInt8.toInt32 := by simp
end OwnA
section OwnT
variable {p : Program} {l : Launch} {e : Env} {R : Room} {s : State} {m : MethodId} {args : Array Value} {below : List Frame} {meth : Method} {c : Code} {T : State} {n0 C S : Nat} {Z : State} {a0 : Array Value} {h h' : Heap} {P : State → Outcome → Prop} {Q : Option Value → Heap → Prop} {a b : Addr} {ty : FieldType} {vs : List Value} {v : Value} {sl i : Nat}
variable {bytes : ByteArray} {maxL : Nat} {y : MethodName} {ret : Option FieldType} {pc : Nat} {Ls Ls' : Array Slot} {st : List Value}
theorem o_newP (cx : own_Cx p s m meth c Z bytes maxL y ret) (X : own_Sd p l e R s m args below meth c n0 T h C S) {aty : ArrayType} {n : Int32} (hd : decode bytes pc = .ok (.newarray aty, 2)) (w : (Jvm.Cond.arrayClass (newarray.typeOf aty)).before a0 Z = true) (hn : ¬ n < 0) (N cap : Nat) (hN : n.toNatClampNeg = N) (hcap : N ≤ cap) (hb8 : cap * 8 ≤ 536870912) (hc : C + 1 ≤ R.cells) (hl : S + cap ≤ R.slots) (k : ∀ T' h' b, b = h.size → n0 ≤ b → own_Sd p l e R s m args below meth c n0 T' h' (C + 1) (S + cap) → Ext h h' → own_Ar Z h' b (newarray.typeOf aty) (List.replicate N (defaultValue (newarray.typeOf aty))) → own_Go p e below P (T'.setTop (mkF m (pc + 2) Ls (.ref b :: st)))) : own_Go p e below P (T.setTop (mkF m pc Ls (.int n :: st))) := by
  obtain ⟨hx, hby, hml, hown, hnm, hret, hlk, hZ⟩ := cx
  exact own_newP X hx hZ w (g := mkF m pc Ls (.int n :: st)) rfl (hb hby hd) rfl hn hN hcap hb8 hc hl k
theorem o_stB (cx : own_Cx p s m meth c Z bytes maxL y ret) (X : own_Sd p l e R s m args below meth c n0 T h C S) {j : Int32} {x x' : Int32} (hd : decode bytes pc = .ok (.bastore, 1)) (A : own_Ar Z h a .byte vs) (i : Nat) (hj : ¬ j < 0) (hi : j.toNatClampNeg = i) (hl : i < vs.length) (hv : x.toInt8.toInt32 = x') (ga : n0 ≤ a) (k : ∀ T' h', own_Sd p l e R s m args below meth c n0 T' h' C S → Wr h h' a i (.int x') → own_Ar Z h' a .byte (vs.set i (.int x')) → own_Go p e below P (T'.setTop (mkF m (pc + 1) Ls st))) : own_Go p e below P (T.setTop (mkF m pc Ls (.int x :: .int j :: .ref a :: st))) := by
  obtain ⟨hx, hby, hml, hown, hnm, hret, hlk, hZ⟩ := cx
  exact own_stB X hx hZ A hj hi hl hv ga (g := mkF m pc Ls (.int x :: .int j :: .ref a :: st)) rfl rfl (hb hby hd) k
theorem o_stI (cx : own_Cx p s m meth c Z bytes maxL y ret) (X : own_Sd p l e R s m args below meth c n0 T h C S) {j : Int32} {x : Int32} (hd : decode bytes pc = .ok (.iastore, 1)) (A : own_Ar Z h a .int vs) (i : Nat) (hj : ¬ j < 0) (hi : j.toNatClampNeg = i) (hl : i < vs.length)  (ga : n0 ≤ a) (k : ∀ T' h', own_Sd p l e R s m args below meth c n0 T' h' C S → Wr h h' a i (.int x) → own_Ar Z h' a .int (vs.set i (.int x)) → own_Go p e below P (T'.setTop (mkF m (pc + 1) Ls st))) : own_Go p e below P (T.setTop (mkF m pc Ls (.int x :: .int j :: .ref a :: st))) := by
  obtain ⟨hx, hby, hml, hown, hnm, hret, hlk, hZ⟩ := cx
  exact own_stI X hx hZ A hj hi hl ga (g := mkF m pc Ls (.int x :: .int j :: .ref a :: st)) rfl rfl (hb hby hd) k
theorem o_stJ (cx : own_Cx p s m meth c Z bytes maxL y ret) (X : own_Sd p l e R s m args below meth c n0 T h C S) {j : Int32} {x : Int64} (hd : decode bytes pc = .ok (.lastore, 1)) (A : own_Ar Z h a .long vs) (i : Nat) (hj : ¬ j < 0) (hi : j.toNatClampNeg = i) (hl : i < vs.length)  (ga : n0 ≤ a) (k : ∀ T' h', own_Sd p l e R s m args below meth c n0 T' h' C S → Wr h h' a i (.long x) → own_Ar Z h' a .long (vs.set i (.long x)) → own_Go p e below P (T'.setTop (mkF m (pc + 1) Ls st))) : own_Go p e below P (T.setTop (mkF m pc Ls (.long x :: .int j :: .ref a :: st))) := by
  obtain ⟨hx, hby, hml, hown, hnm, hret, hlk, hZ⟩ := cx
  exact own_stJ X hx hZ A hj hi hl ga (g := mkF m pc Ls (.long x :: .int j :: .ref a :: st)) rfl rfl (hb hby hd) k
theorem o_ldB (cx : own_Cx p s m meth c Z bytes maxL y ret) (X : own_Sd p l e R s m args below meth c n0 T h C S) {j : Int32} (hd : decode bytes pc = .ok (.baload, 1)) (A : own_Ar Z h a .byte vs) (i : Nat) (hj : ¬ j < 0) (hi : j.toNatClampNeg = i) (hv : vs[i]? = some v) (k : own_Go p e below P (T.setTop (mkF m (pc + 1) Ls (v :: st)))) : own_Go p e below P (T.setTop (mkF m pc Ls (.int j :: .ref a :: st))) := by
  obtain ⟨hx, hby, hml, hown, hnm, hret, hlk, hZ⟩ := cx
  exact own_ldB X hx hZ A hj hi hv (g := mkF m pc Ls (.int j :: .ref a :: st)) rfl rfl (hb hby hd) k
theorem o_ldI (cx : own_Cx p s m meth c Z bytes maxL y ret) (X : own_Sd p l e R s m args below meth c n0 T h C S) {j : Int32} (hd : decode bytes pc = .ok (.iaload, 1)) (A : own_Ar Z h a .int vs) (i : Nat) (hj : ¬ j < 0) (hi : j.toNatClampNeg = i) (hv : vs[i]? = some v) (k : own_Go p e below P (T.setTop (mkF m (pc + 1) Ls (v :: st)))) : own_Go p e below P (T.setTop (mkF m pc Ls (.int j :: .ref a :: st))) := by
  obtain ⟨hx, hby, hml, hown, hnm, hret, hlk, hZ⟩ := cx
  exact own_ldI X hx hZ A hj hi hv (g := mkF m pc Ls (.int j :: .ref a :: st)) rfl rfl (hb hby hd) k
theorem o_ldJ (cx : own_Cx p s m meth c Z bytes maxL y ret) (X : own_Sd p l e R s m args below meth c n0 T h C S) {j : Int32} (hd : decode bytes pc = .ok (.laload, 1)) (A : own_Ar Z h a .long vs) (i : Nat) (hj : ¬ j < 0) (hi : j.toNatClampNeg = i) (hv : vs[i]? = some v) (k : own_Go p e below P (T.setTop (mkF m (pc + 1) Ls (v :: st)))) : own_Go p e below P (T.setTop (mkF m pc Ls (.int j :: .ref a :: st))) := by
  obtain ⟨hx, hby, hml, hown, hnm, hret, hlk, hZ⟩ := cx
  exact own_ldJ X hx hZ A hj hi hv (g := mkF m pc Ls (.int j :: .ref a :: st)) rfl rfl (hb hby hd) k
theorem o_len (cx : own_Cx p s m meth c Z bytes maxL y ret) (X : own_Sd p l e R s m args below meth c n0 T h C S) {z : Int32} (hd : decode bytes pc = .ok (.arraylength, 1)) (A : own_Ar Z h a ty vs) (hz : vs.length.toInt32 = z) (k : own_Go p e below P (T.setTop (mkF m (pc + 1) Ls (.int z :: st)))) : own_Go p e below P (T.setTop (mkF m pc Ls (.ref a :: st))) := by
  obtain ⟨hx, hby, hml, hown, hnm, hret, hlk, hZ⟩ := cx
  exact own_len X hx hZ A hz (g := mkF m pc Ls (.ref a :: st)) rfl rfl (hb hby hd) k
end OwnT
def own_sa (li co sf ol oc : Int64) : Int32 := if ol.toInt < li.toInt then 1 else if li.toInt = ol.toInt then (if oc.toInt < (co - sf).toInt then 1 else 0) else 0
theorem d5_0 : decode prog_169_method_5_code 0 = .ok (.aload_n 0, 1) := by decide +kernel
theorem d5_1 : decode prog_169_method_5_code 1 = .ok (.getfield 7, 3) := by decide +kernel
theorem d5_4 : decode prog_169_method_5_code 4 = .ok (.lload_n 1, 1) := by decide +kernel
theorem d5_5 : decode prog_169_method_5_code 5 = .ok (.lcmp, 1) := by decide +kernel
theorem d5_6 : decode prog_169_method_5_code 6 = .ok (.ifCond .gt 26, 3) := by decide +kernel
theorem d5_32 : decode prog_169_method_5_code 32 = .ok (.iconst 1, 1) := by decide +kernel
theorem d5_33 : decode prog_169_method_5_code 33 = .ok (.goto 4, 3) := by decide +kernel
theorem d5_37 : decode prog_169_method_5_code 37 = .ok (.ireturn, 1) := by decide +kernel
theorem d5_9 : decode prog_169_method_5_code 9 = .ok (.aload_n 0, 1) := by decide +kernel
theorem d5_10 : decode prog_169_method_5_code 10 = .ok (.getfield 7, 3) := by decide +kernel
theorem d5_13 : decode prog_169_method_5_code 13 = .ok (.lload_n 1, 1) := by decide +kernel
theorem d5_14 : decode prog_169_method_5_code 14 = .ok (.lcmp, 1) := by decide +kernel
theorem d5_15 : decode prog_169_method_5_code 15 = .ok (.ifCond .ne 21, 3) := by decide +kernel
theorem d5_18 : decode prog_169_method_5_code 18 = .ok (.aload_n 0, 1) := by decide +kernel
theorem d5_19 : decode prog_169_method_5_code 19 = .ok (.getfield 13, 3) := by decide +kernel
theorem d5_22 : decode prog_169_method_5_code 22 = .ok (.aload_n 0, 1) := by decide +kernel
theorem d5_23 : decode prog_169_method_5_code 23 = .ok (.getfield 16, 3) := by decide +kernel
theorem d5_26 : decode prog_169_method_5_code 26 = .ok (.lsub, 1) := by decide +kernel
theorem d5_27 : decode prog_169_method_5_code 27 = .ok (.lload_n 3, 1) := by decide +kernel
theorem d5_28 : decode prog_169_method_5_code 28 = .ok (.lcmp, 1) := by decide +kernel
theorem d5_29 : decode prog_169_method_5_code 29 = .ok (.ifCond .le 7, 3) := by decide +kernel
theorem d5_36 : decode prog_169_method_5_code 36 = .ok (.iconst 0, 1) := by decide +kernel
theorem pn_5 : plainName "com/example/bulla/bulla/xml/TextPosition" = true := by first | (simp [plainName, overriddenIn]; done) | decide +kernel
theorem ef_rm1 (m : MethodId) (aa : Addr) (ol : Int64) (oc : Int64) : entryFrame m #[(.ref aa), (.long ol), (.long oc)] 5 = mkF m 0 #[.val (.ref aa), .val (.long ol), .second, .val (.long oc), .second] [] := by first | (simp [entryFrame, mkF, argsToLocals, Value.category]; done) | rfl
set_option maxRecDepth 65536 in
set_option maxHeartbeats 40000000 in
theorem rm1 (l : Launch) (Z : State) (a0 : Array Value) (hw : ∀ d ∈ tables_1, d.before a0 Z = true) (aa : Addr) (li : Int64) (co : Int64) (sf : Int64) (ol : Int64) (oc : Int64) (h0 : Heap) (n0 : Nat) (Z0 : n0 ≤ h0.size) (F1 : Fld Z h0 aa "com/example/bulla/bulla/xml/TextPosition" "line" "J" (.long li)) (F2 : Fld Z h0 aa "com/example/bulla/bulla/xml/TextPosition" "column" "J" (.long co)) (F3 : Fld Z h0 aa "com/example/bulla/bulla/xml/TextPosition" "shortfall" "J" (.long sf)) :
    own_Met l Z (⟨"com/example/bulla/bulla/xml/TextPosition", "isSurelyAfter", "(JJ)Z"⟩ : MethodName) prog_169_method_5_code 5 (some .boolean) ({ frames := 0, cells := 0, slots := 0, locals := 0 } : Room) #[(.ref aa), (.long ol), (.long oc)] h0 n0 (fun v' h' => v' = some (.int (own_sa li co sf ol oc)) ∧ h' = h0) := by
  refine own_body (plainFor_of_name pn_5) (fun m => ef_rm1 m aa ol oc) Z0 ?_
  intro p e s m below meth c T0 cx X0
  show own_Go p e below _ (T0.setTop (mkF m 0 #[.val (.ref aa), .val (.long ol), .second, .val (.long oc), .second] []))
  refine o_aloadN cx X0 d5_0 rfl rfl ?_
  refine o_getF cx X0 d5_1 (o_w hw 11 rfl) F1 fun T1 X2 => ?_
  refine o_lloadN cx X2 d5_4 rfl ?_
  refine o_lcmp cx X2 d5_5 rfl ?_
  by_cases hc3 : ol < li
  · refine o_ifYes cx X2 32 d5_6 ((if0 _ _).trans (tlt ((lw_gt li ol).mpr hc3)).2.2.1) (by decide) (by decide) ?_
    refine o_iconst cx X2 (z := (1 : Int32)) d5_32 rfl ?_
    refine o_goto cx X2 37 d5_33 (by decide) (by decide) ?_
    exact o_retN cx X2 (z' := (1 : Int32)) d5_37 (by simp) rfl ⟨congrArg (fun z => some (Value.int z)) (show (1 : Int32) = own_sa li co sf ol oc from Eq.symm (by simp only [Int64.lt_iff_toInt_lt, ← Int64.toInt_inj] at hc3; exact (if_pos hc3))), rfl⟩ (by decide) (by decide)
  · refine o_ifNo cx X2 d5_6 ((if0 _ _).trans (flt (fun q => hc3 ((lw_gt li ol).mp q))).2.2.1) ?_
    refine o_aloadN cx X2 d5_9 rfl rfl ?_
    refine o_getF cx X2 d5_10 (o_w hw 11 rfl) F1 fun T4 X5 => ?_
    refine o_lloadN cx X5 d5_13 rfl ?_
    refine o_lcmp cx X5 d5_14 rfl ?_
    by_cases hc6 : li = ol
    · refine o_ifNo cx X5 d5_15 ((if0 _ _).trans (teq ((lw_eq li ol).mpr hc6)).2) ?_
      refine o_aloadN cx X5 d5_18 rfl rfl ?_
      refine o_getF cx X5 d5_19 (o_w hw 13 rfl) F2 fun T7 X8 => ?_
      refine o_aloadN cx X8 d5_22 rfl rfl ?_
      refine o_getF cx X8 d5_23 (o_w hw 29 rfl) F3 fun T9 X10 => ?_
      refine o_lsub cx X10 d5_26 rfl ?_
      refine o_lloadN cx X10 d5_27 rfl ?_
      refine o_lcmp cx X10 d5_28 rfl ?_
      by_cases hc11 : oc < (co - sf)
      · refine o_ifNo cx X10 d5_29 ((if0 _ _).trans (tlt ((lw_gt (co - sf) oc).mpr hc11)).2.2.2) ?_
        refine o_iconst cx X10 (z := (1 : Int32)) d5_32 rfl ?_
        refine o_goto cx X10 37 d5_33 (by decide) (by decide) ?_
        exact o_retN cx X10 (z' := (1 : Int32)) d5_37 (by simp) rfl ⟨congrArg (fun z => some (Value.int z)) (show (1 : Int32) = own_sa li co sf ol oc from Eq.symm (by simp only [Int64.lt_iff_toInt_lt, ← Int64.toInt_inj] at hc3 hc6 hc11; exact ((if_neg hc3).trans ((if_pos hc6).trans (if_pos hc11))))), rfl⟩ (by decide) (by decide)
      · refine o_ifYes cx X10 36 d5_29 ((if0 _ _).trans (flt (fun q => hc11 ((lw_gt (co - sf) oc).mp q))).2.2.2) (by decide) (by decide) ?_
        refine o_iconst cx X10 (z := (0 : Int32)) d5_36 rfl ?_
        exact o_retN cx X10 (z' := (0 : Int32)) d5_37 (by simp) rfl ⟨congrArg (fun z => some (Value.int z)) (show (0 : Int32) = own_sa li co sf ol oc from Eq.symm (by simp only [Int64.lt_iff_toInt_lt, ← Int64.toInt_inj] at hc3 hc6 hc11; exact ((if_neg hc3).trans ((if_pos hc6).trans (if_neg hc11))))), rfl⟩ (by decide) (by decide)
    · refine o_ifYes cx X5 36 d5_15 ((if0 _ _).trans (feq (fun q => hc6 ((lw_eq li ol).mp q))).2) (by decide) (by decide) ?_
      refine o_iconst cx X5 (z := (0 : Int32)) d5_36 rfl ?_
      exact o_retN cx X5 (z' := (0 : Int32)) d5_37 (by simp) rfl ⟨congrArg (fun z => some (Value.int z)) (show (0 : Int32) = own_sa li co sf ol oc from Eq.symm (by simp only [Int64.lt_iff_toInt_lt, ← Int64.toInt_inj] at hc3 hc6; exact ((if_neg hc3).trans (if_neg hc6)))), rfl⟩ (by decide) (by decide)
theorem d1_0 : decode prog_169_method_1_code 0 = .ok (.aload_n 0, 1) := by decide +kernel
theorem d1_1 : decode prog_169_method_1_code 1 = .ok (.invokespecial 1, 3) := by decide +kernel
theorem d1_4 : decode prog_169_method_1_code 4 = .ok (.aload_n 0, 1) := by decide +kernel
theorem d1_5 : decode prog_169_method_1_code 5 = .ok (.lconst 1, 1) := by decide +kernel
theorem d1_6 : decode prog_169_method_1_code 6 = .ok (.putfield 7, 3) := by decide +kernel
theorem d1_9 : decode prog_169_method_1_code 9 = .ok (.aload_n 0, 1) := by decide +kernel
theorem d1_10 : decode prog_169_method_1_code 10 = .ok (.lconst 1, 1) := by decide +kernel
theorem d1_11 : decode prog_169_method_1_code 11 = .ok (.putfield 13, 3) := by decide +kernel
theorem d1_14 : decode prog_169_method_1_code 14 = .ok (.return_, 1) := by decide +kernel
theorem ef_ra1_1 (m : MethodId) (ob0 : Addr) : entryFrame m #[(.ref ob0)] 1 = mkF m 0 #[.val (.ref ob0)] [] := by first | (simp [entryFrame, mkF, argsToLocals, Value.category]; done) | rfl
set_option maxRecDepth 65536 in
set_option maxHeartbeats 40000000 in
theorem ra1_1 (l : Launch) (Z : State) (a0 : Array Value) (hw : ∀ d ∈ tables_1, d.before a0 Z = true) (ob0 : Addr) (h0 : Heap) (n0 : Nat) (Z0 : n0 ≤ h0.size) (ga0 : n0 ≤ ob0) (G0 : Exa Z h0 ob0 "com/example/bulla/bulla/xml/TextPosition") (G1 : Fld Z h0 ob0 "com/example/bulla/bulla/xml/TextPosition" "line" "J" (.long (0 : Int64))) (G2 : Fld Z h0 ob0 "com/example/bulla/bulla/xml/TextPosition" "column" "J" (.long (0 : Int64))) (G3 : Fld Z h0 ob0 "com/example/bulla/bulla/xml/TextPosition" "shortfall" "J" (.long (0 : Int64))) (G4 : Fld Z h0 ob0 "com/example/bulla/bulla/xml/TextPosition" "afterReturn" "Z" (.int (0 : Int32))) (G5 : Fld Z h0 ob0 "com/example/bulla/bulla/xml/TextPosition" "afterLineEnd" "Z" (.int (0 : Int32))) :
    own_Met l Z (⟨"com/example/bulla/bulla/xml/TextPosition", "<init>", "()V"⟩ : MethodName) prog_169_method_1_code 1 none ({ frames := 1, cells := 0, slots := 0, locals := 12 } : Room) #[(.ref ob0)] h0 n0 (fun v' h' => v' = none ∧ Keep h0 h' [ob0] ∧ Exa Z h' ob0 "com/example/bulla/bulla/xml/TextPosition" ∧ Fld Z h' ob0 "com/example/bulla/bulla/xml/TextPosition" "line" "J" (.long (1 : Int64)) ∧ Fld Z h' ob0 "com/example/bulla/bulla/xml/TextPosition" "column" "J" (.long (1 : Int64)) ∧ Fld Z h' ob0 "com/example/bulla/bulla/xml/TextPosition" "shortfall" "J" (.long (0 : Int64)) ∧ Fld Z h' ob0 "com/example/bulla/bulla/xml/TextPosition" "afterReturn" "Z" (.int (0 : Int32)) ∧ Fld Z h' ob0 "com/example/bulla/bulla/xml/TextPosition" "afterLineEnd" "Z" (.int (0 : Int32))) := by
  refine own_body (plainFor_of_name pn_5) (fun m => ef_ra1_1 m ob0) Z0 ?_
  intro p e s m below meth c T0 cx X0
  have KK := Keep.refl h0 [ob0]
  show own_Go p e below _ (T0.setTop (mkF m 0 #[.val (.ref ob0)] []))
  refine o_aloadN cx X0 d1_0 rfl rfl ?_
  refine o_initO cx X0 d1_1 (o_w hw 8 rfl) (o_w hw 9 rfl) (o_w hw 10 rfl) rfl (by decide) 0 rfl (by decide) fun T40 X41 => ?_
  refine o_aloadN cx X41 d1_4 rfl rfl ?_
  refine o_lconst cx X41 (z := (1 : Int64)) d1_5 rfl ?_
  refine o_putF cx X41 (v' := (.long (1 : Int64))) (ty := .long) d1_6 (o_w hw 11 rfl) G1 G0 (Or.inl (o_w hw 12 rfl)) (o_w hw 3 rfl) (by decide) rfl rfl ga0 fun T42 h44 X43 W45 => ?_
  have G0 := G0.wr W45
  have G1 := G1.same W45
  have G2 := G2.other W45 (Or.inr (slot_ne (Or.inl (o_w hw 14 rfl)) (Or.inl (o_w hw 12 rfl)) (by decide) (t := .long) (t' := .long) (by decide) (by decide)))
  have G3 := G3.other W45 (Or.inr (slot_ne (Or.inl (o_w hw 30 rfl)) (Or.inl (o_w hw 12 rfl)) (by decide) (t := .long) (t' := .long) (by decide) (by decide)))
  have G4 := G4.other W45 (Or.inr (slot_ne (Or.inl (o_w hw 38 rfl)) (Or.inl (o_w hw 12 rfl)) (by decide) (t := .boolean) (t' := .long) (by decide) (by decide)))
  have G5 := G5.other W45 (Or.inr (slot_ne (Or.inl (o_w hw 47 rfl)) (Or.inl (o_w hw 12 rfl)) (by decide) (t := .boolean) (t' := .long) (by decide) (by decide)))
  have KK := KK.wr W45 (Or.inl (List.mem_of_getElem? (i := 0) rfl))
  refine o_aloadN cx X43 d1_9 rfl rfl ?_
  refine o_lconst cx X43 (z := (1 : Int64)) d1_10 rfl ?_
  refine o_putF cx X43 (v' := (.long (1 : Int64))) (ty := .long) d1_11 (o_w hw 13 rfl) G2 G0 (Or.inl (o_w hw 14 rfl)) (o_w hw 3 rfl) (by decide) rfl rfl ga0 fun T46 h48 X47 W49 => ?_
  have G0 := G0.wr W49
  have G1 := G1.other W49 (Or.inr (slot_ne (Or.inl (o_w hw 12 rfl)) (Or.inl (o_w hw 14 rfl)) (by decide) (t := .long) (t' := .long) (by decide) (by decide)))
  have G2 := G2.same W49
  have G3 := G3.other W49 (Or.inr (slot_ne (Or.inl (o_w hw 30 rfl)) (Or.inl (o_w hw 14 rfl)) (by decide) (t := .long) (t' := .long) (by decide) (by decide)))
  have G4 := G4.other W49 (Or.inr (slot_ne (Or.inl (o_w hw 38 rfl)) (Or.inl (o_w hw 14 rfl)) (by decide) (t := .boolean) (t' := .long) (by decide) (by decide)))
  have G5 := G5.other W49 (Or.inr (slot_ne (Or.inl (o_w hw 47 rfl)) (Or.inl (o_w hw 14 rfl)) (by decide) (t := .boolean) (t' := .long) (by decide) (by decide)))
  have KK := KK.wr W49 (Or.inl (List.mem_of_getElem? (i := 0) rfl))
  exact o_retV cx X47 d1_14 ⟨rfl, KK, G0, G1, G2, G3, G4, G5⟩ (by decide) (by decide)
theorem pd_1 : parseMethodDescriptor "()V" = some ⟨[], none⟩ := by decide +kernel
theorem d3_0 : decode prog_169_method_6_code 0 = .ok (.aload_n 0, 1) := by decide +kernel
theorem d3_1 : decode prog_169_method_6_code 1 = .ok (.aload_n 1, 1) := by decide +kernel
theorem d3_2 : decode prog_169_method_6_code 2 = .ok (.iload_n 2, 1) := by decide +kernel
theorem d3_3 : decode prog_169_method_6_code 3 = .ok (.iload_n 3, 1) := by decide +kernel
theorem d3_4 : decode prog_169_method_6_code 4 = .ok (.iconst 0, 1) := by decide +kernel
theorem d3_5 : decode prog_169_method_6_code 5 = .ok (.invokevirtual 19, 3) := by decide +kernel
theorem d4_0 : decode prog_169_method_8_code 0 = .ok (.iload_n 2, 1) := by decide +kernel
theorem d4_1 : decode prog_169_method_8_code 1 = .ok (.iload_n 3, 1) := by decide +kernel
theorem d4_2 : decode prog_169_method_8_code 2 = .ok (.if_icmp .ne 4, 3) := by decide +kernel
theorem d4_5 : decode prog_169_method_8_code 5 = .ok (.return_, 1) := by decide +kernel
theorem ef_ra4_3 (m : MethodId) (ob0 : Addr) (ob1 : Addr) : entryFrame m #[(.ref ob0), (.ref ob1), (.int (0 : Int32)), (.int (0 : Int32)), (.int (0 : Int32))] 8 = mkF m 0 #[.val (.ref ob0), .val (.ref ob1), .val (.int (0 : Int32)), .val (.int (0 : Int32)), .val (.int (0 : Int32)), .unset, .unset, .unset] [] := by first | (simp [entryFrame, mkF, argsToLocals, Value.category]; done) | rfl
set_option maxRecDepth 65536 in
set_option maxHeartbeats 40000000 in
theorem ra4_3 (l : Launch) (Z : State) (a0 : Array Value) (hw : ∀ d ∈ tables_1, d.before a0 Z = true) (ob0 : Addr) (ob1 : Addr) (h0 : Heap) (n0 : Nat) (Z0 : n0 ≤ h0.size) (ga0 : n0 ≤ ob0) (ga1 : n0 ≤ ob1) (ne_0_1 : ob0 ≠ ob1) (G0 : Exa Z h0 ob0 "com/example/bulla/bulla/xml/TextPosition") (G1 : Fld Z h0 ob0 "com/example/bulla/bulla/xml/TextPosition" "line" "J" (.long (1 : Int64))) (G2 : Fld Z h0 ob0 "com/example/bulla/bulla/xml/TextPosition" "column" "J" (.long (1 : Int64))) (G3 : Fld Z h0 ob0 "com/example/bulla/bulla/xml/TextPosition" "shortfall" "J" (.long (0 : Int64))) (G4 : Fld Z h0 ob0 "com/example/bulla/bulla/xml/TextPosition" "afterReturn" "Z" (.int (0 : Int32))) (G5 : Fld Z h0 ob0 "com/example/bulla/bulla/xml/TextPosition" "afterLineEnd" "Z" (.int (0 : Int32))) (G6 : own_Ar Z h0 ob1 .byte [(.int (0 : Int32)), (.int (0 : Int32)), (.int (0 : Int32))]) :
    own_Met l Z (⟨"com/example/bulla/bulla/xml/TextPosition", "move", "([BIIZ)V"⟩ : MethodName) prog_169_method_8_code 8 none ({ frames := 0, cells := 0, slots := 0, locals := 0 } : Room) #[(.ref ob0), (.ref ob1), (.int (0 : Int32)), (.int (0 : Int32)), (.int (0 : Int32))] h0 n0 (fun v' h' => v' = none ∧ h' = h0) := by
  refine own_body (plainFor_of_name pn_5) (fun m => ef_ra4_3 m ob0 ob1) Z0 ?_
  intro p e s m below meth c T0 cx X0
  have KK := Keep.refl h0 []
  show own_Go p e below _ (T0.setTop (mkF m 0 #[.val (.ref ob0), .val (.ref ob1), .val (.int (0 : Int32)), .val (.int (0 : Int32)), .val (.int (0 : Int32)), .unset, .unset, .unset] []))
  refine o_iloadN cx X0 d4_0 rfl ?_
  refine o_iloadN cx X0 d4_1 rfl ?_
  refine o_icmpNo cx X0 d4_2 (by decide) ?_
  exact o_retV cx X0 d4_5 ⟨rfl, rfl⟩ (by decide) (by decide)
theorem pd_4 : parseMethodDescriptor "([BIIZ)V" = some ⟨[(.array .byte), .int, .int, .boolean], none⟩ := by decide +kernel
theorem d3_8 : decode prog_169_method_6_code 8 = .ok (.return_, 1) := by decide +kernel
theorem ef_ra3_2 (m : MethodId) (ob0 : Addr) (ob1 : Addr) : entryFrame m #[(.ref ob0), (.ref ob1), (.int (0 : Int32)), (.int (0 : Int32))] 4 = mkF m 0 #[.val (.ref ob0), .val (.ref ob1), .val (.int (0 : Int32)), .val (.int (0 : Int32))] [] := by first | (simp [entryFrame, mkF, argsToLocals, Value.category]; done) | rfl
set_option maxRecDepth 65536 in
set_option maxHeartbeats 40000000 in
theorem ra3_2 (l : Launch) (Z : State) (a0 : Array Value) (hw : ∀ d ∈ tables_1, d.before a0 Z = true) (ob0 : Addr) (ob1 : Addr) (h0 : Heap) (n0 : Nat) (Z0 : n0 ≤ h0.size) (ga0 : n0 ≤ ob0) (ga1 : n0 ≤ ob1) (ne_0_1 : ob0 ≠ ob1) (G0 : Exa Z h0 ob0 "com/example/bulla/bulla/xml/TextPosition") (G1 : Fld Z h0 ob0 "com/example/bulla/bulla/xml/TextPosition" "line" "J" (.long (1 : Int64))) (G2 : Fld Z h0 ob0 "com/example/bulla/bulla/xml/TextPosition" "column" "J" (.long (1 : Int64))) (G3 : Fld Z h0 ob0 "com/example/bulla/bulla/xml/TextPosition" "shortfall" "J" (.long (0 : Int64))) (G4 : Fld Z h0 ob0 "com/example/bulla/bulla/xml/TextPosition" "afterReturn" "Z" (.int (0 : Int32))) (G5 : Fld Z h0 ob0 "com/example/bulla/bulla/xml/TextPosition" "afterLineEnd" "Z" (.int (0 : Int32))) (G6 : own_Ar Z h0 ob1 .byte [(.int (0 : Int32)), (.int (0 : Int32)), (.int (0 : Int32))]) :
    own_Met l Z (⟨"com/example/bulla/bulla/xml/TextPosition", "moveOver", "([BII)V"⟩ : MethodName) prog_169_method_6_code 4 none ({ frames := 1, cells := 0, slots := 0, locals := 19 } : Room) #[(.ref ob0), (.ref ob1), (.int (0 : Int32)), (.int (0 : Int32))] h0 n0 (fun v' h' => v' = none ∧ h' = h0) := by
  refine own_body (plainFor_of_name pn_5) (fun m => ef_ra3_2 m ob0 ob1) Z0 ?_
  intro p e s m below meth c T0 cx X0
  have KK := Keep.refl h0 []
  show own_Go p e below _ (T0.setTop (mkF m 0 #[.val (.ref ob0), .val (.ref ob1), .val (.int (0 : Int32)), .val (.int (0 : Int32))] []))
  refine o_aloadN cx X0 d3_0 rfl rfl ?_
  refine o_aloadN cx X0 d3_1 rfl rfl ?_
  refine o_iloadN cx X0 d3_2 rfl ?_
  refine o_iloadN cx X0 d3_3 rfl ?_
  refine o_iconst cx X0 (z := (0 : Int32)) d3_4 rfl ?_
  refine o_callPp cx X0 (y' := (⟨"com/example/bulla/bulla/xml/TextPosition", "move", "([BIIZ)V"⟩ : MethodName)) (argsL := [(.ref ob1), (.int (0 : Int32)), (.int (0 : Int32)), (.int (0 : Int32))]) (st := []) (a := ob0) d3_5 (o_w hw 20 rfl) (o_w hw 22 rfl) (o_w hw 18 rfl) rfl (o_w hw 21 rfl) (o_w hw 4 rfl) (o_w hw 23 rfl) (by decide) G0 (ra4_3 l Z a0 hw ob0 ob1 h0 n0 X0.ge0 ga0 ga1 ne_0_1 G0 G1 G2 G3 G4 G5 G6) (by decide) 0 rfl (by decide) rfl (lenOf pd_4 rfl) rfl rfl (by decide) (by decide) fun T67 X68 => ?_
  show own_Go p e below _ (T67.setTop (mkF m 8 #[.val (.ref ob0), .val (.ref ob1), .val (.int (0 : Int32)), .val (.int (0 : Int32))] []))
  exact o_retV cx X68 d3_8 ⟨rfl, rfl⟩ (by decide) (by decide)
theorem pd_3 : parseMethodDescriptor "([BII)V" = some ⟨[(.array .byte), .int, .int], none⟩ := by decide +kernel
theorem pd_5 : parseMethodDescriptor "(JJ)Z" = some ⟨[.long, .long], some .boolean⟩ := by decide +kernel
theorem d4_6 : decode prog_169_method_8_code 6 = .ok (.iconst 0, 1) := by decide +kernel
theorem d4_7 : decode prog_169_method_8_code 7 = .ok (.istore 5, 2) := by decide +kernel
theorem d4_9 : decode prog_169_method_8_code 9 = .ok (.iconst 0, 1) := by decide +kernel
theorem d4_10 : decode prog_169_method_8_code 10 = .ok (.istore 6, 2) := by decide +kernel
theorem d4_12 : decode prog_169_method_8_code 12 = .ok (.iload_n 2, 1) := by decide +kernel
theorem d4_13 : decode prog_169_method_8_code 13 = .ok (.istore 7, 2) := by decide +kernel
theorem d4_15 : decode prog_169_method_8_code 15 = .ok (.iload 7, 2) := by decide +kernel
theorem d4_17 : decode prog_169_method_8_code 17 = .ok (.iload_n 3, 1) := by decide +kernel
theorem d4_18 : decode prog_169_method_8_code 18 = .ok (.if_icmp .ge 47, 3) := by decide +kernel
theorem d4_21 : decode prog_169_method_8_code 21 = .ok (.iload 5, 2) := by decide +kernel
theorem d4_23 : decode prog_169_method_8_code 23 = .ok (.aload_n 1, 1) := by decide +kernel
theorem d4_24 : decode prog_169_method_8_code 24 = .ok (.iload 7, 2) := by decide +kernel
theorem d4_26 : decode prog_169_method_8_code 26 = .ok (.baload, 1) := by decide +kernel
theorem d4_27 : decode prog_169_method_8_code 27 = .ok (.bipush 10, 2) := by decide +kernel
theorem d4_29 : decode prog_169_method_8_code 29 = .ok (.if_icmp .ne 7, 3) := by decide +kernel
theorem d4_36 : decode prog_169_method_8_code 36 = .ok (.iconst 0, 1) := by decide +kernel
theorem d4_37 : decode prog_169_method_8_code 37 = .ok (.iadd, 1) := by decide +kernel
theorem d4_38 : decode prog_169_method_8_code 38 = .ok (.istore 5, 2) := by decide +kernel
theorem d4_40 : decode prog_169_method_8_code 40 = .ok (.iload 6, 2) := by decide +kernel
theorem d4_42 : decode prog_169_method_8_code 42 = .ok (.aload_n 1, 1) := by decide +kernel
theorem d4_43 : decode prog_169_method_8_code 43 = .ok (.iload 7, 2) := by decide +kernel
theorem d4_45 : decode prog_169_method_8_code 45 = .ok (.baload, 1) := by decide +kernel
theorem d4_46 : decode prog_169_method_8_code 46 = .ok (.bipush 13, 2) := by decide +kernel
theorem d4_48 : decode prog_169_method_8_code 48 = .ok (.if_icmp .ne 7, 3) := by decide +kernel
theorem d4_55 : decode prog_169_method_8_code 55 = .ok (.iconst 0, 1) := by decide +kernel
theorem d4_56 : decode prog_169_method_8_code 56 = .ok (.iadd, 1) := by decide +kernel
theorem d4_57 : decode prog_169_method_8_code 57 = .ok (.istore 6, 2) := by decide +kernel
theorem d4_59 : decode prog_169_method_8_code 59 = .ok (.iinc 7 1, 3) := by decide +kernel
theorem d4_62 : decode prog_169_method_8_code 62 = .ok (.goto (-47), 3) := by decide +kernel
theorem d4_65 : decode prog_169_method_8_code 65 = .ok (.aload_n 0, 1) := by decide +kernel
theorem d4_66 : decode prog_169_method_8_code 66 = .ok (.dup, 1) := by decide +kernel
theorem d4_67 : decode prog_169_method_8_code 67 = .ok (.getfield 7, 3) := by decide +kernel
theorem d4_70 : decode prog_169_method_8_code 70 = .ok (.iload 5, 2) := by decide +kernel
theorem d4_72 : decode prog_169_method_8_code 72 = .ok (.iload 6, 2) := by decide +kernel
theorem d4_74 : decode prog_169_method_8_code 74 = .ok (.iadd, 1) := by decide +kernel
theorem d4_75 : decode prog_169_method_8_code 75 = .ok (.aload_n 0, 1) := by decide +kernel
theorem d4_76 : decode prog_169_method_8_code 76 = .ok (.aload_n 1, 1) := by decide +kernel
theorem d4_77 : decode prog_169_method_8_code 77 = .ok (.iload_n 2, 1) := by decide +kernel
theorem d4_78 : decode prog_169_method_8_code 78 = .ok (.iload_n 3, 1) := by decide +kernel
theorem d4_79 : decode prog_169_method_8_code 79 = .ok (.iload 6, 2) := by decide +kernel
theorem d4_81 : decode prog_169_method_8_code 81 = .ok (.invokevirtual 23, 3) := by decide +kernel
theorem d6_0 : decode prog_169_method_10_code 0 = .ok (.aload_n 0, 1) := by decide +kernel
theorem d6_1 : decode prog_169_method_10_code 1 = .ok (.getfield 42, 3) := by decide +kernel
theorem d6_4 : decode prog_169_method_10_code 4 = .ok (.ifCond .eq 15, 3) := by decide +kernel
theorem d6_19 : decode prog_169_method_10_code 19 = .ok (.iconst 0, 1) := by decide +kernel
theorem d6_20 : decode prog_169_method_10_code 20 = .ok (.istore 5, 2) := by decide +kernel
theorem d6_22 : decode prog_169_method_10_code 22 = .ok (.iload_n 2, 1) := by decide +kernel
theorem d6_23 : decode prog_169_method_10_code 23 = .ok (.iconst 1, 1) := by decide +kernel
theorem d6_24 : decode prog_169_method_10_code 24 = .ok (.iadd, 1) := by decide +kernel
theorem d6_25 : decode prog_169_method_10_code 25 = .ok (.istore 6, 2) := by decide +kernel
theorem d6_27 : decode prog_169_method_10_code 27 = .ok (.iload 4, 2) := by decide +kernel
theorem d6_29 : decode prog_169_method_10_code 29 = .ok (.ifCond .le 45, 3) := by decide +kernel
theorem d6_74 : decode prog_169_method_10_code 74 = .ok (.iload 5, 2) := by decide +kernel
theorem d6_76 : decode prog_169_method_10_code 76 = .ok (.ireturn, 1) := by decide +kernel
theorem ef_ra6_6 (m : MethodId) (ob0 : Addr) (ob1 : Addr) : entryFrame m #[(.ref ob0), (.ref ob1), (.int (0 : Int32)), (.int (2 : Int32)), (.int (0 : Int32))] 7 = mkF m 0 #[.val (.ref ob0), .val (.ref ob1), .val (.int (0 : Int32)), .val (.int (2 : Int32)), .val (.int (0 : Int32)), .unset, .unset] [] := by first | (simp [entryFrame, mkF, argsToLocals, Value.category]; done) | rfl
set_option maxRecDepth 65536 in
set_option maxHeartbeats 40000000 in
theorem ra6_6 (l : Launch) (Z : State) (a0 : Array Value) (hw : ∀ d ∈ tables_1, d.before a0 Z = true) (ob0 : Addr) (ob1 : Addr) (h0 : Heap) (n0 : Nat) (Z0 : n0 ≤ h0.size) (ga0 : n0 ≤ ob0) (ga1 : n0 ≤ ob1) (ne_0_1 : ob0 ≠ ob1) (G0 : Exa Z h0 ob0 "com/example/bulla/bulla/xml/TextPosition") (G1 : Fld Z h0 ob0 "com/example/bulla/bulla/xml/TextPosition" "line" "J" (.long (1 : Int64))) (G2 : Fld Z h0 ob0 "com/example/bulla/bulla/xml/TextPosition" "column" "J" (.long (1 : Int64))) (G3 : Fld Z h0 ob0 "com/example/bulla/bulla/xml/TextPosition" "shortfall" "J" (.long (0 : Int64))) (G4 : Fld Z h0 ob0 "com/example/bulla/bulla/xml/TextPosition" "afterReturn" "Z" (.int (0 : Int32))) (G5 : Fld Z h0 ob0 "com/example/bulla/bulla/xml/TextPosition" "afterLineEnd" "Z" (.int (0 : Int32))) (G6 : own_Ar Z h0 ob1 .byte [(.int (97 : Int32)), (.int (98 : Int32)), (.int (0 : Int32))]) :
    own_Met l Z (⟨"com/example/bulla/bulla/xml/TextPosition", "joinedLineFeeds", "([BIII)I"⟩ : MethodName) prog_169_method_10_code 7 (some .int) ({ frames := 0, cells := 0, slots := 0, locals := 0 } : Room) #[(.ref ob0), (.ref ob1), (.int (0 : Int32)), (.int (2 : Int32)), (.int (0 : Int32))] h0 n0 (fun v' h' => v' = some (.int (0 : Int32)) ∧ h' = h0) := by
  refine own_body (plainFor_of_name pn_5) (fun m => ef_ra6_6 m ob0 ob1) Z0 ?_
  intro p e s m below meth c T0 cx X0
  have KK := Keep.refl h0 []
  show own_Go p e below _ (T0.setTop (mkF m 0 #[.val (.ref ob0), .val (.ref ob1), .val (.int (0 : Int32)), .val (.int (2 : Int32)), .val (.int (0 : Int32)), .unset, .unset] []))
  refine o_aloadN cx X0 d6_0 rfl rfl ?_
  refine o_getF cx X0 d6_1 (o_w hw 37 rfl) G4 fun T138 X139 => ?_
  refine o_ifYes cx X139 19 d6_4 (by decide) (by decide) (by decide) ?_
  refine o_iconst cx X139 (z := (0 : Int32)) d6_19 rfl ?_
  refine o_istore cx X139 (Ls' := #[.val (.ref ob0), .val (.ref ob1), .val (.int (0 : Int32)), .val (.int (2 : Int32)), .val (.int (0 : Int32)), .val (.int (0 : Int32)), .unset]) d6_20 rfl ?_
  refine o_iloadN cx X139 d6_22 rfl ?_
  refine o_iconst cx X139 (z := (1 : Int32)) d6_23 rfl ?_
  refine o_iadd cx X139 (z := (1 : Int32)) d6_24 rfl ?_
  refine o_istore cx X139 (Ls' := #[.val (.ref ob0), .val (.ref ob1), .val (.int (0 : Int32)), .val (.int (2 : Int32)), .val (.int (0 : Int32)), .val (.int (0 : Int32)), .val (.int (1 : Int32))]) d6_25 rfl ?_
  refine o_iload cx X139 d6_27 rfl ?_
  refine o_ifYes cx X139 74 d6_29 (by decide) (by decide) (by decide) ?_
  refine o_iload cx X139 d6_74 rfl ?_
  exact o_retI cx X139 d6_76 ⟨rfl, rfl⟩ (by decide) (by decide)
theorem pd_6 : parseMethodDescriptor "([BIII)I" = some ⟨[(.array .byte), .int, .int, .int], some .int⟩ := by decide +kernel
theorem d4_84 : decode prog_169_method_8_code 84 = .ok (.isub, 1) := by decide +kernel
theorem d4_85 : decode prog_169_method_8_code 85 = .ok (.i2l, 1) := by decide +kernel
theorem d4_86 : decode prog_169_method_8_code 86 = .ok (.ladd, 1) := by decide +kernel
theorem d4_87 : decode prog_169_method_8_code 87 = .ok (.putfield 7, 3) := by decide +kernel
theorem d4_90 : decode prog_169_method_8_code 90 = .ok (.iload_n 3, 1) := by decide +kernel
theorem d4_91 : decode prog_169_method_8_code 91 = .ok (.iconst 1, 1) := by decide +kernel
theorem d4_92 : decode prog_169_method_8_code 92 = .ok (.isub, 1) := by decide +kernel
theorem d4_93 : decode prog_169_method_8_code 93 = .ok (.istore 7, 2) := by decide +kernel
theorem d4_95 : decode prog_169_method_8_code 95 = .ok (.iload 7, 2) := by decide +kernel
theorem d4_97 : decode prog_169_method_8_code 97 = .ok (.iload_n 2, 1) := by decide +kernel
theorem d4_98 : decode prog_169_method_8_code 98 = .ok (.if_icmp .lt 19, 3) := by decide +kernel
theorem d4_101 : decode prog_169_method_8_code 101 = .ok (.aload_n 1, 1) := by decide +kernel
theorem d4_102 : decode prog_169_method_8_code 102 = .ok (.iload 7, 2) := by decide +kernel
theorem d4_104 : decode prog_169_method_8_code 104 = .ok (.baload, 1) := by decide +kernel
theorem d4_105 : decode prog_169_method_8_code 105 = .ok (.invokestatic 27, 3) := by decide +kernel
theorem d7_0 : decode prog_169_method_12_code 0 = .ok (.iload_n 0, 1) := by decide +kernel
theorem d7_1 : decode prog_169_method_12_code 1 = .ok (.bipush 10, 2) := by decide +kernel
theorem d7_3 : decode prog_169_method_12_code 3 = .ok (.if_icmp .eq 9, 3) := by decide +kernel
theorem d7_6 : decode prog_169_method_12_code 6 = .ok (.iload_n 0, 1) := by decide +kernel
theorem d7_7 : decode prog_169_method_12_code 7 = .ok (.bipush 13, 2) := by decide +kernel
theorem d7_9 : decode prog_169_method_12_code 9 = .ok (.if_icmp .ne 7, 3) := by decide +kernel
theorem d7_16 : decode prog_169_method_12_code 16 = .ok (.iconst 0, 1) := by decide +kernel
theorem d7_17 : decode prog_169_method_12_code 17 = .ok (.ireturn, 1) := by decide +kernel
theorem ef_ra7_7 (m : MethodId)  : entryFrame m #[(.int (98 : Int32))] 1 = mkF m 0 #[.val (.int (98 : Int32))] [] := by first | (simp [entryFrame, mkF, argsToLocals, Value.category]; done) | rfl
set_option maxRecDepth 65536 in
set_option maxHeartbeats 40000000 in
theorem ra7_7 (l : Launch) (Z : State) (a0 : Array Value) (hw : ∀ d ∈ tables_1, d.before a0 Z = true)  (h0 : Heap) (n0 : Nat) (Z0 : n0 ≤ h0.size) :
    own_Met l Z (⟨"com/example/bulla/bulla/xml/TextPosition", "isLineEnd", "(B)Z"⟩ : MethodName) prog_169_method_12_code 1 (some .boolean) ({ frames := 0, cells := 0, slots := 0, locals := 0 } : Room) #[(.int (98 : Int32))] h0 n0 (fun v' h' => v' = some (.int (0 : Int32)) ∧ h' = h0) := by
  refine own_body (plainFor_of_name pn_5) (fun m => ef_ra7_7 m ) Z0 ?_
  intro p e s m below meth c T0 cx X0
  have KK := Keep.refl h0 []
  show own_Go p e below _ (T0.setTop (mkF m 0 #[.val (.int (98 : Int32))] []))
  refine o_iloadN cx X0 d7_0 rfl ?_
  refine o_bipush cx X0 (z := (10 : Int32)) d7_1 rfl ?_
  refine o_icmpNo cx X0 d7_3 (by decide) ?_
  refine o_iloadN cx X0 d7_6 rfl ?_
  refine o_bipush cx X0 (z := (13 : Int32)) d7_7 rfl ?_
  refine o_icmpYes cx X0 16 d7_9 (by decide) (by decide) (by decide) ?_
  refine o_iconst cx X0 (z := (0 : Int32)) d7_16 rfl ?_
  exact o_retN cx X0 (z' := (0 : Int32)) d7_17 (by simp) rfl ⟨rfl, rfl⟩ (by decide) (by decide)
theorem pd_7 : parseMethodDescriptor "(B)Z" = some ⟨[.byte], some .boolean⟩ := by decide +kernel
theorem d4_108 : decode prog_169_method_8_code 108 = .ok (.ifCond .ne 9, 3) := by decide +kernel
theorem d4_111 : decode prog_169_method_8_code 111 = .ok (.iinc 7 (-1), 3) := by decide +kernel
theorem d4_114 : decode prog_169_method_8_code 114 = .ok (.goto (-19), 3) := by decide +kernel
theorem ef_ra7_8 (m : MethodId)  : entryFrame m #[(.int (97 : Int32))] 1 = mkF m 0 #[.val (.int (97 : Int32))] [] := by first | (simp [entryFrame, mkF, argsToLocals, Value.category]; done) | rfl
set_option maxRecDepth 65536 in
set_option maxHeartbeats 40000000 in
theorem ra7_8 (l : Launch) (Z : State) (a0 : Array Value) (hw : ∀ d ∈ tables_1, d.before a0 Z = true)  (h0 : Heap) (n0 : Nat) (Z0 : n0 ≤ h0.size) :
    own_Met l Z (⟨"com/example/bulla/bulla/xml/TextPosition", "isLineEnd", "(B)Z"⟩ : MethodName) prog_169_method_12_code 1 (some .boolean) ({ frames := 0, cells := 0, slots := 0, locals := 0 } : Room) #[(.int (97 : Int32))] h0 n0 (fun v' h' => v' = some (.int (0 : Int32)) ∧ h' = h0) := by
  refine own_body (plainFor_of_name pn_5) (fun m => ef_ra7_8 m ) Z0 ?_
  intro p e s m below meth c T0 cx X0
  have KK := Keep.refl h0 []
  show own_Go p e below _ (T0.setTop (mkF m 0 #[.val (.int (97 : Int32))] []))
  refine o_iloadN cx X0 d7_0 rfl ?_
  refine o_bipush cx X0 (z := (10 : Int32)) d7_1 rfl ?_
  refine o_icmpNo cx X0 d7_3 (by decide) ?_
  refine o_iloadN cx X0 d7_6 rfl ?_
  refine o_bipush cx X0 (z := (13 : Int32)) d7_7 rfl ?_
  refine o_icmpYes cx X0 16 d7_9 (by decide) (by decide) (by decide) ?_
  refine o_iconst cx X0 (z := (0 : Int32)) d7_16 rfl ?_
  exact o_retN cx X0 (z' := (0 : Int32)) d7_17 (by simp) rfl ⟨rfl, rfl⟩ (by decide) (by decide)
theorem d4_117 : decode prog_169_method_8_code 117 = .ok (.iload 7, 2) := by decide +kernel
theorem d4_119 : decode prog_169_method_8_code 119 = .ok (.iload_n 2, 1) := by decide +kernel
theorem d4_120 : decode prog_169_method_8_code 120 = .ok (.if_icmp .ge 21, 3) := by decide +kernel
theorem d4_123 : decode prog_169_method_8_code 123 = .ok (.aload_n 0, 1) := by decide +kernel
theorem d4_124 : decode prog_169_method_8_code 124 = .ok (.dup, 1) := by decide +kernel
theorem d4_125 : decode prog_169_method_8_code 125 = .ok (.getfield 13, 3) := by decide +kernel
theorem d4_128 : decode prog_169_method_8_code 128 = .ok (.aload_n 1, 1) := by decide +kernel
theorem d4_129 : decode prog_169_method_8_code 129 = .ok (.iload_n 2, 1) := by decide +kernel
theorem d4_130 : decode prog_169_method_8_code 130 = .ok (.iload_n 3, 1) := by decide +kernel
theorem d4_131 : decode prog_169_method_8_code 131 = .ok (.invokestatic 31, 3) := by decide +kernel
theorem d9_0 : decode prog_169_method_13_code 0 = .ok (.lconst 0, 1) := by decide +kernel
theorem d9_1 : decode prog_169_method_13_code 1 = .ok (.lstore_n 3, 1) := by decide +kernel
theorem d9_2 : decode prog_169_method_13_code 2 = .ok (.iload_n 1, 1) := by decide +kernel
theorem d9_3 : decode prog_169_method_13_code 3 = .ok (.istore 5, 2) := by decide +kernel
theorem d9_5 : decode prog_169_method_13_code 5 = .ok (.iload 5, 2) := by decide +kernel
theorem d9_7 : decode prog_169_method_13_code 7 = .ok (.iload_n 2, 1) := by decide +kernel
theorem d9_8 : decode prog_169_method_13_code 8 = .ok (.if_icmp .ge 55, 3) := by decide +kernel
theorem d9_11 : decode prog_169_method_13_code 11 = .ok (.aload_n 0, 1) := by decide +kernel
theorem d9_12 : decode prog_169_method_13_code 12 = .ok (.iload 5, 2) := by decide +kernel
theorem d9_14 : decode prog_169_method_13_code 14 = .ok (.baload, 1) := by decide +kernel
theorem d9_15 : decode prog_169_method_13_code 15 = .ok (.sipush 255, 3) := by decide +kernel
theorem d9_18 : decode prog_169_method_13_code 18 = .ok (.iand, 1) := by decide +kernel
theorem d9_19 : decode prog_169_method_13_code 19 = .ok (.istore 6, 2) := by decide +kernel
theorem d9_21 : decode prog_169_method_13_code 21 = .ok (.lload_n 3, 1) := by decide +kernel
theorem d9_22 : decode prog_169_method_13_code 22 = .ok (.iload 6, 2) := by decide +kernel
theorem d9_24 : decode prog_169_method_13_code 24 = .ok (.sipush 192, 3) := by decide +kernel
theorem d9_27 : decode prog_169_method_13_code 27 = .ok (.iand, 1) := by decide +kernel
theorem d9_28 : decode prog_169_method_13_code 28 = .ok (.sipush 128, 3) := by decide +kernel
theorem d9_31 : decode prog_169_method_13_code 31 = .ok (.if_icmp .eq 7, 3) := by decide +kernel
theorem d9_34 : decode prog_169_method_13_code 34 = .ok (.lconst 1, 1) := by decide +kernel
theorem d9_35 : decode prog_169_method_13_code 35 = .ok (.goto 4, 3) := by decide +kernel
theorem d9_39 : decode prog_169_method_13_code 39 = .ok (.ladd, 1) := by decide +kernel
theorem d9_40 : decode prog_169_method_13_code 40 = .ok (.lstore_n 3, 1) := by decide +kernel
theorem d9_41 : decode prog_169_method_13_code 41 = .ok (.lload_n 3, 1) := by decide +kernel
theorem d9_42 : decode prog_169_method_13_code 42 = .ok (.iload 6, 2) := by decide +kernel
theorem d9_44 : decode prog_169_method_13_code 44 = .ok (.sipush 240, 3) := by decide +kernel
theorem d9_47 : decode prog_169_method_13_code 47 = .ok (.if_icmp .lt 7, 3) := by decide +kernel
theorem d9_54 : decode prog_169_method_13_code 54 = .ok (.lconst 0, 1) := by decide +kernel
theorem d9_55 : decode prog_169_method_13_code 55 = .ok (.ladd, 1) := by decide +kernel
theorem d9_56 : decode prog_169_method_13_code 56 = .ok (.lstore_n 3, 1) := by decide +kernel
theorem d9_57 : decode prog_169_method_13_code 57 = .ok (.iinc 5 1, 3) := by decide +kernel
theorem d9_60 : decode prog_169_method_13_code 60 = .ok (.goto (-55), 3) := by decide +kernel
theorem d9_63 : decode prog_169_method_13_code 63 = .ok (.lload_n 3, 1) := by decide +kernel
theorem d9_64 : decode prog_169_method_13_code 64 = .ok (.lreturn, 1) := by decide +kernel
theorem ef_ra9_9 (m : MethodId) (ob0 : Addr) : entryFrame m #[(.ref ob0), (.int (0 : Int32)), (.int (2 : Int32))] 7 = mkF m 0 #[.val (.ref ob0), .val (.int (0 : Int32)), .val (.int (2 : Int32)), .unset, .unset, .unset, .unset] [] := by first | (simp [entryFrame, mkF, argsToLocals, Value.category]; done) | rfl
set_option maxRecDepth 65536 in
set_option maxHeartbeats 40000000 in
theorem ra9_9 (l : Launch) (Z : State) (a0 : Array Value) (hw : ∀ d ∈ tables_1, d.before a0 Z = true) (ob0 : Addr) (h0 : Heap) (n0 : Nat) (Z0 : n0 ≤ h0.size) (ga0 : n0 ≤ ob0) (G0 : own_Ar Z h0 ob0 .byte [(.int (97 : Int32)), (.int (98 : Int32)), (.int (0 : Int32))]) :
    own_Met l Z (⟨"com/example/bulla/bulla/xml/TextPosition", "columns", "([BII)J"⟩ : MethodName) prog_169_method_13_code 7 (some .long) ({ frames := 0, cells := 0, slots := 0, locals := 0 } : Room) #[(.ref ob0), (.int (0 : Int32)), (.int (2 : Int32))] h0 n0 (fun v' h' => v' = some (.long (2 : Int64)) ∧ h' = h0) := by
  refine own_body (plainFor_of_name pn_5) (fun m => ef_ra9_9 m ob0) Z0 ?_
  intro p e s m below meth c T0 cx X0
  have KK := Keep.refl h0 []
  show own_Go p e below _ (T0.setTop (mkF m 0 #[.val (.ref ob0), .val (.int (0 : Int32)), .val (.int (2 : Int32)), .unset, .unset, .unset, .unset] []))
  refine o_lconst cx X0 (z := (0 : Int64)) d9_0 rfl ?_
  refine o_lstoreN cx X0 (Ls' := #[.val (.ref ob0), .val (.int (0 : Int32)), .val (.int (2 : Int32)), .val (.long (0 : Int64)), .second, .unset, .unset]) d9_1 rfl ?_
  refine o_iloadN cx X0 d9_2 rfl ?_
  refine o_istore cx X0 (Ls' := #[.val (.ref ob0), .val (.int (0 : Int32)), .val (.int (2 : Int32)), .val (.long (0 : Int64)), .second, .val (.int (0 : Int32)), .unset]) d9_3 rfl ?_
  refine o_iload cx X0 d9_5 rfl ?_
  refine o_iloadN cx X0 d9_7 rfl ?_
  refine o_icmpNo cx X0 d9_8 (by decide) ?_
  refine o_aloadN cx X0 d9_11 rfl rfl ?_
  refine o_iload cx X0 d9_12 rfl ?_
  refine o_ldB cx X0 (v := (.int (97 : Int32))) d9_14 G0 0 (by decide) rfl rfl ?_
  refine o_sipush cx X0 (z := (255 : Int32)) d9_15 rfl ?_
  refine o_iand cx X0 (z := (97 : Int32)) d9_18 rfl ?_
  refine o_istore cx X0 (Ls' := #[.val (.ref ob0), .val (.int (0 : Int32)), .val (.int (2 : Int32)), .val (.long (0 : Int64)), .second, .val (.int (0 : Int32)), .val (.int (97 : Int32))]) d9_19 rfl ?_
  refine o_lloadN cx X0 d9_21 rfl ?_
  refine o_iload cx X0 d9_22 rfl ?_
  refine o_sipush cx X0 (z := (192 : Int32)) d9_24 rfl ?_
  refine o_iand cx X0 (z := (64 : Int32)) d9_27 rfl ?_
  refine o_sipush cx X0 (z := (128 : Int32)) d9_28 rfl ?_
  refine o_icmpNo cx X0 d9_31 (by decide) ?_
  refine o_lconst cx X0 (z := (1 : Int64)) d9_34 rfl ?_
  refine o_goto cx X0 39 d9_35 (by decide) (by decide) ?_
  refine o_ladd cx X0 (z := (1 : Int64)) d9_39 rfl ?_
  refine o_lstoreN cx X0 (Ls' := #[.val (.ref ob0), .val (.int (0 : Int32)), .val (.int (2 : Int32)), .val (.long (1 : Int64)), .second, .val (.int (0 : Int32)), .val (.int (97 : Int32))]) d9_40 rfl ?_
  refine o_lloadN cx X0 d9_41 rfl ?_
  refine o_iload cx X0 d9_42 rfl ?_
  refine o_sipush cx X0 (z := (240 : Int32)) d9_44 rfl ?_
  refine o_icmpYes cx X0 54 d9_47 (by decide) (by decide) (by decide) ?_
  refine o_lconst cx X0 (z := (0 : Int64)) d9_54 rfl ?_
  refine o_ladd cx X0 (z := (1 : Int64)) d9_55 rfl ?_
  refine o_lstoreN cx X0 (Ls' := #[.val (.ref ob0), .val (.int (0 : Int32)), .val (.int (2 : Int32)), .val (.long (1 : Int64)), .second, .val (.int (0 : Int32)), .val (.int (97 : Int32))]) d9_56 rfl ?_
  refine o_iinc cx X0 (z := (1 : Int32)) (Ls' := #[.val (.ref ob0), .val (.int (0 : Int32)), .val (.int (2 : Int32)), .val (.long (1 : Int64)), .second, .val (.int (1 : Int32)), .val (.int (97 : Int32))]) d9_57 rfl rfl rfl ?_
  refine o_goto cx X0 5 d9_60 (by decide) (by decide) ?_
  refine o_iload cx X0 d9_5 rfl ?_
  refine o_iloadN cx X0 d9_7 rfl ?_
  refine o_icmpNo cx X0 d9_8 (by decide) ?_
  refine o_aloadN cx X0 d9_11 rfl rfl ?_
  refine o_iload cx X0 d9_12 rfl ?_
  refine o_ldB cx X0 (v := (.int (98 : Int32))) d9_14 G0 1 (by decide) rfl rfl ?_
  refine o_sipush cx X0 (z := (255 : Int32)) d9_15 rfl ?_
  refine o_iand cx X0 (z := (98 : Int32)) d9_18 rfl ?_
  refine o_istore cx X0 (Ls' := #[.val (.ref ob0), .val (.int (0 : Int32)), .val (.int (2 : Int32)), .val (.long (1 : Int64)), .second, .val (.int (1 : Int32)), .val (.int (98 : Int32))]) d9_19 rfl ?_
  refine o_lloadN cx X0 d9_21 rfl ?_
  refine o_iload cx X0 d9_22 rfl ?_
  refine o_sipush cx X0 (z := (192 : Int32)) d9_24 rfl ?_
  refine o_iand cx X0 (z := (64 : Int32)) d9_27 rfl ?_
  refine o_sipush cx X0 (z := (128 : Int32)) d9_28 rfl ?_
  refine o_icmpNo cx X0 d9_31 (by decide) ?_
  refine o_lconst cx X0 (z := (1 : Int64)) d9_34 rfl ?_
  refine o_goto cx X0 39 d9_35 (by decide) (by decide) ?_
  refine o_ladd cx X0 (z := (2 : Int64)) d9_39 rfl ?_
  refine o_lstoreN cx X0 (Ls' := #[.val (.ref ob0), .val (.int (0 : Int32)), .val (.int (2 : Int32)), .val (.long (2 : Int64)), .second, .val (.int (1 : Int32)), .val (.int (98 : Int32))]) d9_40 rfl ?_
  refine o_lloadN cx X0 d9_41 rfl ?_
  refine o_iload cx X0 d9_42 rfl ?_
  refine o_sipush cx X0 (z := (240 : Int32)) d9_44 rfl ?_
  refine o_icmpYes cx X0 54 d9_47 (by decide) (by decide) (by decide) ?_
  refine o_lconst cx X0 (z := (0 : Int64)) d9_54 rfl ?_
  refine o_ladd cx X0 (z := (2 : Int64)) d9_55 rfl ?_
  refine o_lstoreN cx X0 (Ls' := #[.val (.ref ob0), .val (.int (0 : Int32)), .val (.int (2 : Int32)), .val (.long (2 : Int64)), .second, .val (.int (1 : Int32)), .val (.int (98 : Int32))]) d9_56 rfl ?_
  refine o_iinc cx X0 (z := (2 : Int32)) (Ls' := #[.val (.ref ob0), .val (.int (0 : Int32)), .val (.int (2 : Int32)), .val (.long (2 : Int64)), .second, .val (.int (2 : Int32)), .val (.int (98 : Int32))]) d9_57 rfl rfl rfl ?_
  refine o_goto cx X0 5 d9_60 (by decide) (by decide) ?_
  refine o_iload cx X0 d9_5 rfl ?_
  refine o_iloadN cx X0 d9_7 rfl ?_
  refine o_icmpYes cx X0 63 d9_8 (by decide) (by decide) (by decide) ?_
  refine o_lloadN cx X0 d9_63 rfl ?_
  exact o_retJ cx X0 d9_64 ⟨rfl, rfl⟩ (by decide) (by decide)
theorem pd_9 : parseMethodDescriptor "([BII)J" = some ⟨[(.array .byte), .int, .int], some .long⟩ := by decide +kernel
theorem d4_134 : decode prog_169_method_8_code 134 = .ok (.ladd, 1) := by decide +kernel
theorem d4_135 : decode prog_169_method_8_code 135 = .ok (.putfield 13, 3) := by decide +kernel
theorem d4_138 : decode prog_169_method_8_code 138 = .ok (.goto 39, 3) := by decide +kernel
theorem d4_177 : decode prog_169_method_8_code 177 = .ok (.aload_n 0, 1) := by decide +kernel
theorem d4_178 : decode prog_169_method_8_code 178 = .ok (.aload_n 1, 1) := by decide +kernel
theorem d4_179 : decode prog_169_method_8_code 179 = .ok (.iload_n 3, 1) := by decide +kernel
theorem d4_180 : decode prog_169_method_8_code 180 = .ok (.iconst 1, 1) := by decide +kernel
theorem d4_181 : decode prog_169_method_8_code 181 = .ok (.isub, 1) := by decide +kernel
theorem d4_182 : decode prog_169_method_8_code 182 = .ok (.baload, 1) := by decide +kernel
theorem d4_183 : decode prog_169_method_8_code 183 = .ok (.invokestatic 27, 3) := by decide +kernel
theorem d4_186 : decode prog_169_method_8_code 186 = .ok (.putfield 38, 3) := by decide +kernel
theorem d4_189 : decode prog_169_method_8_code 189 = .ok (.aload_n 0, 1) := by decide +kernel
theorem d4_190 : decode prog_169_method_8_code 190 = .ok (.aload_n 1, 1) := by decide +kernel
theorem d4_191 : decode prog_169_method_8_code 191 = .ok (.iload_n 3, 1) := by decide +kernel
theorem d4_192 : decode prog_169_method_8_code 192 = .ok (.iconst 1, 1) := by decide +kernel
theorem d4_193 : decode prog_169_method_8_code 193 = .ok (.isub, 1) := by decide +kernel
theorem d4_194 : decode prog_169_method_8_code 194 = .ok (.baload, 1) := by decide +kernel
theorem d4_195 : decode prog_169_method_8_code 195 = .ok (.bipush 13, 2) := by decide +kernel
theorem d4_197 : decode prog_169_method_8_code 197 = .ok (.if_icmp .ne 7, 3) := by decide +kernel
theorem d4_204 : decode prog_169_method_8_code 204 = .ok (.iconst 0, 1) := by decide +kernel
theorem d4_205 : decode prog_169_method_8_code 205 = .ok (.putfield 42, 3) := by decide +kernel
theorem d4_208 : decode prog_169_method_8_code 208 = .ok (.return_, 1) := by decide +kernel
theorem ef_ra4_5 (m : MethodId) (ob0 : Addr) (ob1 : Addr) : entryFrame m #[(.ref ob0), (.ref ob1), (.int (0 : Int32)), (.int (2 : Int32)), (.int (0 : Int32))] 8 = mkF m 0 #[.val (.ref ob0), .val (.ref ob1), .val (.int (0 : Int32)), .val (.int (2 : Int32)), .val (.int (0 : Int32)), .unset, .unset, .unset] [] := by first | (simp [entryFrame, mkF, argsToLocals, Value.category]; done) | rfl
set_option maxRecDepth 65536 in
set_option maxHeartbeats 40000000 in
theorem ra4_5 (l : Launch) (Z : State) (a0 : Array Value) (hw : ∀ d ∈ tables_1, d.before a0 Z = true) (ob0 : Addr) (ob1 : Addr) (h0 : Heap) (n0 : Nat) (Z0 : n0 ≤ h0.size) (ga0 : n0 ≤ ob0) (ga1 : n0 ≤ ob1) (ne_0_1 : ob0 ≠ ob1) (G0 : Exa Z h0 ob0 "com/example/bulla/bulla/xml/TextPosition") (G1 : Fld Z h0 ob0 "com/example/bulla/bulla/xml/TextPosition" "line" "J" (.long (1 : Int64))) (G2 : Fld Z h0 ob0 "com/example/bulla/bulla/xml/TextPosition" "column" "J" (.long (1 : Int64))) (G3 : Fld Z h0 ob0 "com/example/bulla/bulla/xml/TextPosition" "shortfall" "J" (.long (0 : Int64))) (G4 : Fld Z h0 ob0 "com/example/bulla/bulla/xml/TextPosition" "afterReturn" "Z" (.int (0 : Int32))) (G5 : Fld Z h0 ob0 "com/example/bulla/bulla/xml/TextPosition" "afterLineEnd" "Z" (.int (0 : Int32))) (G6 : own_Ar Z h0 ob1 .byte [(.int (97 : Int32)), (.int (98 : Int32)), (.int (0 : Int32))]) :
    own_Met l Z (⟨"com/example/bulla/bulla/xml/TextPosition", "move", "([BIIZ)V"⟩ : MethodName) prog_169_method_8_code 8 none ({ frames := 1, cells := 0, slots := 0, locals := 22 } : Room) #[(.ref ob0), (.ref ob1), (.int (0 : Int32)), (.int (2 : Int32)), (.int (0 : Int32))] h0 n0 (fun v' h' => v' = none ∧ Keep h0 h' [ob0] ∧ Exa Z h' ob0 "com/example/bulla/bulla/xml/TextPosition" ∧ Fld Z h' ob0 "com/example/bulla/bulla/xml/TextPosition" "line" "J" (.long (1 : Int64)) ∧ Fld Z h' ob0 "com/example/bulla/bulla/xml/TextPosition" "column" "J" (.long (3 : Int64)) ∧ Fld Z h' ob0 "com/example/bulla/bulla/xml/TextPosition" "shortfall" "J" (.long (0 : Int64)) ∧ Fld Z h' ob0 "com/example/bulla/bulla/xml/TextPosition" "afterReturn" "Z" (.int (0 : Int32)) ∧ Fld Z h' ob0 "com/example/bulla/bulla/xml/TextPosition" "afterLineEnd" "Z" (.int (0 : Int32))) := by
  refine own_body (plainFor_of_name pn_5) (fun m => ef_ra4_5 m ob0 ob1) Z0 ?_
  intro p e s m below meth c T0 cx X0
  have KK := Keep.refl h0 [ob0]
  show own_Go p e below _ (T0.setTop (mkF m 0 #[.val (.ref ob0), .val (.ref ob1), .val (.int (0 : Int32)), .val (.int (2 : Int32)), .val (.int (0 : Int32)), .unset, .unset, .unset] []))
  refine o_iloadN cx X0 d4_0 rfl ?_
  refine o_iloadN cx X0 d4_1 rfl ?_
  refine o_icmpYes cx X0 6 d4_2 (by decide) (by decide) (by decide) ?_
  refine o_iconst cx X0 (z := (0 : Int32)) d4_6 rfl ?_
  refine o_istore cx X0 (Ls' := #[.val (.ref ob0), .val (.ref ob1), .val (.int (0 : Int32)), .val (.int (2 : Int32)), .val (.int (0 : Int32)), .val (.int (0 : Int32)), .unset, .unset]) d4_7 rfl ?_
  refine o_iconst cx X0 (z := (0 : Int32)) d4_9 rfl ?_
  refine o_istore cx X0 (Ls' := #[.val (.ref ob0), .val (.ref ob1), .val (.int (0 : Int32)), .val (.int (2 : Int32)), .val (.int (0 : Int32)), .val (.int (0 : Int32)), .val (.int (0 : Int32)), .unset]) d4_10 rfl ?_
  refine o_iloadN cx X0 d4_12 rfl ?_
  refine o_istore cx X0 (Ls' := #[.val (.ref ob0), .val (.ref ob1), .val (.int (0 : Int32)), .val (.int (2 : Int32)), .val (.int (0 : Int32)), .val (.int (0 : Int32)), .val (.int (0 : Int32)), .val (.int (0 : Int32))]) d4_13 rfl ?_
  refine o_iload cx X0 d4_15 rfl ?_
  refine o_iloadN cx X0 d4_17 rfl ?_
  refine o_icmpNo cx X0 d4_18 (by decide) ?_
  refine o_iload cx X0 d4_21 rfl ?_
  refine o_aloadN cx X0 d4_23 rfl rfl ?_
  refine o_iload cx X0 d4_24 rfl ?_
  refine o_ldB cx X0 (v := (.int (97 : Int32))) d4_26 G6 0 (by decide) rfl rfl ?_
  refine o_bipush cx X0 (z := (10 : Int32)) d4_27 rfl ?_
  refine o_icmpYes cx X0 36 d4_29 (by decide) (by decide) (by decide) ?_
  refine o_iconst cx X0 (z := (0 : Int32)) d4_36 rfl ?_
  refine o_iadd cx X0 (z := (0 : Int32)) d4_37 rfl ?_
  refine o_istore cx X0 (Ls' := #[.val (.ref ob0), .val (.ref ob1), .val (.int (0 : Int32)), .val (.int (2 : Int32)), .val (.int (0 : Int32)), .val (.int (0 : Int32)), .val (.int (0 : Int32)), .val (.int (0 : Int32))]) d4_38 rfl ?_
  refine o_iload cx X0 d4_40 rfl ?_
  refine o_aloadN cx X0 d4_42 rfl rfl ?_
  refine o_iload cx X0 d4_43 rfl ?_
  refine o_ldB cx X0 (v := (.int (97 : Int32))) d4_45 G6 0 (by decide) rfl rfl ?_
  refine o_bipush cx X0 (z := (13 : Int32)) d4_46 rfl ?_
  refine o_icmpYes cx X0 55 d4_48 (by decide) (by decide) (by decide) ?_
  refine o_iconst cx X0 (z := (0 : Int32)) d4_55 rfl ?_
  refine o_iadd cx X0 (z := (0 : Int32)) d4_56 rfl ?_
  refine o_istore cx X0 (Ls' := #[.val (.ref ob0), .val (.ref ob1), .val (.int (0 : Int32)), .val (.int (2 : Int32)), .val (.int (0 : Int32)), .val (.int (0 : Int32)), .val (.int (0 : Int32)), .val (.int (0 : Int32))]) d4_57 rfl ?_
  refine o_iinc cx X0 (z := (1 : Int32)) (Ls' := #[.val (.ref ob0), .val (.ref ob1), .val (.int (0 : Int32)), .val (.int (2 : Int32)), .val (.int (0 : Int32)), .val (.int (0 : Int32)), .val (.int (0 : Int32)), .val (.int (1 : Int32))]) d4_59 rfl rfl rfl ?_
  refine o_goto cx X0 15 d4_62 (by decide) (by decide) ?_
  refine o_iload cx X0 d4_15 rfl ?_
  refine o_iloadN cx X0 d4_17 rfl ?_
  refine o_icmpNo cx X0 d4_18 (by decide) ?_
  refine o_iload cx X0 d4_21 rfl ?_
  refine o_aloadN cx X0 d4_23 rfl rfl ?_
  refine o_iload cx X0 d4_24 rfl ?_
  refine o_ldB cx X0 (v := (.int (98 : Int32))) d4_26 G6 1 (by decide) rfl rfl ?_
  refine o_bipush cx X0 (z := (10 : Int32)) d4_27 rfl ?_
  refine o_icmpYes cx X0 36 d4_29 (by decide) (by decide) (by decide) ?_
  refine o_iconst cx X0 (z := (0 : Int32)) d4_36 rfl ?_
  refine o_iadd cx X0 (z := (0 : Int32)) d4_37 rfl ?_
  refine o_istore cx X0 (Ls' := #[.val (.ref ob0), .val (.ref ob1), .val (.int (0 : Int32)), .val (.int (2 : Int32)), .val (.int (0 : Int32)), .val (.int (0 : Int32)), .val (.int (0 : Int32)), .val (.int (1 : Int32))]) d4_38 rfl ?_
  refine o_iload cx X0 d4_40 rfl ?_
  refine o_aloadN cx X0 d4_42 rfl rfl ?_
  refine o_iload cx X0 d4_43 rfl ?_
  refine o_ldB cx X0 (v := (.int (98 : Int32))) d4_45 G6 1 (by decide) rfl rfl ?_
  refine o_bipush cx X0 (z := (13 : Int32)) d4_46 rfl ?_
  refine o_icmpYes cx X0 55 d4_48 (by decide) (by decide) (by decide) ?_
  refine o_iconst cx X0 (z := (0 : Int32)) d4_55 rfl ?_
  refine o_iadd cx X0 (z := (0 : Int32)) d4_56 rfl ?_
  refine o_istore cx X0 (Ls' := #[.val (.ref ob0), .val (.ref ob1), .val (.int (0 : Int32)), .val (.int (2 : Int32)), .val (.int (0 : Int32)), .val (.int (0 : Int32)), .val (.int (0 : Int32)), .val (.int (1 : Int32))]) d4_57 rfl ?_
  refine o_iinc cx X0 (z := (2 : Int32)) (Ls' := #[.val (.ref ob0), .val (.ref ob1), .val (.int (0 : Int32)), .val (.int (2 : Int32)), .val (.int (0 : Int32)), .val (.int (0 : Int32)), .val (.int (0 : Int32)), .val (.int (2 : Int32))]) d4_59 rfl rfl rfl ?_
  refine o_goto cx X0 15 d4_62 (by decide) (by decide) ?_
  refine o_iload cx X0 d4_15 rfl ?_
  refine o_iloadN cx X0 d4_17 rfl ?_
  refine o_icmpYes cx X0 65 d4_18 (by decide) (by decide) (by decide) ?_
  refine o_aloadN cx X0 d4_65 rfl rfl ?_
  refine o_dup cx X0 d4_66 rfl ?_
  refine o_getF cx X0 d4_67 (o_w hw 11 rfl) G1 fun T179 X180 => ?_
  refine o_iload cx X180 d4_70 rfl ?_
  refine o_iload cx X180 d4_72 rfl ?_
  refine o_iadd cx X180 (z := (0 : Int32)) d4_74 rfl ?_
  refine o_aloadN cx X180 d4_75 rfl rfl ?_
  refine o_aloadN cx X180 d4_76 rfl rfl ?_
  refine o_iloadN cx X180 d4_77 rfl ?_
  refine o_iloadN cx X180 d4_78 rfl ?_
  refine o_iload cx X180 d4_79 rfl ?_
  refine o_callPp cx X180 (y' := (⟨"com/example/bulla/bulla/xml/TextPosition", "joinedLineFeeds", "([BIII)I"⟩ : MethodName)) (argsL := [(.ref ob1), (.int (0 : Int32)), (.int (2 : Int32)), (.int (0 : Int32))]) (st := [(.int (0 : Int32)), (.long (1 : Int64)), (.ref ob0)]) (a := ob0) d4_81 (o_w hw 33 rfl) (o_w hw 35 rfl) (o_w hw 18 rfl) rfl (o_w hw 34 rfl) (o_w hw 4 rfl) (o_w hw 36 rfl) (by decide) G0 (ra6_6 l Z a0 hw ob0 ob1 h0 n0 X180.ge0 ga0 ga1 ne_0_1 G0 G1 G2 G3 G4 G5 G6) (by decide) 4 rfl (by decide) rfl (lenOf pd_6 rfl) rfl rfl (by decide) (by decide) fun T181 X182 => ?_
  show own_Go p e below _ (T181.setTop (mkF m 84 #[.val (.ref ob0), .val (.ref ob1), .val (.int (0 : Int32)), .val (.int (2 : Int32)), .val (.int (0 : Int32)), .val (.int (0 : Int32)), .val (.int (0 : Int32)), .val (.int (2 : Int32))] [(.int (0 : Int32)), (.int (0 : Int32)), (.long (1 : Int64)), (.ref ob0)]))
  refine o_isub cx X182 (z := (0 : Int32)) d4_84 rfl ?_
  refine o_i2l cx X182 (z := (0 : Int64)) d4_85 rfl ?_
  refine o_ladd cx X182 (z := (1 : Int64)) d4_86 rfl ?_
  refine o_putF cx X182 (v' := (.long (1 : Int64))) (ty := .long) d4_87 (o_w hw 11 rfl) G1 G0 (Or.inl (o_w hw 12 rfl)) (o_w hw 3 rfl) (by decide) rfl rfl ga0 fun T186 h188 X187 W189 => ?_
  have G0 := G0.wr W189
  have G1 := G1.same W189
  have G2 := G2.other W189 (Or.inr (slot_ne (Or.inl (o_w hw 14 rfl)) (Or.inl (o_w hw 12 rfl)) (by decide) (t := .long) (t' := .long) (by decide) (by decide)))
  have G3 := G3.other W189 (Or.inr (slot_ne (Or.inl (o_w hw 30 rfl)) (Or.inl (o_w hw 12 rfl)) (by decide) (t := .long) (t' := .long) (by decide) (by decide)))
  have G4 := G4.other W189 (Or.inr (slot_ne (Or.inl (o_w hw 38 rfl)) (Or.inl (o_w hw 12 rfl)) (by decide) (t := .boolean) (t' := .long) (by decide) (by decide)))
  have G5 := G5.other W189 (Or.inr (slot_ne (Or.inl (o_w hw 47 rfl)) (Or.inl (o_w hw 12 rfl)) (by decide) (t := .boolean) (t' := .long) (by decide) (by decide)))
  have G6 := G6.other W189 (Ne.symm ne_0_1)
  have KK := KK.wr W189 (Or.inl (List.mem_of_getElem? (i := 0) rfl))
  refine o_iloadN cx X187 d4_90 rfl ?_
  refine o_iconst cx X187 (z := (1 : Int32)) d4_91 rfl ?_
  refine o_isub cx X187 (z := (1 : Int32)) d4_92 rfl ?_
  refine o_istore cx X187 (Ls' := #[.val (.ref ob0), .val (.ref ob1), .val (.int (0 : Int32)), .val (.int (2 : Int32)), .val (.int (0 : Int32)), .val (.int (0 : Int32)), .val (.int (0 : Int32)), .val (.int (1 : Int32))]) d4_93 rfl ?_
  refine o_iload cx X187 d4_95 rfl ?_
  refine o_iloadN cx X187 d4_97 rfl ?_
  refine o_icmpNo cx X187 d4_98 (by decide) ?_
  refine o_aloadN cx X187 d4_101 rfl rfl ?_
  refine o_iload cx X187 d4_102 rfl ?_
  refine o_ldB cx X187 (v := (.int (98 : Int32))) d4_104 G6 1 (by decide) rfl rfl ?_
  refine o_callSp cx X187 (y' := (⟨"com/example/bulla/bulla/xml/TextPosition", "isLineEnd", "(B)Z"⟩ : MethodName)) (argsL := [(.int (98 : Int32))]) (st := []) d4_105 (o_w hw 39 rfl) (o_w hw 40 rfl) (o_w hw 4 rfl) (o_w hw 41 rfl) (by decide) (ra7_7 l Z a0 hw  h188 n0 X187.ge0 ) (by decide) 0 rfl (by decide) rfl (lenOf pd_7 rfl) rfl rfl (by decide) (by decide) fun T190 X191 => ?_
  show own_Go p e below _ (T190.setTop (mkF m 108 #[.val (.ref ob0), .val (.ref ob1), .val (.int (0 : Int32)), .val (.int (2 : Int32)), .val (.int (0 : Int32)), .val (.int (0 : Int32)), .val (.int (0 : Int32)), .val (.int (1 : Int32))] [(.int (0 : Int32))]))
  refine o_ifNo cx X191 d4_108 (by decide) ?_
  refine o_iinc cx X191 (z := (0 : Int32)) (Ls' := #[.val (.ref ob0), .val (.ref ob1), .val (.int (0 : Int32)), .val (.int (2 : Int32)), .val (.int (0 : Int32)), .val (.int (0 : Int32)), .val (.int (0 : Int32)), .val (.int (0 : Int32))]) d4_111 rfl rfl rfl ?_
  refine o_goto cx X191 95 d4_114 (by decide) (by decide) ?_
  refine o_iload cx X191 d4_95 rfl ?_
  refine o_iloadN cx X191 d4_97 rfl ?_
  refine o_icmpNo cx X191 d4_98 (by decide) ?_
  refine o_aloadN cx X191 d4_101 rfl rfl ?_
  refine o_iload cx X191 d4_102 rfl ?_
  refine o_ldB cx X191 (v := (.int (97 : Int32))) d4_104 G6 0 (by decide) rfl rfl ?_
  refine o_callSp cx X191 (y' := (⟨"com/example/bulla/bulla/xml/TextPosition", "isLineEnd", "(B)Z"⟩ : MethodName)) (argsL := [(.int (97 : Int32))]) (st := []) d4_105 (o_w hw 39 rfl) (o_w hw 40 rfl) (o_w hw 4 rfl) (o_w hw 41 rfl) (by decide) (ra7_8 l Z a0 hw  h188 n0 X191.ge0 ) (by decide) 0 rfl (by decide) rfl (lenOf pd_7 rfl) rfl rfl (by decide) (by decide) fun T195 X196 => ?_
  show own_Go p e below _ (T195.setTop (mkF m 108 #[.val (.ref ob0), .val (.ref ob1), .val (.int (0 : Int32)), .val (.int (2 : Int32)), .val (.int (0 : Int32)), .val (.int (0 : Int32)), .val (.int (0 : Int32)), .val (.int (0 : Int32))] [(.int (0 : Int32))]))
  refine o_ifNo cx X196 d4_108 (by decide) ?_
  refine o_iinc cx X196 (z := (-1 : Int32)) (Ls' := #[.val (.ref ob0), .val (.ref ob1), .val (.int (0 : Int32)), .val (.int (2 : Int32)), .val (.int (0 : Int32)), .val (.int (0 : Int32)), .val (.int (0 : Int32)), .val (.int (-1 : Int32))]) d4_111 rfl rfl rfl ?_
  refine o_goto cx X196 95 d4_114 (by decide) (by decide) ?_
  refine o_iload cx X196 d4_95 rfl ?_
  refine o_iloadN cx X196 d4_97 rfl ?_
  refine o_icmpYes cx X196 117 d4_98 (by decide) (by decide) (by decide) ?_
  refine o_iload cx X196 d4_117 rfl ?_
  refine o_iloadN cx X196 d4_119 rfl ?_
  refine o_icmpNo cx X196 d4_120 (by decide) ?_
  refine o_aloadN cx X196 d4_123 rfl rfl ?_
  refine o_dup cx X196 d4_124 rfl ?_
  refine o_getF cx X196 d4_125 (o_w hw 13 rfl) G2 fun T200 X201 => ?_
  refine o_aloadN cx X201 d4_128 rfl rfl ?_
  refine o_iloadN cx X201 d4_129 rfl ?_
  refine o_iloadN cx X201 d4_130 rfl ?_
  refine o_callSp cx X201 (y' := (⟨"com/example/bulla/bulla/xml/TextPosition", "columns", "([BII)J"⟩ : MethodName)) (argsL := [(.ref ob1), (.int (0 : Int32)), (.int (2 : Int32))]) (st := [(.long (1 : Int64)), (.ref ob0)]) d4_131 (o_w hw 48 rfl) (o_w hw 49 rfl) (o_w hw 4 rfl) (o_w hw 50 rfl) (by decide) (ra9_9 l Z a0 hw ob1 h188 n0 X201.ge0 ga1 G6) (by decide) 3 rfl (by decide) rfl (lenOf pd_9 rfl) rfl rfl (by decide) (by decide) fun T202 X203 => ?_
  show own_Go p e below _ (T202.setTop (mkF m 134 #[.val (.ref ob0), .val (.ref ob1), .val (.int (0 : Int32)), .val (.int (2 : Int32)), .val (.int (0 : Int32)), .val (.int (0 : Int32)), .val (.int (0 : Int32)), .val (.int (-1 : Int32))] [(.long (2 : Int64)), (.long (1 : Int64)), (.ref ob0)]))
  refine o_ladd cx X203 (z := (3 : Int64)) d4_134 rfl ?_
  refine o_putF cx X203 (v' := (.long (3 : Int64))) (ty := .long) d4_135 (o_w hw 13 rfl) G2 G0 (Or.inl (o_w hw 14 rfl)) (o_w hw 3 rfl) (by decide) rfl rfl ga0 fun T207 h209 X208 W210 => ?_
  have G0 := G0.wr W210
  have G1 := G1.other W210 (Or.inr (slot_ne (Or.inl (o_w hw 12 rfl)) (Or.inl (o_w hw 14 rfl)) (by decide) (t := .long) (t' := .long) (by decide) (by decide)))
  have G2 := G2.same W210
  have G3 := G3.other W210 (Or.inr (slot_ne (Or.inl (o_w hw 30 rfl)) (Or.inl (o_w hw 14 rfl)) (by decide) (t := .long) (t' := .long) (by decide) (by decide)))
  have G4 := G4.other W210 (Or.inr (slot_ne (Or.inl (o_w hw 38 rfl)) (Or.inl (o_w hw 14 rfl)) (by decide) (t := .boolean) (t' := .long) (by decide) (by decide)))
  have G5 := G5.other W210 (Or.inr (slot_ne (Or.inl (o_w hw 47 rfl)) (Or.inl (o_w hw 14 rfl)) (by decide) (t := .boolean) (t' := .long) (by decide) (by decide)))
  have G6 := G6.other W210 (Ne.symm ne_0_1)
  have KK := KK.wr W210 (Or.inl (List.mem_of_getElem? (i := 0) rfl))
  refine o_goto cx X208 177 d4_138 (by decide) (by decide) ?_
  refine o_aloadN cx X208 d4_177 rfl rfl ?_
  refine o_aloadN cx X208 d4_178 rfl rfl ?_
  refine o_iloadN cx X208 d4_179 rfl ?_
  refine o_iconst cx X208 (z := (1 : Int32)) d4_180 rfl ?_
  refine o_isub cx X208 (z := (1 : Int32)) d4_181 rfl ?_
  refine o_ldB cx X208 (v := (.int (98 : Int32))) d4_182 G6 1 (by decide) rfl rfl ?_
  refine o_callSp cx X208 (y' := (⟨"com/example/bulla/bulla/xml/TextPosition", "isLineEnd", "(B)Z"⟩ : MethodName)) (argsL := [(.int (98 : Int32))]) (st := [(.ref ob0)]) d4_183 (o_w hw 39 rfl) (o_w hw 40 rfl) (o_w hw 4 rfl) (o_w hw 41 rfl) (by decide) (ra7_7 l Z a0 hw  h209 n0 X208.ge0 ) (by decide) 1 rfl (by decide) rfl (lenOf pd_7 rfl) rfl rfl (by decide) (by decide) fun T211 X212 => ?_
  show own_Go p e below _ (T211.setTop (mkF m 186 #[.val (.ref ob0), .val (.ref ob1), .val (.int (0 : Int32)), .val (.int (2 : Int32)), .val (.int (0 : Int32)), .val (.int (0 : Int32)), .val (.int (0 : Int32)), .val (.int (-1 : Int32))] [(.int (0 : Int32)), (.ref ob0)]))
  refine o_putF cx X212 (v' := (.int (0 : Int32))) (ty := .boolean) d4_186 (o_w hw 46 rfl) G5 G0 (Or.inl (o_w hw 47 rfl)) (o_w hw 3 rfl) (by decide) rfl (fits_nar_bool (0 : Int32)) ga0 fun T216 h218 X217 W219 => ?_
  have G0 := G0.wr W219
  have G1 := G1.other W219 (Or.inr (slot_ne (Or.inl (o_w hw 12 rfl)) (Or.inl (o_w hw 47 rfl)) (by decide) (t := .long) (t' := .boolean) (by decide) (by decide)))
  have G2 := G2.other W219 (Or.inr (slot_ne (Or.inl (o_w hw 14 rfl)) (Or.inl (o_w hw 47 rfl)) (by decide) (t := .long) (t' := .boolean) (by decide) (by decide)))
  have G3 := G3.other W219 (Or.inr (slot_ne (Or.inl (o_w hw 30 rfl)) (Or.inl (o_w hw 47 rfl)) (by decide) (t := .long) (t' := .boolean) (by decide) (by decide)))
  have G4 := G4.other W219 (Or.inr (slot_ne (Or.inl (o_w hw 38 rfl)) (Or.inl (o_w hw 47 rfl)) (by decide) (t := .boolean) (t' := .boolean) (by decide) (by decide)))
  have G5 := G5.same W219
  have G6 := G6.other W219 (Ne.symm ne_0_1)
  have KK := KK.wr W219 (Or.inl (List.mem_of_getElem? (i := 0) rfl))
  refine o_aloadN cx X217 d4_189 rfl rfl ?_
  refine o_aloadN cx X217 d4_190 rfl rfl ?_
  refine o_iloadN cx X217 d4_191 rfl ?_
  refine o_iconst cx X217 (z := (1 : Int32)) d4_192 rfl ?_
  refine o_isub cx X217 (z := (1 : Int32)) d4_193 rfl ?_
  refine o_ldB cx X217 (v := (.int (98 : Int32))) d4_194 G6 1 (by decide) rfl rfl ?_
  refine o_bipush cx X217 (z := (13 : Int32)) d4_195 rfl ?_
  refine o_icmpYes cx X217 204 d4_197 (by decide) (by decide) (by decide) ?_
  refine o_iconst cx X217 (z := (0 : Int32)) d4_204 rfl ?_
  refine o_putF cx X217 (v' := (.int (0 : Int32))) (ty := .boolean) d4_205 (o_w hw 37 rfl) G4 G0 (Or.inl (o_w hw 38 rfl)) (o_w hw 3 rfl) (by decide) rfl (fits_nar_bool (0 : Int32)) ga0 fun T220 h222 X221 W223 => ?_
  have G0 := G0.wr W223
  have G1 := G1.other W223 (Or.inr (slot_ne (Or.inl (o_w hw 12 rfl)) (Or.inl (o_w hw 38 rfl)) (by decide) (t := .long) (t' := .boolean) (by decide) (by decide)))
  have G2 := G2.other W223 (Or.inr (slot_ne (Or.inl (o_w hw 14 rfl)) (Or.inl (o_w hw 38 rfl)) (by decide) (t := .long) (t' := .boolean) (by decide) (by decide)))
  have G3 := G3.other W223 (Or.inr (slot_ne (Or.inl (o_w hw 30 rfl)) (Or.inl (o_w hw 38 rfl)) (by decide) (t := .long) (t' := .boolean) (by decide) (by decide)))
  have G4 := G4.same W223
  have G5 := G5.other W223 (Or.inr (slot_ne (Or.inl (o_w hw 47 rfl)) (Or.inl (o_w hw 38 rfl)) (by decide) (t := .boolean) (t' := .boolean) (by decide) (by decide)))
  have G6 := G6.other W223 (Ne.symm ne_0_1)
  have KK := KK.wr W223 (Or.inl (List.mem_of_getElem? (i := 0) rfl))
  exact o_retV cx X221 d4_208 ⟨rfl, KK, G0, G1, G2, G3, G4, G5⟩ (by decide) (by decide)
theorem ef_ra3_4 (m : MethodId) (ob0 : Addr) (ob1 : Addr) : entryFrame m #[(.ref ob0), (.ref ob1), (.int (0 : Int32)), (.int (2 : Int32))] 4 = mkF m 0 #[.val (.ref ob0), .val (.ref ob1), .val (.int (0 : Int32)), .val (.int (2 : Int32))] [] := by first | (simp [entryFrame, mkF, argsToLocals, Value.category]; done) | rfl
set_option maxRecDepth 65536 in
set_option maxHeartbeats 40000000 in
theorem ra3_4 (l : Launch) (Z : State) (a0 : Array Value) (hw : ∀ d ∈ tables_1, d.before a0 Z = true) (ob0 : Addr) (ob1 : Addr) (h0 : Heap) (n0 : Nat) (Z0 : n0 ≤ h0.size) (ga0 : n0 ≤ ob0) (ga1 : n0 ≤ ob1) (ne_0_1 : ob0 ≠ ob1) (G0 : Exa Z h0 ob0 "com/example/bulla/bulla/xml/TextPosition") (G1 : Fld Z h0 ob0 "com/example/bulla/bulla/xml/TextPosition" "line" "J" (.long (1 : Int64))) (G2 : Fld Z h0 ob0 "com/example/bulla/bulla/xml/TextPosition" "column" "J" (.long (1 : Int64))) (G3 : Fld Z h0 ob0 "com/example/bulla/bulla/xml/TextPosition" "shortfall" "J" (.long (0 : Int64))) (G4 : Fld Z h0 ob0 "com/example/bulla/bulla/xml/TextPosition" "afterReturn" "Z" (.int (0 : Int32))) (G5 : Fld Z h0 ob0 "com/example/bulla/bulla/xml/TextPosition" "afterLineEnd" "Z" (.int (0 : Int32))) (G6 : own_Ar Z h0 ob1 .byte [(.int (97 : Int32)), (.int (98 : Int32)), (.int (0 : Int32))]) :
    own_Met l Z (⟨"com/example/bulla/bulla/xml/TextPosition", "moveOver", "([BII)V"⟩ : MethodName) prog_169_method_6_code 4 none ({ frames := 2, cells := 0, slots := 0, locals := 41 } : Room) #[(.ref ob0), (.ref ob1), (.int (0 : Int32)), (.int (2 : Int32))] h0 n0 (fun v' h' => v' = none ∧ Keep h0 h' [ob0] ∧ Exa Z h' ob0 "com/example/bulla/bulla/xml/TextPosition" ∧ Fld Z h' ob0 "com/example/bulla/bulla/xml/TextPosition" "line" "J" (.long (1 : Int64)) ∧ Fld Z h' ob0 "com/example/bulla/bulla/xml/TextPosition" "column" "J" (.long (3 : Int64)) ∧ Fld Z h' ob0 "com/example/bulla/bulla/xml/TextPosition" "shortfall" "J" (.long (0 : Int64)) ∧ Fld Z h' ob0 "com/example/bulla/bulla/xml/TextPosition" "afterReturn" "Z" (.int (0 : Int32)) ∧ Fld Z h' ob0 "com/example/bulla/bulla/xml/TextPosition" "afterLineEnd" "Z" (.int (0 : Int32))) := by
  refine own_body (plainFor_of_name pn_5) (fun m => ef_ra3_4 m ob0 ob1) Z0 ?_
  intro p e s m below meth c T0 cx X0
  have KK := Keep.refl h0 [ob0]
  show own_Go p e below _ (T0.setTop (mkF m 0 #[.val (.ref ob0), .val (.ref ob1), .val (.int (0 : Int32)), .val (.int (2 : Int32))] []))
  refine o_aloadN cx X0 d3_0 rfl rfl ?_
  refine o_aloadN cx X0 d3_1 rfl rfl ?_
  refine o_iloadN cx X0 d3_2 rfl ?_
  refine o_iloadN cx X0 d3_3 rfl ?_
  refine o_iconst cx X0 (z := (0 : Int32)) d3_4 rfl ?_
  refine o_callP cx X0 (y' := (⟨"com/example/bulla/bulla/xml/TextPosition", "move", "([BIIZ)V"⟩ : MethodName)) (argsL := [(.ref ob1), (.int (0 : Int32)), (.int (2 : Int32)), (.int (0 : Int32))]) (st := []) (a := ob0) d3_5 (o_w hw 20 rfl) (o_w hw 22 rfl) (o_w hw 18 rfl) rfl (o_w hw 21 rfl) (o_w hw 4 rfl) (o_w hw 23 rfl) (by decide) G0 (ra4_5 l Z a0 hw ob0 ob1 h0 n0 X0.ge0 ga0 ga1 ne_0_1 G0 G1 G2 G3 G4 G5 G6) (by decide) 0 rfl (by decide) rfl (lenOf pd_4 rfl) rfl rfl (by decide) (by decide) fun v149 T146 h148 X147 Q150 => ?_
  obtain ⟨rfl, K151, E152, F153, F154, F155, F156, F157⟩ := Q150
  have G6 := G6.keep K151 (ninS (Ne.symm ne_0_1) nin0)
  have KK := KK.trans K151 (allS (Or.inl (List.mem_of_getElem? (i := 0) rfl)) all0)
  show own_Go p e below _ (T146.setTop (mkF m 8 #[.val (.ref ob0), .val (.ref ob1), .val (.int (0 : Int32)), .val (.int (2 : Int32))] []))
  exact o_retV cx X147 d3_8 ⟨rfl, KK, E152, F153, F154, F155, F156, F157⟩ (by decide) (by decide)
theorem d4_32 : decode prog_169_method_8_code 32 = .ok (.iconst 1, 1) := by decide +kernel
theorem d4_33 : decode prog_169_method_8_code 33 = .ok (.goto 4, 3) := by decide +kernel
theorem ef_ra6_12 (m : MethodId) (ob0 : Addr) (ob1 : Addr) : entryFrame m #[(.ref ob0), (.ref ob1), (.int (0 : Int32)), (.int (2 : Int32)), (.int (0 : Int32))] 7 = mkF m 0 #[.val (.ref ob0), .val (.ref ob1), .val (.int (0 : Int32)), .val (.int (2 : Int32)), .val (.int (0 : Int32)), .unset, .unset] [] := by first | (simp [entryFrame, mkF, argsToLocals, Value.category]; done) | rfl
set_option maxRecDepth 65536 in
set_option maxHeartbeats 40000000 in
theorem ra6_12 (l : Launch) (Z : State) (a0 : Array Value) (hw : ∀ d ∈ tables_1, d.before a0 Z = true) (ob0 : Addr) (ob1 : Addr) (h0 : Heap) (n0 : Nat) (Z0 : n0 ≤ h0.size) (ga0 : n0 ≤ ob0) (ga1 : n0 ≤ ob1) (ne_0_1 : ob0 ≠ ob1) (G0 : Exa Z h0 ob0 "com/example/bulla/bulla/xml/TextPosition") (G1 : Fld Z h0 ob0 "com/example/bulla/bulla/xml/TextPosition" "line" "J" (.long (1 : Int64))) (G2 : Fld Z h0 ob0 "com/example/bulla/bulla/xml/TextPosition" "column" "J" (.long (1 : Int64))) (G3 : Fld Z h0 ob0 "com/example/bulla/bulla/xml/TextPosition" "shortfall" "J" (.long (0 : Int64))) (G4 : Fld Z h0 ob0 "com/example/bulla/bulla/xml/TextPosition" "afterReturn" "Z" (.int (0 : Int32))) (G5 : Fld Z h0 ob0 "com/example/bulla/bulla/xml/TextPosition" "afterLineEnd" "Z" (.int (0 : Int32))) (G6 : own_Ar Z h0 ob1 .byte [(.int (10 : Int32)), (.int (97 : Int32)), (.int (0 : Int32))]) :
    own_Met l Z (⟨"com/example/bulla/bulla/xml/TextPosition", "joinedLineFeeds", "([BIII)I"⟩ : MethodName) prog_169_method_10_code 7 (some .int) ({ frames := 0, cells := 0, slots := 0, locals := 0 } : Room) #[(.ref ob0), (.ref ob1), (.int (0 : Int32)), (.int (2 : Int32)), (.int (0 : Int32))] h0 n0 (fun v' h' => v' = some (.int (0 : Int32)) ∧ h' = h0) := by
  refine own_body (plainFor_of_name pn_5) (fun m => ef_ra6_12 m ob0 ob1) Z0 ?_
  intro p e s m below meth c T0 cx X0
  have KK := Keep.refl h0 []
  show own_Go p e below _ (T0.setTop (mkF m 0 #[.val (.ref ob0), .val (.ref ob1), .val (.int (0 : Int32)), .val (.int (2 : Int32)), .val (.int (0 : Int32)), .unset, .unset] []))
  refine o_aloadN cx X0 d6_0 rfl rfl ?_
  refine o_getF cx X0 d6_1 (o_w hw 37 rfl) G4 fun T231 X232 => ?_
  refine o_ifYes cx X232 19 d6_4 (by decide) (by decide) (by decide) ?_
  refine o_iconst cx X232 (z := (0 : Int32)) d6_19 rfl ?_
  refine o_istore cx X232 (Ls' := #[.val (.ref ob0), .val (.ref ob1), .val (.int (0 : Int32)), .val (.int (2 : Int32)), .val (.int (0 : Int32)), .val (.int (0 : Int32)), .unset]) d6_20 rfl ?_
  refine o_iloadN cx X232 d6_22 rfl ?_
  refine o_iconst cx X232 (z := (1 : Int32)) d6_23 rfl ?_
  refine o_iadd cx X232 (z := (1 : Int32)) d6_24 rfl ?_
  refine o_istore cx X232 (Ls' := #[.val (.ref ob0), .val (.ref ob1), .val (.int (0 : Int32)), .val (.int (2 : Int32)), .val (.int (0 : Int32)), .val (.int (0 : Int32)), .val (.int (1 : Int32))]) d6_25 rfl ?_
  refine o_iload cx X232 d6_27 rfl ?_
  refine o_ifYes cx X232 74 d6_29 (by decide) (by decide) (by decide) ?_
  refine o_iload cx X232 d6_74 rfl ?_
  exact o_retI cx X232 d6_76 ⟨rfl, rfl⟩ (by decide) (by decide)
theorem d7_12 : decode prog_169_method_12_code 12 = .ok (.iconst 1, 1) := by decide +kernel
theorem d7_13 : decode prog_169_method_12_code 13 = .ok (.goto 4, 3) := by decide +kernel
theorem ef_ra7_13 (m : MethodId)  : entryFrame m #[(.int (10 : Int32))] 1 = mkF m 0 #[.val (.int (10 : Int32))] [] := by first | (simp [entryFrame, mkF, argsToLocals, Value.category]; done) | rfl
set_option maxRecDepth 65536 in
set_option maxHeartbeats 40000000 in
theorem ra7_13 (l : Launch) (Z : State) (a0 : Array Value) (hw : ∀ d ∈ tables_1, d.before a0 Z = true)  (h0 : Heap) (n0 : Nat) (Z0 : n0 ≤ h0.size) :
    own_Met l Z (⟨"com/example/bulla/bulla/xml/TextPosition", "isLineEnd", "(B)Z"⟩ : MethodName) prog_169_method_12_code 1 (some .boolean) ({ frames := 0, cells := 0, slots := 0, locals := 0 } : Room) #[(.int (10 : Int32))] h0 n0 (fun v' h' => v' = some (.int (1 : Int32)) ∧ h' = h0) := by
  refine own_body (plainFor_of_name pn_5) (fun m => ef_ra7_13 m ) Z0 ?_
  intro p e s m below meth c T0 cx X0
  have KK := Keep.refl h0 []
  show own_Go p e below _ (T0.setTop (mkF m 0 #[.val (.int (10 : Int32))] []))
  refine o_iloadN cx X0 d7_0 rfl ?_
  refine o_bipush cx X0 (z := (10 : Int32)) d7_1 rfl ?_
  refine o_icmpYes cx X0 12 d7_3 (by decide) (by decide) (by decide) ?_
  refine o_iconst cx X0 (z := (1 : Int32)) d7_12 rfl ?_
  refine o_goto cx X0 17 d7_13 (by decide) (by decide) ?_
  exact o_retN cx X0 (z' := (1 : Int32)) d7_17 (by simp) rfl ⟨rfl, rfl⟩ (by decide) (by decide)
theorem d4_141 : decode prog_169_method_8_code 141 = .ok (.aload_n 0, 1) := by decide +kernel
theorem d4_142 : decode prog_169_method_8_code 142 = .ok (.iload 4, 2) := by decide +kernel
theorem d4_144 : decode prog_169_method_8_code 144 = .ok (.ifCond .eq 7, 3) := by decide +kernel
theorem d4_151 : decode prog_169_method_8_code 151 = .ok (.aload_n 0, 1) := by decide +kernel
theorem d4_152 : decode prog_169_method_8_code 152 = .ok (.aload_n 1, 1) := by decide +kernel
theorem d4_153 : decode prog_169_method_8_code 153 = .ok (.iload_n 2, 1) := by decide +kernel
theorem d4_154 : decode prog_169_method_8_code 154 = .ok (.iload 7, 2) := by decide +kernel
theorem d4_156 : decode prog_169_method_8_code 156 = .ok (.invokevirtual 35, 3) := by decide +kernel
theorem d8_0 : decode prog_169_method_11_code 0 = .ok (.iload_n 3, 1) := by decide +kernel
theorem d8_1 : decode prog_169_method_11_code 1 = .ok (.istore 4, 2) := by decide +kernel
theorem d8_3 : decode prog_169_method_11_code 3 = .ok (.iload 4, 2) := by decide +kernel
theorem d8_5 : decode prog_169_method_11_code 5 = .ok (.iload_n 2, 1) := by decide +kernel
theorem d8_6 : decode prog_169_method_11_code 6 = .ok (.if_icmp .le 21, 3) := by decide +kernel
theorem d8_27 : decode prog_169_method_11_code 27 = .ok (.lconst 0, 1) := by decide +kernel
theorem d8_28 : decode prog_169_method_11_code 28 = .ok (.lstore 5, 2) := by decide +kernel
theorem d8_30 : decode prog_169_method_11_code 30 = .ok (.iload 4, 2) := by decide +kernel
theorem d8_32 : decode prog_169_method_11_code 32 = .ok (.istore 7, 2) := by decide +kernel
theorem d8_34 : decode prog_169_method_11_code 34 = .ok (.iload 7, 2) := by decide +kernel
theorem d8_36 : decode prog_169_method_11_code 36 = .ok (.iload_n 3, 1) := by decide +kernel
theorem d8_37 : decode prog_169_method_11_code 37 = .ok (.if_icmp .gt 45, 3) := by decide +kernel
theorem d8_40 : decode prog_169_method_11_code 40 = .ok (.lload 5, 2) := by decide +kernel
theorem d8_42 : decode prog_169_method_11_code 42 = .ok (.aload_n 1, 1) := by decide +kernel
theorem d8_43 : decode prog_169_method_11_code 43 = .ok (.iload 7, 2) := by decide +kernel
theorem d8_45 : decode prog_169_method_11_code 45 = .ok (.baload, 1) := by decide +kernel
theorem d8_46 : decode prog_169_method_11_code 46 = .ok (.bipush 13, 2) := by decide +kernel
theorem d8_48 : decode prog_169_method_11_code 48 = .ok (.if_icmp .ne 24, 3) := by decide +kernel
theorem d8_72 : decode prog_169_method_11_code 72 = .ok (.lconst 0, 1) := by decide +kernel
theorem d8_73 : decode prog_169_method_11_code 73 = .ok (.ladd, 1) := by decide +kernel
theorem d8_74 : decode prog_169_method_11_code 74 = .ok (.lstore 5, 2) := by decide +kernel
theorem d8_76 : decode prog_169_method_11_code 76 = .ok (.iinc 7 1, 3) := by decide +kernel
theorem d8_79 : decode prog_169_method_11_code 79 = .ok (.goto (-45), 3) := by decide +kernel
theorem d8_82 : decode prog_169_method_11_code 82 = .ok (.iload 4, 2) := by decide +kernel
theorem d8_84 : decode prog_169_method_11_code 84 = .ok (.iload_n 2, 1) := by decide +kernel
theorem d8_85 : decode prog_169_method_11_code 85 = .ok (.if_icmp .ne 41, 3) := by decide +kernel
theorem d8_88 : decode prog_169_method_11_code 88 = .ok (.aload_n 0, 1) := by decide +kernel
theorem d8_89 : decode prog_169_method_11_code 89 = .ok (.getfield 38, 3) := by decide +kernel
theorem d8_92 : decode prog_169_method_11_code 92 = .ok (.ifCond .eq 34, 3) := by decide +kernel
theorem d8_126 : decode prog_169_method_11_code 126 = .ok (.lload 5, 2) := by decide +kernel
theorem d8_128 : decode prog_169_method_11_code 128 = .ok (.lreturn, 1) := by decide +kernel
theorem ef_ra8_14 (m : MethodId) (ob0 : Addr) (ob1 : Addr) : entryFrame m #[(.ref ob0), (.ref ob1), (.int (0 : Int32)), (.int (0 : Int32))] 8 = mkF m 0 #[.val (.ref ob0), .val (.ref ob1), .val (.int (0 : Int32)), .val (.int (0 : Int32)), .unset, .unset, .unset, .unset] [] := by first | (simp [entryFrame, mkF, argsToLocals, Value.category]; done) | rfl
set_option maxRecDepth 65536 in
set_option maxHeartbeats 40000000 in
theorem ra8_14 (l : Launch) (Z : State) (a0 : Array Value) (hw : ∀ d ∈ tables_1, d.before a0 Z = true) (ob0 : Addr) (ob1 : Addr) (h0 : Heap) (n0 : Nat) (Z0 : n0 ≤ h0.size) (ga0 : n0 ≤ ob0) (ga1 : n0 ≤ ob1) (ne_0_1 : ob0 ≠ ob1) (G0 : Exa Z h0 ob0 "com/example/bulla/bulla/xml/TextPosition") (G1 : Fld Z h0 ob0 "com/example/bulla/bulla/xml/TextPosition" "line" "J" (.long (2 : Int64))) (G2 : Fld Z h0 ob0 "com/example/bulla/bulla/xml/TextPosition" "column" "J" (.long (1 : Int64))) (G3 : Fld Z h0 ob0 "com/example/bulla/bulla/xml/TextPosition" "shortfall" "J" (.long (0 : Int64))) (G4 : Fld Z h0 ob0 "com/example/bulla/bulla/xml/TextPosition" "afterReturn" "Z" (.int (0 : Int32))) (G5 : Fld Z h0 ob0 "com/example/bulla/bulla/xml/TextPosition" "afterLineEnd" "Z" (.int (0 : Int32))) (G6 : own_Ar Z h0 ob1 .byte [(.int (10 : Int32)), (.int (97 : Int32)), (.int (0 : Int32))]) :
    own_Met l Z (⟨"com/example/bulla/bulla/xml/TextPosition", "returnsAlone", "([BII)J"⟩ : MethodName) prog_169_method_11_code 8 (some .long) ({ frames := 0, cells := 0, slots := 0, locals := 0 } : Room) #[(.ref ob0), (.ref ob1), (.int (0 : Int32)), (.int (0 : Int32))] h0 n0 (fun v' h' => v' = some (.long (0 : Int64)) ∧ h' = h0) := by
  refine own_body (plainFor_of_name pn_5) (fun m => ef_ra8_14 m ob0 ob1) Z0 ?_
  intro p e s m below meth c T0 cx X0
  have KK := Keep.refl h0 []
  show own_Go p e below _ (T0.setTop (mkF m 0 #[.val (.ref ob0), .val (.ref ob1), .val (.int (0 : Int32)), .val (.int (0 : Int32)), .unset, .unset, .unset, .unset] []))
  refine o_iloadN cx X0 d8_0 rfl ?_
  refine o_istore cx X0 (Ls' := #[.val (.ref ob0), .val (.ref ob1), .val (.int (0 : Int32)), .val (.int (0 : Int32)), .val (.int (0 : Int32)), .unset, .unset, .unset]) d8_1 rfl ?_
  refine o_iload cx X0 d8_3 rfl ?_
  refine o_iloadN cx X0 d8_5 rfl ?_
  refine o_icmpYes cx X0 27 d8_6 (by decide) (by decide) (by decide) ?_
  refine o_lconst cx X0 (z := (0 : Int64)) d8_27 rfl ?_
  refine o_lstore cx X0 (Ls' := #[.val (.ref ob0), .val (.ref ob1), .val (.int (0 : Int32)), .val (.int (0 : Int32)), .val (.int (0 : Int32)), .val (.long (0 : Int64)), .second, .unset]) d8_28 rfl ?_
  refine o_iload cx X0 d8_30 rfl ?_
  refine o_istore cx X0 (Ls' := #[.val (.ref ob0), .val (.ref ob1), .val (.int (0 : Int32)), .val (.int (0 : Int32)), .val (.int (0 : Int32)), .val (.long (0 : Int64)), .second, .val (.int (0 : Int32))]) d8_32 rfl ?_
  refine o_iload cx X0 d8_34 rfl ?_
  refine o_iloadN cx X0 d8_36 rfl ?_
  refine o_icmpNo cx X0 d8_37 (by decide) ?_
  refine o_lload cx X0 d8_40 rfl ?_
  refine o_aloadN cx X0 d8_42 rfl rfl ?_
  refine o_iload cx X0 d8_43 rfl ?_
  refine o_ldB cx X0 (v := (.int (10 : Int32))) d8_45 G6 0 (by decide) rfl rfl ?_
  refine o_bipush cx X0 (z := (13 : Int32)) d8_46 rfl ?_
  refine o_icmpYes cx X0 72 d8_48 (by decide) (by decide) (by decide) ?_
  refine o_lconst cx X0 (z := (0 : Int64)) d8_72 rfl ?_
  refine o_ladd cx X0 (z := (0 : Int64)) d8_73 rfl ?_
  refine o_lstore cx X0 (Ls' := #[.val (.ref ob0), .val (.ref ob1), .val (.int (0 : Int32)), .val (.int (0 : Int32)), .val (.int (0 : Int32)), .val (.long (0 : Int64)), .second, .val (.int (0 : Int32))]) d8_74 rfl ?_
  refine o_iinc cx X0 (z := (1 : Int32)) (Ls' := #[.val (.ref ob0), .val (.ref ob1), .val (.int (0 : Int32)), .val (.int (0 : Int32)), .val (.int (0 : Int32)), .val (.long (0 : Int64)), .second, .val (.int (1 : Int32))]) d8_76 rfl rfl rfl ?_
  refine o_goto cx X0 34 d8_79 (by decide) (by decide) ?_
  refine o_iload cx X0 d8_34 rfl ?_
  refine o_iloadN cx X0 d8_36 rfl ?_
  refine o_icmpYes cx X0 82 d8_37 (by decide) (by decide) (by decide) ?_
  refine o_iload cx X0 d8_82 rfl ?_
  refine o_iloadN cx X0 d8_84 rfl ?_
  refine o_icmpNo cx X0 d8_85 (by decide) ?_
  refine o_aloadN cx X0 d8_88 rfl rfl ?_
  refine o_getF cx X0 d8_89 (o_w hw 46 rfl) G5 fun T254 X255 => ?_
  refine o_ifYes cx X255 126 d8_92 (by decide) (by decide) (by decide) ?_
  refine o_lload cx X255 d8_126 rfl ?_
  exact o_retJ cx X255 d8_128 ⟨rfl, rfl⟩ (by decide) (by decide)
theorem pd_8 : parseMethodDescriptor "([BII)J" = some ⟨[(.array .byte), .int, .int], some .long⟩ := by decide +kernel
theorem d4_159 : decode prog_169_method_8_code 159 = .ok (.putfield 16, 3) := by decide +kernel
theorem d4_162 : decode prog_169_method_8_code 162 = .ok (.aload_n 0, 1) := by decide +kernel
theorem d4_163 : decode prog_169_method_8_code 163 = .ok (.lconst 1, 1) := by decide +kernel
theorem d4_164 : decode prog_169_method_8_code 164 = .ok (.aload_n 1, 1) := by decide +kernel
theorem d4_165 : decode prog_169_method_8_code 165 = .ok (.iload 7, 2) := by decide +kernel
theorem d4_167 : decode prog_169_method_8_code 167 = .ok (.iconst 1, 1) := by decide +kernel
theorem d4_168 : decode prog_169_method_8_code 168 = .ok (.iadd, 1) := by decide +kernel
theorem d4_169 : decode prog_169_method_8_code 169 = .ok (.iload_n 3, 1) := by decide +kernel
theorem d4_170 : decode prog_169_method_8_code 170 = .ok (.invokestatic 31, 3) := by decide +kernel
theorem ef_ra9_15 (m : MethodId) (ob0 : Addr) : entryFrame m #[(.ref ob0), (.int (1 : Int32)), (.int (2 : Int32))] 7 = mkF m 0 #[.val (.ref ob0), .val (.int (1 : Int32)), .val (.int (2 : Int32)), .unset, .unset, .unset, .unset] [] := by first | (simp [entryFrame, mkF, argsToLocals, Value.category]; done) | rfl
set_option maxRecDepth 65536 in
set_option maxHeartbeats 40000000 in
theorem ra9_15 (l : Launch) (Z : State) (a0 : Array Value) (hw : ∀ d ∈ tables_1, d.before a0 Z = true) (ob0 : Addr) (h0 : Heap) (n0 : Nat) (Z0 : n0 ≤ h0.size) (ga0 : n0 ≤ ob0) (G0 : own_Ar Z h0 ob0 .byte [(.int (10 : Int32)), (.int (97 : Int32)), (.int (0 : Int32))]) :
    own_Met l Z (⟨"com/example/bulla/bulla/xml/TextPosition", "columns", "([BII)J"⟩ : MethodName) prog_169_method_13_code 7 (some .long) ({ frames := 0, cells := 0, slots := 0, locals := 0 } : Room) #[(.ref ob0), (.int (1 : Int32)), (.int (2 : Int32))] h0 n0 (fun v' h' => v' = some (.long (1 : Int64)) ∧ h' = h0) := by
  refine own_body (plainFor_of_name pn_5) (fun m => ef_ra9_15 m ob0) Z0 ?_
  intro p e s m below meth c T0 cx X0
  have KK := Keep.refl h0 []
  show own_Go p e below _ (T0.setTop (mkF m 0 #[.val (.ref ob0), .val (.int (1 : Int32)), .val (.int (2 : Int32)), .unset, .unset, .unset, .unset] []))
  refine o_lconst cx X0 (z := (0 : Int64)) d9_0 rfl ?_
  refine o_lstoreN cx X0 (Ls' := #[.val (.ref ob0), .val (.int (1 : Int32)), .val (.int (2 : Int32)), .val (.long (0 : Int64)), .second, .unset, .unset]) d9_1 rfl ?_
  refine o_iloadN cx X0 d9_2 rfl ?_
  refine o_istore cx X0 (Ls' := #[.val (.ref ob0), .val (.int (1 : Int32)), .val (.int (2 : Int32)), .val (.long (0 : Int64)), .second, .val (.int (1 : Int32)), .unset]) d9_3 rfl ?_
  refine o_iload cx X0 d9_5 rfl ?_
  refine o_iloadN cx X0 d9_7 rfl ?_
  refine o_icmpNo cx X0 d9_8 (by decide) ?_
  refine o_aloadN cx X0 d9_11 rfl rfl ?_
  refine o_iload cx X0 d9_12 rfl ?_
  refine o_ldB cx X0 (v := (.int (97 : Int32))) d9_14 G0 1 (by decide) rfl rfl ?_
  refine o_sipush cx X0 (z := (255 : Int32)) d9_15 rfl ?_
  refine o_iand cx X0 (z := (97 : Int32)) d9_18 rfl ?_
  refine o_istore cx X0 (Ls' := #[.val (.ref ob0), .val (.int (1 : Int32)), .val (.int (2 : Int32)), .val (.long (0 : Int64)), .second, .val (.int (1 : Int32)), .val (.int (97 : Int32))]) d9_19 rfl ?_
  refine o_lloadN cx X0 d9_21 rfl ?_
  refine o_iload cx X0 d9_22 rfl ?_
  refine o_sipush cx X0 (z := (192 : Int32)) d9_24 rfl ?_
  refine o_iand cx X0 (z := (64 : Int32)) d9_27 rfl ?_
  refine o_sipush cx X0 (z := (128 : Int32)) d9_28 rfl ?_
  refine o_icmpNo cx X0 d9_31 (by decide) ?_
  refine o_lconst cx X0 (z := (1 : Int64)) d9_34 rfl ?_
  refine o_goto cx X0 39 d9_35 (by decide) (by decide) ?_
  refine o_ladd cx X0 (z := (1 : Int64)) d9_39 rfl ?_
  refine o_lstoreN cx X0 (Ls' := #[.val (.ref ob0), .val (.int (1 : Int32)), .val (.int (2 : Int32)), .val (.long (1 : Int64)), .second, .val (.int (1 : Int32)), .val (.int (97 : Int32))]) d9_40 rfl ?_
  refine o_lloadN cx X0 d9_41 rfl ?_
  refine o_iload cx X0 d9_42 rfl ?_
  refine o_sipush cx X0 (z := (240 : Int32)) d9_44 rfl ?_
  refine o_icmpYes cx X0 54 d9_47 (by decide) (by decide) (by decide) ?_
  refine o_lconst cx X0 (z := (0 : Int64)) d9_54 rfl ?_
  refine o_ladd cx X0 (z := (1 : Int64)) d9_55 rfl ?_
  refine o_lstoreN cx X0 (Ls' := #[.val (.ref ob0), .val (.int (1 : Int32)), .val (.int (2 : Int32)), .val (.long (1 : Int64)), .second, .val (.int (1 : Int32)), .val (.int (97 : Int32))]) d9_56 rfl ?_
  refine o_iinc cx X0 (z := (2 : Int32)) (Ls' := #[.val (.ref ob0), .val (.int (1 : Int32)), .val (.int (2 : Int32)), .val (.long (1 : Int64)), .second, .val (.int (2 : Int32)), .val (.int (97 : Int32))]) d9_57 rfl rfl rfl ?_
  refine o_goto cx X0 5 d9_60 (by decide) (by decide) ?_
  refine o_iload cx X0 d9_5 rfl ?_
  refine o_iloadN cx X0 d9_7 rfl ?_
  refine o_icmpYes cx X0 63 d9_8 (by decide) (by decide) (by decide) ?_
  refine o_lloadN cx X0 d9_63 rfl ?_
  exact o_retJ cx X0 d9_64 ⟨rfl, rfl⟩ (by decide) (by decide)
theorem d4_173 : decode prog_169_method_8_code 173 = .ok (.ladd, 1) := by decide +kernel
theorem d4_174 : decode prog_169_method_8_code 174 = .ok (.putfield 13, 3) := by decide +kernel
theorem ef_ra4_11 (m : MethodId) (ob0 : Addr) (ob1 : Addr) : entryFrame m #[(.ref ob0), (.ref ob1), (.int (0 : Int32)), (.int (2 : Int32)), (.int (0 : Int32))] 8 = mkF m 0 #[.val (.ref ob0), .val (.ref ob1), .val (.int (0 : Int32)), .val (.int (2 : Int32)), .val (.int (0 : Int32)), .unset, .unset, .unset] [] := by first | (simp [entryFrame, mkF, argsToLocals, Value.category]; done) | rfl
set_option maxRecDepth 65536 in
set_option maxHeartbeats 40000000 in
theorem ra4_11 (l : Launch) (Z : State) (a0 : Array Value) (hw : ∀ d ∈ tables_1, d.before a0 Z = true) (ob0 : Addr) (ob1 : Addr) (h0 : Heap) (n0 : Nat) (Z0 : n0 ≤ h0.size) (ga0 : n0 ≤ ob0) (ga1 : n0 ≤ ob1) (ne_0_1 : ob0 ≠ ob1) (G0 : Exa Z h0 ob0 "com/example/bulla/bulla/xml/TextPosition") (G1 : Fld Z h0 ob0 "com/example/bulla/bulla/xml/TextPosition" "line" "J" (.long (1 : Int64))) (G2 : Fld Z h0 ob0 "com/example/bulla/bulla/xml/TextPosition" "column" "J" (.long (1 : Int64))) (G3 : Fld Z h0 ob0 "com/example/bulla/bulla/xml/TextPosition" "shortfall" "J" (.long (0 : Int64))) (G4 : Fld Z h0 ob0 "com/example/bulla/bulla/xml/TextPosition" "afterReturn" "Z" (.int (0 : Int32))) (G5 : Fld Z h0 ob0 "com/example/bulla/bulla/xml/TextPosition" "afterLineEnd" "Z" (.int (0 : Int32))) (G6 : own_Ar Z h0 ob1 .byte [(.int (10 : Int32)), (.int (97 : Int32)), (.int (0 : Int32))]) :
    own_Met l Z (⟨"com/example/bulla/bulla/xml/TextPosition", "move", "([BIIZ)V"⟩ : MethodName) prog_169_method_8_code 8 none ({ frames := 1, cells := 0, slots := 0, locals := 22 } : Room) #[(.ref ob0), (.ref ob1), (.int (0 : Int32)), (.int (2 : Int32)), (.int (0 : Int32))] h0 n0 (fun v' h' => v' = none ∧ Keep h0 h' [ob0] ∧ Exa Z h' ob0 "com/example/bulla/bulla/xml/TextPosition" ∧ Fld Z h' ob0 "com/example/bulla/bulla/xml/TextPosition" "line" "J" (.long (2 : Int64)) ∧ Fld Z h' ob0 "com/example/bulla/bulla/xml/TextPosition" "column" "J" (.long (2 : Int64)) ∧ Fld Z h' ob0 "com/example/bulla/bulla/xml/TextPosition" "shortfall" "J" (.long (0 : Int64)) ∧ Fld Z h' ob0 "com/example/bulla/bulla/xml/TextPosition" "afterReturn" "Z" (.int (0 : Int32)) ∧ Fld Z h' ob0 "com/example/bulla/bulla/xml/TextPosition" "afterLineEnd" "Z" (.int (0 : Int32))) := by
  refine own_body (plainFor_of_name pn_5) (fun m => ef_ra4_11 m ob0 ob1) Z0 ?_
  intro p e s m below meth c T0 cx X0
  have KK := Keep.refl h0 [ob0]
  show own_Go p e below _ (T0.setTop (mkF m 0 #[.val (.ref ob0), .val (.ref ob1), .val (.int (0 : Int32)), .val (.int (2 : Int32)), .val (.int (0 : Int32)), .unset, .unset, .unset] []))
  refine o_iloadN cx X0 d4_0 rfl ?_
  refine o_iloadN cx X0 d4_1 rfl ?_
  refine o_icmpYes cx X0 6 d4_2 (by decide) (by decide) (by decide) ?_
  refine o_iconst cx X0 (z := (0 : Int32)) d4_6 rfl ?_
  refine o_istore cx X0 (Ls' := #[.val (.ref ob0), .val (.ref ob1), .val (.int (0 : Int32)), .val (.int (2 : Int32)), .val (.int (0 : Int32)), .val (.int (0 : Int32)), .unset, .unset]) d4_7 rfl ?_
  refine o_iconst cx X0 (z := (0 : Int32)) d4_9 rfl ?_
  refine o_istore cx X0 (Ls' := #[.val (.ref ob0), .val (.ref ob1), .val (.int (0 : Int32)), .val (.int (2 : Int32)), .val (.int (0 : Int32)), .val (.int (0 : Int32)), .val (.int (0 : Int32)), .unset]) d4_10 rfl ?_
  refine o_iloadN cx X0 d4_12 rfl ?_
  refine o_istore cx X0 (Ls' := #[.val (.ref ob0), .val (.ref ob1), .val (.int (0 : Int32)), .val (.int (2 : Int32)), .val (.int (0 : Int32)), .val (.int (0 : Int32)), .val (.int (0 : Int32)), .val (.int (0 : Int32))]) d4_13 rfl ?_
  refine o_iload cx X0 d4_15 rfl ?_
  refine o_iloadN cx X0 d4_17 rfl ?_
  refine o_icmpNo cx X0 d4_18 (by decide) ?_
  refine o_iload cx X0 d4_21 rfl ?_
  refine o_aloadN cx X0 d4_23 rfl rfl ?_
  refine o_iload cx X0 d4_24 rfl ?_
  refine o_ldB cx X0 (v := (.int (10 : Int32))) d4_26 G6 0 (by decide) rfl rfl ?_
  refine o_bipush cx X0 (z := (10 : Int32)) d4_27 rfl ?_
  refine o_icmpNo cx X0 d4_29 (by decide) ?_
  refine o_iconst cx X0 (z := (1 : Int32)) d4_32 rfl ?_
  refine o_goto cx X0 37 d4_33 (by decide) (by decide) ?_
  refine o_iadd cx X0 (z := (1 : Int32)) d4_37 rfl ?_
  refine o_istore cx X0 (Ls' := #[.val (.ref ob0), .val (.ref ob1), .val (.int (0 : Int32)), .val (.int (2 : Int32)), .val (.int (0 : Int32)), .val (.int (1 : Int32)), .val (.int (0 : Int32)), .val (.int (0 : Int32))]) d4_38 rfl ?_
  refine o_iload cx X0 d4_40 rfl ?_
  refine o_aloadN cx X0 d4_42 rfl rfl ?_
  refine o_iload cx X0 d4_43 rfl ?_
  refine o_ldB cx X0 (v := (.int (10 : Int32))) d4_45 G6 0 (by decide) rfl rfl ?_
  refine o_bipush cx X0 (z := (13 : Int32)) d4_46 rfl ?_
  refine o_icmpYes cx X0 55 d4_48 (by decide) (by decide) (by decide) ?_
  refine o_iconst cx X0 (z := (0 : Int32)) d4_55 rfl ?_
  refine o_iadd cx X0 (z := (0 : Int32)) d4_56 rfl ?_
  refine o_istore cx X0 (Ls' := #[.val (.ref ob0), .val (.ref ob1), .val (.int (0 : Int32)), .val (.int (2 : Int32)), .val (.int (0 : Int32)), .val (.int (1 : Int32)), .val (.int (0 : Int32)), .val (.int (0 : Int32))]) d4_57 rfl ?_
  refine o_iinc cx X0 (z := (1 : Int32)) (Ls' := #[.val (.ref ob0), .val (.ref ob1), .val (.int (0 : Int32)), .val (.int (2 : Int32)), .val (.int (0 : Int32)), .val (.int (1 : Int32)), .val (.int (0 : Int32)), .val (.int (1 : Int32))]) d4_59 rfl rfl rfl ?_
  refine o_goto cx X0 15 d4_62 (by decide) (by decide) ?_
  refine o_iload cx X0 d4_15 rfl ?_
  refine o_iloadN cx X0 d4_17 rfl ?_
  refine o_icmpNo cx X0 d4_18 (by decide) ?_
  refine o_iload cx X0 d4_21 rfl ?_
  refine o_aloadN cx X0 d4_23 rfl rfl ?_
  refine o_iload cx X0 d4_24 rfl ?_
  refine o_ldB cx X0 (v := (.int (97 : Int32))) d4_26 G6 1 (by decide) rfl rfl ?_
  refine o_bipush cx X0 (z := (10 : Int32)) d4_27 rfl ?_
  refine o_icmpYes cx X0 36 d4_29 (by decide) (by decide) (by decide) ?_
  refine o_iconst cx X0 (z := (0 : Int32)) d4_36 rfl ?_
  refine o_iadd cx X0 (z := (1 : Int32)) d4_37 rfl ?_
  refine o_istore cx X0 (Ls' := #[.val (.ref ob0), .val (.ref ob1), .val (.int (0 : Int32)), .val (.int (2 : Int32)), .val (.int (0 : Int32)), .val (.int (1 : Int32)), .val (.int (0 : Int32)), .val (.int (1 : Int32))]) d4_38 rfl ?_
  refine o_iload cx X0 d4_40 rfl ?_
  refine o_aloadN cx X0 d4_42 rfl rfl ?_
  refine o_iload cx X0 d4_43 rfl ?_
  refine o_ldB cx X0 (v := (.int (97 : Int32))) d4_45 G6 1 (by decide) rfl rfl ?_
  refine o_bipush cx X0 (z := (13 : Int32)) d4_46 rfl ?_
  refine o_icmpYes cx X0 55 d4_48 (by decide) (by decide) (by decide) ?_
  refine o_iconst cx X0 (z := (0 : Int32)) d4_55 rfl ?_
  refine o_iadd cx X0 (z := (0 : Int32)) d4_56 rfl ?_
  refine o_istore cx X0 (Ls' := #[.val (.ref ob0), .val (.ref ob1), .val (.int (0 : Int32)), .val (.int (2 : Int32)), .val (.int (0 : Int32)), .val (.int (1 : Int32)), .val (.int (0 : Int32)), .val (.int (1 : Int32))]) d4_57 rfl ?_
  refine o_iinc cx X0 (z := (2 : Int32)) (Ls' := #[.val (.ref ob0), .val (.ref ob1), .val (.int (0 : Int32)), .val (.int (2 : Int32)), .val (.int (0 : Int32)), .val (.int (1 : Int32)), .val (.int (0 : Int32)), .val (.int (2 : Int32))]) d4_59 rfl rfl rfl ?_
  refine o_goto cx X0 15 d4_62 (by decide) (by decide) ?_
  refine o_iload cx X0 d4_15 rfl ?_
  refine o_iloadN cx X0 d4_17 rfl ?_
  refine o_icmpYes cx X0 65 d4_18 (by decide) (by decide) (by decide) ?_
  refine o_aloadN cx X0 d4_65 rfl rfl ?_
  refine o_dup cx X0 d4_66 rfl ?_
  refine o_getF cx X0 d4_67 (o_w hw 11 rfl) G1 fun T279 X280 => ?_
  refine o_iload cx X280 d4_70 rfl ?_
  refine o_iload cx X280 d4_72 rfl ?_
  refine o_iadd cx X280 (z := (1 : Int32)) d4_74 rfl ?_
  refine o_aloadN cx X280 d4_75 rfl rfl ?_
  refine o_aloadN cx X280 d4_76 rfl rfl ?_
  refine o_iloadN cx X280 d4_77 rfl ?_
  refine o_iloadN cx X280 d4_78 rfl ?_
  refine o_iload cx X280 d4_79 rfl ?_
  refine o_callPp cx X280 (y' := (⟨"com/example/bulla/bulla/xml/TextPosition", "joinedLineFeeds", "([BIII)I"⟩ : MethodName)) (argsL := [(.ref ob1), (.int (0 : Int32)), (.int (2 : Int32)), (.int (0 : Int32))]) (st := [(.int (1 : Int32)), (.long (1 : Int64)), (.ref ob0)]) (a := ob0) d4_81 (o_w hw 33 rfl) (o_w hw 35 rfl) (o_w hw 18 rfl) rfl (o_w hw 34 rfl) (o_w hw 4 rfl) (o_w hw 36 rfl) (by decide) G0 (ra6_12 l Z a0 hw ob0 ob1 h0 n0 X280.ge0 ga0 ga1 ne_0_1 G0 G1 G2 G3 G4 G5 G6) (by decide) 4 rfl (by decide) rfl (lenOf pd_6 rfl) rfl rfl (by decide) (by decide) fun T281 X282 => ?_
  show own_Go p e below _ (T281.setTop (mkF m 84 #[.val (.ref ob0), .val (.ref ob1), .val (.int (0 : Int32)), .val (.int (2 : Int32)), .val (.int (0 : Int32)), .val (.int (1 : Int32)), .val (.int (0 : Int32)), .val (.int (2 : Int32))] [(.int (0 : Int32)), (.int (1 : Int32)), (.long (1 : Int64)), (.ref ob0)]))
  refine o_isub cx X282 (z := (1 : Int32)) d4_84 rfl ?_
  refine o_i2l cx X282 (z := (1 : Int64)) d4_85 rfl ?_
  refine o_ladd cx X282 (z := (2 : Int64)) d4_86 rfl ?_
  refine o_putF cx X282 (v' := (.long (2 : Int64))) (ty := .long) d4_87 (o_w hw 11 rfl) G1 G0 (Or.inl (o_w hw 12 rfl)) (o_w hw 3 rfl) (by decide) rfl rfl ga0 fun T286 h288 X287 W289 => ?_
  have G0 := G0.wr W289
  have G1 := G1.same W289
  have G2 := G2.other W289 (Or.inr (slot_ne (Or.inl (o_w hw 14 rfl)) (Or.inl (o_w hw 12 rfl)) (by decide) (t := .long) (t' := .long) (by decide) (by decide)))
  have G3 := G3.other W289 (Or.inr (slot_ne (Or.inl (o_w hw 30 rfl)) (Or.inl (o_w hw 12 rfl)) (by decide) (t := .long) (t' := .long) (by decide) (by decide)))
  have G4 := G4.other W289 (Or.inr (slot_ne (Or.inl (o_w hw 38 rfl)) (Or.inl (o_w hw 12 rfl)) (by decide) (t := .boolean) (t' := .long) (by decide) (by decide)))
  have G5 := G5.other W289 (Or.inr (slot_ne (Or.inl (o_w hw 47 rfl)) (Or.inl (o_w hw 12 rfl)) (by decide) (t := .boolean) (t' := .long) (by decide) (by decide)))
  have G6 := G6.other W289 (Ne.symm ne_0_1)
  have KK := KK.wr W289 (Or.inl (List.mem_of_getElem? (i := 0) rfl))
  refine o_iloadN cx X287 d4_90 rfl ?_
  refine o_iconst cx X287 (z := (1 : Int32)) d4_91 rfl ?_
  refine o_isub cx X287 (z := (1 : Int32)) d4_92 rfl ?_
  refine o_istore cx X287 (Ls' := #[.val (.ref ob0), .val (.ref ob1), .val (.int (0 : Int32)), .val (.int (2 : Int32)), .val (.int (0 : Int32)), .val (.int (1 : Int32)), .val (.int (0 : Int32)), .val (.int (1 : Int32))]) d4_93 rfl ?_
  refine o_iload cx X287 d4_95 rfl ?_
  refine o_iloadN cx X287 d4_97 rfl ?_
  refine o_icmpNo cx X287 d4_98 (by decide) ?_
  refine o_aloadN cx X287 d4_101 rfl rfl ?_
  refine o_iload cx X287 d4_102 rfl ?_
  refine o_ldB cx X287 (v := (.int (97 : Int32))) d4_104 G6 1 (by decide) rfl rfl ?_
  refine o_callSp cx X287 (y' := (⟨"com/example/bulla/bulla/xml/TextPosition", "isLineEnd", "(B)Z"⟩ : MethodName)) (argsL := [(.int (97 : Int32))]) (st := []) d4_105 (o_w hw 39 rfl) (o_w hw 40 rfl) (o_w hw 4 rfl) (o_w hw 41 rfl) (by decide) (ra7_8 l Z a0 hw  h288 n0 X287.ge0 ) (by decide) 0 rfl (by decide) rfl (lenOf pd_7 rfl) rfl rfl (by decide) (by decide) fun T290 X291 => ?_
  show own_Go p e below _ (T290.setTop (mkF m 108 #[.val (.ref ob0), .val (.ref ob1), .val (.int (0 : Int32)), .val (.int (2 : Int32)), .val (.int (0 : Int32)), .val (.int (1 : Int32)), .val (.int (0 : Int32)), .val (.int (1 : Int32))] [(.int (0 : Int32))]))
  refine o_ifNo cx X291 d4_108 (by decide) ?_
  refine o_iinc cx X291 (z := (0 : Int32)) (Ls' := #[.val (.ref ob0), .val (.ref ob1), .val (.int (0 : Int32)), .val (.int (2 : Int32)), .val (.int (0 : Int32)), .val (.int (1 : Int32)), .val (.int (0 : Int32)), .val (.int (0 : Int32))]) d4_111 rfl rfl rfl ?_
  refine o_goto cx X291 95 d4_114 (by decide) (by decide) ?_
  refine o_iload cx X291 d4_95 rfl ?_
  refine o_iloadN cx X291 d4_97 rfl ?_
  refine o_icmpNo cx X291 d4_98 (by decide) ?_
  refine o_aloadN cx X291 d4_101 rfl rfl ?_
  refine o_iload cx X291 d4_102 rfl ?_
  refine o_ldB cx X291 (v := (.int (10 : Int32))) d4_104 G6 0 (by decide) rfl rfl ?_
  refine o_callSp cx X291 (y' := (⟨"com/example/bulla/bulla/xml/TextPosition", "isLineEnd", "(B)Z"⟩ : MethodName)) (argsL := [(.int (10 : Int32))]) (st := []) d4_105 (o_w hw 39 rfl) (o_w hw 40 rfl) (o_w hw 4 rfl) (o_w hw 41 rfl) (by decide) (ra7_13 l Z a0 hw  h288 n0 X291.ge0 ) (by decide) 0 rfl (by decide) rfl (lenOf pd_7 rfl) rfl rfl (by decide) (by decide) fun T295 X296 => ?_
  show own_Go p e below _ (T295.setTop (mkF m 108 #[.val (.ref ob0), .val (.ref ob1), .val (.int (0 : Int32)), .val (.int (2 : Int32)), .val (.int (0 : Int32)), .val (.int (1 : Int32)), .val (.int (0 : Int32)), .val (.int (0 : Int32))] [(.int (1 : Int32))]))
  refine o_ifYes cx X296 117 d4_108 (by decide) (by decide) (by decide) ?_
  refine o_iload cx X296 d4_117 rfl ?_
  refine o_iloadN cx X296 d4_119 rfl ?_
  refine o_icmpYes cx X296 141 d4_120 (by decide) (by decide) (by decide) ?_
  refine o_aloadN cx X296 d4_141 rfl rfl ?_
  refine o_iload cx X296 d4_142 rfl ?_
  refine o_ifYes cx X296 151 d4_144 (by decide) (by decide) (by decide) ?_
  refine o_aloadN cx X296 d4_151 rfl rfl ?_
  refine o_aloadN cx X296 d4_152 rfl rfl ?_
  refine o_iloadN cx X296 d4_153 rfl ?_
  refine o_iload cx X296 d4_154 rfl ?_
  refine o_callPp cx X296 (y' := (⟨"com/example/bulla/bulla/xml/TextPosition", "returnsAlone", "([BII)J"⟩ : MethodName)) (argsL := [(.ref ob1), (.int (0 : Int32)), (.int (0 : Int32))]) (st := [(.ref ob0)]) (a := ob0) d4_156 (o_w hw 42 rfl) (o_w hw 44 rfl) (o_w hw 18 rfl) rfl (o_w hw 43 rfl) (o_w hw 4 rfl) (o_w hw 45 rfl) (by decide) G0 (ra8_14 l Z a0 hw ob0 ob1 h288 n0 X296.ge0 ga0 ga1 ne_0_1 G0 G1 G2 G3 G4 G5 G6) (by decide) 1 rfl (by decide) rfl (lenOf pd_8 rfl) rfl rfl (by decide) (by decide) fun T300 X301 => ?_
  show own_Go p e below _ (T300.setTop (mkF m 159 #[.val (.ref ob0), .val (.ref ob1), .val (.int (0 : Int32)), .val (.int (2 : Int32)), .val (.int (0 : Int32)), .val (.int (1 : Int32)), .val (.int (0 : Int32)), .val (.int (0 : Int32))] [(.long (0 : Int64)), (.ref ob0)]))
  refine o_putF cx X301 (v' := (.long (0 : Int64))) (ty := .long) d4_159 (o_w hw 29 rfl) G3 G0 (Or.inl (o_w hw 30 rfl)) (o_w hw 3 rfl) (by decide) rfl rfl ga0 fun T305 h307 X306 W308 => ?_
  have G0 := G0.wr W308
  have G1 := G1.other W308 (Or.inr (slot_ne (Or.inl (o_w hw 12 rfl)) (Or.inl (o_w hw 30 rfl)) (by decide) (t := .long) (t' := .long) (by decide) (by decide)))
  have G2 := G2.other W308 (Or.inr (slot_ne (Or.inl (o_w hw 14 rfl)) (Or.inl (o_w hw 30 rfl)) (by decide) (t := .long) (t' := .long) (by decide) (by decide)))
  have G3 := G3.same W308
  have G4 := G4.other W308 (Or.inr (slot_ne (Or.inl (o_w hw 38 rfl)) (Or.inl (o_w hw 30 rfl)) (by decide) (t := .boolean) (t' := .long) (by decide) (by decide)))
  have G5 := G5.other W308 (Or.inr (slot_ne (Or.inl (o_w hw 47 rfl)) (Or.inl (o_w hw 30 rfl)) (by decide) (t := .boolean) (t' := .long) (by decide) (by decide)))
  have G6 := G6.other W308 (Ne.symm ne_0_1)
  have KK := KK.wr W308 (Or.inl (List.mem_of_getElem? (i := 0) rfl))
  refine o_aloadN cx X306 d4_162 rfl rfl ?_
  refine o_lconst cx X306 (z := (1 : Int64)) d4_163 rfl ?_
  refine o_aloadN cx X306 d4_164 rfl rfl ?_
  refine o_iload cx X306 d4_165 rfl ?_
  refine o_iconst cx X306 (z := (1 : Int32)) d4_167 rfl ?_
  refine o_iadd cx X306 (z := (1 : Int32)) d4_168 rfl ?_
  refine o_iloadN cx X306 d4_169 rfl ?_
  refine o_callSp cx X306 (y' := (⟨"com/example/bulla/bulla/xml/TextPosition", "columns", "([BII)J"⟩ : MethodName)) (argsL := [(.ref ob1), (.int (1 : Int32)), (.int (2 : Int32))]) (st := [(.long (1 : Int64)), (.ref ob0)]) d4_170 (o_w hw 48 rfl) (o_w hw 49 rfl) (o_w hw 4 rfl) (o_w hw 50 rfl) (by decide) (ra9_15 l Z a0 hw ob1 h307 n0 X306.ge0 ga1 G6) (by decide) 3 rfl (by decide) rfl (lenOf pd_9 rfl) rfl rfl (by decide) (by decide) fun T309 X310 => ?_
  show own_Go p e below _ (T309.setTop (mkF m 173 #[.val (.ref ob0), .val (.ref ob1), .val (.int (0 : Int32)), .val (.int (2 : Int32)), .val (.int (0 : Int32)), .val (.int (1 : Int32)), .val (.int (0 : Int32)), .val (.int (0 : Int32))] [(.long (1 : Int64)), (.long (1 : Int64)), (.ref ob0)]))
  refine o_ladd cx X310 (z := (2 : Int64)) d4_173 rfl ?_
  refine o_putF cx X310 (v' := (.long (2 : Int64))) (ty := .long) d4_174 (o_w hw 13 rfl) G2 G0 (Or.inl (o_w hw 14 rfl)) (o_w hw 3 rfl) (by decide) rfl rfl ga0 fun T314 h316 X315 W317 => ?_
  have G0 := G0.wr W317
  have G1 := G1.other W317 (Or.inr (slot_ne (Or.inl (o_w hw 12 rfl)) (Or.inl (o_w hw 14 rfl)) (by decide) (t := .long) (t' := .long) (by decide) (by decide)))
  have G2 := G2.same W317
  have G3 := G3.other W317 (Or.inr (slot_ne (Or.inl (o_w hw 30 rfl)) (Or.inl (o_w hw 14 rfl)) (by decide) (t := .long) (t' := .long) (by decide) (by decide)))
  have G4 := G4.other W317 (Or.inr (slot_ne (Or.inl (o_w hw 38 rfl)) (Or.inl (o_w hw 14 rfl)) (by decide) (t := .boolean) (t' := .long) (by decide) (by decide)))
  have G5 := G5.other W317 (Or.inr (slot_ne (Or.inl (o_w hw 47 rfl)) (Or.inl (o_w hw 14 rfl)) (by decide) (t := .boolean) (t' := .long) (by decide) (by decide)))
  have G6 := G6.other W317 (Ne.symm ne_0_1)
  have KK := KK.wr W317 (Or.inl (List.mem_of_getElem? (i := 0) rfl))
  refine o_aloadN cx X315 d4_177 rfl rfl ?_
  refine o_aloadN cx X315 d4_178 rfl rfl ?_
  refine o_iloadN cx X315 d4_179 rfl ?_
  refine o_iconst cx X315 (z := (1 : Int32)) d4_180 rfl ?_
  refine o_isub cx X315 (z := (1 : Int32)) d4_181 rfl ?_
  refine o_ldB cx X315 (v := (.int (97 : Int32))) d4_182 G6 1 (by decide) rfl rfl ?_
  refine o_callSp cx X315 (y' := (⟨"com/example/bulla/bulla/xml/TextPosition", "isLineEnd", "(B)Z"⟩ : MethodName)) (argsL := [(.int (97 : Int32))]) (st := [(.ref ob0)]) d4_183 (o_w hw 39 rfl) (o_w hw 40 rfl) (o_w hw 4 rfl) (o_w hw 41 rfl) (by decide) (ra7_8 l Z a0 hw  h316 n0 X315.ge0 ) (by decide) 1 rfl (by decide) rfl (lenOf pd_7 rfl) rfl rfl (by decide) (by decide) fun T318 X319 => ?_
  show own_Go p e below _ (T318.setTop (mkF m 186 #[.val (.ref ob0), .val (.ref ob1), .val (.int (0 : Int32)), .val (.int (2 : Int32)), .val (.int (0 : Int32)), .val (.int (1 : Int32)), .val (.int (0 : Int32)), .val (.int (0 : Int32))] [(.int (0 : Int32)), (.ref ob0)]))
  refine o_putF cx X319 (v' := (.int (0 : Int32))) (ty := .boolean) d4_186 (o_w hw 46 rfl) G5 G0 (Or.inl (o_w hw 47 rfl)) (o_w hw 3 rfl) (by decide) rfl (fits_nar_bool (0 : Int32)) ga0 fun T323 h325 X324 W326 => ?_
  have G0 := G0.wr W326
  have G1 := G1.other W326 (Or.inr (slot_ne (Or.inl (o_w hw 12 rfl)) (Or.inl (o_w hw 47 rfl)) (by decide) (t := .long) (t' := .boolean) (by decide) (by decide)))
  have G2 := G2.other W326 (Or.inr (slot_ne (Or.inl (o_w hw 14 rfl)) (Or.inl (o_w hw 47 rfl)) (by decide) (t := .long) (t' := .boolean) (by decide) (by decide)))
  have G3 := G3.other W326 (Or.inr (slot_ne (Or.inl (o_w hw 30 rfl)) (Or.inl (o_w hw 47 rfl)) (by decide) (t := .long) (t' := .boolean) (by decide) (by decide)))
  have G4 := G4.other W326 (Or.inr (slot_ne (Or.inl (o_w hw 38 rfl)) (Or.inl (o_w hw 47 rfl)) (by decide) (t := .boolean) (t' := .boolean) (by decide) (by decide)))
  have G5 := G5.same W326
  have G6 := G6.other W326 (Ne.symm ne_0_1)
  have KK := KK.wr W326 (Or.inl (List.mem_of_getElem? (i := 0) rfl))
  refine o_aloadN cx X324 d4_189 rfl rfl ?_
  refine o_aloadN cx X324 d4_190 rfl rfl ?_
  refine o_iloadN cx X324 d4_191 rfl ?_
  refine o_iconst cx X324 (z := (1 : Int32)) d4_192 rfl ?_
  refine o_isub cx X324 (z := (1 : Int32)) d4_193 rfl ?_
  refine o_ldB cx X324 (v := (.int (97 : Int32))) d4_194 G6 1 (by decide) rfl rfl ?_
  refine o_bipush cx X324 (z := (13 : Int32)) d4_195 rfl ?_
  refine o_icmpYes cx X324 204 d4_197 (by decide) (by decide) (by decide) ?_
  refine o_iconst cx X324 (z := (0 : Int32)) d4_204 rfl ?_
  refine o_putF cx X324 (v' := (.int (0 : Int32))) (ty := .boolean) d4_205 (o_w hw 37 rfl) G4 G0 (Or.inl (o_w hw 38 rfl)) (o_w hw 3 rfl) (by decide) rfl (fits_nar_bool (0 : Int32)) ga0 fun T327 h329 X328 W330 => ?_
  have G0 := G0.wr W330
  have G1 := G1.other W330 (Or.inr (slot_ne (Or.inl (o_w hw 12 rfl)) (Or.inl (o_w hw 38 rfl)) (by decide) (t := .long) (t' := .boolean) (by decide) (by decide)))
  have G2 := G2.other W330 (Or.inr (slot_ne (Or.inl (o_w hw 14 rfl)) (Or.inl (o_w hw 38 rfl)) (by decide) (t := .long) (t' := .boolean) (by decide) (by decide)))
  have G3 := G3.other W330 (Or.inr (slot_ne (Or.inl (o_w hw 30 rfl)) (Or.inl (o_w hw 38 rfl)) (by decide) (t := .long) (t' := .boolean) (by decide) (by decide)))
  have G4 := G4.same W330
  have G5 := G5.other W330 (Or.inr (slot_ne (Or.inl (o_w hw 47 rfl)) (Or.inl (o_w hw 38 rfl)) (by decide) (t := .boolean) (t' := .boolean) (by decide) (by decide)))
  have G6 := G6.other W330 (Ne.symm ne_0_1)
  have KK := KK.wr W330 (Or.inl (List.mem_of_getElem? (i := 0) rfl))
  exact o_retV cx X328 d4_208 ⟨rfl, KK, G0, G1, G2, G3, G4, G5⟩ (by decide) (by decide)
theorem ef_ra3_10 (m : MethodId) (ob0 : Addr) (ob1 : Addr) : entryFrame m #[(.ref ob0), (.ref ob1), (.int (0 : Int32)), (.int (2 : Int32))] 4 = mkF m 0 #[.val (.ref ob0), .val (.ref ob1), .val (.int (0 : Int32)), .val (.int (2 : Int32))] [] := by first | (simp [entryFrame, mkF, argsToLocals, Value.category]; done) | rfl
set_option maxRecDepth 65536 in
set_option maxHeartbeats 40000000 in
theorem ra3_10 (l : Launch) (Z : State) (a0 : Array Value) (hw : ∀ d ∈ tables_1, d.before a0 Z = true) (ob0 : Addr) (ob1 : Addr) (h0 : Heap) (n0 : Nat) (Z0 : n0 ≤ h0.size) (ga0 : n0 ≤ ob0) (ga1 : n0 ≤ ob1) (ne_0_1 : ob0 ≠ ob1) (G0 : Exa Z h0 ob0 "com/example/bulla/bulla/xml/TextPosition") (G1 : Fld Z h0 ob0 "com/example/bulla/bulla/xml/TextPosition" "line" "J" (.long (1 : Int64))) (G2 : Fld Z h0 ob0 "com/example/bulla/bulla/xml/TextPosition" "column" "J" (.long (1 : Int64))) (G3 : Fld Z h0 ob0 "com/example/bulla/bulla/xml/TextPosition" "shortfall" "J" (.long (0 : Int64))) (G4 : Fld Z h0 ob0 "com/example/bulla/bulla/xml/TextPosition" "afterReturn" "Z" (.int (0 : Int32))) (G5 : Fld Z h0 ob0 "com/example/bulla/bulla/xml/TextPosition" "afterLineEnd" "Z" (.int (0 : Int32))) (G6 : own_Ar Z h0 ob1 .byte [(.int (10 : Int32)), (.int (97 : Int32)), (.int (0 : Int32))]) :
    own_Met l Z (⟨"com/example/bulla/bulla/xml/TextPosition", "moveOver", "([BII)V"⟩ : MethodName) prog_169_method_6_code 4 none ({ frames := 2, cells := 0, slots := 0, locals := 41 } : Room) #[(.ref ob0), (.ref ob1), (.int (0 : Int32)), (.int (2 : Int32))] h0 n0 (fun v' h' => v' = none ∧ Keep h0 h' [ob0] ∧ Exa Z h' ob0 "com/example/bulla/bulla/xml/TextPosition" ∧ Fld Z h' ob0 "com/example/bulla/bulla/xml/TextPosition" "line" "J" (.long (2 : Int64)) ∧ Fld Z h' ob0 "com/example/bulla/bulla/xml/TextPosition" "column" "J" (.long (2 : Int64)) ∧ Fld Z h' ob0 "com/example/bulla/bulla/xml/TextPosition" "shortfall" "J" (.long (0 : Int64)) ∧ Fld Z h' ob0 "com/example/bulla/bulla/xml/TextPosition" "afterReturn" "Z" (.int (0 : Int32)) ∧ Fld Z h' ob0 "com/example/bulla/bulla/xml/TextPosition" "afterLineEnd" "Z" (.int (0 : Int32))) := by
  refine own_body (plainFor_of_name pn_5) (fun m => ef_ra3_10 m ob0 ob1) Z0 ?_
  intro p e s m below meth c T0 cx X0
  have KK := Keep.refl h0 [ob0]
  show own_Go p e below _ (T0.setTop (mkF m 0 #[.val (.ref ob0), .val (.ref ob1), .val (.int (0 : Int32)), .val (.int (2 : Int32))] []))
  refine o_aloadN cx X0 d3_0 rfl rfl ?_
  refine o_aloadN cx X0 d3_1 rfl rfl ?_
  refine o_iloadN cx X0 d3_2 rfl ?_
  refine o_iloadN cx X0 d3_3 rfl ?_
  refine o_iconst cx X0 (z := (0 : Int32)) d3_4 rfl ?_
  refine o_callP cx X0 (y' := (⟨"com/example/bulla/bulla/xml/TextPosition", "move", "([BIIZ)V"⟩ : MethodName)) (argsL := [(.ref ob1), (.int (0 : Int32)), (.int (2 : Int32)), (.int (0 : Int32))]) (st := []) (a := ob0) d3_5 (o_w hw 20 rfl) (o_w hw 22 rfl) (o_w hw 18 rfl) rfl (o_w hw 21 rfl) (o_w hw 4 rfl) (o_w hw 23 rfl) (by decide) G0 (ra4_11 l Z a0 hw ob0 ob1 h0 n0 X0.ge0 ga0 ga1 ne_0_1 G0 G1 G2 G3 G4 G5 G6) (by decide) 0 rfl (by decide) rfl (lenOf pd_4 rfl) rfl rfl (by decide) (by decide) fun v242 T239 h241 X240 Q243 => ?_
  obtain ⟨rfl, K244, E245, F246, F247, F248, F249, F250⟩ := Q243
  have G6 := G6.keep K244 (ninS (Ne.symm ne_0_1) nin0)
  have KK := KK.trans K244 (allS (Or.inl (List.mem_of_getElem? (i := 0) rfl)) all0)
  show own_Go p e below _ (T239.setTop (mkF m 8 #[.val (.ref ob0), .val (.ref ob1), .val (.int (0 : Int32)), .val (.int (2 : Int32))] []))
  exact o_retV cx X240 d3_8 ⟨rfl, KK, E245, F246, F247, F248, F249, F250⟩ (by decide) (by decide)
theorem d4_51 : decode prog_169_method_8_code 51 = .ok (.iconst 1, 1) := by decide +kernel
theorem d4_52 : decode prog_169_method_8_code 52 = .ok (.goto 4, 3) := by decide +kernel
theorem d6_32 : decode prog_169_method_10_code 32 = .ok (.iload 6, 2) := by decide +kernel
theorem d6_34 : decode prog_169_method_10_code 34 = .ok (.iload_n 3, 1) := by decide +kernel
theorem d6_35 : decode prog_169_method_10_code 35 = .ok (.if_icmp .ge 39, 3) := by decide +kernel
theorem d6_38 : decode prog_169_method_10_code 38 = .ok (.iload 5, 2) := by decide +kernel
theorem d6_40 : decode prog_169_method_10_code 40 = .ok (.aload_n 1, 1) := by decide +kernel
theorem d6_41 : decode prog_169_method_10_code 41 = .ok (.iload 6, 2) := by decide +kernel
theorem d6_43 : decode prog_169_method_10_code 43 = .ok (.baload, 1) := by decide +kernel
theorem d6_44 : decode prog_169_method_10_code 44 = .ok (.bipush 10, 2) := by decide +kernel
theorem d6_46 : decode prog_169_method_10_code 46 = .ok (.if_icmp .ne 18, 3) := by decide +kernel
theorem d6_64 : decode prog_169_method_10_code 64 = .ok (.iconst 0, 1) := by decide +kernel
theorem d6_65 : decode prog_169_method_10_code 65 = .ok (.iadd, 1) := by decide +kernel
theorem d6_66 : decode prog_169_method_10_code 66 = .ok (.istore 5, 2) := by decide +kernel
theorem d6_68 : decode prog_169_method_10_code 68 = .ok (.iinc 6 1, 3) := by decide +kernel
theorem d6_71 : decode prog_169_method_10_code 71 = .ok (.goto (-44), 3) := by decide +kernel
theorem ef_ra6_18 (m : MethodId) (ob0 : Addr) (ob1 : Addr) : entryFrame m #[(.ref ob0), (.ref ob1), (.int (0 : Int32)), (.int (3 : Int32)), (.int (1 : Int32))] 7 = mkF m 0 #[.val (.ref ob0), .val (.ref ob1), .val (.int (0 : Int32)), .val (.int (3 : Int32)), .val (.int (1 : Int32)), .unset, .unset] [] := by first | (simp [entryFrame, mkF, argsToLocals, Value.category]; done) | rfl
set_option maxRecDepth 65536 in
set_option maxHeartbeats 40000000 in
theorem ra6_18 (l : Launch) (Z : State) (a0 : Array Value) (hw : ∀ d ∈ tables_1, d.before a0 Z = true) (ob0 : Addr) (ob1 : Addr) (h0 : Heap) (n0 : Nat) (Z0 : n0 ≤ h0.size) (ga0 : n0 ≤ ob0) (ga1 : n0 ≤ ob1) (ne_0_1 : ob0 ≠ ob1) (G0 : Exa Z h0 ob0 "com/example/bulla/bulla/xml/TextPosition") (G1 : Fld Z h0 ob0 "com/example/bulla/bulla/xml/TextPosition" "line" "J" (.long (1 : Int64))) (G2 : Fld Z h0 ob0 "com/example/bulla/bulla/xml/TextPosition" "column" "J" (.long (1 : Int64))) (G3 : Fld Z h0 ob0 "com/example/bulla/bulla/xml/TextPosition" "shortfall" "J" (.long (0 : Int64))) (G4 : Fld Z h0 ob0 "com/example/bulla/bulla/xml/TextPosition" "afterReturn" "Z" (.int (0 : Int32))) (G5 : Fld Z h0 ob0 "com/example/bulla/bulla/xml/TextPosition" "afterLineEnd" "Z" (.int (0 : Int32))) (G6 : own_Ar Z h0 ob1 .byte [(.int (13 : Int32)), (.int (97 : Int32)), (.int (98 : Int32))]) :
    own_Met l Z (⟨"com/example/bulla/bulla/xml/TextPosition", "joinedLineFeeds", "([BIII)I"⟩ : MethodName) prog_169_method_10_code 7 (some .int) ({ frames := 0, cells := 0, slots := 0, locals := 0 } : Room) #[(.ref ob0), (.ref ob1), (.int (0 : Int32)), (.int (3 : Int32)), (.int (1 : Int32))] h0 n0 (fun v' h' => v' = some (.int (0 : Int32)) ∧ h' = h0) := by
  refine own_body (plainFor_of_name pn_5) (fun m => ef_ra6_18 m ob0 ob1) Z0 ?_
  intro p e s m below meth c T0 cx X0
  have KK := Keep.refl h0 []
  show own_Go p e below _ (T0.setTop (mkF m 0 #[.val (.ref ob0), .val (.ref ob1), .val (.int (0 : Int32)), .val (.int (3 : Int32)), .val (.int (1 : Int32)), .unset, .unset] []))
  refine o_aloadN cx X0 d6_0 rfl rfl ?_
  refine o_getF cx X0 d6_1 (o_w hw 37 rfl) G4 fun T328 X329 => ?_
  refine o_ifYes cx X329 19 d6_4 (by decide) (by decide) (by decide) ?_
  refine o_iconst cx X329 (z := (0 : Int32)) d6_19 rfl ?_
  refine o_istore cx X329 (Ls' := #[.val (.ref ob0), .val (.ref ob1), .val (.int (0 : Int32)), .val (.int (3 : Int32)), .val (.int (1 : Int32)), .val (.int (0 : Int32)), .unset]) d6_20 rfl ?_
  refine o_iloadN cx X329 d6_22 rfl ?_
  refine o_iconst cx X329 (z := (1 : Int32)) d6_23 rfl ?_
  refine o_iadd cx X329 (z := (1 : Int32)) d6_24 rfl ?_
  refine o_istore cx X329 (Ls' := #[.val (.ref ob0), .val (.ref ob1), .val (.int (0 : Int32)), .val (.int (3 : Int32)), .val (.int (1 : Int32)), .val (.int (0 : Int32)), .val (.int (1 : Int32))]) d6_25 rfl ?_
  refine o_iload cx X329 d6_27 rfl ?_
  refine o_ifNo cx X329 d6_29 (by decide) ?_
  refine o_iload cx X329 d6_32 rfl ?_
  refine o_iloadN cx X329 d6_34 rfl ?_
  refine o_icmpNo cx X329 d6_35 (by decide) ?_
  refine o_iload cx X329 d6_38 rfl ?_
  refine o_aloadN cx X329 d6_40 rfl rfl ?_
  refine o_iload cx X329 d6_41 rfl ?_
  refine o_ldB cx X329 (v := (.int (97 : Int32))) d6_43 G6 1 (by decide) rfl rfl ?_
  refine o_bipush cx X329 (z := (10 : Int32)) d6_44 rfl ?_
  refine o_icmpYes cx X329 64 d6_46 (by decide) (by decide) (by decide) ?_
  refine o_iconst cx X329 (z := (0 : Int32)) d6_64 rfl ?_
  refine o_iadd cx X329 (z := (0 : Int32)) d6_65 rfl ?_
  refine o_istore cx X329 (Ls' := #[.val (.ref ob0), .val (.ref ob1), .val (.int (0 : Int32)), .val (.int (3 : Int32)), .val (.int (1 : Int32)), .val (.int (0 : Int32)), .val (.int (1 : Int32))]) d6_66 rfl ?_
  refine o_iinc cx X329 (z := (2 : Int32)) (Ls' := #[.val (.ref ob0), .val (.ref ob1), .val (.int (0 : Int32)), .val (.int (3 : Int32)), .val (.int (1 : Int32)), .val (.int (0 : Int32)), .val (.int (2 : Int32))]) d6_68 rfl rfl rfl ?_
  refine o_goto cx X329 27 d6_71 (by decide) (by decide) ?_
  refine o_iload cx X329 d6_27 rfl ?_
  refine o_ifNo cx X329 d6_29 (by decide) ?_
  refine o_iload cx X329 d6_32 rfl ?_
  refine o_iloadN cx X329 d6_34 rfl ?_
  refine o_icmpNo cx X329 d6_35 (by decide) ?_
  refine o_iload cx X329 d6_38 rfl ?_
  refine o_aloadN cx X329 d6_40 rfl rfl ?_
  refine o_iload cx X329 d6_41 rfl ?_
  refine o_ldB cx X329 (v := (.int (98 : Int32))) d6_43 G6 2 (by decide) rfl rfl ?_
  refine o_bipush cx X329 (z := (10 : Int32)) d6_44 rfl ?_
  refine o_icmpYes cx X329 64 d6_46 (by decide) (by decide) (by decide) ?_
  refine o_iconst cx X329 (z := (0 : Int32)) d6_64 rfl ?_
  refine o_iadd cx X329 (z := (0 : Int32)) d6_65 rfl ?_
  refine o_istore cx X329 (Ls' := #[.val (.ref ob0), .val (.ref ob1), .val (.int (0 : Int32)), .val (.int (3 : Int32)), .val (.int (1 : Int32)), .val (.int (0 : Int32)), .val (.int (2 : Int32))]) d6_66 rfl ?_
  refine o_iinc cx X329 (z := (3 : Int32)) (Ls' := #[.val (.ref ob0), .val (.ref ob1), .val (.int (0 : Int32)), .val (.int (3 : Int32)), .val (.int (1 : Int32)), .val (.int (0 : Int32)), .val (.int (3 : Int32))]) d6_68 rfl rfl rfl ?_
  refine o_goto cx X329 27 d6_71 (by decide) (by decide) ?_
  refine o_iload cx X329 d6_27 rfl ?_
  refine o_ifNo cx X329 d6_29 (by decide) ?_
  refine o_iload cx X329 d6_32 rfl ?_
  refine o_iloadN cx X329 d6_34 rfl ?_
  refine o_icmpYes cx X329 74 d6_35 (by decide) (by decide) (by decide) ?_
  refine o_iload cx X329 d6_74 rfl ?_
  exact o_retI cx X329 d6_76 ⟨rfl, rfl⟩ (by decide) (by decide)
theorem ef_ra7_19 (m : MethodId)  : entryFrame m #[(.int (13 : Int32))] 1 = mkF m 0 #[.val (.int (13 : Int32))] [] := by first | (simp [entryFrame, mkF, argsToLocals, Value.category]; done) | rfl
set_option maxRecDepth 65536 in
set_option maxHeartbeats 40000000 in
theorem ra7_19 (l : Launch) (Z : State) (a0 : Array Value) (hw : ∀ d ∈ tables_1, d.before a0 Z = true)  (h0 : Heap) (n0 : Nat) (Z0 : n0 ≤ h0.size) :
    own_Met l Z (⟨"com/example/bulla/bulla/xml/TextPosition", "isLineEnd", "(B)Z"⟩ : MethodName) prog_169_method_12_code 1 (some .boolean) ({ frames := 0, cells := 0, slots := 0, locals := 0 } : Room) #[(.int (13 : Int32))] h0 n0 (fun v' h' => v' = some (.int (1 : Int32)) ∧ h' = h0) := by
  refine own_body (plainFor_of_name pn_5) (fun m => ef_ra7_19 m ) Z0 ?_
  intro p e s m below meth c T0 cx X0
  have KK := Keep.refl h0 []
  show own_Go p e below _ (T0.setTop (mkF m 0 #[.val (.int (13 : Int32))] []))
  refine o_iloadN cx X0 d7_0 rfl ?_
  refine o_bipush cx X0 (z := (10 : Int32)) d7_1 rfl ?_
  refine o_icmpNo cx X0 d7_3 (by decide) ?_
  refine o_iloadN cx X0 d7_6 rfl ?_
  refine o_bipush cx X0 (z := (13 : Int32)) d7_7 rfl ?_
  refine o_icmpNo cx X0 d7_9 (by decide) ?_
  refine o_iconst cx X0 (z := (1 : Int32)) d7_12 rfl ?_
  refine o_goto cx X0 17 d7_13 (by decide) (by decide) ?_
  exact o_retN cx X0 (z' := (1 : Int32)) d7_17 (by simp) rfl ⟨rfl, rfl⟩ (by decide) (by decide)
theorem d8_51 : decode prog_169_method_11_code 51 = .ok (.iload 7, 2) := by decide +kernel
theorem d8_53 : decode prog_169_method_11_code 53 = .ok (.iload_n 3, 1) := by decide +kernel
theorem d8_54 : decode prog_169_method_11_code 54 = .ok (.if_icmp .eq 14, 3) := by decide +kernel
theorem d8_68 : decode prog_169_method_11_code 68 = .ok (.lconst 1, 1) := by decide +kernel
theorem d8_69 : decode prog_169_method_11_code 69 = .ok (.goto 4, 3) := by decide +kernel
theorem ef_ra8_20 (m : MethodId) (ob0 : Addr) (ob1 : Addr) : entryFrame m #[(.ref ob0), (.ref ob1), (.int (0 : Int32)), (.int (0 : Int32))] 8 = mkF m 0 #[.val (.ref ob0), .val (.ref ob1), .val (.int (0 : Int32)), .val (.int (0 : Int32)), .unset, .unset, .unset, .unset] [] := by first | (simp [entryFrame, mkF, argsToLocals, Value.category]; done) | rfl
set_option maxRecDepth 65536 in
set_option maxHeartbeats 40000000 in
theorem ra8_20 (l : Launch) (Z : State) (a0 : Array Value) (hw : ∀ d ∈ tables_1, d.before a0 Z = true) (ob0 : Addr) (ob1 : Addr) (h0 : Heap) (n0 : Nat) (Z0 : n0 ≤ h0.size) (ga0 : n0 ≤ ob0) (ga1 : n0 ≤ ob1) (ne_0_1 : ob0 ≠ ob1) (G0 : Exa Z h0 ob0 "com/example/bulla/bulla/xml/TextPosition") (G1 : Fld Z h0 ob0 "com/example/bulla/bulla/xml/TextPosition" "line" "J" (.long (2 : Int64))) (G2 : Fld Z h0 ob0 "com/example/bulla/bulla/xml/TextPosition" "column" "J" (.long (1 : Int64))) (G3 : Fld Z h0 ob0 "com/example/bulla/bulla/xml/TextPosition" "shortfall" "J" (.long (0 : Int64))) (G4 : Fld Z h0 ob0 "com/example/bulla/bulla/xml/TextPosition" "afterReturn" "Z" (.int (0 : Int32))) (G5 : Fld Z h0 ob0 "com/example/bulla/bulla/xml/TextPosition" "afterLineEnd" "Z" (.int (0 : Int32))) (G6 : own_Ar Z h0 ob1 .byte [(.int (13 : Int32)), (.int (97 : Int32)), (.int (98 : Int32))]) :
    own_Met l Z (⟨"com/example/bulla/bulla/xml/TextPosition", "returnsAlone", "([BII)J"⟩ : MethodName) prog_169_method_11_code 8 (some .long) ({ frames := 0, cells := 0, slots := 0, locals := 0 } : Room) #[(.ref ob0), (.ref ob1), (.int (0 : Int32)), (.int (0 : Int32))] h0 n0 (fun v' h' => v' = some (.long (1 : Int64)) ∧ h' = h0) := by
  refine own_body (plainFor_of_name pn_5) (fun m => ef_ra8_20 m ob0 ob1) Z0 ?_
  intro p e s m below meth c T0 cx X0
  have KK := Keep.refl h0 []
  show own_Go p e below _ (T0.setTop (mkF m 0 #[.val (.ref ob0), .val (.ref ob1), .val (.int (0 : Int32)), .val (.int (0 : Int32)), .unset, .unset, .unset, .unset] []))
  refine o_iloadN cx X0 d8_0 rfl ?_
  refine o_istore cx X0 (Ls' := #[.val (.ref ob0), .val (.ref ob1), .val (.int (0 : Int32)), .val (.int (0 : Int32)), .val (.int (0 : Int32)), .unset, .unset, .unset]) d8_1 rfl ?_
  refine o_iload cx X0 d8_3 rfl ?_
  refine o_iloadN cx X0 d8_5 rfl ?_
  refine o_icmpYes cx X0 27 d8_6 (by decide) (by decide) (by decide) ?_
  refine o_lconst cx X0 (z := (0 : Int64)) d8_27 rfl ?_
  refine o_lstore cx X0 (Ls' := #[.val (.ref ob0), .val (.ref ob1), .val (.int (0 : Int32)), .val (.int (0 : Int32)), .val (.int (0 : Int32)), .val (.long (0 : Int64)), .second, .unset]) d8_28 rfl ?_
  refine o_iload cx X0 d8_30 rfl ?_
  refine o_istore cx X0 (Ls' := #[.val (.ref ob0), .val (.ref ob1), .val (.int (0 : Int32)), .val (.int (0 : Int32)), .val (.int (0 : Int32)), .val (.long (0 : Int64)), .second, .val (.int (0 : Int32))]) d8_32 rfl ?_
  refine o_iload cx X0 d8_34 rfl ?_
  refine o_iloadN cx X0 d8_36 rfl ?_
  refine o_icmpNo cx X0 d8_37 (by decide) ?_
  refine o_lload cx X0 d8_40 rfl ?_
  refine o_aloadN cx X0 d8_42 rfl rfl ?_
  refine o_iload cx X0 d8_43 rfl ?_
  refine o_ldB cx X0 (v := (.int (13 : Int32))) d8_45 G6 0 (by decide) rfl rfl ?_
  refine o_bipush cx X0 (z := (13 : Int32)) d8_46 rfl ?_
  refine o_icmpNo cx X0 d8_48 (by decide) ?_
  refine o_iload cx X0 d8_51 rfl ?_
  refine o_iloadN cx X0 d8_53 rfl ?_
  refine o_icmpYes cx X0 68 d8_54 (by decide) (by decide) (by decide) ?_
  refine o_lconst cx X0 (z := (1 : Int64)) d8_68 rfl ?_
  refine o_goto cx X0 73 d8_69 (by decide) (by decide) ?_
  refine o_ladd cx X0 (z := (1 : Int64)) d8_73 rfl ?_
  refine o_lstore cx X0 (Ls' := #[.val (.ref ob0), .val (.ref ob1), .val (.int (0 : Int32)), .val (.int (0 : Int32)), .val (.int (0 : Int32)), .val (.long (1 : Int64)), .second, .val (.int (0 : Int32))]) d8_74 rfl ?_
  refine o_iinc cx X0 (z := (1 : Int32)) (Ls' := #[.val (.ref ob0), .val (.ref ob1), .val (.int (0 : Int32)), .val (.int (0 : Int32)), .val (.int (0 : Int32)), .val (.long (1 : Int64)), .second, .val (.int (1 : Int32))]) d8_76 rfl rfl rfl ?_
  refine o_goto cx X0 34 d8_79 (by decide) (by decide) ?_
  refine o_iload cx X0 d8_34 rfl ?_
  refine o_iloadN cx X0 d8_36 rfl ?_
  refine o_icmpYes cx X0 82 d8_37 (by decide) (by decide) (by decide) ?_
  refine o_iload cx X0 d8_82 rfl ?_
  refine o_iloadN cx X0 d8_84 rfl ?_
  refine o_icmpNo cx X0 d8_85 (by decide) ?_
  refine o_aloadN cx X0 d8_88 rfl rfl ?_
  refine o_getF cx X0 d8_89 (o_w hw 46 rfl) G5 fun T356 X357 => ?_
  refine o_ifYes cx X357 126 d8_92 (by decide) (by decide) (by decide) ?_
  refine o_lload cx X357 d8_126 rfl ?_
  exact o_retJ cx X357 d8_128 ⟨rfl, rfl⟩ (by decide) (by decide)
theorem ef_ra9_21 (m : MethodId) (ob0 : Addr) : entryFrame m #[(.ref ob0), (.int (1 : Int32)), (.int (3 : Int32))] 7 = mkF m 0 #[.val (.ref ob0), .val (.int (1 : Int32)), .val (.int (3 : Int32)), .unset, .unset, .unset, .unset] [] := by first | (simp [entryFrame, mkF, argsToLocals, Value.category]; done) | rfl
set_option maxRecDepth 65536 in
set_option maxHeartbeats 40000000 in
theorem ra9_21 (l : Launch) (Z : State) (a0 : Array Value) (hw : ∀ d ∈ tables_1, d.before a0 Z = true) (ob0 : Addr) (h0 : Heap) (n0 : Nat) (Z0 : n0 ≤ h0.size) (ga0 : n0 ≤ ob0) (G0 : own_Ar Z h0 ob0 .byte [(.int (13 : Int32)), (.int (97 : Int32)), (.int (98 : Int32))]) :
    own_Met l Z (⟨"com/example/bulla/bulla/xml/TextPosition", "columns", "([BII)J"⟩ : MethodName) prog_169_method_13_code 7 (some .long) ({ frames := 0, cells := 0, slots := 0, locals := 0 } : Room) #[(.ref ob0), (.int (1 : Int32)), (.int (3 : Int32))] h0 n0 (fun v' h' => v' = some (.long (2 : Int64)) ∧ h' = h0) := by
  refine own_body (plainFor_of_name pn_5) (fun m => ef_ra9_21 m ob0) Z0 ?_
  intro p e s m below meth c T0 cx X0
  have KK := Keep.refl h0 []
  show own_Go p e below _ (T0.setTop (mkF m 0 #[.val (.ref ob0), .val (.int (1 : Int32)), .val (.int (3 : Int32)), .unset, .unset, .unset, .unset] []))
  refine o_lconst cx X0 (z := (0 : Int64)) d9_0 rfl ?_
  refine o_lstoreN cx X0 (Ls' := #[.val (.ref ob0), .val (.int (1 : Int32)), .val (.int (3 : Int32)), .val (.long (0 : Int64)), .second, .unset, .unset]) d9_1 rfl ?_
  refine o_iloadN cx X0 d9_2 rfl ?_
  refine o_istore cx X0 (Ls' := #[.val (.ref ob0), .val (.int (1 : Int32)), .val (.int (3 : Int32)), .val (.long (0 : Int64)), .second, .val (.int (1 : Int32)), .unset]) d9_3 rfl ?_
  refine o_iload cx X0 d9_5 rfl ?_
  refine o_iloadN cx X0 d9_7 rfl ?_
  refine o_icmpNo cx X0 d9_8 (by decide) ?_
  refine o_aloadN cx X0 d9_11 rfl rfl ?_
  refine o_iload cx X0 d9_12 rfl ?_
  refine o_ldB cx X0 (v := (.int (97 : Int32))) d9_14 G0 1 (by decide) rfl rfl ?_
  refine o_sipush cx X0 (z := (255 : Int32)) d9_15 rfl ?_
  refine o_iand cx X0 (z := (97 : Int32)) d9_18 rfl ?_
  refine o_istore cx X0 (Ls' := #[.val (.ref ob0), .val (.int (1 : Int32)), .val (.int (3 : Int32)), .val (.long (0 : Int64)), .second, .val (.int (1 : Int32)), .val (.int (97 : Int32))]) d9_19 rfl ?_
  refine o_lloadN cx X0 d9_21 rfl ?_
  refine o_iload cx X0 d9_22 rfl ?_
  refine o_sipush cx X0 (z := (192 : Int32)) d9_24 rfl ?_
  refine o_iand cx X0 (z := (64 : Int32)) d9_27 rfl ?_
  refine o_sipush cx X0 (z := (128 : Int32)) d9_28 rfl ?_
  refine o_icmpNo cx X0 d9_31 (by decide) ?_
  refine o_lconst cx X0 (z := (1 : Int64)) d9_34 rfl ?_
  refine o_goto cx X0 39 d9_35 (by decide) (by decide) ?_
  refine o_ladd cx X0 (z := (1 : Int64)) d9_39 rfl ?_
  refine o_lstoreN cx X0 (Ls' := #[.val (.ref ob0), .val (.int (1 : Int32)), .val (.int (3 : Int32)), .val (.long (1 : Int64)), .second, .val (.int (1 : Int32)), .val (.int (97 : Int32))]) d9_40 rfl ?_
  refine o_lloadN cx X0 d9_41 rfl ?_
  refine o_iload cx X0 d9_42 rfl ?_
  refine o_sipush cx X0 (z := (240 : Int32)) d9_44 rfl ?_
  refine o_icmpYes cx X0 54 d9_47 (by decide) (by decide) (by decide) ?_
  refine o_lconst cx X0 (z := (0 : Int64)) d9_54 rfl ?_
  refine o_ladd cx X0 (z := (1 : Int64)) d9_55 rfl ?_
  refine o_lstoreN cx X0 (Ls' := #[.val (.ref ob0), .val (.int (1 : Int32)), .val (.int (3 : Int32)), .val (.long (1 : Int64)), .second, .val (.int (1 : Int32)), .val (.int (97 : Int32))]) d9_56 rfl ?_
  refine o_iinc cx X0 (z := (2 : Int32)) (Ls' := #[.val (.ref ob0), .val (.int (1 : Int32)), .val (.int (3 : Int32)), .val (.long (1 : Int64)), .second, .val (.int (2 : Int32)), .val (.int (97 : Int32))]) d9_57 rfl rfl rfl ?_
  refine o_goto cx X0 5 d9_60 (by decide) (by decide) ?_
  refine o_iload cx X0 d9_5 rfl ?_
  refine o_iloadN cx X0 d9_7 rfl ?_
  refine o_icmpNo cx X0 d9_8 (by decide) ?_
  refine o_aloadN cx X0 d9_11 rfl rfl ?_
  refine o_iload cx X0 d9_12 rfl ?_
  refine o_ldB cx X0 (v := (.int (98 : Int32))) d9_14 G0 2 (by decide) rfl rfl ?_
  refine o_sipush cx X0 (z := (255 : Int32)) d9_15 rfl ?_
  refine o_iand cx X0 (z := (98 : Int32)) d9_18 rfl ?_
  refine o_istore cx X0 (Ls' := #[.val (.ref ob0), .val (.int (1 : Int32)), .val (.int (3 : Int32)), .val (.long (1 : Int64)), .second, .val (.int (2 : Int32)), .val (.int (98 : Int32))]) d9_19 rfl ?_
  refine o_lloadN cx X0 d9_21 rfl ?_
  refine o_iload cx X0 d9_22 rfl ?_
  refine o_sipush cx X0 (z := (192 : Int32)) d9_24 rfl ?_
  refine o_iand cx X0 (z := (64 : Int32)) d9_27 rfl ?_
  refine o_sipush cx X0 (z := (128 : Int32)) d9_28 rfl ?_
  refine o_icmpNo cx X0 d9_31 (by decide) ?_
  refine o_lconst cx X0 (z := (1 : Int64)) d9_34 rfl ?_
  refine o_goto cx X0 39 d9_35 (by decide) (by decide) ?_
  refine o_ladd cx X0 (z := (2 : Int64)) d9_39 rfl ?_
  refine o_lstoreN cx X0 (Ls' := #[.val (.ref ob0), .val (.int (1 : Int32)), .val (.int (3 : Int32)), .val (.long (2 : Int64)), .second, .val (.int (2 : Int32)), .val (.int (98 : Int32))]) d9_40 rfl ?_
  refine o_lloadN cx X0 d9_41 rfl ?_
  refine o_iload cx X0 d9_42 rfl ?_
  refine o_sipush cx X0 (z := (240 : Int32)) d9_44 rfl ?_
  refine o_icmpYes cx X0 54 d9_47 (by decide) (by decide) (by decide) ?_
  refine o_lconst cx X0 (z := (0 : Int64)) d9_54 rfl ?_
  refine o_ladd cx X0 (z := (2 : Int64)) d9_55 rfl ?_
  refine o_lstoreN cx X0 (Ls' := #[.val (.ref ob0), .val (.int (1 : Int32)), .val (.int (3 : Int32)), .val (.long (2 : Int64)), .second, .val (.int (2 : Int32)), .val (.int (98 : Int32))]) d9_56 rfl ?_
  refine o_iinc cx X0 (z := (3 : Int32)) (Ls' := #[.val (.ref ob0), .val (.int (1 : Int32)), .val (.int (3 : Int32)), .val (.long (2 : Int64)), .second, .val (.int (3 : Int32)), .val (.int (98 : Int32))]) d9_57 rfl rfl rfl ?_
  refine o_goto cx X0 5 d9_60 (by decide) (by decide) ?_
  refine o_iload cx X0 d9_5 rfl ?_
  refine o_iloadN cx X0 d9_7 rfl ?_
  refine o_icmpYes cx X0 63 d9_8 (by decide) (by decide) (by decide) ?_
  refine o_lloadN cx X0 d9_63 rfl ?_
  exact o_retJ cx X0 d9_64 ⟨rfl, rfl⟩ (by decide) (by decide)
theorem ef_ra4_17 (m : MethodId) (ob0 : Addr) (ob1 : Addr) : entryFrame m #[(.ref ob0), (.ref ob1), (.int (0 : Int32)), (.int (3 : Int32)), (.int (0 : Int32))] 8 = mkF m 0 #[.val (.ref ob0), .val (.ref ob1), .val (.int (0 : Int32)), .val (.int (3 : Int32)), .val (.int (0 : Int32)), .unset, .unset, .unset] [] := by first | (simp [entryFrame, mkF, argsToLocals, Value.category]; done) | rfl
set_option maxRecDepth 65536 in
set_option maxHeartbeats 40000000 in
theorem ra4_17 (l : Launch) (Z : State) (a0 : Array Value) (hw : ∀ d ∈ tables_1, d.before a0 Z = true) (ob0 : Addr) (ob1 : Addr) (h0 : Heap) (n0 : Nat) (Z0 : n0 ≤ h0.size) (ga0 : n0 ≤ ob0) (ga1 : n0 ≤ ob1) (ne_0_1 : ob0 ≠ ob1) (G0 : Exa Z h0 ob0 "com/example/bulla/bulla/xml/TextPosition") (G1 : Fld Z h0 ob0 "com/example/bulla/bulla/xml/TextPosition" "line" "J" (.long (1 : Int64))) (G2 : Fld Z h0 ob0 "com/example/bulla/bulla/xml/TextPosition" "column" "J" (.long (1 : Int64))) (G3 : Fld Z h0 ob0 "com/example/bulla/bulla/xml/TextPosition" "shortfall" "J" (.long (0 : Int64))) (G4 : Fld Z h0 ob0 "com/example/bulla/bulla/xml/TextPosition" "afterReturn" "Z" (.int (0 : Int32))) (G5 : Fld Z h0 ob0 "com/example/bulla/bulla/xml/TextPosition" "afterLineEnd" "Z" (.int (0 : Int32))) (G6 : own_Ar Z h0 ob1 .byte [(.int (13 : Int32)), (.int (97 : Int32)), (.int (98 : Int32))]) :
    own_Met l Z (⟨"com/example/bulla/bulla/xml/TextPosition", "move", "([BIIZ)V"⟩ : MethodName) prog_169_method_8_code 8 none ({ frames := 1, cells := 0, slots := 0, locals := 22 } : Room) #[(.ref ob0), (.ref ob1), (.int (0 : Int32)), (.int (3 : Int32)), (.int (0 : Int32))] h0 n0 (fun v' h' => v' = none ∧ Keep h0 h' [ob0] ∧ Exa Z h' ob0 "com/example/bulla/bulla/xml/TextPosition" ∧ Fld Z h' ob0 "com/example/bulla/bulla/xml/TextPosition" "line" "J" (.long (2 : Int64)) ∧ Fld Z h' ob0 "com/example/bulla/bulla/xml/TextPosition" "column" "J" (.long (3 : Int64)) ∧ Fld Z h' ob0 "com/example/bulla/bulla/xml/TextPosition" "shortfall" "J" (.long (1 : Int64)) ∧ Fld Z h' ob0 "com/example/bulla/bulla/xml/TextPosition" "afterReturn" "Z" (.int (0 : Int32)) ∧ Fld Z h' ob0 "com/example/bulla/bulla/xml/TextPosition" "afterLineEnd" "Z" (.int (0 : Int32))) := by
  refine own_body (plainFor_of_name pn_5) (fun m => ef_ra4_17 m ob0 ob1) Z0 ?_
  intro p e s m below meth c T0 cx X0
  have KK := Keep.refl h0 [ob0]
  show own_Go p e below _ (T0.setTop (mkF m 0 #[.val (.ref ob0), .val (.ref ob1), .val (.int (0 : Int32)), .val (.int (3 : Int32)), .val (.int (0 : Int32)), .unset, .unset, .unset] []))
  refine o_iloadN cx X0 d4_0 rfl ?_
  refine o_iloadN cx X0 d4_1 rfl ?_
  refine o_icmpYes cx X0 6 d4_2 (by decide) (by decide) (by decide) ?_
  refine o_iconst cx X0 (z := (0 : Int32)) d4_6 rfl ?_
  refine o_istore cx X0 (Ls' := #[.val (.ref ob0), .val (.ref ob1), .val (.int (0 : Int32)), .val (.int (3 : Int32)), .val (.int (0 : Int32)), .val (.int (0 : Int32)), .unset, .unset]) d4_7 rfl ?_
  refine o_iconst cx X0 (z := (0 : Int32)) d4_9 rfl ?_
  refine o_istore cx X0 (Ls' := #[.val (.ref ob0), .val (.ref ob1), .val (.int (0 : Int32)), .val (.int (3 : Int32)), .val (.int (0 : Int32)), .val (.int (0 : Int32)), .val (.int (0 : Int32)), .unset]) d4_10 rfl ?_
  refine o_iloadN cx X0 d4_12 rfl ?_
  refine o_istore cx X0 (Ls' := #[.val (.ref ob0), .val (.ref ob1), .val (.int (0 : Int32)), .val (.int (3 : Int32)), .val (.int (0 : Int32)), .val (.int (0 : Int32)), .val (.int (0 : Int32)), .val (.int (0 : Int32))]) d4_13 rfl ?_
  refine o_iload cx X0 d4_15 rfl ?_
  refine o_iloadN cx X0 d4_17 rfl ?_
  refine o_icmpNo cx X0 d4_18 (by decide) ?_
  refine o_iload cx X0 d4_21 rfl ?_
  refine o_aloadN cx X0 d4_23 rfl rfl ?_
  refine o_iload cx X0 d4_24 rfl ?_
  refine o_ldB cx X0 (v := (.int (13 : Int32))) d4_26 G6 0 (by decide) rfl rfl ?_
  refine o_bipush cx X0 (z := (10 : Int32)) d4_27 rfl ?_
  refine o_icmpYes cx X0 36 d4_29 (by decide) (by decide) (by decide) ?_
  refine o_iconst cx X0 (z := (0 : Int32)) d4_36 rfl ?_
  refine o_iadd cx X0 (z := (0 : Int32)) d4_37 rfl ?_
  refine o_istore cx X0 (Ls' := #[.val (.ref ob0), .val (.ref ob1), .val (.int (0 : Int32)), .val (.int (3 : Int32)), .val (.int (0 : Int32)), .val (.int (0 : Int32)), .val (.int (0 : Int32)), .val (.int (0 : Int32))]) d4_38 rfl ?_
  refine o_iload cx X0 d4_40 rfl ?_
  refine o_aloadN cx X0 d4_42 rfl rfl ?_
  refine o_iload cx X0 d4_43 rfl ?_
  refine o_ldB cx X0 (v := (.int (13 : Int32))) d4_45 G6 0 (by decide) rfl rfl ?_
  refine o_bipush cx X0 (z := (13 : Int32)) d4_46 rfl ?_
  refine o_icmpNo cx X0 d4_48 (by decide) ?_
  refine o_iconst cx X0 (z := (1 : Int32)) d4_51 rfl ?_
  refine o_goto cx X0 56 d4_52 (by decide) (by decide) ?_
  refine o_iadd cx X0 (z := (1 : Int32)) d4_56 rfl ?_
  refine o_istore cx X0 (Ls' := #[.val (.ref ob0), .val (.ref ob1), .val (.int (0 : Int32)), .val (.int (3 : Int32)), .val (.int (0 : Int32)), .val (.int (0 : Int32)), .val (.int (1 : Int32)), .val (.int (0 : Int32))]) d4_57 rfl ?_
  refine o_iinc cx X0 (z := (1 : Int32)) (Ls' := #[.val (.ref ob0), .val (.ref ob1), .val (.int (0 : Int32)), .val (.int (3 : Int32)), .val (.int (0 : Int32)), .val (.int (0 : Int32)), .val (.int (1 : Int32)), .val (.int (1 : Int32))]) d4_59 rfl rfl rfl ?_
  refine o_goto cx X0 15 d4_62 (by decide) (by decide) ?_
  refine o_iload cx X0 d4_15 rfl ?_
  refine o_iloadN cx X0 d4_17 rfl ?_
  refine o_icmpNo cx X0 d4_18 (by decide) ?_
  refine o_iload cx X0 d4_21 rfl ?_
  refine o_aloadN cx X0 d4_23 rfl rfl ?_
  refine o_iload cx X0 d4_24 rfl ?_
  refine o_ldB cx X0 (v := (.int (97 : Int32))) d4_26 G6 1 (by decide) rfl rfl ?_
  refine o_bipush cx X0 (z := (10 : Int32)) d4_27 rfl ?_
  refine o_icmpYes cx X0 36 d4_29 (by decide) (by decide) (by decide) ?_
  refine o_iconst cx X0 (z := (0 : Int32)) d4_36 rfl ?_
  refine o_iadd cx X0 (z := (0 : Int32)) d4_37 rfl ?_
  refine o_istore cx X0 (Ls' := #[.val (.ref ob0), .val (.ref ob1), .val (.int (0 : Int32)), .val (.int (3 : Int32)), .val (.int (0 : Int32)), .val (.int (0 : Int32)), .val (.int (1 : Int32)), .val (.int (1 : Int32))]) d4_38 rfl ?_
  refine o_iload cx X0 d4_40 rfl ?_
  refine o_aloadN cx X0 d4_42 rfl rfl ?_
  refine o_iload cx X0 d4_43 rfl ?_
  refine o_ldB cx X0 (v := (.int (97 : Int32))) d4_45 G6 1 (by decide) rfl rfl ?_
  refine o_bipush cx X0 (z := (13 : Int32)) d4_46 rfl ?_
  refine o_icmpYes cx X0 55 d4_48 (by decide) (by decide) (by decide) ?_
  refine o_iconst cx X0 (z := (0 : Int32)) d4_55 rfl ?_
  refine o_iadd cx X0 (z := (1 : Int32)) d4_56 rfl ?_
  refine o_istore cx X0 (Ls' := #[.val (.ref ob0), .val (.ref ob1), .val (.int (0 : Int32)), .val (.int (3 : Int32)), .val (.int (0 : Int32)), .val (.int (0 : Int32)), .val (.int (1 : Int32)), .val (.int (1 : Int32))]) d4_57 rfl ?_
  refine o_iinc cx X0 (z := (2 : Int32)) (Ls' := #[.val (.ref ob0), .val (.ref ob1), .val (.int (0 : Int32)), .val (.int (3 : Int32)), .val (.int (0 : Int32)), .val (.int (0 : Int32)), .val (.int (1 : Int32)), .val (.int (2 : Int32))]) d4_59 rfl rfl rfl ?_
  refine o_goto cx X0 15 d4_62 (by decide) (by decide) ?_
  refine o_iload cx X0 d4_15 rfl ?_
  refine o_iloadN cx X0 d4_17 rfl ?_
  refine o_icmpNo cx X0 d4_18 (by decide) ?_
  refine o_iload cx X0 d4_21 rfl ?_
  refine o_aloadN cx X0 d4_23 rfl rfl ?_
  refine o_iload cx X0 d4_24 rfl ?_
  refine o_ldB cx X0 (v := (.int (98 : Int32))) d4_26 G6 2 (by decide) rfl rfl ?_
  refine o_bipush cx X0 (z := (10 : Int32)) d4_27 rfl ?_
  refine o_icmpYes cx X0 36 d4_29 (by decide) (by decide) (by decide) ?_
  refine o_iconst cx X0 (z := (0 : Int32)) d4_36 rfl ?_
  refine o_iadd cx X0 (z := (0 : Int32)) d4_37 rfl ?_
  refine o_istore cx X0 (Ls' := #[.val (.ref ob0), .val (.ref ob1), .val (.int (0 : Int32)), .val (.int (3 : Int32)), .val (.int (0 : Int32)), .val (.int (0 : Int32)), .val (.int (1 : Int32)), .val (.int (2 : Int32))]) d4_38 rfl ?_
  refine o_iload cx X0 d4_40 rfl ?_
  refine o_aloadN cx X0 d4_42 rfl rfl ?_
  refine o_iload cx X0 d4_43 rfl ?_
  refine o_ldB cx X0 (v := (.int (98 : Int32))) d4_45 G6 2 (by decide) rfl rfl ?_
  refine o_bipush cx X0 (z := (13 : Int32)) d4_46 rfl ?_
  refine o_icmpYes cx X0 55 d4_48 (by decide) (by decide) (by decide) ?_
  refine o_iconst cx X0 (z := (0 : Int32)) d4_55 rfl ?_
  refine o_iadd cx X0 (z := (1 : Int32)) d4_56 rfl ?_
  refine o_istore cx X0 (Ls' := #[.val (.ref ob0), .val (.ref ob1), .val (.int (0 : Int32)), .val (.int (3 : Int32)), .val (.int (0 : Int32)), .val (.int (0 : Int32)), .val (.int (1 : Int32)), .val (.int (2 : Int32))]) d4_57 rfl ?_
  refine o_iinc cx X0 (z := (3 : Int32)) (Ls' := #[.val (.ref ob0), .val (.ref ob1), .val (.int (0 : Int32)), .val (.int (3 : Int32)), .val (.int (0 : Int32)), .val (.int (0 : Int32)), .val (.int (1 : Int32)), .val (.int (3 : Int32))]) d4_59 rfl rfl rfl ?_
  refine o_goto cx X0 15 d4_62 (by decide) (by decide) ?_
  refine o_iload cx X0 d4_15 rfl ?_
  refine o_iloadN cx X0 d4_17 rfl ?_
  refine o_icmpYes cx X0 65 d4_18 (by decide) (by decide) (by decide) ?_
  refine o_aloadN cx X0 d4_65 rfl rfl ?_
  refine o_dup cx X0 d4_66 rfl ?_
  refine o_getF cx X0 d4_67 (o_w hw 11 rfl) G1 fun T381 X382 => ?_
  refine o_iload cx X382 d4_70 rfl ?_
  refine o_iload cx X382 d4_72 rfl ?_
  refine o_iadd cx X382 (z := (1 : Int32)) d4_74 rfl ?_
  refine o_aloadN cx X382 d4_75 rfl rfl ?_
  refine o_aloadN cx X382 d4_76 rfl rfl ?_
  refine o_iloadN cx X382 d4_77 rfl ?_
  refine o_iloadN cx X382 d4_78 rfl ?_
  refine o_iload cx X382 d4_79 rfl ?_
  refine o_callPp cx X382 (y' := (⟨"com/example/bulla/bulla/xml/TextPosition", "joinedLineFeeds", "([BIII)I"⟩ : MethodName)) (argsL := [(.ref ob1), (.int (0 : Int32)), (.int (3 : Int32)), (.int (1 : Int32))]) (st := [(.int (1 : Int32)), (.long (1 : Int64)), (.ref ob0)]) (a := ob0) d4_81 (o_w hw 33 rfl) (o_w hw 35 rfl) (o_w hw 18 rfl) rfl (o_w hw 34 rfl) (o_w hw 4 rfl) (o_w hw 36 rfl) (by decide) G0 (ra6_18 l Z a0 hw ob0 ob1 h0 n0 X382.ge0 ga0 ga1 ne_0_1 G0 G1 G2 G3 G4 G5 G6) (by decide) 4 rfl (by decide) rfl (lenOf pd_6 rfl) rfl rfl (by decide) (by decide) fun T383 X384 => ?_
  show own_Go p e below _ (T383.setTop (mkF m 84 #[.val (.ref ob0), .val (.ref ob1), .val (.int (0 : Int32)), .val (.int (3 : Int32)), .val (.int (0 : Int32)), .val (.int (0 : Int32)), .val (.int (1 : Int32)), .val (.int (3 : Int32))] [(.int (0 : Int32)), (.int (1 : Int32)), (.long (1 : Int64)), (.ref ob0)]))
  refine o_isub cx X384 (z := (1 : Int32)) d4_84 rfl ?_
  refine o_i2l cx X384 (z := (1 : Int64)) d4_85 rfl ?_
  refine o_ladd cx X384 (z := (2 : Int64)) d4_86 rfl ?_
  refine o_putF cx X384 (v' := (.long (2 : Int64))) (ty := .long) d4_87 (o_w hw 11 rfl) G1 G0 (Or.inl (o_w hw 12 rfl)) (o_w hw 3 rfl) (by decide) rfl rfl ga0 fun T388 h390 X389 W391 => ?_
  have G0 := G0.wr W391
  have G1 := G1.same W391
  have G2 := G2.other W391 (Or.inr (slot_ne (Or.inl (o_w hw 14 rfl)) (Or.inl (o_w hw 12 rfl)) (by decide) (t := .long) (t' := .long) (by decide) (by decide)))
  have G3 := G3.other W391 (Or.inr (slot_ne (Or.inl (o_w hw 30 rfl)) (Or.inl (o_w hw 12 rfl)) (by decide) (t := .long) (t' := .long) (by decide) (by decide)))
  have G4 := G4.other W391 (Or.inr (slot_ne (Or.inl (o_w hw 38 rfl)) (Or.inl (o_w hw 12 rfl)) (by decide) (t := .boolean) (t' := .long) (by decide) (by decide)))
  have G5 := G5.other W391 (Or.inr (slot_ne (Or.inl (o_w hw 47 rfl)) (Or.inl (o_w hw 12 rfl)) (by decide) (t := .boolean) (t' := .long) (by decide) (by decide)))
  have G6 := G6.other W391 (Ne.symm ne_0_1)
  have KK := KK.wr W391 (Or.inl (List.mem_of_getElem? (i := 0) rfl))
  refine o_iloadN cx X389 d4_90 rfl ?_
  refine o_iconst cx X389 (z := (1 : Int32)) d4_91 rfl ?_
  refine o_isub cx X389 (z := (2 : Int32)) d4_92 rfl ?_
  refine o_istore cx X389 (Ls' := #[.val (.ref ob0), .val (.ref ob1), .val (.int (0 : Int32)), .val (.int (3 : Int32)), .val (.int (0 : Int32)), .val (.int (0 : Int32)), .val (.int (1 : Int32)), .val (.int (2 : Int32))]) d4_93 rfl ?_
  refine o_iload cx X389 d4_95 rfl ?_
  refine o_iloadN cx X389 d4_97 rfl ?_
  refine o_icmpNo cx X389 d4_98 (by decide) ?_
  refine o_aloadN cx X389 d4_101 rfl rfl ?_
  refine o_iload cx X389 d4_102 rfl ?_
  refine o_ldB cx X389 (v := (.int (98 : Int32))) d4_104 G6 2 (by decide) rfl rfl ?_
  refine o_callSp cx X389 (y' := (⟨"com/example/bulla/bulla/xml/TextPosition", "isLineEnd", "(B)Z"⟩ : MethodName)) (argsL := [(.int (98 : Int32))]) (st := []) d4_105 (o_w hw 39 rfl) (o_w hw 40 rfl) (o_w hw 4 rfl) (o_w hw 41 rfl) (by decide) (ra7_7 l Z a0 hw  h390 n0 X389.ge0 ) (by decide) 0 rfl (by decide) rfl (lenOf pd_7 rfl) rfl rfl (by decide) (by decide) fun T392 X393 => ?_
  show own_Go p e below _ (T392.setTop (mkF m 108 #[.val (.ref ob0), .val (.ref ob1), .val (.int (0 : Int32)), .val (.int (3 : Int32)), .val (.int (0 : Int32)), .val (.int (0 : Int32)), .val (.int (1 : Int32)), .val (.int (2 : Int32))] [(.int (0 : Int32))]))
  refine o_ifNo cx X393 d4_108 (by decide) ?_
  refine o_iinc cx X393 (z := (1 : Int32)) (Ls' := #[.val (.ref ob0), .val (.ref ob1), .val (.int (0 : Int32)), .val (.int (3 : Int32)), .val (.int (0 : Int32)), .val (.int (0 : Int32)), .val (.int (1 : Int32)), .val (.int (1 : Int32))]) d4_111 rfl rfl rfl ?_
  refine o_goto cx X393 95 d4_114 (by decide) (by decide) ?_
  refine o_iload cx X393 d4_95 rfl ?_
  refine o_iloadN cx X393 d4_97 rfl ?_
  refine o_icmpNo cx X393 d4_98 (by decide) ?_
  refine o_aloadN cx X393 d4_101 rfl rfl ?_
  refine o_iload cx X393 d4_102 rfl ?_
  refine o_ldB cx X393 (v := (.int (97 : Int32))) d4_104 G6 1 (by decide) rfl rfl ?_
  refine o_callSp cx X393 (y' := (⟨"com/example/bulla/bulla/xml/TextPosition", "isLineEnd", "(B)Z"⟩ : MethodName)) (argsL := [(.int (97 : Int32))]) (st := []) d4_105 (o_w hw 39 rfl) (o_w hw 40 rfl) (o_w hw 4 rfl) (o_w hw 41 rfl) (by decide) (ra7_8 l Z a0 hw  h390 n0 X393.ge0 ) (by decide) 0 rfl (by decide) rfl (lenOf pd_7 rfl) rfl rfl (by decide) (by decide) fun T397 X398 => ?_
  show own_Go p e below _ (T397.setTop (mkF m 108 #[.val (.ref ob0), .val (.ref ob1), .val (.int (0 : Int32)), .val (.int (3 : Int32)), .val (.int (0 : Int32)), .val (.int (0 : Int32)), .val (.int (1 : Int32)), .val (.int (1 : Int32))] [(.int (0 : Int32))]))
  refine o_ifNo cx X398 d4_108 (by decide) ?_
  refine o_iinc cx X398 (z := (0 : Int32)) (Ls' := #[.val (.ref ob0), .val (.ref ob1), .val (.int (0 : Int32)), .val (.int (3 : Int32)), .val (.int (0 : Int32)), .val (.int (0 : Int32)), .val (.int (1 : Int32)), .val (.int (0 : Int32))]) d4_111 rfl rfl rfl ?_
  refine o_goto cx X398 95 d4_114 (by decide) (by decide) ?_
  refine o_iload cx X398 d4_95 rfl ?_
  refine o_iloadN cx X398 d4_97 rfl ?_
  refine o_icmpNo cx X398 d4_98 (by decide) ?_
  refine o_aloadN cx X398 d4_101 rfl rfl ?_
  refine o_iload cx X398 d4_102 rfl ?_
  refine o_ldB cx X398 (v := (.int (13 : Int32))) d4_104 G6 0 (by decide) rfl rfl ?_
  refine o_callSp cx X398 (y' := (⟨"com/example/bulla/bulla/xml/TextPosition", "isLineEnd", "(B)Z"⟩ : MethodName)) (argsL := [(.int (13 : Int32))]) (st := []) d4_105 (o_w hw 39 rfl) (o_w hw 40 rfl) (o_w hw 4 rfl) (o_w hw 41 rfl) (by decide) (ra7_19 l Z a0 hw  h390 n0 X398.ge0 ) (by decide) 0 rfl (by decide) rfl (lenOf pd_7 rfl) rfl rfl (by decide) (by decide) fun T402 X403 => ?_
  show own_Go p e below _ (T402.setTop (mkF m 108 #[.val (.ref ob0), .val (.ref ob1), .val (.int (0 : Int32)), .val (.int (3 : Int32)), .val (.int (0 : Int32)), .val (.int (0 : Int32)), .val (.int (1 : Int32)), .val (.int (0 : Int32))] [(.int (1 : Int32))]))
  refine o_ifYes cx X403 117 d4_108 (by decide) (by decide) (by decide) ?_
  refine o_iload cx X403 d4_117 rfl ?_
  refine o_iloadN cx X403 d4_119 rfl ?_
  refine o_icmpYes cx X403 141 d4_120 (by decide) (by decide) (by decide) ?_
  refine o_aloadN cx X403 d4_141 rfl rfl ?_
  refine o_iload cx X403 d4_142 rfl ?_
  refine o_ifYes cx X403 151 d4_144 (by decide) (by decide) (by decide) ?_
  refine o_aloadN cx X403 d4_151 rfl rfl ?_
  refine o_aloadN cx X403 d4_152 rfl rfl ?_
  refine o_iloadN cx X403 d4_153 rfl ?_
  refine o_iload cx X403 d4_154 rfl ?_
  refine o_callPp cx X403 (y' := (⟨"com/example/bulla/bulla/xml/TextPosition", "returnsAlone", "([BII)J"⟩ : MethodName)) (argsL := [(.ref ob1), (.int (0 : Int32)), (.int (0 : Int32))]) (st := [(.ref ob0)]) (a := ob0) d4_156 (o_w hw 42 rfl) (o_w hw 44 rfl) (o_w hw 18 rfl) rfl (o_w hw 43 rfl) (o_w hw 4 rfl) (o_w hw 45 rfl) (by decide) G0 (ra8_20 l Z a0 hw ob0 ob1 h390 n0 X403.ge0 ga0 ga1 ne_0_1 G0 G1 G2 G3 G4 G5 G6) (by decide) 1 rfl (by decide) rfl (lenOf pd_8 rfl) rfl rfl (by decide) (by decide) fun T407 X408 => ?_
  show own_Go p e below _ (T407.setTop (mkF m 159 #[.val (.ref ob0), .val (.ref ob1), .val (.int (0 : Int32)), .val (.int (3 : Int32)), .val (.int (0 : Int32)), .val (.int (0 : Int32)), .val (.int (1 : Int32)), .val (.int (0 : Int32))] [(.long (1 : Int64)), (.ref ob0)]))
  refine o_putF cx X408 (v' := (.long (1 : Int64))) (ty := .long) d4_159 (o_w hw 29 rfl) G3 G0 (Or.inl (o_w hw 30 rfl)) (o_w hw 3 rfl) (by decide) rfl rfl ga0 fun T412 h414 X413 W415 => ?_
  have G0 := G0.wr W415
  have G1 := G1.other W415 (Or.inr (slot_ne (Or.inl (o_w hw 12 rfl)) (Or.inl (o_w hw 30 rfl)) (by decide) (t := .long) (t' := .long) (by decide) (by decide)))
  have G2 := G2.other W415 (Or.inr (slot_ne (Or.inl (o_w hw 14 rfl)) (Or.inl (o_w hw 30 rfl)) (by decide) (t := .long) (t' := .long) (by decide) (by decide)))
  have G3 := G3.same W415
  have G4 := G4.other W415 (Or.inr (slot_ne (Or.inl (o_w hw 38 rfl)) (Or.inl (o_w hw 30 rfl)) (by decide) (t := .boolean) (t' := .long) (by decide) (by decide)))
  have G5 := G5.other W415 (Or.inr (slot_ne (Or.inl (o_w hw 47 rfl)) (Or.inl (o_w hw 30 rfl)) (by decide) (t := .boolean) (t' := .long) (by decide) (by decide)))
  have G6 := G6.other W415 (Ne.symm ne_0_1)
  have KK := KK.wr W415 (Or.inl (List.mem_of_getElem? (i := 0) rfl))
  refine o_aloadN cx X413 d4_162 rfl rfl ?_
  refine o_lconst cx X413 (z := (1 : Int64)) d4_163 rfl ?_
  refine o_aloadN cx X413 d4_164 rfl rfl ?_
  refine o_iload cx X413 d4_165 rfl ?_
  refine o_iconst cx X413 (z := (1 : Int32)) d4_167 rfl ?_
  refine o_iadd cx X413 (z := (1 : Int32)) d4_168 rfl ?_
  refine o_iloadN cx X413 d4_169 rfl ?_
  refine o_callSp cx X413 (y' := (⟨"com/example/bulla/bulla/xml/TextPosition", "columns", "([BII)J"⟩ : MethodName)) (argsL := [(.ref ob1), (.int (1 : Int32)), (.int (3 : Int32))]) (st := [(.long (1 : Int64)), (.ref ob0)]) d4_170 (o_w hw 48 rfl) (o_w hw 49 rfl) (o_w hw 4 rfl) (o_w hw 50 rfl) (by decide) (ra9_21 l Z a0 hw ob1 h414 n0 X413.ge0 ga1 G6) (by decide) 3 rfl (by decide) rfl (lenOf pd_9 rfl) rfl rfl (by decide) (by decide) fun T416 X417 => ?_
  show own_Go p e below _ (T416.setTop (mkF m 173 #[.val (.ref ob0), .val (.ref ob1), .val (.int (0 : Int32)), .val (.int (3 : Int32)), .val (.int (0 : Int32)), .val (.int (0 : Int32)), .val (.int (1 : Int32)), .val (.int (0 : Int32))] [(.long (2 : Int64)), (.long (1 : Int64)), (.ref ob0)]))
  refine o_ladd cx X417 (z := (3 : Int64)) d4_173 rfl ?_
  refine o_putF cx X417 (v' := (.long (3 : Int64))) (ty := .long) d4_174 (o_w hw 13 rfl) G2 G0 (Or.inl (o_w hw 14 rfl)) (o_w hw 3 rfl) (by decide) rfl rfl ga0 fun T421 h423 X422 W424 => ?_
  have G0 := G0.wr W424
  have G1 := G1.other W424 (Or.inr (slot_ne (Or.inl (o_w hw 12 rfl)) (Or.inl (o_w hw 14 rfl)) (by decide) (t := .long) (t' := .long) (by decide) (by decide)))
  have G2 := G2.same W424
  have G3 := G3.other W424 (Or.inr (slot_ne (Or.inl (o_w hw 30 rfl)) (Or.inl (o_w hw 14 rfl)) (by decide) (t := .long) (t' := .long) (by decide) (by decide)))
  have G4 := G4.other W424 (Or.inr (slot_ne (Or.inl (o_w hw 38 rfl)) (Or.inl (o_w hw 14 rfl)) (by decide) (t := .boolean) (t' := .long) (by decide) (by decide)))
  have G5 := G5.other W424 (Or.inr (slot_ne (Or.inl (o_w hw 47 rfl)) (Or.inl (o_w hw 14 rfl)) (by decide) (t := .boolean) (t' := .long) (by decide) (by decide)))
  have G6 := G6.other W424 (Ne.symm ne_0_1)
  have KK := KK.wr W424 (Or.inl (List.mem_of_getElem? (i := 0) rfl))
  refine o_aloadN cx X422 d4_177 rfl rfl ?_
  refine o_aloadN cx X422 d4_178 rfl rfl ?_
  refine o_iloadN cx X422 d4_179 rfl ?_
  refine o_iconst cx X422 (z := (1 : Int32)) d4_180 rfl ?_
  refine o_isub cx X422 (z := (2 : Int32)) d4_181 rfl ?_
  refine o_ldB cx X422 (v := (.int (98 : Int32))) d4_182 G6 2 (by decide) rfl rfl ?_
  refine o_callSp cx X422 (y' := (⟨"com/example/bulla/bulla/xml/TextPosition", "isLineEnd", "(B)Z"⟩ : MethodName)) (argsL := [(.int (98 : Int32))]) (st := [(.ref ob0)]) d4_183 (o_w hw 39 rfl) (o_w hw 40 rfl) (o_w hw 4 rfl) (o_w hw 41 rfl) (by decide) (ra7_7 l Z a0 hw  h423 n0 X422.ge0 ) (by decide) 1 rfl (by decide) rfl (lenOf pd_7 rfl) rfl rfl (by decide) (by decide) fun T425 X426 => ?_
  show own_Go p e below _ (T425.setTop (mkF m 186 #[.val (.ref ob0), .val (.ref ob1), .val (.int (0 : Int32)), .val (.int (3 : Int32)), .val (.int (0 : Int32)), .val (.int (0 : Int32)), .val (.int (1 : Int32)), .val (.int (0 : Int32))] [(.int (0 : Int32)), (.ref ob0)]))
  refine o_putF cx X426 (v' := (.int (0 : Int32))) (ty := .boolean) d4_186 (o_w hw 46 rfl) G5 G0 (Or.inl (o_w hw 47 rfl)) (o_w hw 3 rfl) (by decide) rfl (fits_nar_bool (0 : Int32)) ga0 fun T430 h432 X431 W433 => ?_
  have G0 := G0.wr W433
  have G1 := G1.other W433 (Or.inr (slot_ne (Or.inl (o_w hw 12 rfl)) (Or.inl (o_w hw 47 rfl)) (by decide) (t := .long) (t' := .boolean) (by decide) (by decide)))
  have G2 := G2.other W433 (Or.inr (slot_ne (Or.inl (o_w hw 14 rfl)) (Or.inl (o_w hw 47 rfl)) (by decide) (t := .long) (t' := .boolean) (by decide) (by decide)))
  have G3 := G3.other W433 (Or.inr (slot_ne (Or.inl (o_w hw 30 rfl)) (Or.inl (o_w hw 47 rfl)) (by decide) (t := .long) (t' := .boolean) (by decide) (by decide)))
  have G4 := G4.other W433 (Or.inr (slot_ne (Or.inl (o_w hw 38 rfl)) (Or.inl (o_w hw 47 rfl)) (by decide) (t := .boolean) (t' := .boolean) (by decide) (by decide)))
  have G5 := G5.same W433
  have G6 := G6.other W433 (Ne.symm ne_0_1)
  have KK := KK.wr W433 (Or.inl (List.mem_of_getElem? (i := 0) rfl))
  refine o_aloadN cx X431 d4_189 rfl rfl ?_
  refine o_aloadN cx X431 d4_190 rfl rfl ?_
  refine o_iloadN cx X431 d4_191 rfl ?_
  refine o_iconst cx X431 (z := (1 : Int32)) d4_192 rfl ?_
  refine o_isub cx X431 (z := (2 : Int32)) d4_193 rfl ?_
  refine o_ldB cx X431 (v := (.int (98 : Int32))) d4_194 G6 2 (by decide) rfl rfl ?_
  refine o_bipush cx X431 (z := (13 : Int32)) d4_195 rfl ?_
  refine o_icmpYes cx X431 204 d4_197 (by decide) (by decide) (by decide) ?_
  refine o_iconst cx X431 (z := (0 : Int32)) d4_204 rfl ?_
  refine o_putF cx X431 (v' := (.int (0 : Int32))) (ty := .boolean) d4_205 (o_w hw 37 rfl) G4 G0 (Or.inl (o_w hw 38 rfl)) (o_w hw 3 rfl) (by decide) rfl (fits_nar_bool (0 : Int32)) ga0 fun T434 h436 X435 W437 => ?_
  have G0 := G0.wr W437
  have G1 := G1.other W437 (Or.inr (slot_ne (Or.inl (o_w hw 12 rfl)) (Or.inl (o_w hw 38 rfl)) (by decide) (t := .long) (t' := .boolean) (by decide) (by decide)))
  have G2 := G2.other W437 (Or.inr (slot_ne (Or.inl (o_w hw 14 rfl)) (Or.inl (o_w hw 38 rfl)) (by decide) (t := .long) (t' := .boolean) (by decide) (by decide)))
  have G3 := G3.other W437 (Or.inr (slot_ne (Or.inl (o_w hw 30 rfl)) (Or.inl (o_w hw 38 rfl)) (by decide) (t := .long) (t' := .boolean) (by decide) (by decide)))
  have G4 := G4.same W437
  have G5 := G5.other W437 (Or.inr (slot_ne (Or.inl (o_w hw 47 rfl)) (Or.inl (o_w hw 38 rfl)) (by decide) (t := .boolean) (t' := .boolean) (by decide) (by decide)))
  have G6 := G6.other W437 (Ne.symm ne_0_1)
  have KK := KK.wr W437 (Or.inl (List.mem_of_getElem? (i := 0) rfl))
  exact o_retV cx X435 d4_208 ⟨rfl, KK, G0, G1, G2, G3, G4, G5⟩ (by decide) (by decide)
theorem ef_ra3_16 (m : MethodId) (ob0 : Addr) (ob1 : Addr) : entryFrame m #[(.ref ob0), (.ref ob1), (.int (0 : Int32)), (.int (3 : Int32))] 4 = mkF m 0 #[.val (.ref ob0), .val (.ref ob1), .val (.int (0 : Int32)), .val (.int (3 : Int32))] [] := by first | (simp [entryFrame, mkF, argsToLocals, Value.category]; done) | rfl
set_option maxRecDepth 65536 in
set_option maxHeartbeats 40000000 in
theorem ra3_16 (l : Launch) (Z : State) (a0 : Array Value) (hw : ∀ d ∈ tables_1, d.before a0 Z = true) (ob0 : Addr) (ob1 : Addr) (h0 : Heap) (n0 : Nat) (Z0 : n0 ≤ h0.size) (ga0 : n0 ≤ ob0) (ga1 : n0 ≤ ob1) (ne_0_1 : ob0 ≠ ob1) (G0 : Exa Z h0 ob0 "com/example/bulla/bulla/xml/TextPosition") (G1 : Fld Z h0 ob0 "com/example/bulla/bulla/xml/TextPosition" "line" "J" (.long (1 : Int64))) (G2 : Fld Z h0 ob0 "com/example/bulla/bulla/xml/TextPosition" "column" "J" (.long (1 : Int64))) (G3 : Fld Z h0 ob0 "com/example/bulla/bulla/xml/TextPosition" "shortfall" "J" (.long (0 : Int64))) (G4 : Fld Z h0 ob0 "com/example/bulla/bulla/xml/TextPosition" "afterReturn" "Z" (.int (0 : Int32))) (G5 : Fld Z h0 ob0 "com/example/bulla/bulla/xml/TextPosition" "afterLineEnd" "Z" (.int (0 : Int32))) (G6 : own_Ar Z h0 ob1 .byte [(.int (13 : Int32)), (.int (97 : Int32)), (.int (98 : Int32))]) :
    own_Met l Z (⟨"com/example/bulla/bulla/xml/TextPosition", "moveOver", "([BII)V"⟩ : MethodName) prog_169_method_6_code 4 none ({ frames := 2, cells := 0, slots := 0, locals := 41 } : Room) #[(.ref ob0), (.ref ob1), (.int (0 : Int32)), (.int (3 : Int32))] h0 n0 (fun v' h' => v' = none ∧ Keep h0 h' [ob0] ∧ Exa Z h' ob0 "com/example/bulla/bulla/xml/TextPosition" ∧ Fld Z h' ob0 "com/example/bulla/bulla/xml/TextPosition" "line" "J" (.long (2 : Int64)) ∧ Fld Z h' ob0 "com/example/bulla/bulla/xml/TextPosition" "column" "J" (.long (3 : Int64)) ∧ Fld Z h' ob0 "com/example/bulla/bulla/xml/TextPosition" "shortfall" "J" (.long (1 : Int64)) ∧ Fld Z h' ob0 "com/example/bulla/bulla/xml/TextPosition" "afterReturn" "Z" (.int (0 : Int32)) ∧ Fld Z h' ob0 "com/example/bulla/bulla/xml/TextPosition" "afterLineEnd" "Z" (.int (0 : Int32))) := by
  refine own_body (plainFor_of_name pn_5) (fun m => ef_ra3_16 m ob0 ob1) Z0 ?_
  intro p e s m below meth c T0 cx X0
  have KK := Keep.refl h0 [ob0]
  show own_Go p e below _ (T0.setTop (mkF m 0 #[.val (.ref ob0), .val (.ref ob1), .val (.int (0 : Int32)), .val (.int (3 : Int32))] []))
  refine o_aloadN cx X0 d3_0 rfl rfl ?_
  refine o_aloadN cx X0 d3_1 rfl rfl ?_
  refine o_iloadN cx X0 d3_2 rfl ?_
  refine o_iloadN cx X0 d3_3 rfl ?_
  refine o_iconst cx X0 (z := (0 : Int32)) d3_4 rfl ?_
  refine o_callP cx X0 (y' := (⟨"com/example/bulla/bulla/xml/TextPosition", "move", "([BIIZ)V"⟩ : MethodName)) (argsL := [(.ref ob1), (.int (0 : Int32)), (.int (3 : Int32)), (.int (0 : Int32))]) (st := []) (a := ob0) d3_5 (o_w hw 20 rfl) (o_w hw 22 rfl) (o_w hw 18 rfl) rfl (o_w hw 21 rfl) (o_w hw 4 rfl) (o_w hw 23 rfl) (by decide) G0 (ra4_17 l Z a0 hw ob0 ob1 h0 n0 X0.ge0 ga0 ga1 ne_0_1 G0 G1 G2 G3 G4 G5 G6) (by decide) 0 rfl (by decide) rfl (lenOf pd_4 rfl) rfl rfl (by decide) (by decide) fun v339 T336 h338 X337 Q340 => ?_
  obtain ⟨rfl, K341, E342, F343, F344, F345, F346, F347⟩ := Q340
  have G6 := G6.keep K341 (ninS (Ne.symm ne_0_1) nin0)
  have KK := KK.trans K341 (allS (Or.inl (List.mem_of_getElem? (i := 0) rfl)) all0)
  show own_Go p e below _ (T336.setTop (mkF m 8 #[.val (.ref ob0), .val (.ref ob1), .val (.int (0 : Int32)), .val (.int (3 : Int32))] []))
  exact o_retV cx X337 d3_8 ⟨rfl, KK, E342, F343, F344, F345, F346, F347⟩ (by decide) (by decide)
theorem ef_ra6_24 (m : MethodId) (ob0 : Addr) (ob1 : Addr) : entryFrame m #[(.ref ob0), (.ref ob1), (.int (0 : Int32)), (.int (3 : Int32)), (.int (2 : Int32))] 7 = mkF m 0 #[.val (.ref ob0), .val (.ref ob1), .val (.int (0 : Int32)), .val (.int (3 : Int32)), .val (.int (2 : Int32)), .unset, .unset] [] := by first | (simp [entryFrame, mkF, argsToLocals, Value.category]; done) | rfl
set_option maxRecDepth 65536 in
set_option maxHeartbeats 40000000 in
theorem ra6_24 (l : Launch) (Z : State) (a0 : Array Value) (hw : ∀ d ∈ tables_1, d.before a0 Z = true) (ob0 : Addr) (ob1 : Addr) (h0 : Heap) (n0 : Nat) (Z0 : n0 ≤ h0.size) (ga0 : n0 ≤ ob0) (ga1 : n0 ≤ ob1) (ne_0_1 : ob0 ≠ ob1) (G0 : Exa Z h0 ob0 "com/example/bulla/bulla/xml/TextPosition") (G1 : Fld Z h0 ob0 "com/example/bulla/bulla/xml/TextPosition" "line" "J" (.long (1 : Int64))) (G2 : Fld Z h0 ob0 "com/example/bulla/bulla/xml/TextPosition" "column" "J" (.long (1 : Int64))) (G3 : Fld Z h0 ob0 "com/example/bulla/bulla/xml/TextPosition" "shortfall" "J" (.long (0 : Int64))) (G4 : Fld Z h0 ob0 "com/example/bulla/bulla/xml/TextPosition" "afterReturn" "Z" (.int (0 : Int32))) (G5 : Fld Z h0 ob0 "com/example/bulla/bulla/xml/TextPosition" "afterLineEnd" "Z" (.int (0 : Int32))) (G6 : own_Ar Z h0 ob1 .byte [(.int (13 : Int32)), (.int (13 : Int32)), (.int (97 : Int32))]) :
    own_Met l Z (⟨"com/example/bulla/bulla/xml/TextPosition", "joinedLineFeeds", "([BIII)I"⟩ : MethodName) prog_169_method_10_code 7 (some .int) ({ frames := 0, cells := 0, slots := 0, locals := 0 } : Room) #[(.ref ob0), (.ref ob1), (.int (0 : Int32)), (.int (3 : Int32)), (.int (2 : Int32))] h0 n0 (fun v' h' => v' = some (.int (0 : Int32)) ∧ h' = h0) := by
  refine own_body (plainFor_of_name pn_5) (fun m => ef_ra6_24 m ob0 ob1) Z0 ?_
  intro p e s m below meth c T0 cx X0
  have KK := Keep.refl h0 []
  show own_Go p e below _ (T0.setTop (mkF m 0 #[.val (.ref ob0), .val (.ref ob1), .val (.int (0 : Int32)), .val (.int (3 : Int32)), .val (.int (2 : Int32)), .unset, .unset] []))
  refine o_aloadN cx X0 d6_0 rfl rfl ?_
  refine o_getF cx X0 d6_1 (o_w hw 37 rfl) G4 fun T425 X426 => ?_
  refine o_ifYes cx X426 19 d6_4 (by decide) (by decide) (by decide) ?_
  refine o_iconst cx X426 (z := (0 : Int32)) d6_19 rfl ?_
  refine o_istore cx X426 (Ls' := #[.val (.ref ob0), .val (.ref ob1), .val (.int (0 : Int32)), .val (.int (3 : Int32)), .val (.int (2 : Int32)), .val (.int (0 : Int32)), .unset]) d6_20 rfl ?_
  refine o_iloadN cx X426 d6_22 rfl ?_
  refine o_iconst cx X426 (z := (1 : Int32)) d6_23 rfl ?_
  refine o_iadd cx X426 (z := (1 : Int32)) d6_24 rfl ?_
  refine o_istore cx X426 (Ls' := #[.val (.ref ob0), .val (.ref ob1), .val (.int (0 : Int32)), .val (.int (3 : Int32)), .val (.int (2 : Int32)), .val (.int (0 : Int32)), .val (.int (1 : Int32))]) d6_25 rfl ?_
  refine o_iload cx X426 d6_27 rfl ?_
  refine o_ifNo cx X426 d6_29 (by decide) ?_
  refine o_iload cx X426 d6_32 rfl ?_
  refine o_iloadN cx X426 d6_34 rfl ?_
  refine o_icmpNo cx X426 d6_35 (by decide) ?_
  refine o_iload cx X426 d6_38 rfl ?_
  refine o_aloadN cx X426 d6_40 rfl rfl ?_
  refine o_iload cx X426 d6_41 rfl ?_
  refine o_ldB cx X426 (v := (.int (13 : Int32))) d6_43 G6 1 (by decide) rfl rfl ?_
  refine o_bipush cx X426 (z := (10 : Int32)) d6_44 rfl ?_
  refine o_icmpYes cx X426 64 d6_46 (by decide) (by decide) (by decide) ?_
  refine o_iconst cx X426 (z := (0 : Int32)) d6_64 rfl ?_
  refine o_iadd cx X426 (z := (0 : Int32)) d6_65 rfl ?_
  refine o_istore cx X426 (Ls' := #[.val (.ref ob0), .val (.ref ob1), .val (.int (0 : Int32)), .val (.int (3 : Int32)), .val (.int (2 : Int32)), .val (.int (0 : Int32)), .val (.int (1 : Int32))]) d6_66 rfl ?_
  refine o_iinc cx X426 (z := (2 : Int32)) (Ls' := #[.val (.ref ob0), .val (.ref ob1), .val (.int (0 : Int32)), .val (.int (3 : Int32)), .val (.int (2 : Int32)), .val (.int (0 : Int32)), .val (.int (2 : Int32))]) d6_68 rfl rfl rfl ?_
  refine o_goto cx X426 27 d6_71 (by decide) (by decide) ?_
  refine o_iload cx X426 d6_27 rfl ?_
  refine o_ifNo cx X426 d6_29 (by decide) ?_
  refine o_iload cx X426 d6_32 rfl ?_
  refine o_iloadN cx X426 d6_34 rfl ?_
  refine o_icmpNo cx X426 d6_35 (by decide) ?_
  refine o_iload cx X426 d6_38 rfl ?_
  refine o_aloadN cx X426 d6_40 rfl rfl ?_
  refine o_iload cx X426 d6_41 rfl ?_
  refine o_ldB cx X426 (v := (.int (97 : Int32))) d6_43 G6 2 (by decide) rfl rfl ?_
  refine o_bipush cx X426 (z := (10 : Int32)) d6_44 rfl ?_
  refine o_icmpYes cx X426 64 d6_46 (by decide) (by decide) (by decide) ?_
  refine o_iconst cx X426 (z := (0 : Int32)) d6_64 rfl ?_
  refine o_iadd cx X426 (z := (0 : Int32)) d6_65 rfl ?_
  refine o_istore cx X426 (Ls' := #[.val (.ref ob0), .val (.ref ob1), .val (.int (0 : Int32)), .val (.int (3 : Int32)), .val (.int (2 : Int32)), .val (.int (0 : Int32)), .val (.int (2 : Int32))]) d6_66 rfl ?_
  refine o_iinc cx X426 (z := (3 : Int32)) (Ls' := #[.val (.ref ob0), .val (.ref ob1), .val (.int (0 : Int32)), .val (.int (3 : Int32)), .val (.int (2 : Int32)), .val (.int (0 : Int32)), .val (.int (3 : Int32))]) d6_68 rfl rfl rfl ?_
  refine o_goto cx X426 27 d6_71 (by decide) (by decide) ?_
  refine o_iload cx X426 d6_27 rfl ?_
  refine o_ifNo cx X426 d6_29 (by decide) ?_
  refine o_iload cx X426 d6_32 rfl ?_
  refine o_iloadN cx X426 d6_34 rfl ?_
  refine o_icmpYes cx X426 74 d6_35 (by decide) (by decide) (by decide) ?_
  refine o_iload cx X426 d6_74 rfl ?_
  exact o_retI cx X426 d6_76 ⟨rfl, rfl⟩ (by decide) (by decide)
theorem d8_9 : decode prog_169_method_11_code 9 = .ok (.aload_n 1, 1) := by decide +kernel
theorem d8_10 : decode prog_169_method_11_code 10 = .ok (.iload 4, 2) := by decide +kernel
theorem d8_12 : decode prog_169_method_11_code 12 = .ok (.iconst 1, 1) := by decide +kernel
theorem d8_13 : decode prog_169_method_11_code 13 = .ok (.isub, 1) := by decide +kernel
theorem d8_14 : decode prog_169_method_11_code 14 = .ok (.baload, 1) := by decide +kernel
theorem d8_15 : decode prog_169_method_11_code 15 = .ok (.invokestatic 27, 3) := by decide +kernel
theorem d8_18 : decode prog_169_method_11_code 18 = .ok (.ifCond .eq 9, 3) := by decide +kernel
theorem d8_21 : decode prog_169_method_11_code 21 = .ok (.iinc 4 (-1), 3) := by decide +kernel
theorem d8_24 : decode prog_169_method_11_code 24 = .ok (.goto (-21), 3) := by decide +kernel
theorem d8_57 : decode prog_169_method_11_code 57 = .ok (.aload_n 1, 1) := by decide +kernel
theorem d8_58 : decode prog_169_method_11_code 58 = .ok (.iload 7, 2) := by decide +kernel
theorem d8_60 : decode prog_169_method_11_code 60 = .ok (.iconst 1, 1) := by decide +kernel
theorem d8_61 : decode prog_169_method_11_code 61 = .ok (.iadd, 1) := by decide +kernel
theorem d8_62 : decode prog_169_method_11_code 62 = .ok (.baload, 1) := by decide +kernel
theorem d8_63 : decode prog_169_method_11_code 63 = .ok (.bipush 10, 2) := by decide +kernel
theorem d8_65 : decode prog_169_method_11_code 65 = .ok (.if_icmp .eq 7, 3) := by decide +kernel
theorem ef_ra8_25 (m : MethodId) (ob0 : Addr) (ob1 : Addr) : entryFrame m #[(.ref ob0), (.ref ob1), (.int (0 : Int32)), (.int (1 : Int32))] 8 = mkF m 0 #[.val (.ref ob0), .val (.ref ob1), .val (.int (0 : Int32)), .val (.int (1 : Int32)), .unset, .unset, .unset, .unset] [] := by first | (simp [entryFrame, mkF, argsToLocals, Value.category]; done) | rfl
set_option maxRecDepth 65536 in
set_option maxHeartbeats 40000000 in
theorem ra8_25 (l : Launch) (Z : State) (a0 : Array Value) (hw : ∀ d ∈ tables_1, d.before a0 Z = true) (ob0 : Addr) (ob1 : Addr) (h0 : Heap) (n0 : Nat) (Z0 : n0 ≤ h0.size) (ga0 : n0 ≤ ob0) (ga1 : n0 ≤ ob1) (ne_0_1 : ob0 ≠ ob1) (G0 : Exa Z h0 ob0 "com/example/bulla/bulla/xml/TextPosition") (G1 : Fld Z h0 ob0 "com/example/bulla/bulla/xml/TextPosition" "line" "J" (.long (3 : Int64))) (G2 : Fld Z h0 ob0 "com/example/bulla/bulla/xml/TextPosition" "column" "J" (.long (1 : Int64))) (G3 : Fld Z h0 ob0 "com/example/bulla/bulla/xml/TextPosition" "shortfall" "J" (.long (0 : Int64))) (G4 : Fld Z h0 ob0 "com/example/bulla/bulla/xml/TextPosition" "afterReturn" "Z" (.int (0 : Int32))) (G5 : Fld Z h0 ob0 "com/example/bulla/bulla/xml/TextPosition" "afterLineEnd" "Z" (.int (0 : Int32))) (G6 : own_Ar Z h0 ob1 .byte [(.int (13 : Int32)), (.int (13 : Int32)), (.int (97 : Int32))]) :
    own_Met l Z (⟨"com/example/bulla/bulla/xml/TextPosition", "returnsAlone", "([BII)J"⟩ : MethodName) prog_169_method_11_code 8 (some .long) ({ frames := 1, cells := 0, slots := 0, locals := 12 } : Room) #[(.ref ob0), (.ref ob1), (.int (0 : Int32)), (.int (1 : Int32))] h0 n0 (fun v' h' => v' = some (.long (2 : Int64)) ∧ h' = h0) := by
  refine own_body (plainFor_of_name pn_5) (fun m => ef_ra8_25 m ob0 ob1) Z0 ?_
  intro p e s m below meth c T0 cx X0
  have KK := Keep.refl h0 []
  show own_Go p e below _ (T0.setTop (mkF m 0 #[.val (.ref ob0), .val (.ref ob1), .val (.int (0 : Int32)), .val (.int (1 : Int32)), .unset, .unset, .unset, .unset] []))
  refine o_iloadN cx X0 d8_0 rfl ?_
  refine o_istore cx X0 (Ls' := #[.val (.ref ob0), .val (.ref ob1), .val (.int (0 : Int32)), .val (.int (1 : Int32)), .val (.int (1 : Int32)), .unset, .unset, .unset]) d8_1 rfl ?_
  refine o_iload cx X0 d8_3 rfl ?_
  refine o_iloadN cx X0 d8_5 rfl ?_
  refine o_icmpNo cx X0 d8_6 (by decide) ?_
  refine o_aloadN cx X0 d8_9 rfl rfl ?_
  refine o_iload cx X0 d8_10 rfl ?_
  refine o_iconst cx X0 (z := (1 : Int32)) d8_12 rfl ?_
  refine o_isub cx X0 (z := (0 : Int32)) d8_13 rfl ?_
  refine o_ldB cx X0 (v := (.int (13 : Int32))) d8_14 G6 0 (by decide) rfl rfl ?_
  refine o_callSp cx X0 (y' := (⟨"com/example/bulla/bulla/xml/TextPosition", "isLineEnd", "(B)Z"⟩ : MethodName)) (argsL := [(.int (13 : Int32))]) (st := []) d8_15 (o_w hw 39 rfl) (o_w hw 40 rfl) (o_w hw 4 rfl) (o_w hw 41 rfl) (by decide) (ra7_19 l Z a0 hw  h0 n0 X0.ge0 ) (by decide) 0 rfl (by decide) rfl (lenOf pd_7 rfl) rfl rfl (by decide) (by decide) fun T453 X454 => ?_
  show own_Go p e below _ (T453.setTop (mkF m 18 #[.val (.ref ob0), .val (.ref ob1), .val (.int (0 : Int32)), .val (.int (1 : Int32)), .val (.int (1 : Int32)), .unset, .unset, .unset] [(.int (1 : Int32))]))
  refine o_ifNo cx X454 d8_18 (by decide) ?_
  refine o_iinc cx X454 (z := (0 : Int32)) (Ls' := #[.val (.ref ob0), .val (.ref ob1), .val (.int (0 : Int32)), .val (.int (1 : Int32)), .val (.int (0 : Int32)), .unset, .unset, .unset]) d8_21 rfl rfl rfl ?_
  refine o_goto cx X454 3 d8_24 (by decide) (by decide) ?_
  refine o_iload cx X454 d8_3 rfl ?_
  refine o_iloadN cx X454 d8_5 rfl ?_
  refine o_icmpYes cx X454 27 d8_6 (by decide) (by decide) (by decide) ?_
  refine o_lconst cx X454 (z := (0 : Int64)) d8_27 rfl ?_
  refine o_lstore cx X454 (Ls' := #[.val (.ref ob0), .val (.ref ob1), .val (.int (0 : Int32)), .val (.int (1 : Int32)), .val (.int (0 : Int32)), .val (.long (0 : Int64)), .second, .unset]) d8_28 rfl ?_
  refine o_iload cx X454 d8_30 rfl ?_
  refine o_istore cx X454 (Ls' := #[.val (.ref ob0), .val (.ref ob1), .val (.int (0 : Int32)), .val (.int (1 : Int32)), .val (.int (0 : Int32)), .val (.long (0 : Int64)), .second, .val (.int (0 : Int32))]) d8_32 rfl ?_
  refine o_iload cx X454 d8_34 rfl ?_
  refine o_iloadN cx X454 d8_36 rfl ?_
  refine o_icmpNo cx X454 d8_37 (by decide) ?_
  refine o_lload cx X454 d8_40 rfl ?_
  refine o_aloadN cx X454 d8_42 rfl rfl ?_
  refine o_iload cx X454 d8_43 rfl ?_
  refine o_ldB cx X454 (v := (.int (13 : Int32))) d8_45 G6 0 (by decide) rfl rfl ?_
  refine o_bipush cx X454 (z := (13 : Int32)) d8_46 rfl ?_
  refine o_icmpNo cx X454 d8_48 (by decide) ?_
  refine o_iload cx X454 d8_51 rfl ?_
  refine o_iloadN cx X454 d8_53 rfl ?_
  refine o_icmpNo cx X454 d8_54 (by decide) ?_
  refine o_aloadN cx X454 d8_57 rfl rfl ?_
  refine o_iload cx X454 d8_58 rfl ?_
  refine o_iconst cx X454 (z := (1 : Int32)) d8_60 rfl ?_
  refine o_iadd cx X454 (z := (1 : Int32)) d8_61 rfl ?_
  refine o_ldB cx X454 (v := (.int (13 : Int32))) d8_62 G6 1 (by decide) rfl rfl ?_
  refine o_bipush cx X454 (z := (10 : Int32)) d8_63 rfl ?_
  refine o_icmpNo cx X454 d8_65 (by decide) ?_
  refine o_lconst cx X454 (z := (1 : Int64)) d8_68 rfl ?_
  refine o_goto cx X454 73 d8_69 (by decide) (by decide) ?_
  refine o_ladd cx X454 (z := (1 : Int64)) d8_73 rfl ?_
  refine o_lstore cx X454 (Ls' := #[.val (.ref ob0), .val (.ref ob1), .val (.int (0 : Int32)), .val (.int (1 : Int32)), .val (.int (0 : Int32)), .val (.long (1 : Int64)), .second, .val (.int (0 : Int32))]) d8_74 rfl ?_
  refine o_iinc cx X454 (z := (1 : Int32)) (Ls' := #[.val (.ref ob0), .val (.ref ob1), .val (.int (0 : Int32)), .val (.int (1 : Int32)), .val (.int (0 : Int32)), .val (.long (1 : Int64)), .second, .val (.int (1 : Int32))]) d8_76 rfl rfl rfl ?_
  refine o_goto cx X454 34 d8_79 (by decide) (by decide) ?_
  refine o_iload cx X454 d8_34 rfl ?_
  refine o_iloadN cx X454 d8_36 rfl ?_
  refine o_icmpNo cx X454 d8_37 (by decide) ?_
  refine o_lload cx X454 d8_40 rfl ?_
  refine o_aloadN cx X454 d8_42 rfl rfl ?_
  refine o_iload cx X454 d8_43 rfl ?_
  refine o_ldB cx X454 (v := (.int (13 : Int32))) d8_45 G6 1 (by decide) rfl rfl ?_
  refine o_bipush cx X454 (z := (13 : Int32)) d8_46 rfl ?_
  refine o_icmpNo cx X454 d8_48 (by decide) ?_
  refine o_iload cx X454 d8_51 rfl ?_
  refine o_iloadN cx X454 d8_53 rfl ?_
  refine o_icmpYes cx X454 68 d8_54 (by decide) (by decide) (by decide) ?_
  refine o_lconst cx X454 (z := (1 : Int64)) d8_68 rfl ?_
  refine o_goto cx X454 73 d8_69 (by decide) (by decide) ?_
  refine o_ladd cx X454 (z := (2 : Int64)) d8_73 rfl ?_
  refine o_lstore cx X454 (Ls' := #[.val (.ref ob0), .val (.ref ob1), .val (.int (0 : Int32)), .val (.int (1 : Int32)), .val (.int (0 : Int32)), .val (.long (2 : Int64)), .second, .val (.int (1 : Int32))]) d8_74 rfl ?_
  refine o_iinc cx X454 (z := (2 : Int32)) (Ls' := #[.val (.ref ob0), .val (.ref ob1), .val (.int (0 : Int32)), .val (.int (1 : Int32)), .val (.int (0 : Int32)), .val (.long (2 : Int64)), .second, .val (.int (2 : Int32))]) d8_76 rfl rfl rfl ?_
  refine o_goto cx X454 34 d8_79 (by decide) (by decide) ?_
  refine o_iload cx X454 d8_34 rfl ?_
  refine o_iloadN cx X454 d8_36 rfl ?_
  refine o_icmpYes cx X454 82 d8_37 (by decide) (by decide) (by decide) ?_
  refine o_iload cx X454 d8_82 rfl ?_
  refine o_iloadN cx X454 d8_84 rfl ?_
  refine o_icmpNo cx X454 d8_85 (by decide) ?_
  refine o_aloadN cx X454 d8_88 rfl rfl ?_
  refine o_getF cx X454 d8_89 (o_w hw 46 rfl) G5 fun T458 X459 => ?_
  refine o_ifYes cx X459 126 d8_92 (by decide) (by decide) (by decide) ?_
  refine o_lload cx X459 d8_126 rfl ?_
  exact o_retJ cx X459 d8_128 ⟨rfl, rfl⟩ (by decide) (by decide)
theorem ef_ra9_26 (m : MethodId) (ob0 : Addr) : entryFrame m #[(.ref ob0), (.int (2 : Int32)), (.int (3 : Int32))] 7 = mkF m 0 #[.val (.ref ob0), .val (.int (2 : Int32)), .val (.int (3 : Int32)), .unset, .unset, .unset, .unset] [] := by first | (simp [entryFrame, mkF, argsToLocals, Value.category]; done) | rfl
set_option maxRecDepth 65536 in
set_option maxHeartbeats 40000000 in
theorem ra9_26 (l : Launch) (Z : State) (a0 : Array Value) (hw : ∀ d ∈ tables_1, d.before a0 Z = true) (ob0 : Addr) (h0 : Heap) (n0 : Nat) (Z0 : n0 ≤ h0.size) (ga0 : n0 ≤ ob0) (G0 : own_Ar Z h0 ob0 .byte [(.int (13 : Int32)), (.int (13 : Int32)), (.int (97 : Int32))]) :
    own_Met l Z (⟨"com/example/bulla/bulla/xml/TextPosition", "columns", "([BII)J"⟩ : MethodName) prog_169_method_13_code 7 (some .long) ({ frames := 0, cells := 0, slots := 0, locals := 0 } : Room) #[(.ref ob0), (.int (2 : Int32)), (.int (3 : Int32))] h0 n0 (fun v' h' => v' = some (.long (1 : Int64)) ∧ h' = h0) := by
  refine own_body (plainFor_of_name pn_5) (fun m => ef_ra9_26 m ob0) Z0 ?_
  intro p e s m below meth c T0 cx X0
  have KK := Keep.refl h0 []
  show own_Go p e below _ (T0.setTop (mkF m 0 #[.val (.ref ob0), .val (.int (2 : Int32)), .val (.int (3 : Int32)), .unset, .unset, .unset, .unset] []))
  refine o_lconst cx X0 (z := (0 : Int64)) d9_0 rfl ?_
  refine o_lstoreN cx X0 (Ls' := #[.val (.ref ob0), .val (.int (2 : Int32)), .val (.int (3 : Int32)), .val (.long (0 : Int64)), .second, .unset, .unset]) d9_1 rfl ?_
  refine o_iloadN cx X0 d9_2 rfl ?_
  refine o_istore cx X0 (Ls' := #[.val (.ref ob0), .val (.int (2 : Int32)), .val (.int (3 : Int32)), .val (.long (0 : Int64)), .second, .val (.int (2 : Int32)), .unset]) d9_3 rfl ?_
  refine o_iload cx X0 d9_5 rfl ?_
  refine o_iloadN cx X0 d9_7 rfl ?_
  refine o_icmpNo cx X0 d9_8 (by decide) ?_
  refine o_aloadN cx X0 d9_11 rfl rfl ?_
  refine o_iload cx X0 d9_12 rfl ?_
  refine o_ldB cx X0 (v := (.int (97 : Int32))) d9_14 G0 2 (by decide) rfl rfl ?_
  refine o_sipush cx X0 (z := (255 : Int32)) d9_15 rfl ?_
  refine o_iand cx X0 (z := (97 : Int32)) d9_18 rfl ?_
  refine o_istore cx X0 (Ls' := #[.val (.ref ob0), .val (.int (2 : Int32)), .val (.int (3 : Int32)), .val (.long (0 : Int64)), .second, .val (.int (2 : Int32)), .val (.int (97 : Int32))]) d9_19 rfl ?_
  refine o_lloadN cx X0 d9_21 rfl ?_
  refine o_iload cx X0 d9_22 rfl ?_
  refine o_sipush cx X0 (z := (192 : Int32)) d9_24 rfl ?_
  refine o_iand cx X0 (z := (64 : Int32)) d9_27 rfl ?_
  refine o_sipush cx X0 (z := (128 : Int32)) d9_28 rfl ?_
  refine o_icmpNo cx X0 d9_31 (by decide) ?_
  refine o_lconst cx X0 (z := (1 : Int64)) d9_34 rfl ?_
  refine o_goto cx X0 39 d9_35 (by decide) (by decide) ?_
  refine o_ladd cx X0 (z := (1 : Int64)) d9_39 rfl ?_
  refine o_lstoreN cx X0 (Ls' := #[.val (.ref ob0), .val (.int (2 : Int32)), .val (.int (3 : Int32)), .val (.long (1 : Int64)), .second, .val (.int (2 : Int32)), .val (.int (97 : Int32))]) d9_40 rfl ?_
  refine o_lloadN cx X0 d9_41 rfl ?_
  refine o_iload cx X0 d9_42 rfl ?_
  refine o_sipush cx X0 (z := (240 : Int32)) d9_44 rfl ?_
  refine o_icmpYes cx X0 54 d9_47 (by decide) (by decide) (by decide) ?_
  refine o_lconst cx X0 (z := (0 : Int64)) d9_54 rfl ?_
  refine o_ladd cx X0 (z := (1 : Int64)) d9_55 rfl ?_
  refine o_lstoreN cx X0 (Ls' := #[.val (.ref ob0), .val (.int (2 : Int32)), .val (.int (3 : Int32)), .val (.long (1 : Int64)), .second, .val (.int (2 : Int32)), .val (.int (97 : Int32))]) d9_56 rfl ?_
  refine o_iinc cx X0 (z := (3 : Int32)) (Ls' := #[.val (.ref ob0), .val (.int (2 : Int32)), .val (.int (3 : Int32)), .val (.long (1 : Int64)), .second, .val (.int (3 : Int32)), .val (.int (97 : Int32))]) d9_57 rfl rfl rfl ?_
  refine o_goto cx X0 5 d9_60 (by decide) (by decide) ?_
  refine o_iload cx X0 d9_5 rfl ?_
  refine o_iloadN cx X0 d9_7 rfl ?_
  refine o_icmpYes cx X0 63 d9_8 (by decide) (by decide) (by decide) ?_
  refine o_lloadN cx X0 d9_63 rfl ?_
  exact o_retJ cx X0 d9_64 ⟨rfl, rfl⟩ (by decide) (by decide)
theorem ef_ra4_23 (m : MethodId) (ob0 : Addr) (ob1 : Addr) : entryFrame m #[(.ref ob0), (.ref ob1), (.int (0 : Int32)), (.int (3 : Int32)), (.int (0 : Int32))] 8 = mkF m 0 #[.val (.ref ob0), .val (.ref ob1), .val (.int (0 : Int32)), .val (.int (3 : Int32)), .val (.int (0 : Int32)), .unset, .unset, .unset] [] := by first | (simp [entryFrame, mkF, argsToLocals, Value.category]; done) | rfl
set_option maxRecDepth 65536 in
set_option maxHeartbeats 40000000 in
theorem ra4_23 (l : Launch) (Z : State) (a0 : Array Value) (hw : ∀ d ∈ tables_1, d.before a0 Z = true) (ob0 : Addr) (ob1 : Addr) (h0 : Heap) (n0 : Nat) (Z0 : n0 ≤ h0.size) (ga0 : n0 ≤ ob0) (ga1 : n0 ≤ ob1) (ne_0_1 : ob0 ≠ ob1) (G0 : Exa Z h0 ob0 "com/example/bulla/bulla/xml/TextPosition") (G1 : Fld Z h0 ob0 "com/example/bulla/bulla/xml/TextPosition" "line" "J" (.long (1 : Int64))) (G2 : Fld Z h0 ob0 "com/example/bulla/bulla/xml/TextPosition" "column" "J" (.long (1 : Int64))) (G3 : Fld Z h0 ob0 "com/example/bulla/bulla/xml/TextPosition" "shortfall" "J" (.long (0 : Int64))) (G4 : Fld Z h0 ob0 "com/example/bulla/bulla/xml/TextPosition" "afterReturn" "Z" (.int (0 : Int32))) (G5 : Fld Z h0 ob0 "com/example/bulla/bulla/xml/TextPosition" "afterLineEnd" "Z" (.int (0 : Int32))) (G6 : own_Ar Z h0 ob1 .byte [(.int (13 : Int32)), (.int (13 : Int32)), (.int (97 : Int32))]) :
    own_Met l Z (⟨"com/example/bulla/bulla/xml/TextPosition", "move", "([BIIZ)V"⟩ : MethodName) prog_169_method_8_code 8 none ({ frames := 2, cells := 0, slots := 0, locals := 32 } : Room) #[(.ref ob0), (.ref ob1), (.int (0 : Int32)), (.int (3 : Int32)), (.int (0 : Int32))] h0 n0 (fun v' h' => v' = none ∧ Keep h0 h' [ob0] ∧ Exa Z h' ob0 "com/example/bulla/bulla/xml/TextPosition" ∧ Fld Z h' ob0 "com/example/bulla/bulla/xml/TextPosition" "line" "J" (.long (3 : Int64)) ∧ Fld Z h' ob0 "com/example/bulla/bulla/xml/TextPosition" "column" "J" (.long (2 : Int64)) ∧ Fld Z h' ob0 "com/example/bulla/bulla/xml/TextPosition" "shortfall" "J" (.long (2 : Int64)) ∧ Fld Z h' ob0 "com/example/bulla/bulla/xml/TextPosition" "afterReturn" "Z" (.int (0 : Int32)) ∧ Fld Z h' ob0 "com/example/bulla/bulla/xml/TextPosition" "afterLineEnd" "Z" (.int (0 : Int32))) := by
  refine own_body (plainFor_of_name pn_5) (fun m => ef_ra4_23 m ob0 ob1) Z0 ?_
  intro p e s m below meth c T0 cx X0
  have KK := Keep.refl h0 [ob0]
  show own_Go p e below _ (T0.setTop (mkF m 0 #[.val (.ref ob0), .val (.ref ob1), .val (.int (0 : Int32)), .val (.int (3 : Int32)), .val (.int (0 : Int32)), .unset, .unset, .unset] []))
  refine o_iloadN cx X0 d4_0 rfl ?_
  refine o_iloadN cx X0 d4_1 rfl ?_
  refine o_icmpYes cx X0 6 d4_2 (by decide) (by decide) (by decide) ?_
  refine o_iconst cx X0 (z := (0 : Int32)) d4_6 rfl ?_
  refine o_istore cx X0 (Ls' := #[.val (.ref ob0), .val (.ref ob1), .val (.int (0 : Int32)), .val (.int (3 : Int32)), .val (.int (0 : Int32)), .val (.int (0 : Int32)), .unset, .unset]) d4_7 rfl ?_
  refine o_iconst cx X0 (z := (0 : Int32)) d4_9 rfl ?_
  refine o_istore cx X0 (Ls' := #[.val (.ref ob0), .val (.ref ob1), .val (.int (0 : Int32)), .val (.int (3 : Int32)), .val (.int (0 : Int32)), .val (.int (0 : Int32)), .val (.int (0 : Int32)), .unset]) d4_10 rfl ?_
  refine o_iloadN cx X0 d4_12 rfl ?_
  refine o_istore cx X0 (Ls' := #[.val (.ref ob0), .val (.ref ob1), .val (.int (0 : Int32)), .val (.int (3 : Int32)), .val (.int (0 : Int32)), .val (.int (0 : Int32)), .val (.int (0 : Int32)), .val (.int (0 : Int32))]) d4_13 rfl ?_
  refine o_iload cx X0 d4_15 rfl ?_
  refine o_iloadN cx X0 d4_17 rfl ?_
  refine o_icmpNo cx X0 d4_18 (by decide) ?_
  refine o_iload cx X0 d4_21 rfl ?_
  refine o_aloadN cx X0 d4_23 rfl rfl ?_
  refine o_iload cx X0 d4_24 rfl ?_
  refine o_ldB cx X0 (v := (.int (13 : Int32))) d4_26 G6 0 (by decide) rfl rfl ?_
  refine o_bipush cx X0 (z := (10 : Int32)) d4_27 rfl ?_
  refine o_icmpYes cx X0 36 d4_29 (by decide) (by decide) (by decide) ?_
  refine o_iconst cx X0 (z := (0 : Int32)) d4_36 rfl ?_
  refine o_iadd cx X0 (z := (0 : Int32)) d4_37 rfl ?_
  refine o_istore cx X0 (Ls' := #[.val (.ref ob0), .val (.ref ob1), .val (.int (0 : Int32)), .val (.int (3 : Int32)), .val (.int (0 : Int32)), .val (.int (0 : Int32)), .val (.int (0 : Int32)), .val (.int (0 : Int32))]) d4_38 rfl ?_
  refine o_iload cx X0 d4_40 rfl ?_
  refine o_aloadN cx X0 d4_42 rfl rfl ?_
  refine o_iload cx X0 d4_43 rfl ?_
  refine o_ldB cx X0 (v := (.int (13 : Int32))) d4_45 G6 0 (by decide) rfl rfl ?_
  refine o_bipush cx X0 (z := (13 : Int32)) d4_46 rfl ?_
  refine o_icmpNo cx X0 d4_48 (by decide) ?_
  refine o_iconst cx X0 (z := (1 : Int32)) d4_51 rfl ?_
  refine o_goto cx X0 56 d4_52 (by decide) (by decide) ?_
  refine o_iadd cx X0 (z := (1 : Int32)) d4_56 rfl ?_
  refine o_istore cx X0 (Ls' := #[.val (.ref ob0), .val (.ref ob1), .val (.int (0 : Int32)), .val (.int (3 : Int32)), .val (.int (0 : Int32)), .val (.int (0 : Int32)), .val (.int (1 : Int32)), .val (.int (0 : Int32))]) d4_57 rfl ?_
  refine o_iinc cx X0 (z := (1 : Int32)) (Ls' := #[.val (.ref ob0), .val (.ref ob1), .val (.int (0 : Int32)), .val (.int (3 : Int32)), .val (.int (0 : Int32)), .val (.int (0 : Int32)), .val (.int (1 : Int32)), .val (.int (1 : Int32))]) d4_59 rfl rfl rfl ?_
  refine o_goto cx X0 15 d4_62 (by decide) (by decide) ?_
  refine o_iload cx X0 d4_15 rfl ?_
  refine o_iloadN cx X0 d4_17 rfl ?_
  refine o_icmpNo cx X0 d4_18 (by decide) ?_
  refine o_iload cx X0 d4_21 rfl ?_
  refine o_aloadN cx X0 d4_23 rfl rfl ?_
  refine o_iload cx X0 d4_24 rfl ?_
  refine o_ldB cx X0 (v := (.int (13 : Int32))) d4_26 G6 1 (by decide) rfl rfl ?_
  refine o_bipush cx X0 (z := (10 : Int32)) d4_27 rfl ?_
  refine o_icmpYes cx X0 36 d4_29 (by decide) (by decide) (by decide) ?_
  refine o_iconst cx X0 (z := (0 : Int32)) d4_36 rfl ?_
  refine o_iadd cx X0 (z := (0 : Int32)) d4_37 rfl ?_
  refine o_istore cx X0 (Ls' := #[.val (.ref ob0), .val (.ref ob1), .val (.int (0 : Int32)), .val (.int (3 : Int32)), .val (.int (0 : Int32)), .val (.int (0 : Int32)), .val (.int (1 : Int32)), .val (.int (1 : Int32))]) d4_38 rfl ?_
  refine o_iload cx X0 d4_40 rfl ?_
  refine o_aloadN cx X0 d4_42 rfl rfl ?_
  refine o_iload cx X0 d4_43 rfl ?_
  refine o_ldB cx X0 (v := (.int (13 : Int32))) d4_45 G6 1 (by decide) rfl rfl ?_
  refine o_bipush cx X0 (z := (13 : Int32)) d4_46 rfl ?_
  refine o_icmpNo cx X0 d4_48 (by decide) ?_
  refine o_iconst cx X0 (z := (1 : Int32)) d4_51 rfl ?_
  refine o_goto cx X0 56 d4_52 (by decide) (by decide) ?_
  refine o_iadd cx X0 (z := (2 : Int32)) d4_56 rfl ?_
  refine o_istore cx X0 (Ls' := #[.val (.ref ob0), .val (.ref ob1), .val (.int (0 : Int32)), .val (.int (3 : Int32)), .val (.int (0 : Int32)), .val (.int (0 : Int32)), .val (.int (2 : Int32)), .val (.int (1 : Int32))]) d4_57 rfl ?_
  refine o_iinc cx X0 (z := (2 : Int32)) (Ls' := #[.val (.ref ob0), .val (.ref ob1), .val (.int (0 : Int32)), .val (.int (3 : Int32)), .val (.int (0 : Int32)), .val (.int (0 : Int32)), .val (.int (2 : Int32)), .val (.int (2 : Int32))]) d4_59 rfl rfl rfl ?_
  refine o_goto cx X0 15 d4_62 (by decide) (by decide) ?_
  refine o_iload cx X0 d4_15 rfl ?_
  refine o_iloadN cx X0 d4_17 rfl ?_
  refine o_icmpNo cx X0 d4_18 (by decide) ?_
  refine o_iload cx X0 d4_21 rfl ?_
  refine o_aloadN cx X0 d4_23 rfl rfl ?_
  refine o_iload cx X0 d4_24 rfl ?_
  refine o_ldB cx X0 (v := (.int (97 : Int32))) d4_26 G6 2 (by decide) rfl rfl ?_
  refine o_bipush cx X0 (z := (10 : Int32)) d4_27 rfl ?_
  refine o_icmpYes cx X0 36 d4_29 (by decide) (by decide) (by decide) ?_
  refine o_iconst cx X0 (z := (0 : Int32)) d4_36 rfl ?_
  refine o_iadd cx X0 (z := (0 : Int32)) d4_37 rfl ?_
  refine o_istore cx X0 (Ls' := #[.val (.ref ob0), .val (.ref ob1), .val (.int (0 : Int32)), .val (.int (3 : Int32)), .val (.int (0 : Int32)), .val (.int (0 : Int32)), .val (.int (2 : Int32)), .val (.int (2 : Int32))]) d4_38 rfl ?_
  refine o_iload cx X0 d4_40 rfl ?_
  refine o_aloadN cx X0 d4_42 rfl rfl ?_
  refine o_iload cx X0 d4_43 rfl ?_
  refine o_ldB cx X0 (v := (.int (97 : Int32))) d4_45 G6 2 (by decide) rfl rfl ?_
  refine o_bipush cx X0 (z := (13 : Int32)) d4_46 rfl ?_
  refine o_icmpYes cx X0 55 d4_48 (by decide) (by decide) (by decide) ?_
  refine o_iconst cx X0 (z := (0 : Int32)) d4_55 rfl ?_
  refine o_iadd cx X0 (z := (2 : Int32)) d4_56 rfl ?_
  refine o_istore cx X0 (Ls' := #[.val (.ref ob0), .val (.ref ob1), .val (.int (0 : Int32)), .val (.int (3 : Int32)), .val (.int (0 : Int32)), .val (.int (0 : Int32)), .val (.int (2 : Int32)), .val (.int (2 : Int32))]) d4_57 rfl ?_
  refine o_iinc cx X0 (z := (3 : Int32)) (Ls' := #[.val (.ref ob0), .val (.ref ob1), .val (.int (0 : Int32)), .val (.int (3 : Int32)), .val (.int (0 : Int32)), .val (.int (0 : Int32)), .val (.int (2 : Int32)), .val (.int (3 : Int32))]) d4_59 rfl rfl rfl ?_
  refine o_goto cx X0 15 d4_62 (by decide) (by decide) ?_
  refine o_iload cx X0 d4_15 rfl ?_
  refine o_iloadN cx X0 d4_17 rfl ?_
  refine o_icmpYes cx X0 65 d4_18 (by decide) (by decide) (by decide) ?_
  refine o_aloadN cx X0 d4_65 rfl rfl ?_
  refine o_dup cx X0 d4_66 rfl ?_
  refine o_getF cx X0 d4_67 (o_w hw 11 rfl) G1 fun T473 X474 => ?_
  refine o_iload cx X474 d4_70 rfl ?_
  refine o_iload cx X474 d4_72 rfl ?_
  refine o_iadd cx X474 (z := (2 : Int32)) d4_74 rfl ?_
  refine o_aloadN cx X474 d4_75 rfl rfl ?_
  refine o_aloadN cx X474 d4_76 rfl rfl ?_
  refine o_iloadN cx X474 d4_77 rfl ?_
  refine o_iloadN cx X474 d4_78 rfl ?_
  refine o_iload cx X474 d4_79 rfl ?_
  refine o_callPp cx X474 (y' := (⟨"com/example/bulla/bulla/xml/TextPosition", "joinedLineFeeds", "([BIII)I"⟩ : MethodName)) (argsL := [(.ref ob1), (.int (0 : Int32)), (.int (3 : Int32)), (.int (2 : Int32))]) (st := [(.int (2 : Int32)), (.long (1 : Int64)), (.ref ob0)]) (a := ob0) d4_81 (o_w hw 33 rfl) (o_w hw 35 rfl) (o_w hw 18 rfl) rfl (o_w hw 34 rfl) (o_w hw 4 rfl) (o_w hw 36 rfl) (by decide) G0 (ra6_24 l Z a0 hw ob0 ob1 h0 n0 X474.ge0 ga0 ga1 ne_0_1 G0 G1 G2 G3 G4 G5 G6) (by decide) 4 rfl (by decide) rfl (lenOf pd_6 rfl) rfl rfl (by decide) (by decide) fun T475 X476 => ?_
  show own_Go p e below _ (T475.setTop (mkF m 84 #[.val (.ref ob0), .val (.ref ob1), .val (.int (0 : Int32)), .val (.int (3 : Int32)), .val (.int (0 : Int32)), .val (.int (0 : Int32)), .val (.int (2 : Int32)), .val (.int (3 : Int32))] [(.int (0 : Int32)), (.int (2 : Int32)), (.long (1 : Int64)), (.ref ob0)]))
  refine o_isub cx X476 (z := (2 : Int32)) d4_84 rfl ?_
  refine o_i2l cx X476 (z := (2 : Int64)) d4_85 rfl ?_
  refine o_ladd cx X476 (z := (3 : Int64)) d4_86 rfl ?_
  refine o_putF cx X476 (v' := (.long (3 : Int64))) (ty := .long) d4_87 (o_w hw 11 rfl) G1 G0 (Or.inl (o_w hw 12 rfl)) (o_w hw 3 rfl) (by decide) rfl rfl ga0 fun T480 h482 X481 W483 => ?_
  have G0 := G0.wr W483
  have G1 := G1.same W483
  have G2 := G2.other W483 (Or.inr (slot_ne (Or.inl (o_w hw 14 rfl)) (Or.inl (o_w hw 12 rfl)) (by decide) (t := .long) (t' := .long) (by decide) (by decide)))
  have G3 := G3.other W483 (Or.inr (slot_ne (Or.inl (o_w hw 30 rfl)) (Or.inl (o_w hw 12 rfl)) (by decide) (t := .long) (t' := .long) (by decide) (by decide)))
  have G4 := G4.other W483 (Or.inr (slot_ne (Or.inl (o_w hw 38 rfl)) (Or.inl (o_w hw 12 rfl)) (by decide) (t := .boolean) (t' := .long) (by decide) (by decide)))
  have G5 := G5.other W483 (Or.inr (slot_ne (Or.inl (o_w hw 47 rfl)) (Or.inl (o_w hw 12 rfl)) (by decide) (t := .boolean) (t' := .long) (by decide) (by decide)))
  have G6 := G6.other W483 (Ne.symm ne_0_1)
  have KK := KK.wr W483 (Or.inl (List.mem_of_getElem? (i := 0) rfl))
  refine o_iloadN cx X481 d4_90 rfl ?_
  refine o_iconst cx X481 (z := (1 : Int32)) d4_91 rfl ?_
  refine o_isub cx X481 (z := (2 : Int32)) d4_92 rfl ?_
  refine o_istore cx X481 (Ls' := #[.val (.ref ob0), .val (.ref ob1), .val (.int (0 : Int32)), .val (.int (3 : Int32)), .val (.int (0 : Int32)), .val (.int (0 : Int32)), .val (.int (2 : Int32)), .val (.int (2 : Int32))]) d4_93 rfl ?_
  refine o_iload cx X481 d4_95 rfl ?_
  refine o_iloadN cx X481 d4_97 rfl ?_
  refine o_icmpNo cx X481 d4_98 (by decide) ?_
  refine o_aloadN cx X481 d4_101 rfl rfl ?_
  refine o_iload cx X481 d4_102 rfl ?_
  refine o_ldB cx X481 (v := (.int (97 : Int32))) d4_104 G6 2 (by decide) rfl rfl ?_
  refine o_callSp cx X481 (y' := (⟨"com/example/bulla/bulla/xml/TextPosition", "isLineEnd", "(B)Z"⟩ : MethodName)) (argsL := [(.int (97 : Int32))]) (st := []) d4_105 (o_w hw 39 rfl) (o_w hw 40 rfl) (o_w hw 4 rfl) (o_w hw 41 rfl) (by decide) (ra7_8 l Z a0 hw  h482 n0 X481.ge0 ) (by decide) 0 rfl (by decide) rfl (lenOf pd_7 rfl) rfl rfl (by decide) (by decide) fun T484 X485 => ?_
  show own_Go p e below _ (T484.setTop (mkF m 108 #[.val (.ref ob0), .val (.ref ob1), .val (.int (0 : Int32)), .val (.int (3 : Int32)), .val (.int (0 : Int32)), .val (.int (0 : Int32)), .val (.int (2 : Int32)), .val (.int (2 : Int32))] [(.int (0 : Int32))]))
  refine o_ifNo cx X485 d4_108 (by decide) ?_
  refine o_iinc cx X485 (z := (1 : Int32)) (Ls' := #[.val (.ref ob0), .val (.ref ob1), .val (.int (0 : Int32)), .val (.int (3 : Int32)), .val (.int (0 : Int32)), .val (.int (0 : Int32)), .val (.int (2 : Int32)), .val (.int (1 : Int32))]) d4_111 rfl rfl rfl ?_
  refine o_goto cx X485 95 d4_114 (by decide) (by decide) ?_
  refine o_iload cx X485 d4_95 rfl ?_
  refine o_iloadN cx X485 d4_97 rfl ?_
  refine o_icmpNo cx X485 d4_98 (by decide) ?_
  refine o_aloadN cx X485 d4_101 rfl rfl ?_
  refine o_iload cx X485 d4_102 rfl ?_
  refine o_ldB cx X485 (v := (.int (13 : Int32))) d4_104 G6 1 (by decide) rfl rfl ?_
  refine o_callSp cx X485 (y' := (⟨"com/example/bulla/bulla/xml/TextPosition", "isLineEnd", "(B)Z"⟩ : MethodName)) (argsL := [(.int (13 : Int32))]) (st := []) d4_105 (o_w hw 39 rfl) (o_w hw 40 rfl) (o_w hw 4 rfl) (o_w hw 41 rfl) (by decide) (ra7_19 l Z a0 hw  h482 n0 X485.ge0 ) (by decide) 0 rfl (by decide) rfl (lenOf pd_7 rfl) rfl rfl (by decide) (by decide) fun T489 X490 => ?_
  show own_Go p e below _ (T489.setTop (mkF m 108 #[.val (.ref ob0), .val (.ref ob1), .val (.int (0 : Int32)), .val (.int (3 : Int32)), .val (.int (0 : Int32)), .val (.int (0 : Int32)), .val (.int (2 : Int32)), .val (.int (1 : Int32))] [(.int (1 : Int32))]))
  refine o_ifYes cx X490 117 d4_108 (by decide) (by decide) (by decide) ?_
  refine o_iload cx X490 d4_117 rfl ?_
  refine o_iloadN cx X490 d4_119 rfl ?_
  refine o_icmpYes cx X490 141 d4_120 (by decide) (by decide) (by decide) ?_
  refine o_aloadN cx X490 d4_141 rfl rfl ?_
  refine o_iload cx X490 d4_142 rfl ?_
  refine o_ifYes cx X490 151 d4_144 (by decide) (by decide) (by decide) ?_
  refine o_aloadN cx X490 d4_151 rfl rfl ?_
  refine o_aloadN cx X490 d4_152 rfl rfl ?_
  refine o_iloadN cx X490 d4_153 rfl ?_
  refine o_iload cx X490 d4_154 rfl ?_
  refine o_callPp cx X490 (y' := (⟨"com/example/bulla/bulla/xml/TextPosition", "returnsAlone", "([BII)J"⟩ : MethodName)) (argsL := [(.ref ob1), (.int (0 : Int32)), (.int (1 : Int32))]) (st := [(.ref ob0)]) (a := ob0) d4_156 (o_w hw 42 rfl) (o_w hw 44 rfl) (o_w hw 18 rfl) rfl (o_w hw 43 rfl) (o_w hw 4 rfl) (o_w hw 45 rfl) (by decide) G0 (ra8_25 l Z a0 hw ob0 ob1 h482 n0 X490.ge0 ga0 ga1 ne_0_1 G0 G1 G2 G3 G4 G5 G6) (by decide) 1 rfl (by decide) rfl (lenOf pd_8 rfl) rfl rfl (by decide) (by decide) fun T494 X495 => ?_
  show own_Go p e below _ (T494.setTop (mkF m 159 #[.val (.ref ob0), .val (.ref ob1), .val (.int (0 : Int32)), .val (.int (3 : Int32)), .val (.int (0 : Int32)), .val (.int (0 : Int32)), .val (.int (2 : Int32)), .val (.int (1 : Int32))] [(.long (2 : Int64)), (.ref ob0)]))
  refine o_putF cx X495 (v' := (.long (2 : Int64))) (ty := .long) d4_159 (o_w hw 29 rfl) G3 G0 (Or.inl (o_w hw 30 rfl)) (o_w hw 3 rfl) (by decide) rfl rfl ga0 fun T499 h501 X500 W502 => ?_
  have G0 := G0.wr W502
  have G1 := G1.other W502 (Or.inr (slot_ne (Or.inl (o_w hw 12 rfl)) (Or.inl (o_w hw 30 rfl)) (by decide) (t := .long) (t' := .long) (by decide) (by decide)))
  have G2 := G2.other W502 (Or.inr (slot_ne (Or.inl (o_w hw 14 rfl)) (Or.inl (o_w hw 30 rfl)) (by decide) (t := .long) (t' := .long) (by decide) (by decide)))
  have G3 := G3.same W502
  have G4 := G4.other W502 (Or.inr (slot_ne (Or.inl (o_w hw 38 rfl)) (Or.inl (o_w hw 30 rfl)) (by decide) (t := .boolean) (t' := .long) (by decide) (by decide)))
  have G5 := G5.other W502 (Or.inr (slot_ne (Or.inl (o_w hw 47 rfl)) (Or.inl (o_w hw 30 rfl)) (by decide) (t := .boolean) (t' := .long) (by decide) (by decide)))
  have G6 := G6.other W502 (Ne.symm ne_0_1)
  have KK := KK.wr W502 (Or.inl (List.mem_of_getElem? (i := 0) rfl))
  refine o_aloadN cx X500 d4_162 rfl rfl ?_
  refine o_lconst cx X500 (z := (1 : Int64)) d4_163 rfl ?_
  refine o_aloadN cx X500 d4_164 rfl rfl ?_
  refine o_iload cx X500 d4_165 rfl ?_
  refine o_iconst cx X500 (z := (1 : Int32)) d4_167 rfl ?_
  refine o_iadd cx X500 (z := (2 : Int32)) d4_168 rfl ?_
  refine o_iloadN cx X500 d4_169 rfl ?_
  refine o_callSp cx X500 (y' := (⟨"com/example/bulla/bulla/xml/TextPosition", "columns", "([BII)J"⟩ : MethodName)) (argsL := [(.ref ob1), (.int (2 : Int32)), (.int (3 : Int32))]) (st := [(.long (1 : Int64)), (.ref ob0)]) d4_170 (o_w hw 48 rfl) (o_w hw 49 rfl) (o_w hw 4 rfl) (o_w hw 50 rfl) (by decide) (ra9_26 l Z a0 hw ob1 h501 n0 X500.ge0 ga1 G6) (by decide) 3 rfl (by decide) rfl (lenOf pd_9 rfl) rfl rfl (by decide) (by decide) fun T503 X504 => ?_
  show own_Go p e below _ (T503.setTop (mkF m 173 #[.val (.ref ob0), .val (.ref ob1), .val (.int (0 : Int32)), .val (.int (3 : Int32)), .val (.int (0 : Int32)), .val (.int (0 : Int32)), .val (.int (2 : Int32)), .val (.int (1 : Int32))] [(.long (1 : Int64)), (.long (1 : Int64)), (.ref ob0)]))
  refine o_ladd cx X504 (z := (2 : Int64)) d4_173 rfl ?_
  refine o_putF cx X504 (v' := (.long (2 : Int64))) (ty := .long) d4_174 (o_w hw 13 rfl) G2 G0 (Or.inl (o_w hw 14 rfl)) (o_w hw 3 rfl) (by decide) rfl rfl ga0 fun T508 h510 X509 W511 => ?_
  have G0 := G0.wr W511
  have G1 := G1.other W511 (Or.inr (slot_ne (Or.inl (o_w hw 12 rfl)) (Or.inl (o_w hw 14 rfl)) (by decide) (t := .long) (t' := .long) (by decide) (by decide)))
  have G2 := G2.same W511
  have G3 := G3.other W511 (Or.inr (slot_ne (Or.inl (o_w hw 30 rfl)) (Or.inl (o_w hw 14 rfl)) (by decide) (t := .long) (t' := .long) (by decide) (by decide)))
  have G4 := G4.other W511 (Or.inr (slot_ne (Or.inl (o_w hw 38 rfl)) (Or.inl (o_w hw 14 rfl)) (by decide) (t := .boolean) (t' := .long) (by decide) (by decide)))
  have G5 := G5.other W511 (Or.inr (slot_ne (Or.inl (o_w hw 47 rfl)) (Or.inl (o_w hw 14 rfl)) (by decide) (t := .boolean) (t' := .long) (by decide) (by decide)))
  have G6 := G6.other W511 (Ne.symm ne_0_1)
  have KK := KK.wr W511 (Or.inl (List.mem_of_getElem? (i := 0) rfl))
  refine o_aloadN cx X509 d4_177 rfl rfl ?_
  refine o_aloadN cx X509 d4_178 rfl rfl ?_
  refine o_iloadN cx X509 d4_179 rfl ?_
  refine o_iconst cx X509 (z := (1 : Int32)) d4_180 rfl ?_
  refine o_isub cx X509 (z := (2 : Int32)) d4_181 rfl ?_
  refine o_ldB cx X509 (v := (.int (97 : Int32))) d4_182 G6 2 (by decide) rfl rfl ?_
  refine o_callSp cx X509 (y' := (⟨"com/example/bulla/bulla/xml/TextPosition", "isLineEnd", "(B)Z"⟩ : MethodName)) (argsL := [(.int (97 : Int32))]) (st := [(.ref ob0)]) d4_183 (o_w hw 39 rfl) (o_w hw 40 rfl) (o_w hw 4 rfl) (o_w hw 41 rfl) (by decide) (ra7_8 l Z a0 hw  h510 n0 X509.ge0 ) (by decide) 1 rfl (by decide) rfl (lenOf pd_7 rfl) rfl rfl (by decide) (by decide) fun T512 X513 => ?_
  show own_Go p e below _ (T512.setTop (mkF m 186 #[.val (.ref ob0), .val (.ref ob1), .val (.int (0 : Int32)), .val (.int (3 : Int32)), .val (.int (0 : Int32)), .val (.int (0 : Int32)), .val (.int (2 : Int32)), .val (.int (1 : Int32))] [(.int (0 : Int32)), (.ref ob0)]))
  refine o_putF cx X513 (v' := (.int (0 : Int32))) (ty := .boolean) d4_186 (o_w hw 46 rfl) G5 G0 (Or.inl (o_w hw 47 rfl)) (o_w hw 3 rfl) (by decide) rfl (fits_nar_bool (0 : Int32)) ga0 fun T517 h519 X518 W520 => ?_
  have G0 := G0.wr W520
  have G1 := G1.other W520 (Or.inr (slot_ne (Or.inl (o_w hw 12 rfl)) (Or.inl (o_w hw 47 rfl)) (by decide) (t := .long) (t' := .boolean) (by decide) (by decide)))
  have G2 := G2.other W520 (Or.inr (slot_ne (Or.inl (o_w hw 14 rfl)) (Or.inl (o_w hw 47 rfl)) (by decide) (t := .long) (t' := .boolean) (by decide) (by decide)))
  have G3 := G3.other W520 (Or.inr (slot_ne (Or.inl (o_w hw 30 rfl)) (Or.inl (o_w hw 47 rfl)) (by decide) (t := .long) (t' := .boolean) (by decide) (by decide)))
  have G4 := G4.other W520 (Or.inr (slot_ne (Or.inl (o_w hw 38 rfl)) (Or.inl (o_w hw 47 rfl)) (by decide) (t := .boolean) (t' := .boolean) (by decide) (by decide)))
  have G5 := G5.same W520
  have G6 := G6.other W520 (Ne.symm ne_0_1)
  have KK := KK.wr W520 (Or.inl (List.mem_of_getElem? (i := 0) rfl))
  refine o_aloadN cx X518 d4_189 rfl rfl ?_
  refine o_aloadN cx X518 d4_190 rfl rfl ?_
  refine o_iloadN cx X518 d4_191 rfl ?_
  refine o_iconst cx X518 (z := (1 : Int32)) d4_192 rfl ?_
  refine o_isub cx X518 (z := (2 : Int32)) d4_193 rfl ?_
  refine o_ldB cx X518 (v := (.int (97 : Int32))) d4_194 G6 2 (by decide) rfl rfl ?_
  refine o_bipush cx X518 (z := (13 : Int32)) d4_195 rfl ?_
  refine o_icmpYes cx X518 204 d4_197 (by decide) (by decide) (by decide) ?_
  refine o_iconst cx X518 (z := (0 : Int32)) d4_204 rfl ?_
  refine o_putF cx X518 (v' := (.int (0 : Int32))) (ty := .boolean) d4_205 (o_w hw 37 rfl) G4 G0 (Or.inl (o_w hw 38 rfl)) (o_w hw 3 rfl) (by decide) rfl (fits_nar_bool (0 : Int32)) ga0 fun T521 h523 X522 W524 => ?_
  have G0 := G0.wr W524
  have G1 := G1.other W524 (Or.inr (slot_ne (Or.inl (o_w hw 12 rfl)) (Or.inl (o_w hw 38 rfl)) (by decide) (t := .long) (t' := .boolean) (by decide) (by decide)))
  have G2 := G2.other W524 (Or.inr (slot_ne (Or.inl (o_w hw 14 rfl)) (Or.inl (o_w hw 38 rfl)) (by decide) (t := .long) (t' := .boolean) (by decide) (by decide)))
  have G3 := G3.other W524 (Or.inr (slot_ne (Or.inl (o_w hw 30 rfl)) (Or.inl (o_w hw 38 rfl)) (by decide) (t := .long) (t' := .boolean) (by decide) (by decide)))
  have G4 := G4.same W524
  have G5 := G5.other W524 (Or.inr (slot_ne (Or.inl (o_w hw 47 rfl)) (Or.inl (o_w hw 38 rfl)) (by decide) (t := .boolean) (t' := .boolean) (by decide) (by decide)))
  have G6 := G6.other W524 (Ne.symm ne_0_1)
  have KK := KK.wr W524 (Or.inl (List.mem_of_getElem? (i := 0) rfl))
  exact o_retV cx X522 d4_208 ⟨rfl, KK, G0, G1, G2, G3, G4, G5⟩ (by decide) (by decide)
theorem ef_ra3_22 (m : MethodId) (ob0 : Addr) (ob1 : Addr) : entryFrame m #[(.ref ob0), (.ref ob1), (.int (0 : Int32)), (.int (3 : Int32))] 4 = mkF m 0 #[.val (.ref ob0), .val (.ref ob1), .val (.int (0 : Int32)), .val (.int (3 : Int32))] [] := by first | (simp [entryFrame, mkF, argsToLocals, Value.category]; done) | rfl
set_option maxRecDepth 65536 in
set_option maxHeartbeats 40000000 in
theorem ra3_22 (l : Launch) (Z : State) (a0 : Array Value) (hw : ∀ d ∈ tables_1, d.before a0 Z = true) (ob0 : Addr) (ob1 : Addr) (h0 : Heap) (n0 : Nat) (Z0 : n0 ≤ h0.size) (ga0 : n0 ≤ ob0) (ga1 : n0 ≤ ob1) (ne_0_1 : ob0 ≠ ob1) (G0 : Exa Z h0 ob0 "com/example/bulla/bulla/xml/TextPosition") (G1 : Fld Z h0 ob0 "com/example/bulla/bulla/xml/TextPosition" "line" "J" (.long (1 : Int64))) (G2 : Fld Z h0 ob0 "com/example/bulla/bulla/xml/TextPosition" "column" "J" (.long (1 : Int64))) (G3 : Fld Z h0 ob0 "com/example/bulla/bulla/xml/TextPosition" "shortfall" "J" (.long (0 : Int64))) (G4 : Fld Z h0 ob0 "com/example/bulla/bulla/xml/TextPosition" "afterReturn" "Z" (.int (0 : Int32))) (G5 : Fld Z h0 ob0 "com/example/bulla/bulla/xml/TextPosition" "afterLineEnd" "Z" (.int (0 : Int32))) (G6 : own_Ar Z h0 ob1 .byte [(.int (13 : Int32)), (.int (13 : Int32)), (.int (97 : Int32))]) :
    own_Met l Z (⟨"com/example/bulla/bulla/xml/TextPosition", "moveOver", "([BII)V"⟩ : MethodName) prog_169_method_6_code 4 none ({ frames := 3, cells := 0, slots := 0, locals := 51 } : Room) #[(.ref ob0), (.ref ob1), (.int (0 : Int32)), (.int (3 : Int32))] h0 n0 (fun v' h' => v' = none ∧ Keep h0 h' [ob0] ∧ Exa Z h' ob0 "com/example/bulla/bulla/xml/TextPosition" ∧ Fld Z h' ob0 "com/example/bulla/bulla/xml/TextPosition" "line" "J" (.long (3 : Int64)) ∧ Fld Z h' ob0 "com/example/bulla/bulla/xml/TextPosition" "column" "J" (.long (2 : Int64)) ∧ Fld Z h' ob0 "com/example/bulla/bulla/xml/TextPosition" "shortfall" "J" (.long (2 : Int64)) ∧ Fld Z h' ob0 "com/example/bulla/bulla/xml/TextPosition" "afterReturn" "Z" (.int (0 : Int32)) ∧ Fld Z h' ob0 "com/example/bulla/bulla/xml/TextPosition" "afterLineEnd" "Z" (.int (0 : Int32))) := by
  refine own_body (plainFor_of_name pn_5) (fun m => ef_ra3_22 m ob0 ob1) Z0 ?_
  intro p e s m below meth c T0 cx X0
  have KK := Keep.refl h0 [ob0]
  show own_Go p e below _ (T0.setTop (mkF m 0 #[.val (.ref ob0), .val (.ref ob1), .val (.int (0 : Int32)), .val (.int (3 : Int32))] []))
  refine o_aloadN cx X0 d3_0 rfl rfl ?_
  refine o_aloadN cx X0 d3_1 rfl rfl ?_
  refine o_iloadN cx X0 d3_2 rfl ?_
  refine o_iloadN cx X0 d3_3 rfl ?_
  refine o_iconst cx X0 (z := (0 : Int32)) d3_4 rfl ?_
  refine o_callP cx X0 (y' := (⟨"com/example/bulla/bulla/xml/TextPosition", "move", "([BIIZ)V"⟩ : MethodName)) (argsL := [(.ref ob1), (.int (0 : Int32)), (.int (3 : Int32)), (.int (0 : Int32))]) (st := []) (a := ob0) d3_5 (o_w hw 20 rfl) (o_w hw 22 rfl) (o_w hw 18 rfl) rfl (o_w hw 21 rfl) (o_w hw 4 rfl) (o_w hw 23 rfl) (by decide) G0 (ra4_23 l Z a0 hw ob0 ob1 h0 n0 X0.ge0 ga0 ga1 ne_0_1 G0 G1 G2 G3 G4 G5 G6) (by decide) 0 rfl (by decide) rfl (lenOf pd_4 rfl) rfl rfl (by decide) (by decide) fun v436 T433 h435 X434 Q437 => ?_
  obtain ⟨rfl, K438, E439, F440, F441, F442, F443, F444⟩ := Q437
  have G6 := G6.keep K438 (ninS (Ne.symm ne_0_1) nin0)
  have KK := KK.trans K438 (allS (Or.inl (List.mem_of_getElem? (i := 0) rfl)) all0)
  show own_Go p e below _ (T433.setTop (mkF m 8 #[.val (.ref ob0), .val (.ref ob1), .val (.int (0 : Int32)), .val (.int (3 : Int32))] []))
  exact o_retV cx X434 d3_8 ⟨rfl, KK, E439, F440, F441, F442, F443, F444⟩ (by decide) (by decide)
theorem d6_49 : decode prog_169_method_10_code 49 = .ok (.aload_n 1, 1) := by decide +kernel
theorem d6_50 : decode prog_169_method_10_code 50 = .ok (.iload 6, 2) := by decide +kernel
theorem d6_52 : decode prog_169_method_10_code 52 = .ok (.iconst 1, 1) := by decide +kernel
theorem d6_53 : decode prog_169_method_10_code 53 = .ok (.isub, 1) := by decide +kernel
theorem d6_54 : decode prog_169_method_10_code 54 = .ok (.baload, 1) := by decide +kernel
theorem d6_55 : decode prog_169_method_10_code 55 = .ok (.bipush 13, 2) := by decide +kernel
theorem d6_57 : decode prog_169_method_10_code 57 = .ok (.if_icmp .ne 7, 3) := by decide +kernel
theorem d6_60 : decode prog_169_method_10_code 60 = .ok (.iconst 1, 1) := by decide +kernel
theorem d6_61 : decode prog_169_method_10_code 61 = .ok (.goto 4, 3) := by decide +kernel
theorem ef_ra6_29 (m : MethodId) (ob0 : Addr) (ob1 : Addr) : entryFrame m #[(.ref ob0), (.ref ob1), (.int (0 : Int32)), (.int (3 : Int32)), (.int (1 : Int32))] 7 = mkF m 0 #[.val (.ref ob0), .val (.ref ob1), .val (.int (0 : Int32)), .val (.int (3 : Int32)), .val (.int (1 : Int32)), .unset, .unset] [] := by first | (simp [entryFrame, mkF, argsToLocals, Value.category]; done) | rfl
set_option maxRecDepth 65536 in
set_option maxHeartbeats 40000000 in
theorem ra6_29 (l : Launch) (Z : State) (a0 : Array Value) (hw : ∀ d ∈ tables_1, d.before a0 Z = true) (ob0 : Addr) (ob1 : Addr) (h0 : Heap) (n0 : Nat) (Z0 : n0 ≤ h0.size) (ga0 : n0 ≤ ob0) (ga1 : n0 ≤ ob1) (ne_0_1 : ob0 ≠ ob1) (G0 : Exa Z h0 ob0 "com/example/bulla/bulla/xml/TextPosition") (G1 : Fld Z h0 ob0 "com/example/bulla/bulla/xml/TextPosition" "line" "J" (.long (1 : Int64))) (G2 : Fld Z h0 ob0 "com/example/bulla/bulla/xml/TextPosition" "column" "J" (.long (1 : Int64))) (G3 : Fld Z h0 ob0 "com/example/bulla/bulla/xml/TextPosition" "shortfall" "J" (.long (0 : Int64))) (G4 : Fld Z h0 ob0 "com/example/bulla/bulla/xml/TextPosition" "afterReturn" "Z" (.int (0 : Int32))) (G5 : Fld Z h0 ob0 "com/example/bulla/bulla/xml/TextPosition" "afterLineEnd" "Z" (.int (0 : Int32))) (G6 : own_Ar Z h0 ob1 .byte [(.int (13 : Int32)), (.int (10 : Int32)), (.int (97 : Int32))]) :
    own_Met l Z (⟨"com/example/bulla/bulla/xml/TextPosition", "joinedLineFeeds", "([BIII)I"⟩ : MethodName) prog_169_method_10_code 7 (some .int) ({ frames := 0, cells := 0, slots := 0, locals := 0 } : Room) #[(.ref ob0), (.ref ob1), (.int (0 : Int32)), (.int (3 : Int32)), (.int (1 : Int32))] h0 n0 (fun v' h' => v' = some (.int (1 : Int32)) ∧ h' = h0) := by
  refine own_body (plainFor_of_name pn_5) (fun m => ef_ra6_29 m ob0 ob1) Z0 ?_
  intro p e s m below meth c T0 cx X0
  have KK := Keep.refl h0 []
  show own_Go p e below _ (T0.setTop (mkF m 0 #[.val (.ref ob0), .val (.ref ob1), .val (.int (0 : Int32)), .val (.int (3 : Int32)), .val (.int (1 : Int32)), .unset, .unset] []))
  refine o_aloadN cx X0 d6_0 rfl rfl ?_
  refine o_getF cx X0 d6_1 (o_w hw 37 rfl) G4 fun T521 X522 => ?_
  refine o_ifYes cx X522 19 d6_4 (by decide) (by decide) (by decide) ?_
  refine o_iconst cx X522 (z := (0 : Int32)) d6_19 rfl ?_
  refine o_istore cx X522 (Ls' := #[.val (.ref ob0), .val (.ref ob1), .val (.int (0 : Int32)), .val (.int (3 : Int32)), .val (.int (1 : Int32)), .val (.int (0 : Int32)), .unset]) d6_20 rfl ?_
  refine o_iloadN cx X522 d6_22 rfl ?_
  refine o_iconst cx X522 (z := (1 : Int32)) d6_23 rfl ?_
  refine o_iadd cx X522 (z := (1 : Int32)) d6_24 rfl ?_
  refine o_istore cx X522 (Ls' := #[.val (.ref ob0), .val (.ref ob1), .val (.int (0 : Int32)), .val (.int (3 : Int32)), .val (.int (1 : Int32)), .val (.int (0 : Int32)), .val (.int (1 : Int32))]) d6_25 rfl ?_
  refine o_iload cx X522 d6_27 rfl ?_
  refine o_ifNo cx X522 d6_29 (by decide) ?_
  refine o_iload cx X522 d6_32 rfl ?_
  refine o_iloadN cx X522 d6_34 rfl ?_
  refine o_icmpNo cx X522 d6_35 (by decide) ?_
  refine o_iload cx X522 d6_38 rfl ?_
  refine o_aloadN cx X522 d6_40 rfl rfl ?_
  refine o_iload cx X522 d6_41 rfl ?_
  refine o_ldB cx X522 (v := (.int (10 : Int32))) d6_43 G6 1 (by decide) rfl rfl ?_
  refine o_bipush cx X522 (z := (10 : Int32)) d6_44 rfl ?_
  refine o_icmpNo cx X522 d6_46 (by decide) ?_
  refine o_aloadN cx X522 d6_49 rfl rfl ?_
  refine o_iload cx X522 d6_50 rfl ?_
  refine o_iconst cx X522 (z := (1 : Int32)) d6_52 rfl ?_
  refine o_isub cx X522 (z := (0 : Int32)) d6_53 rfl ?_
  refine o_ldB cx X522 (v := (.int (13 : Int32))) d6_54 G6 0 (by decide) rfl rfl ?_
  refine o_bipush cx X522 (z := (13 : Int32)) d6_55 rfl ?_
  refine o_icmpNo cx X522 d6_57 (by decide) ?_
  refine o_iconst cx X522 (z := (1 : Int32)) d6_60 rfl ?_
  refine o_goto cx X522 65 d6_61 (by decide) (by decide) ?_
  refine o_iadd cx X522 (z := (1 : Int32)) d6_65 rfl ?_
  refine o_istore cx X522 (Ls' := #[.val (.ref ob0), .val (.ref ob1), .val (.int (0 : Int32)), .val (.int (3 : Int32)), .val (.int (1 : Int32)), .val (.int (1 : Int32)), .val (.int (1 : Int32))]) d6_66 rfl ?_
  refine o_iinc cx X522 (z := (2 : Int32)) (Ls' := #[.val (.ref ob0), .val (.ref ob1), .val (.int (0 : Int32)), .val (.int (3 : Int32)), .val (.int (1 : Int32)), .val (.int (1 : Int32)), .val (.int (2 : Int32))]) d6_68 rfl rfl rfl ?_
  refine o_goto cx X522 27 d6_71 (by decide) (by decide) ?_
  refine o_iload cx X522 d6_27 rfl ?_
  refine o_ifNo cx X522 d6_29 (by decide) ?_
  refine o_iload cx X522 d6_32 rfl ?_
  refine o_iloadN cx X522 d6_34 rfl ?_
  refine o_icmpNo cx X522 d6_35 (by decide) ?_
  refine o_iload cx X522 d6_38 rfl ?_
  refine o_aloadN cx X522 d6_40 rfl rfl ?_
  refine o_iload cx X522 d6_41 rfl ?_
  refine o_ldB cx X522 (v := (.int (97 : Int32))) d6_43 G6 2 (by decide) rfl rfl ?_
  refine o_bipush cx X522 (z := (10 : Int32)) d6_44 rfl ?_
  refine o_icmpYes cx X522 64 d6_46 (by decide) (by decide) (by decide) ?_
  refine o_iconst cx X522 (z := (0 : Int32)) d6_64 rfl ?_
  refine o_iadd cx X522 (z := (1 : Int32)) d6_65 rfl ?_
  refine o_istore cx X522 (Ls' := #[.val (.ref ob0), .val (.ref ob1), .val (.int (0 : Int32)), .val (.int (3 : Int32)), .val (.int (1 : Int32)), .val (.int (1 : Int32)), .val (.int (2 : Int32))]) d6_66 rfl ?_
  refine o_iinc cx X522 (z := (3 : Int32)) (Ls' := #[.val (.ref ob0), .val (.ref ob1), .val (.int (0 : Int32)), .val (.int (3 : Int32)), .val (.int (1 : Int32)), .val (.int (1 : Int32)), .val (.int (3 : Int32))]) d6_68 rfl rfl rfl ?_
  refine o_goto cx X522 27 d6_71 (by decide) (by decide) ?_
  refine o_iload cx X522 d6_27 rfl ?_
  refine o_ifNo cx X522 d6_29 (by decide) ?_
  refine o_iload cx X522 d6_32 rfl ?_
  refine o_iloadN cx X522 d6_34 rfl ?_
  refine o_icmpYes cx X522 74 d6_35 (by decide) (by decide) (by decide) ?_
  refine o_iload cx X522 d6_74 rfl ?_
  exact o_retI cx X522 d6_76 ⟨rfl, rfl⟩ (by decide) (by decide)
theorem ef_ra8_30 (m : MethodId) (ob0 : Addr) (ob1 : Addr) : entryFrame m #[(.ref ob0), (.ref ob1), (.int (0 : Int32)), (.int (1 : Int32))] 8 = mkF m 0 #[.val (.ref ob0), .val (.ref ob1), .val (.int (0 : Int32)), .val (.int (1 : Int32)), .unset, .unset, .unset, .unset] [] := by first | (simp [entryFrame, mkF, argsToLocals, Value.category]; done) | rfl
set_option maxRecDepth 65536 in
set_option maxHeartbeats 40000000 in
theorem ra8_30 (l : Launch) (Z : State) (a0 : Array Value) (hw : ∀ d ∈ tables_1, d.before a0 Z = true) (ob0 : Addr) (ob1 : Addr) (h0 : Heap) (n0 : Nat) (Z0 : n0 ≤ h0.size) (ga0 : n0 ≤ ob0) (ga1 : n0 ≤ ob1) (ne_0_1 : ob0 ≠ ob1) (G0 : Exa Z h0 ob0 "com/example/bulla/bulla/xml/TextPosition") (G1 : Fld Z h0 ob0 "com/example/bulla/bulla/xml/TextPosition" "line" "J" (.long (2 : Int64))) (G2 : Fld Z h0 ob0 "com/example/bulla/bulla/xml/TextPosition" "column" "J" (.long (1 : Int64))) (G3 : Fld Z h0 ob0 "com/example/bulla/bulla/xml/TextPosition" "shortfall" "J" (.long (0 : Int64))) (G4 : Fld Z h0 ob0 "com/example/bulla/bulla/xml/TextPosition" "afterReturn" "Z" (.int (0 : Int32))) (G5 : Fld Z h0 ob0 "com/example/bulla/bulla/xml/TextPosition" "afterLineEnd" "Z" (.int (0 : Int32))) (G6 : own_Ar Z h0 ob1 .byte [(.int (13 : Int32)), (.int (10 : Int32)), (.int (97 : Int32))]) :
    own_Met l Z (⟨"com/example/bulla/bulla/xml/TextPosition", "returnsAlone", "([BII)J"⟩ : MethodName) prog_169_method_11_code 8 (some .long) ({ frames := 1, cells := 0, slots := 0, locals := 12 } : Room) #[(.ref ob0), (.ref ob1), (.int (0 : Int32)), (.int (1 : Int32))] h0 n0 (fun v' h' => v' = some (.long (0 : Int64)) ∧ h' = h0) := by
  refine own_body (plainFor_of_name pn_5) (fun m => ef_ra8_30 m ob0 ob1) Z0 ?_
  intro p e s m below meth c T0 cx X0
  have KK := Keep.refl h0 []
  show own_Go p e below _ (T0.setTop (mkF m 0 #[.val (.ref ob0), .val (.ref ob1), .val (.int (0 : Int32)), .val (.int (1 : Int32)), .unset, .unset, .unset, .unset] []))
  refine o_iloadN cx X0 d8_0 rfl ?_
  refine o_istore cx X0 (Ls' := #[.val (.ref ob0), .val (.ref ob1), .val (.int (0 : Int32)), .val (.int (1 : Int32)), .val (.int (1 : Int32)), .unset, .unset, .unset]) d8_1 rfl ?_
  refine o_iload cx X0 d8_3 rfl ?_
  refine o_iloadN cx X0 d8_5 rfl ?_
  refine o_icmpNo cx X0 d8_6 (by decide) ?_
  refine o_aloadN cx X0 d8_9 rfl rfl ?_
  refine o_iload cx X0 d8_10 rfl ?_
  refine o_iconst cx X0 (z := (1 : Int32)) d8_12 rfl ?_
  refine o_isub cx X0 (z := (0 : Int32)) d8_13 rfl ?_
  refine o_ldB cx X0 (v := (.int (13 : Int32))) d8_14 G6 0 (by decide) rfl rfl ?_
  refine o_callSp cx X0 (y' := (⟨"com/example/bulla/bulla/xml/TextPosition", "isLineEnd", "(B)Z"⟩ : MethodName)) (argsL := [(.int (13 : Int32))]) (st := []) d8_15 (o_w hw 39 rfl) (o_w hw 40 rfl) (o_w hw 4 rfl) (o_w hw 41 rfl) (by decide) (ra7_19 l Z a0 hw  h0 n0 X0.ge0 ) (by decide) 0 rfl (by decide) rfl (lenOf pd_7 rfl) rfl rfl (by decide) (by decide) fun T549 X550 => ?_
  show own_Go p e below _ (T549.setTop (mkF m 18 #[.val (.ref ob0), .val (.ref ob1), .val (.int (0 : Int32)), .val (.int (1 : Int32)), .val (.int (1 : Int32)), .unset, .unset, .unset] [(.int (1 : Int32))]))
  refine o_ifNo cx X550 d8_18 (by decide) ?_
  refine o_iinc cx X550 (z := (0 : Int32)) (Ls' := #[.val (.ref ob0), .val (.ref ob1), .val (.int (0 : Int32)), .val (.int (1 : Int32)), .val (.int (0 : Int32)), .unset, .unset, .unset]) d8_21 rfl rfl rfl ?_
  refine o_goto cx X550 3 d8_24 (by decide) (by decide) ?_
  refine o_iload cx X550 d8_3 rfl ?_
  refine o_iloadN cx X550 d8_5 rfl ?_
  refine o_icmpYes cx X550 27 d8_6 (by decide) (by decide) (by decide) ?_
  refine o_lconst cx X550 (z := (0 : Int64)) d8_27 rfl ?_
  refine o_lstore cx X550 (Ls' := #[.val (.ref ob0), .val (.ref ob1), .val (.int (0 : Int32)), .val (.int (1 : Int32)), .val (.int (0 : Int32)), .val (.long (0 : Int64)), .second, .unset]) d8_28 rfl ?_
  refine o_iload cx X550 d8_30 rfl ?_
  refine o_istore cx X550 (Ls' := #[.val (.ref ob0), .val (.ref ob1), .val (.int (0 : Int32)), .val (.int (1 : Int32)), .val (.int (0 : Int32)), .val (.long (0 : Int64)), .second, .val (.int (0 : Int32))]) d8_32 rfl ?_
  refine o_iload cx X550 d8_34 rfl ?_
  refine o_iloadN cx X550 d8_36 rfl ?_
  refine o_icmpNo cx X550 d8_37 (by decide) ?_
  refine o_lload cx X550 d8_40 rfl ?_
  refine o_aloadN cx X550 d8_42 rfl rfl ?_
  refine o_iload cx X550 d8_43 rfl ?_
  refine o_ldB cx X550 (v := (.int (13 : Int32))) d8_45 G6 0 (by decide) rfl rfl ?_
  refine o_bipush cx X550 (z := (13 : Int32)) d8_46 rfl ?_
  refine o_icmpNo cx X550 d8_48 (by decide) ?_
  refine o_iload cx X550 d8_51 rfl ?_
  refine o_iloadN cx X550 d8_53 rfl ?_
  refine o_icmpNo cx X550 d8_54 (by decide) ?_
  refine o_aloadN cx X550 d8_57 rfl rfl ?_
  refine o_iload cx X550 d8_58 rfl ?_
  refine o_iconst cx X550 (z := (1 : Int32)) d8_60 rfl ?_
  refine o_iadd cx X550 (z := (1 : Int32)) d8_61 rfl ?_
  refine o_ldB cx X550 (v := (.int (10 : Int32))) d8_62 G6 1 (by decide) rfl rfl ?_
  refine o_bipush cx X550 (z := (10 : Int32)) d8_63 rfl ?_
  refine o_icmpYes cx X550 72 d8_65 (by decide) (by decide) (by decide) ?_
  refine o_lconst cx X550 (z := (0 : Int64)) d8_72 rfl ?_
  refine o_ladd cx X550 (z := (0 : Int64)) d8_73 rfl ?_
  refine o_lstore cx X550 (Ls' := #[.val (.ref ob0), .val (.ref ob1), .val (.int (0 : Int32)), .val (.int (1 : Int32)), .val (.int (0 : Int32)), .val (.long (0 : Int64)), .second, .val (.int (0 : Int32))]) d8_74 rfl ?_
  refine o_iinc cx X550 (z := (1 : Int32)) (Ls' := #[.val (.ref ob0), .val (.ref ob1), .val (.int (0 : Int32)), .val (.int (1 : Int32)), .val (.int (0 : Int32)), .val (.long (0 : Int64)), .second, .val (.int (1 : Int32))]) d8_76 rfl rfl rfl ?_
  refine o_goto cx X550 34 d8_79 (by decide) (by decide) ?_
  refine o_iload cx X550 d8_34 rfl ?_
  refine o_iloadN cx X550 d8_36 rfl ?_
  refine o_icmpNo cx X550 d8_37 (by decide) ?_
  refine o_lload cx X550 d8_40 rfl ?_
  refine o_aloadN cx X550 d8_42 rfl rfl ?_
  refine o_iload cx X550 d8_43 rfl ?_
  refine o_ldB cx X550 (v := (.int (10 : Int32))) d8_45 G6 1 (by decide) rfl rfl ?_
  refine o_bipush cx X550 (z := (13 : Int32)) d8_46 rfl ?_
  refine o_icmpYes cx X550 72 d8_48 (by decide) (by decide) (by decide) ?_
  refine o_lconst cx X550 (z := (0 : Int64)) d8_72 rfl ?_
  refine o_ladd cx X550 (z := (0 : Int64)) d8_73 rfl ?_
  refine o_lstore cx X550 (Ls' := #[.val (.ref ob0), .val (.ref ob1), .val (.int (0 : Int32)), .val (.int (1 : Int32)), .val (.int (0 : Int32)), .val (.long (0 : Int64)), .second, .val (.int (1 : Int32))]) d8_74 rfl ?_
  refine o_iinc cx X550 (z := (2 : Int32)) (Ls' := #[.val (.ref ob0), .val (.ref ob1), .val (.int (0 : Int32)), .val (.int (1 : Int32)), .val (.int (0 : Int32)), .val (.long (0 : Int64)), .second, .val (.int (2 : Int32))]) d8_76 rfl rfl rfl ?_
  refine o_goto cx X550 34 d8_79 (by decide) (by decide) ?_
  refine o_iload cx X550 d8_34 rfl ?_
  refine o_iloadN cx X550 d8_36 rfl ?_
  refine o_icmpYes cx X550 82 d8_37 (by decide) (by decide) (by decide) ?_
  refine o_iload cx X550 d8_82 rfl ?_
  refine o_iloadN cx X550 d8_84 rfl ?_
  refine o_icmpNo cx X550 d8_85 (by decide) ?_
  refine o_aloadN cx X550 d8_88 rfl rfl ?_
  refine o_getF cx X550 d8_89 (o_w hw 46 rfl) G5 fun T554 X555 => ?_
  refine o_ifYes cx X555 126 d8_92 (by decide) (by decide) (by decide) ?_
  refine o_lload cx X555 d8_126 rfl ?_
  exact o_retJ cx X555 d8_128 ⟨rfl, rfl⟩ (by decide) (by decide)
theorem ef_ra9_31 (m : MethodId) (ob0 : Addr) : entryFrame m #[(.ref ob0), (.int (2 : Int32)), (.int (3 : Int32))] 7 = mkF m 0 #[.val (.ref ob0), .val (.int (2 : Int32)), .val (.int (3 : Int32)), .unset, .unset, .unset, .unset] [] := by first | (simp [entryFrame, mkF, argsToLocals, Value.category]; done) | rfl
set_option maxRecDepth 65536 in
set_option maxHeartbeats 40000000 in
theorem ra9_31 (l : Launch) (Z : State) (a0 : Array Value) (hw : ∀ d ∈ tables_1, d.before a0 Z = true) (ob0 : Addr) (h0 : Heap) (n0 : Nat) (Z0 : n0 ≤ h0.size) (ga0 : n0 ≤ ob0) (G0 : own_Ar Z h0 ob0 .byte [(.int (13 : Int32)), (.int (10 : Int32)), (.int (97 : Int32))]) :
    own_Met l Z (⟨"com/example/bulla/bulla/xml/TextPosition", "columns", "([BII)J"⟩ : MethodName) prog_169_method_13_code 7 (some .long) ({ frames := 0, cells := 0, slots := 0, locals := 0 } : Room) #[(.ref ob0), (.int (2 : Int32)), (.int (3 : Int32))] h0 n0 (fun v' h' => v' = some (.long (1 : Int64)) ∧ h' = h0) := by
  refine own_body (plainFor_of_name pn_5) (fun m => ef_ra9_31 m ob0) Z0 ?_
  intro p e s m below meth c T0 cx X0
  have KK := Keep.refl h0 []
  show own_Go p e below _ (T0.setTop (mkF m 0 #[.val (.ref ob0), .val (.int (2 : Int32)), .val (.int (3 : Int32)), .unset, .unset, .unset, .unset] []))
  refine o_lconst cx X0 (z := (0 : Int64)) d9_0 rfl ?_
  refine o_lstoreN cx X0 (Ls' := #[.val (.ref ob0), .val (.int (2 : Int32)), .val (.int (3 : Int32)), .val (.long (0 : Int64)), .second, .unset, .unset]) d9_1 rfl ?_
  refine o_iloadN cx X0 d9_2 rfl ?_
  refine o_istore cx X0 (Ls' := #[.val (.ref ob0), .val (.int (2 : Int32)), .val (.int (3 : Int32)), .val (.long (0 : Int64)), .second, .val (.int (2 : Int32)), .unset]) d9_3 rfl ?_
  refine o_iload cx X0 d9_5 rfl ?_
  refine o_iloadN cx X0 d9_7 rfl ?_
  refine o_icmpNo cx X0 d9_8 (by decide) ?_
  refine o_aloadN cx X0 d9_11 rfl rfl ?_
  refine o_iload cx X0 d9_12 rfl ?_
  refine o_ldB cx X0 (v := (.int (97 : Int32))) d9_14 G0 2 (by decide) rfl rfl ?_
  refine o_sipush cx X0 (z := (255 : Int32)) d9_15 rfl ?_
  refine o_iand cx X0 (z := (97 : Int32)) d9_18 rfl ?_
  refine o_istore cx X0 (Ls' := #[.val (.ref ob0), .val (.int (2 : Int32)), .val (.int (3 : Int32)), .val (.long (0 : Int64)), .second, .val (.int (2 : Int32)), .val (.int (97 : Int32))]) d9_19 rfl ?_
  refine o_lloadN cx X0 d9_21 rfl ?_
  refine o_iload cx X0 d9_22 rfl ?_
  refine o_sipush cx X0 (z := (192 : Int32)) d9_24 rfl ?_
  refine o_iand cx X0 (z := (64 : Int32)) d9_27 rfl ?_
  refine o_sipush cx X0 (z := (128 : Int32)) d9_28 rfl ?_
  refine o_icmpNo cx X0 d9_31 (by decide) ?_
  refine o_lconst cx X0 (z := (1 : Int64)) d9_34 rfl ?_
  refine o_goto cx X0 39 d9_35 (by decide) (by decide) ?_
  refine o_ladd cx X0 (z := (1 : Int64)) d9_39 rfl ?_
  refine o_lstoreN cx X0 (Ls' := #[.val (.ref ob0), .val (.int (2 : Int32)), .val (.int (3 : Int32)), .val (.long (1 : Int64)), .second, .val (.int (2 : Int32)), .val (.int (97 : Int32))]) d9_40 rfl ?_
  refine o_lloadN cx X0 d9_41 rfl ?_
  refine o_iload cx X0 d9_42 rfl ?_
  refine o_sipush cx X0 (z := (240 : Int32)) d9_44 rfl ?_
  refine o_icmpYes cx X0 54 d9_47 (by decide) (by decide) (by decide) ?_
  refine o_lconst cx X0 (z := (0 : Int64)) d9_54 rfl ?_
  refine o_ladd cx X0 (z := (1 : Int64)) d9_55 rfl ?_
  refine o_lstoreN cx X0 (Ls' := #[.val (.ref ob0), .val (.int (2 : Int32)), .val (.int (3 : Int32)), .val (.long (1 : Int64)), .second, .val (.int (2 : Int32)), .val (.int (97 : Int32))]) d9_56 rfl ?_
  refine o_iinc cx X0 (z := (3 : Int32)) (Ls' := #[.val (.ref ob0), .val (.int (2 : Int32)), .val (.int (3 : Int32)), .val (.long (1 : Int64)), .second, .val (.int (3 : Int32)), .val (.int (97 : Int32))]) d9_57 rfl rfl rfl ?_
  refine o_goto cx X0 5 d9_60 (by decide) (by decide) ?_
  refine o_iload cx X0 d9_5 rfl ?_
  refine o_iloadN cx X0 d9_7 rfl ?_
  refine o_icmpYes cx X0 63 d9_8 (by decide) (by decide) (by decide) ?_
  refine o_lloadN cx X0 d9_63 rfl ?_
  exact o_retJ cx X0 d9_64 ⟨rfl, rfl⟩ (by decide) (by decide)
theorem ef_ra4_28 (m : MethodId) (ob0 : Addr) (ob1 : Addr) : entryFrame m #[(.ref ob0), (.ref ob1), (.int (0 : Int32)), (.int (3 : Int32)), (.int (0 : Int32))] 8 = mkF m 0 #[.val (.ref ob0), .val (.ref ob1), .val (.int (0 : Int32)), .val (.int (3 : Int32)), .val (.int (0 : Int32)), .unset, .unset, .unset] [] := by first | (simp [entryFrame, mkF, argsToLocals, Value.category]; done) | rfl
set_option maxRecDepth 65536 in
set_option maxHeartbeats 40000000 in
theorem ra4_28 (l : Launch) (Z : State) (a0 : Array Value) (hw : ∀ d ∈ tables_1, d.before a0 Z = true) (ob0 : Addr) (ob1 : Addr) (h0 : Heap) (n0 : Nat) (Z0 : n0 ≤ h0.size) (ga0 : n0 ≤ ob0) (ga1 : n0 ≤ ob1) (ne_0_1 : ob0 ≠ ob1) (G0 : Exa Z h0 ob0 "com/example/bulla/bulla/xml/TextPosition") (G1 : Fld Z h0 ob0 "com/example/bulla/bulla/xml/TextPosition" "line" "J" (.long (1 : Int64))) (G2 : Fld Z h0 ob0 "com/example/bulla/bulla/xml/TextPosition" "column" "J" (.long (1 : Int64))) (G3 : Fld Z h0 ob0 "com/example/bulla/bulla/xml/TextPosition" "shortfall" "J" (.long (0 : Int64))) (G4 : Fld Z h0 ob0 "com/example/bulla/bulla/xml/TextPosition" "afterReturn" "Z" (.int (0 : Int32))) (G5 : Fld Z h0 ob0 "com/example/bulla/bulla/xml/TextPosition" "afterLineEnd" "Z" (.int (0 : Int32))) (G6 : own_Ar Z h0 ob1 .byte [(.int (13 : Int32)), (.int (10 : Int32)), (.int (97 : Int32))]) :
    own_Met l Z (⟨"com/example/bulla/bulla/xml/TextPosition", "move", "([BIIZ)V"⟩ : MethodName) prog_169_method_8_code 8 none ({ frames := 2, cells := 0, slots := 0, locals := 32 } : Room) #[(.ref ob0), (.ref ob1), (.int (0 : Int32)), (.int (3 : Int32)), (.int (0 : Int32))] h0 n0 (fun v' h' => v' = none ∧ Keep h0 h' [ob0] ∧ Exa Z h' ob0 "com/example/bulla/bulla/xml/TextPosition" ∧ Fld Z h' ob0 "com/example/bulla/bulla/xml/TextPosition" "line" "J" (.long (2 : Int64)) ∧ Fld Z h' ob0 "com/example/bulla/bulla/xml/TextPosition" "column" "J" (.long (2 : Int64)) ∧ Fld Z h' ob0 "com/example/bulla/bulla/xml/TextPosition" "shortfall" "J" (.long (0 : Int64)) ∧ Fld Z h' ob0 "com/example/bulla/bulla/xml/TextPosition" "afterReturn" "Z" (.int (0 : Int32)) ∧ Fld Z h' ob0 "com/example/bulla/bulla/xml/TextPosition" "afterLineEnd" "Z" (.int (0 : Int32))) := by
  refine own_body (plainFor_of_name pn_5) (fun m => ef_ra4_28 m ob0 ob1) Z0 ?_
  intro p e s m below meth c T0 cx X0
  have KK := Keep.refl h0 [ob0]
  show own_Go p e below _ (T0.setTop (mkF m 0 #[.val (.ref ob0), .val (.ref ob1), .val (.int (0 : Int32)), .val (.int (3 : Int32)), .val (.int (0 : Int32)), .unset, .unset, .unset] []))
  refine o_iloadN cx X0 d4_0 rfl ?_
  refine o_iloadN cx X0 d4_1 rfl ?_
  refine o_icmpYes cx X0 6 d4_2 (by decide) (by decide) (by decide) ?_
  refine o_iconst cx X0 (z := (0 : Int32)) d4_6 rfl ?_
  refine o_istore cx X0 (Ls' := #[.val (.ref ob0), .val (.ref ob1), .val (.int (0 : Int32)), .val (.int (3 : Int32)), .val (.int (0 : Int32)), .val (.int (0 : Int32)), .unset, .unset]) d4_7 rfl ?_
  refine o_iconst cx X0 (z := (0 : Int32)) d4_9 rfl ?_
  refine o_istore cx X0 (Ls' := #[.val (.ref ob0), .val (.ref ob1), .val (.int (0 : Int32)), .val (.int (3 : Int32)), .val (.int (0 : Int32)), .val (.int (0 : Int32)), .val (.int (0 : Int32)), .unset]) d4_10 rfl ?_
  refine o_iloadN cx X0 d4_12 rfl ?_
  refine o_istore cx X0 (Ls' := #[.val (.ref ob0), .val (.ref ob1), .val (.int (0 : Int32)), .val (.int (3 : Int32)), .val (.int (0 : Int32)), .val (.int (0 : Int32)), .val (.int (0 : Int32)), .val (.int (0 : Int32))]) d4_13 rfl ?_
  refine o_iload cx X0 d4_15 rfl ?_
  refine o_iloadN cx X0 d4_17 rfl ?_
  refine o_icmpNo cx X0 d4_18 (by decide) ?_
  refine o_iload cx X0 d4_21 rfl ?_
  refine o_aloadN cx X0 d4_23 rfl rfl ?_
  refine o_iload cx X0 d4_24 rfl ?_
  refine o_ldB cx X0 (v := (.int (13 : Int32))) d4_26 G6 0 (by decide) rfl rfl ?_
  refine o_bipush cx X0 (z := (10 : Int32)) d4_27 rfl ?_
  refine o_icmpYes cx X0 36 d4_29 (by decide) (by decide) (by decide) ?_
  refine o_iconst cx X0 (z := (0 : Int32)) d4_36 rfl ?_
  refine o_iadd cx X0 (z := (0 : Int32)) d4_37 rfl ?_
  refine o_istore cx X0 (Ls' := #[.val (.ref ob0), .val (.ref ob1), .val (.int (0 : Int32)), .val (.int (3 : Int32)), .val (.int (0 : Int32)), .val (.int (0 : Int32)), .val (.int (0 : Int32)), .val (.int (0 : Int32))]) d4_38 rfl ?_
  refine o_iload cx X0 d4_40 rfl ?_
  refine o_aloadN cx X0 d4_42 rfl rfl ?_
  refine o_iload cx X0 d4_43 rfl ?_
  refine o_ldB cx X0 (v := (.int (13 : Int32))) d4_45 G6 0 (by decide) rfl rfl ?_
  refine o_bipush cx X0 (z := (13 : Int32)) d4_46 rfl ?_
  refine o_icmpNo cx X0 d4_48 (by decide) ?_
  refine o_iconst cx X0 (z := (1 : Int32)) d4_51 rfl ?_
  refine o_goto cx X0 56 d4_52 (by decide) (by decide) ?_
  refine o_iadd cx X0 (z := (1 : Int32)) d4_56 rfl ?_
  refine o_istore cx X0 (Ls' := #[.val (.ref ob0), .val (.ref ob1), .val (.int (0 : Int32)), .val (.int (3 : Int32)), .val (.int (0 : Int32)), .val (.int (0 : Int32)), .val (.int (1 : Int32)), .val (.int (0 : Int32))]) d4_57 rfl ?_
  refine o_iinc cx X0 (z := (1 : Int32)) (Ls' := #[.val (.ref ob0), .val (.ref ob1), .val (.int (0 : Int32)), .val (.int (3 : Int32)), .val (.int (0 : Int32)), .val (.int (0 : Int32)), .val (.int (1 : Int32)), .val (.int (1 : Int32))]) d4_59 rfl rfl rfl ?_
  refine o_goto cx X0 15 d4_62 (by decide) (by decide) ?_
  refine o_iload cx X0 d4_15 rfl ?_
  refine o_iloadN cx X0 d4_17 rfl ?_
  refine o_icmpNo cx X0 d4_18 (by decide) ?_
  refine o_iload cx X0 d4_21 rfl ?_
  refine o_aloadN cx X0 d4_23 rfl rfl ?_
  refine o_iload cx X0 d4_24 rfl ?_
  refine o_ldB cx X0 (v := (.int (10 : Int32))) d4_26 G6 1 (by decide) rfl rfl ?_
  refine o_bipush cx X0 (z := (10 : Int32)) d4_27 rfl ?_
  refine o_icmpNo cx X0 d4_29 (by decide) ?_
  refine o_iconst cx X0 (z := (1 : Int32)) d4_32 rfl ?_
  refine o_goto cx X0 37 d4_33 (by decide) (by decide) ?_
  refine o_iadd cx X0 (z := (1 : Int32)) d4_37 rfl ?_
  refine o_istore cx X0 (Ls' := #[.val (.ref ob0), .val (.ref ob1), .val (.int (0 : Int32)), .val (.int (3 : Int32)), .val (.int (0 : Int32)), .val (.int (1 : Int32)), .val (.int (1 : Int32)), .val (.int (1 : Int32))]) d4_38 rfl ?_
  refine o_iload cx X0 d4_40 rfl ?_
  refine o_aloadN cx X0 d4_42 rfl rfl ?_
  refine o_iload cx X0 d4_43 rfl ?_
  refine o_ldB cx X0 (v := (.int (10 : Int32))) d4_45 G6 1 (by decide) rfl rfl ?_
  refine o_bipush cx X0 (z := (13 : Int32)) d4_46 rfl ?_
  refine o_icmpYes cx X0 55 d4_48 (by decide) (by decide) (by decide) ?_
  refine o_iconst cx X0 (z := (0 : Int32)) d4_55 rfl ?_
  refine o_iadd cx X0 (z := (1 : Int32)) d4_56 rfl ?_
  refine o_istore cx X0 (Ls' := #[.val (.ref ob0), .val (.ref ob1), .val (.int (0 : Int32)), .val (.int (3 : Int32)), .val (.int (0 : Int32)), .val (.int (1 : Int32)), .val (.int (1 : Int32)), .val (.int (1 : Int32))]) d4_57 rfl ?_
  refine o_iinc cx X0 (z := (2 : Int32)) (Ls' := #[.val (.ref ob0), .val (.ref ob1), .val (.int (0 : Int32)), .val (.int (3 : Int32)), .val (.int (0 : Int32)), .val (.int (1 : Int32)), .val (.int (1 : Int32)), .val (.int (2 : Int32))]) d4_59 rfl rfl rfl ?_
  refine o_goto cx X0 15 d4_62 (by decide) (by decide) ?_
  refine o_iload cx X0 d4_15 rfl ?_
  refine o_iloadN cx X0 d4_17 rfl ?_
  refine o_icmpNo cx X0 d4_18 (by decide) ?_
  refine o_iload cx X0 d4_21 rfl ?_
  refine o_aloadN cx X0 d4_23 rfl rfl ?_
  refine o_iload cx X0 d4_24 rfl ?_
  refine o_ldB cx X0 (v := (.int (97 : Int32))) d4_26 G6 2 (by decide) rfl rfl ?_
  refine o_bipush cx X0 (z := (10 : Int32)) d4_27 rfl ?_
  refine o_icmpYes cx X0 36 d4_29 (by decide) (by decide) (by decide) ?_
  refine o_iconst cx X0 (z := (0 : Int32)) d4_36 rfl ?_
  refine o_iadd cx X0 (z := (1 : Int32)) d4_37 rfl ?_
  refine o_istore cx X0 (Ls' := #[.val (.ref ob0), .val (.ref ob1), .val (.int (0 : Int32)), .val (.int (3 : Int32)), .val (.int (0 : Int32)), .val (.int (1 : Int32)), .val (.int (1 : Int32)), .val (.int (2 : Int32))]) d4_38 rfl ?_
  refine o_iload cx X0 d4_40 rfl ?_
  refine o_aloadN cx X0 d4_42 rfl rfl ?_
  refine o_iload cx X0 d4_43 rfl ?_
  refine o_ldB cx X0 (v := (.int (97 : Int32))) d4_45 G6 2 (by decide) rfl rfl ?_
  refine o_bipush cx X0 (z := (13 : Int32)) d4_46 rfl ?_
  refine o_icmpYes cx X0 55 d4_48 (by decide) (by decide) (by decide) ?_
  refine o_iconst cx X0 (z := (0 : Int32)) d4_55 rfl ?_
  refine o_iadd cx X0 (z := (1 : Int32)) d4_56 rfl ?_
  refine o_istore cx X0 (Ls' := #[.val (.ref ob0), .val (.ref ob1), .val (.int (0 : Int32)), .val (.int (3 : Int32)), .val (.int (0 : Int32)), .val (.int (1 : Int32)), .val (.int (1 : Int32)), .val (.int (2 : Int32))]) d4_57 rfl ?_
  refine o_iinc cx X0 (z := (3 : Int32)) (Ls' := #[.val (.ref ob0), .val (.ref ob1), .val (.int (0 : Int32)), .val (.int (3 : Int32)), .val (.int (0 : Int32)), .val (.int (1 : Int32)), .val (.int (1 : Int32)), .val (.int (3 : Int32))]) d4_59 rfl rfl rfl ?_
  refine o_goto cx X0 15 d4_62 (by decide) (by decide) ?_
  refine o_iload cx X0 d4_15 rfl ?_
  refine o_iloadN cx X0 d4_17 rfl ?_
  refine o_icmpYes cx X0 65 d4_18 (by decide) (by decide) (by decide) ?_
  refine o_aloadN cx X0 d4_65 rfl rfl ?_
  refine o_dup cx X0 d4_66 rfl ?_
  refine o_getF cx X0 d4_67 (o_w hw 11 rfl) G1 fun T569 X570 => ?_
  refine o_iload cx X570 d4_70 rfl ?_
  refine o_iload cx X570 d4_72 rfl ?_
  refine o_iadd cx X570 (z := (2 : Int32)) d4_74 rfl ?_
  refine o_aloadN cx X570 d4_75 rfl rfl ?_
  refine o_aloadN cx X570 d4_76 rfl rfl ?_
  refine o_iloadN cx X570 d4_77 rfl ?_
  refine o_iloadN cx X570 d4_78 rfl ?_
  refine o_iload cx X570 d4_79 rfl ?_
  refine o_callPp cx X570 (y' := (⟨"com/example/bulla/bulla/xml/TextPosition", "joinedLineFeeds", "([BIII)I"⟩ : MethodName)) (argsL := [(.ref ob1), (.int (0 : Int32)), (.int (3 : Int32)), (.int (1 : Int32))]) (st := [(.int (2 : Int32)), (.long (1 : Int64)), (.ref ob0)]) (a := ob0) d4_81 (o_w hw 33 rfl) (o_w hw 35 rfl) (o_w hw 18 rfl) rfl (o_w hw 34 rfl) (o_w hw 4 rfl) (o_w hw 36 rfl) (by decide) G0 (ra6_29 l Z a0 hw ob0 ob1 h0 n0 X570.ge0 ga0 ga1 ne_0_1 G0 G1 G2 G3 G4 G5 G6) (by decide) 4 rfl (by decide) rfl (lenOf pd_6 rfl) rfl rfl (by decide) (by decide) fun T571 X572 => ?_
  show own_Go p e below _ (T571.setTop (mkF m 84 #[.val (.ref ob0), .val (.ref ob1), .val (.int (0 : Int32)), .val (.int (3 : Int32)), .val (.int (0 : Int32)), .val (.int (1 : Int32)), .val (.int (1 : Int32)), .val (.int (3 : Int32))] [(.int (1 : Int32)), (.int (2 : Int32)), (.long (1 : Int64)), (.ref ob0)]))
  refine o_isub cx X572 (z := (1 : Int32)) d4_84 rfl ?_
  refine o_i2l cx X572 (z := (1 : Int64)) d4_85 rfl ?_
  refine o_ladd cx X572 (z := (2 : Int64)) d4_86 rfl ?_
  refine o_putF cx X572 (v' := (.long (2 : Int64))) (ty := .long) d4_87 (o_w hw 11 rfl) G1 G0 (Or.inl (o_w hw 12 rfl)) (o_w hw 3 rfl) (by decide) rfl rfl ga0 fun T576 h578 X577 W579 => ?_
  have G0 := G0.wr W579
  have G1 := G1.same W579
  have G2 := G2.other W579 (Or.inr (slot_ne (Or.inl (o_w hw 14 rfl)) (Or.inl (o_w hw 12 rfl)) (by decide) (t := .long) (t' := .long) (by decide) (by decide)))
  have G3 := G3.other W579 (Or.inr (slot_ne (Or.inl (o_w hw 30 rfl)) (Or.inl (o_w hw 12 rfl)) (by decide) (t := .long) (t' := .long) (by decide) (by decide)))
  have G4 := G4.other W579 (Or.inr (slot_ne (Or.inl (o_w hw 38 rfl)) (Or.inl (o_w hw 12 rfl)) (by decide) (t := .boolean) (t' := .long) (by decide) (by decide)))
  have G5 := G5.other W579 (Or.inr (slot_ne (Or.inl (o_w hw 47 rfl)) (Or.inl (o_w hw 12 rfl)) (by decide) (t := .boolean) (t' := .long) (by decide) (by decide)))
  have G6 := G6.other W579 (Ne.symm ne_0_1)
  have KK := KK.wr W579 (Or.inl (List.mem_of_getElem? (i := 0) rfl))
  refine o_iloadN cx X577 d4_90 rfl ?_
  refine o_iconst cx X577 (z := (1 : Int32)) d4_91 rfl ?_
  refine o_isub cx X577 (z := (2 : Int32)) d4_92 rfl ?_
  refine o_istore cx X577 (Ls' := #[.val (.ref ob0), .val (.ref ob1), .val (.int (0 : Int32)), .val (.int (3 : Int32)), .val (.int (0 : Int32)), .val (.int (1 : Int32)), .val (.int (1 : Int32)), .val (.int (2 : Int32))]) d4_93 rfl ?_
  refine o_iload cx X577 d4_95 rfl ?_
  refine o_iloadN cx X577 d4_97 rfl ?_
  refine o_icmpNo cx X577 d4_98 (by decide) ?_
  refine o_aloadN cx X577 d4_101 rfl rfl ?_
  refine o_iload cx X577 d4_102 rfl ?_
  refine o_ldB cx X577 (v := (.int (97 : Int32))) d4_104 G6 2 (by decide) rfl rfl ?_
  refine o_callSp cx X577 (y' := (⟨"com/example/bulla/bulla/xml/TextPosition", "isLineEnd", "(B)Z"⟩ : MethodName)) (argsL := [(.int (97 : Int32))]) (st := []) d4_105 (o_w hw 39 rfl) (o_w hw 40 rfl) (o_w hw 4 rfl) (o_w hw 41 rfl) (by decide) (ra7_8 l Z a0 hw  h578 n0 X577.ge0 ) (by decide) 0 rfl (by decide) rfl (lenOf pd_7 rfl) rfl rfl (by decide) (by decide) fun T580 X581 => ?_
  show own_Go p e below _ (T580.setTop (mkF m 108 #[.val (.ref ob0), .val (.ref ob1), .val (.int (0 : Int32)), .val (.int (3 : Int32)), .val (.int (0 : Int32)), .val (.int (1 : Int32)), .val (.int (1 : Int32)), .val (.int (2 : Int32))] [(.int (0 : Int32))]))
  refine o_ifNo cx X581 d4_108 (by decide) ?_
  refine o_iinc cx X581 (z := (1 : Int32)) (Ls' := #[.val (.ref ob0), .val (.ref ob1), .val (.int (0 : Int32)), .val (.int (3 : Int32)), .val (.int (0 : Int32)), .val (.int (1 : Int32)), .val (.int (1 : Int32)), .val (.int (1 : Int32))]) d4_111 rfl rfl rfl ?_
  refine o_goto cx X581 95 d4_114 (by decide) (by decide) ?_
  refine o_iload cx X581 d4_95 rfl ?_
  refine o_iloadN cx X581 d4_97 rfl ?_
  refine o_icmpNo cx X581 d4_98 (by decide) ?_
  refine o_aloadN cx X581 d4_101 rfl rfl ?_
  refine o_iload cx X581 d4_102 rfl ?_
  refine o_ldB cx X581 (v := (.int (10 : Int32))) d4_104 G6 1 (by decide) rfl rfl ?_
  refine o_callSp cx X581 (y' := (⟨"com/example/bulla/bulla/xml/TextPosition", "isLineEnd", "(B)Z"⟩ : MethodName)) (argsL := [(.int (10 : Int32))]) (st := []) d4_105 (o_w hw 39 rfl) (o_w hw 40 rfl) (o_w hw 4 rfl) (o_w hw 41 rfl) (by decide) (ra7_13 l Z a0 hw  h578 n0 X581.ge0 ) (by decide) 0 rfl (by decide) rfl (lenOf pd_7 rfl) rfl rfl (by decide) (by decide) fun T585 X586 => ?_
  show own_Go p e below _ (T585.setTop (mkF m 108 #[.val (.ref ob0), .val (.ref ob1), .val (.int (0 : Int32)), .val (.int (3 : Int32)), .val (.int (0 : Int32)), .val (.int (1 : Int32)), .val (.int (1 : Int32)), .val (.int (1 : Int32))] [(.int (1 : Int32))]))
  refine o_ifYes cx X586 117 d4_108 (by decide) (by decide) (by decide) ?_
  refine o_iload cx X586 d4_117 rfl ?_
  refine o_iloadN cx X586 d4_119 rfl ?_
  refine o_icmpYes cx X586 141 d4_120 (by decide) (by decide) (by decide) ?_
  refine o_aloadN cx X586 d4_141 rfl rfl ?_
  refine o_iload cx X586 d4_142 rfl ?_
  refine o_ifYes cx X586 151 d4_144 (by decide) (by decide) (by decide) ?_
  refine o_aloadN cx X586 d4_151 rfl rfl ?_
  refine o_aloadN cx X586 d4_152 rfl rfl ?_
  refine o_iloadN cx X586 d4_153 rfl ?_
  refine o_iload cx X586 d4_154 rfl ?_
  refine o_callPp cx X586 (y' := (⟨"com/example/bulla/bulla/xml/TextPosition", "returnsAlone", "([BII)J"⟩ : MethodName)) (argsL := [(.ref ob1), (.int (0 : Int32)), (.int (1 : Int32))]) (st := [(.ref ob0)]) (a := ob0) d4_156 (o_w hw 42 rfl) (o_w hw 44 rfl) (o_w hw 18 rfl) rfl (o_w hw 43 rfl) (o_w hw 4 rfl) (o_w hw 45 rfl) (by decide) G0 (ra8_30 l Z a0 hw ob0 ob1 h578 n0 X586.ge0 ga0 ga1 ne_0_1 G0 G1 G2 G3 G4 G5 G6) (by decide) 1 rfl (by decide) rfl (lenOf pd_8 rfl) rfl rfl (by decide) (by decide) fun T590 X591 => ?_
  show own_Go p e below _ (T590.setTop (mkF m 159 #[.val (.ref ob0), .val (.ref ob1), .val (.int (0 : Int32)), .val (.int (3 : Int32)), .val (.int (0 : Int32)), .val (.int (1 : Int32)), .val (.int (1 : Int32)), .val (.int (1 : Int32))] [(.long (0 : Int64)), (.ref ob0)]))
  refine o_putF cx X591 (v' := (.long (0 : Int64))) (ty := .long) d4_159 (o_w hw 29 rfl) G3 G0 (Or.inl (o_w hw 30 rfl)) (o_w hw 3 rfl) (by decide) rfl rfl ga0 fun T595 h597 X596 W598 => ?_
  have G0 := G0.wr W598
  have G1 := G1.other W598 (Or.inr (slot_ne (Or.inl (o_w hw 12 rfl)) (Or.inl (o_w hw 30 rfl)) (by decide) (t := .long) (t' := .long) (by decide) (by decide)))
  have G2 := G2.other W598 (Or.inr (slot_ne (Or.inl (o_w hw 14 rfl)) (Or.inl (o_w hw 30 rfl)) (by decide) (t := .long) (t' := .long) (by decide) (by decide)))
  have G3 := G3.same W598
  have G4 := G4.other W598 (Or.inr (slot_ne (Or.inl (o_w hw 38 rfl)) (Or.inl (o_w hw 30 rfl)) (by decide) (t := .boolean) (t' := .long) (by decide) (by decide)))
  have G5 := G5.other W598 (Or.inr (slot_ne (Or.inl (o_w hw 47 rfl)) (Or.inl (o_w hw 30 rfl)) (by decide) (t := .boolean) (t' := .long) (by decide) (by decide)))
  have G6 := G6.other W598 (Ne.symm ne_0_1)
  have KK := KK.wr W598 (Or.inl (List.mem_of_getElem? (i := 0) rfl))
  refine o_aloadN cx X596 d4_162 rfl rfl ?_
  refine o_lconst cx X596 (z := (1 : Int64)) d4_163 rfl ?_
  refine o_aloadN cx X596 d4_164 rfl rfl ?_
  refine o_iload cx X596 d4_165 rfl ?_
  refine o_iconst cx X596 (z := (1 : Int32)) d4_167 rfl ?_
  refine o_iadd cx X596 (z := (2 : Int32)) d4_168 rfl ?_
  refine o_iloadN cx X596 d4_169 rfl ?_
  refine o_callSp cx X596 (y' := (⟨"com/example/bulla/bulla/xml/TextPosition", "columns", "([BII)J"⟩ : MethodName)) (argsL := [(.ref ob1), (.int (2 : Int32)), (.int (3 : Int32))]) (st := [(.long (1 : Int64)), (.ref ob0)]) d4_170 (o_w hw 48 rfl) (o_w hw 49 rfl) (o_w hw 4 rfl) (o_w hw 50 rfl) (by decide) (ra9_31 l Z a0 hw ob1 h597 n0 X596.ge0 ga1 G6) (by decide) 3 rfl (by decide) rfl (lenOf pd_9 rfl) rfl rfl (by decide) (by decide) fun T599 X600 => ?_
  show own_Go p e below _ (T599.setTop (mkF m 173 #[.val (.ref ob0), .val (.ref ob1), .val (.int (0 : Int32)), .val (.int (3 : Int32)), .val (.int (0 : Int32)), .val (.int (1 : Int32)), .val (.int (1 : Int32)), .val (.int (1 : Int32))] [(.long (1 : Int64)), (.long (1 : Int64)), (.ref ob0)]))
  refine o_ladd cx X600 (z := (2 : Int64)) d4_173 rfl ?_
  refine o_putF cx X600 (v' := (.long (2 : Int64))) (ty := .long) d4_174 (o_w hw 13 rfl) G2 G0 (Or.inl (o_w hw 14 rfl)) (o_w hw 3 rfl) (by decide) rfl rfl ga0 fun T604 h606 X605 W607 => ?_
  have G0 := G0.wr W607
  have G1 := G1.other W607 (Or.inr (slot_ne (Or.inl (o_w hw 12 rfl)) (Or.inl (o_w hw 14 rfl)) (by decide) (t := .long) (t' := .long) (by decide) (by decide)))
  have G2 := G2.same W607
  have G3 := G3.other W607 (Or.inr (slot_ne (Or.inl (o_w hw 30 rfl)) (Or.inl (o_w hw 14 rfl)) (by decide) (t := .long) (t' := .long) (by decide) (by decide)))
  have G4 := G4.other W607 (Or.inr (slot_ne (Or.inl (o_w hw 38 rfl)) (Or.inl (o_w hw 14 rfl)) (by decide) (t := .boolean) (t' := .long) (by decide) (by decide)))
  have G5 := G5.other W607 (Or.inr (slot_ne (Or.inl (o_w hw 47 rfl)) (Or.inl (o_w hw 14 rfl)) (by decide) (t := .boolean) (t' := .long) (by decide) (by decide)))
  have G6 := G6.other W607 (Ne.symm ne_0_1)
  have KK := KK.wr W607 (Or.inl (List.mem_of_getElem? (i := 0) rfl))
  refine o_aloadN cx X605 d4_177 rfl rfl ?_
  refine o_aloadN cx X605 d4_178 rfl rfl ?_
  refine o_iloadN cx X605 d4_179 rfl ?_
  refine o_iconst cx X605 (z := (1 : Int32)) d4_180 rfl ?_
  refine o_isub cx X605 (z := (2 : Int32)) d4_181 rfl ?_
  refine o_ldB cx X605 (v := (.int (97 : Int32))) d4_182 G6 2 (by decide) rfl rfl ?_
  refine o_callSp cx X605 (y' := (⟨"com/example/bulla/bulla/xml/TextPosition", "isLineEnd", "(B)Z"⟩ : MethodName)) (argsL := [(.int (97 : Int32))]) (st := [(.ref ob0)]) d4_183 (o_w hw 39 rfl) (o_w hw 40 rfl) (o_w hw 4 rfl) (o_w hw 41 rfl) (by decide) (ra7_8 l Z a0 hw  h606 n0 X605.ge0 ) (by decide) 1 rfl (by decide) rfl (lenOf pd_7 rfl) rfl rfl (by decide) (by decide) fun T608 X609 => ?_
  show own_Go p e below _ (T608.setTop (mkF m 186 #[.val (.ref ob0), .val (.ref ob1), .val (.int (0 : Int32)), .val (.int (3 : Int32)), .val (.int (0 : Int32)), .val (.int (1 : Int32)), .val (.int (1 : Int32)), .val (.int (1 : Int32))] [(.int (0 : Int32)), (.ref ob0)]))
  refine o_putF cx X609 (v' := (.int (0 : Int32))) (ty := .boolean) d4_186 (o_w hw 46 rfl) G5 G0 (Or.inl (o_w hw 47 rfl)) (o_w hw 3 rfl) (by decide) rfl (fits_nar_bool (0 : Int32)) ga0 fun T613 h615 X614 W616 => ?_
  have G0 := G0.wr W616
  have G1 := G1.other W616 (Or.inr (slot_ne (Or.inl (o_w hw 12 rfl)) (Or.inl (o_w hw 47 rfl)) (by decide) (t := .long) (t' := .boolean) (by decide) (by decide)))
  have G2 := G2.other W616 (Or.inr (slot_ne (Or.inl (o_w hw 14 rfl)) (Or.inl (o_w hw 47 rfl)) (by decide) (t := .long) (t' := .boolean) (by decide) (by decide)))
  have G3 := G3.other W616 (Or.inr (slot_ne (Or.inl (o_w hw 30 rfl)) (Or.inl (o_w hw 47 rfl)) (by decide) (t := .long) (t' := .boolean) (by decide) (by decide)))
  have G4 := G4.other W616 (Or.inr (slot_ne (Or.inl (o_w hw 38 rfl)) (Or.inl (o_w hw 47 rfl)) (by decide) (t := .boolean) (t' := .boolean) (by decide) (by decide)))
  have G5 := G5.same W616
  have G6 := G6.other W616 (Ne.symm ne_0_1)
  have KK := KK.wr W616 (Or.inl (List.mem_of_getElem? (i := 0) rfl))
  refine o_aloadN cx X614 d4_189 rfl rfl ?_
  refine o_aloadN cx X614 d4_190 rfl rfl ?_
  refine o_iloadN cx X614 d4_191 rfl ?_
  refine o_iconst cx X614 (z := (1 : Int32)) d4_192 rfl ?_
  refine o_isub cx X614 (z := (2 : Int32)) d4_193 rfl ?_
  refine o_ldB cx X614 (v := (.int (97 : Int32))) d4_194 G6 2 (by decide) rfl rfl ?_
  refine o_bipush cx X614 (z := (13 : Int32)) d4_195 rfl ?_
  refine o_icmpYes cx X614 204 d4_197 (by decide) (by decide) (by decide) ?_
  refine o_iconst cx X614 (z := (0 : Int32)) d4_204 rfl ?_
  refine o_putF cx X614 (v' := (.int (0 : Int32))) (ty := .boolean) d4_205 (o_w hw 37 rfl) G4 G0 (Or.inl (o_w hw 38 rfl)) (o_w hw 3 rfl) (by decide) rfl (fits_nar_bool (0 : Int32)) ga0 fun T617 h619 X618 W620 => ?_
  have G0 := G0.wr W620
  have G1 := G1.other W620 (Or.inr (slot_ne (Or.inl (o_w hw 12 rfl)) (Or.inl (o_w hw 38 rfl)) (by decide) (t := .long) (t' := .boolean) (by decide) (by decide)))
  have G2 := G2.other W620 (Or.inr (slot_ne (Or.inl (o_w hw 14 rfl)) (Or.inl (o_w hw 38 rfl)) (by decide) (t := .long) (t' := .boolean) (by decide) (by decide)))
  have G3 := G3.other W620 (Or.inr (slot_ne (Or.inl (o_w hw 30 rfl)) (Or.inl (o_w hw 38 rfl)) (by decide) (t := .long) (t' := .boolean) (by decide) (by decide)))
  have G4 := G4.same W620
  have G5 := G5.other W620 (Or.inr (slot_ne (Or.inl (o_w hw 47 rfl)) (Or.inl (o_w hw 38 rfl)) (by decide) (t := .boolean) (t' := .boolean) (by decide) (by decide)))
  have G6 := G6.other W620 (Ne.symm ne_0_1)
  have KK := KK.wr W620 (Or.inl (List.mem_of_getElem? (i := 0) rfl))
  exact o_retV cx X618 d4_208 ⟨rfl, KK, G0, G1, G2, G3, G4, G5⟩ (by decide) (by decide)
theorem ef_ra3_27 (m : MethodId) (ob0 : Addr) (ob1 : Addr) : entryFrame m #[(.ref ob0), (.ref ob1), (.int (0 : Int32)), (.int (3 : Int32))] 4 = mkF m 0 #[.val (.ref ob0), .val (.ref ob1), .val (.int (0 : Int32)), .val (.int (3 : Int32))] [] := by first | (simp [entryFrame, mkF, argsToLocals, Value.category]; done) | rfl
set_option maxRecDepth 65536 in
set_option maxHeartbeats 40000000 in
theorem ra3_27 (l : Launch) (Z : State) (a0 : Array Value) (hw : ∀ d ∈ tables_1, d.before a0 Z = true) (ob0 : Addr) (ob1 : Addr) (h0 : Heap) (n0 : Nat) (Z0 : n0 ≤ h0.size) (ga0 : n0 ≤ ob0) (ga1 : n0 ≤ ob1) (ne_0_1 : ob0 ≠ ob1) (G0 : Exa Z h0 ob0 "com/example/bulla/bulla/xml/TextPosition") (G1 : Fld Z h0 ob0 "com/example/bulla/bulla/xml/TextPosition" "line" "J" (.long (1 : Int64))) (G2 : Fld Z h0 ob0 "com/example/bulla/bulla/xml/TextPosition" "column" "J" (.long (1 : Int64))) (G3 : Fld Z h0 ob0 "com/example/bulla/bulla/xml/TextPosition" "shortfall" "J" (.long (0 : Int64))) (G4 : Fld Z h0 ob0 "com/example/bulla/bulla/xml/TextPosition" "afterReturn" "Z" (.int (0 : Int32))) (G5 : Fld Z h0 ob0 "com/example/bulla/bulla/xml/TextPosition" "afterLineEnd" "Z" (.int (0 : Int32))) (G6 : own_Ar Z h0 ob1 .byte [(.int (13 : Int32)), (.int (10 : Int32)), (.int (97 : Int32))]) :
    own_Met l Z (⟨"com/example/bulla/bulla/xml/TextPosition", "moveOver", "([BII)V"⟩ : MethodName) prog_169_method_6_code 4 none ({ frames := 3, cells := 0, slots := 0, locals := 51 } : Room) #[(.ref ob0), (.ref ob1), (.int (0 : Int32)), (.int (3 : Int32))] h0 n0 (fun v' h' => v' = none ∧ Keep h0 h' [ob0] ∧ Exa Z h' ob0 "com/example/bulla/bulla/xml/TextPosition" ∧ Fld Z h' ob0 "com/example/bulla/bulla/xml/TextPosition" "line" "J" (.long (2 : Int64)) ∧ Fld Z h' ob0 "com/example/bulla/bulla/xml/TextPosition" "column" "J" (.long (2 : Int64)) ∧ Fld Z h' ob0 "com/example/bulla/bulla/xml/TextPosition" "shortfall" "J" (.long (0 : Int64)) ∧ Fld Z h' ob0 "com/example/bulla/bulla/xml/TextPosition" "afterReturn" "Z" (.int (0 : Int32)) ∧ Fld Z h' ob0 "com/example/bulla/bulla/xml/TextPosition" "afterLineEnd" "Z" (.int (0 : Int32))) := by
  refine own_body (plainFor_of_name pn_5) (fun m => ef_ra3_27 m ob0 ob1) Z0 ?_
  intro p e s m below meth c T0 cx X0
  have KK := Keep.refl h0 [ob0]
  show own_Go p e below _ (T0.setTop (mkF m 0 #[.val (.ref ob0), .val (.ref ob1), .val (.int (0 : Int32)), .val (.int (3 : Int32))] []))
  refine o_aloadN cx X0 d3_0 rfl rfl ?_
  refine o_aloadN cx X0 d3_1 rfl rfl ?_
  refine o_iloadN cx X0 d3_2 rfl ?_
  refine o_iloadN cx X0 d3_3 rfl ?_
  refine o_iconst cx X0 (z := (0 : Int32)) d3_4 rfl ?_
  refine o_callP cx X0 (y' := (⟨"com/example/bulla/bulla/xml/TextPosition", "move", "([BIIZ)V"⟩ : MethodName)) (argsL := [(.ref ob1), (.int (0 : Int32)), (.int (3 : Int32)), (.int (0 : Int32))]) (st := []) (a := ob0) d3_5 (o_w hw 20 rfl) (o_w hw 22 rfl) (o_w hw 18 rfl) rfl (o_w hw 21 rfl) (o_w hw 4 rfl) (o_w hw 23 rfl) (by decide) G0 (ra4_28 l Z a0 hw ob0 ob1 h0 n0 X0.ge0 ga0 ga1 ne_0_1 G0 G1 G2 G3 G4 G5 G6) (by decide) 0 rfl (by decide) rfl (lenOf pd_4 rfl) rfl rfl (by decide) (by decide) fun v532 T529 h531 X530 Q533 => ?_
  obtain ⟨rfl, K534, E535, F536, F537, F538, F539, F540⟩ := Q533
  have G6 := G6.keep K534 (ninS (Ne.symm ne_0_1) nin0)
  have KK := KK.trans K534 (allS (Or.inl (List.mem_of_getElem? (i := 0) rfl)) all0)
  show own_Go p e below _ (T529.setTop (mkF m 8 #[.val (.ref ob0), .val (.ref ob1), .val (.int (0 : Int32)), .val (.int (3 : Int32))] []))
  exact o_retV cx X530 d3_8 ⟨rfl, KK, E535, F536, F537, F538, F539, F540⟩ (by decide) (by decide)
theorem pn_0 : plainName "com/example/bulla/bulla/xml/TextPositionIsSurelyAfterPinLaw" = true := by first | (simp [plainName, overriddenIn]; done) | decide +kernel
theorem ef_rm0 (m : MethodId) (p0 : Int32) (p1 : Int32) (p2 : Int64) (p3 : Int64) : entryFrame m #[(.int p0), (.int p1), (.long p2), (.long p3)] maxLocals = mkF m 0 #[.val (.int p0), .val (.int p1), .val (.long p2), .second, .val (.long p3), .second, .unset, .unset, .unset, .unset, .unset, .unset, .unset, .unset, .unset, .unset, .unset, .unset, .unset, .unset] [] := by first | (simp [entryFrame, mkF, argsToLocals, Value.category, maxLocals]; done) | rfl
set_option maxRecDepth 65536 in
set_option maxHeartbeats 40000000 in
theorem rm0 (l : Launch) (Z : State) (a0 : Array Value) (hw : ∀ d ∈ tables_1, d.before a0 Z = true) (p0 : Int32) (p1 : Int32) (p2 : Int64) (p3 : Int64) (h0 : Heap) (n0 : Nat) (Z0 : n0 ≤ h0.size) :
    own_Met l Z x code maxLocals ret room_1 #[(.int p0), (.int p1), (.long p2), (.long p3)] h0 n0 (fun v' _ => v' = some (.int 1)) := by
  refine own_body (plainFor_of_name pn_0) (fun m => ef_rm0 m p0 p1 p2 p3) Z0 ?_
  intro p e s m below meth c T0 cx X0
  show own_Go p e below _ (T0.setTop (mkF m 0 #[.val (.int p0), .val (.int p1), .val (.long p2), .second, .val (.long p3), .second, .unset, .unset, .unset, .unset, .unset, .unset, .unset, .unset, .unset, .unset, .unset, .unset, .unset, .unset] []))
  refine o_iloadN cx X0 at_0 rfl ?_
  refine o_ldc cx X0 (z := (2147483647 : Int32)) at_1 (o_w hw 0 rfl) ?_
  refine o_iand cx X0 at_3 rfl ?_
  refine o_bipush cx X0 (z := (6 : Int32)) at_4 rfl ?_
  refine o_irem cx X0 at_6 (by decide) rfl ?_
  refine o_istore cx X0 (Ls' := #[.val (.int p0), .val (.int p1), .val (.long p2), .second, .val (.long p3), .second, .val (.int ((p0 &&& (2147483647 : Int32)) % (6 : Int32))), .unset, .unset, .unset, .unset, .unset, .unset, .unset, .unset, .unset, .unset, .unset, .unset, .unset]) at_7 rfl ?_
  refine o_iconst cx X0 (z := (3 : Int32)) at_9 rfl ?_
  refine o_newP cx X0 at_10 (o_w hw 1 rfl) (by decide) 3 3 rfl (Nat.le_refl _) (by decide) (by decide) (by decide) fun T13 h15 b12 gb18 ge19 X14 E16 A17 => ?_
  have A17 : own_Ar Z h15 b12 .byte [(.int (0 : Int32)), (.int (0 : Int32)), (.int (0 : Int32))] := A17
  refine o_astore cx X14 (Ls' := #[.val (.int p0), .val (.int p1), .val (.long p2), .second, .val (.long p3), .second, .val (.int ((p0 &&& (2147483647 : Int32)) % (6 : Int32))), .val (.ref b12), .unset, .unset, .unset, .unset, .unset, .unset, .unset, .unset, .unset, .unset, .unset, .unset]) at_12 rfl rfl ?_
  refine o_iload cx X14 at_14 rfl ?_
  by_cases hc20 : ((p0 &&& (2147483647 : Int32)) % (6 : Int32)) = (0 : Int32)
  · refine o_ifNo cx X14 at_16 ((if0 _ _).trans (teq hc20).2) ?_
    refine o_iconst cx X14 (z := (0 : Int32)) at_19 rfl ?_
    refine o_istore cx X14 (Ls' := #[.val (.int p0), .val (.int p1), .val (.long p2), .second, .val (.long p3), .second, .val (.int ((p0 &&& (2147483647 : Int32)) % (6 : Int32))), .val (.ref b12), .val (.int (0 : Int32)), .unset, .unset, .unset, .unset, .unset, .unset, .unset, .unset, .unset, .unset, .unset]) at_20 rfl ?_
    refine o_lconst cx X14 (z := (1 : Int64)) at_22 rfl ?_
    refine o_lstore cx X14 (Ls' := #[.val (.int p0), .val (.int p1), .val (.long p2), .second, .val (.long p3), .second, .val (.int ((p0 &&& (2147483647 : Int32)) % (6 : Int32))), .val (.ref b12), .val (.int (0 : Int32)), .val (.long (1 : Int64)), .second, .unset, .unset, .unset, .unset, .unset, .unset, .unset, .unset, .unset]) at_23 rfl ?_
    refine o_lconst cx X14 (z := (0 : Int64)) at_25 rfl ?_
    refine o_lstore cx X14 (Ls' := #[.val (.int p0), .val (.int p1), .val (.long p2), .second, .val (.long p3), .second, .val (.int ((p0 &&& (2147483647 : Int32)) % (6 : Int32))), .val (.ref b12), .val (.int (0 : Int32)), .val (.long (1 : Int64)), .second, .val (.long (0 : Int64)), .second, .unset, .unset, .unset, .unset, .unset, .unset, .unset]) at_26 rfl ?_
    refine o_goto cx X14 202 at_28 (by decide) (by decide) ?_
    refine o_newO cx X14 at_202 (o_w hw 2 rfl) (o_w hw 3 rfl) (o_w hw 4 rfl) (by decide) (by decide) fun T22 h24 b21 gb28 ge29 X23 E25 A26 D27 => ?_
    have ne_b12_b21 : b12 ≠ b21 := by rw [gb28]; exact Nat.ne_of_lt A17.lt
    have A17 := A17.ext E25
    have F_b21_line : Fld Z h24 b21 "com/example/bulla/bulla/xml/TextPosition" "line" "J" (.long (0 : Int64)) := D27 (Or.inl (o_w hw 12 rfl)) (ty := .long) (by decide)
    have F_b21_column : Fld Z h24 b21 "com/example/bulla/bulla/xml/TextPosition" "column" "J" (.long (0 : Int64)) := D27 (Or.inl (o_w hw 14 rfl)) (ty := .long) (by decide)
    have F_b21_shortfall : Fld Z h24 b21 "com/example/bulla/bulla/xml/TextPosition" "shortfall" "J" (.long (0 : Int64)) := D27 (Or.inl (o_w hw 30 rfl)) (ty := .long) (by decide)
    have F_b21_afterReturn : Fld Z h24 b21 "com/example/bulla/bulla/xml/TextPosition" "afterReturn" "Z" (.int (0 : Int32)) := D27 (Or.inl (o_w hw 38 rfl)) (ty := .boolean) (by decide)
    have F_b21_afterLineEnd : Fld Z h24 b21 "com/example/bulla/bulla/xml/TextPosition" "afterLineEnd" "Z" (.int (0 : Int32)) := D27 (Or.inl (o_w hw 47 rfl)) (ty := .boolean) (by decide)
    refine o_dup cx X23 at_205 rfl ?_
    refine o_callC cx X23 (y' := (⟨"com/example/bulla/bulla/xml/TextPosition", "<init>", "()V"⟩ : MethodName)) (argsL := []) (st := [(.ref b21)]) (a := b21) at_206 (o_w hw 5 rfl) (o_w hw 6 rfl) (o_w hw 4 rfl) (o_w hw 7 rfl) (by decide) rfl (ra1_1 l Z a0 hw b21 h24 n0 X23.ge0 ge29 A26 F_b21_line F_b21_column F_b21_shortfall F_b21_afterReturn F_b21_afterLineEnd) (by decide) 1 rfl (by decide) rfl (lenOf pd_1 rfl) rfl rfl (by decide) (by decide) fun v33 T30 h32 X31 Q34 => ?_
    obtain ⟨rfl, K35, E36, F37, F38, F39, F40, F41⟩ := Q34
    have A17 := A17.keep K35 (ninS ne_b12_b21 nin0)
    show own_Go p e below _ (T30.setTop (mkF m 209 #[.val (.int p0), .val (.int p1), .val (.long p2), .second, .val (.long p3), .second, .val (.int ((p0 &&& (2147483647 : Int32)) % (6 : Int32))), .val (.ref b12), .val (.int (0 : Int32)), .val (.long (1 : Int64)), .second, .val (.long (0 : Int64)), .second, .unset, .unset, .unset, .unset, .unset, .unset, .unset] [(.ref b21)]))
    refine o_astore cx X31 (Ls' := #[.val (.int p0), .val (.int p1), .val (.long p2), .second, .val (.long p3), .second, .val (.int ((p0 &&& (2147483647 : Int32)) % (6 : Int32))), .val (.ref b12), .val (.int (0 : Int32)), .val (.long (1 : Int64)), .second, .val (.long (0 : Int64)), .second, .val (.ref b21), .unset, .unset, .unset, .unset, .unset, .unset]) at_209 rfl rfl ?_
    refine o_aload cx X31 at_211 rfl rfl ?_
    refine o_aload cx X31 at_213 rfl rfl ?_
    refine o_iconst cx X31 (z := (0 : Int32)) at_215 rfl ?_
    refine o_iload cx X31 at_216 rfl ?_
    refine o_callVp cx X31 (y' := (⟨"com/example/bulla/bulla/xml/TextPosition", "moveOver", "([BII)V"⟩ : MethodName)) (argsL := [(.ref b12), (.int (0 : Int32)), (.int (0 : Int32))]) (st := []) (a := b21) at_218 (o_w hw 15 rfl) (o_w hw 16 rfl) (o_w hw 18 rfl) (o_w hw 17 rfl) (o_w hw 4 rfl) (o_w hw 19 rfl) (by decide) E36 (ra3_2 l Z a0 hw b21 b12 h32 n0 X31.ge0 ge29 ge19 (Ne.symm ne_b12_b21) E36 F37 F38 F39 F40 F41 A17) (by decide) 0 rfl (by decide) rfl (lenOf pd_3 rfl) rfl rfl (by decide) (by decide) fun T42 X43 => ?_
    show own_Go p e below _ (T42.setTop (mkF m 221 #[.val (.int p0), .val (.int p1), .val (.long p2), .second, .val (.long p3), .second, .val (.int ((p0 &&& (2147483647 : Int32)) % (6 : Int32))), .val (.ref b12), .val (.int (0 : Int32)), .val (.long (1 : Int64)), .second, .val (.long (0 : Int64)), .second, .val (.ref b21), .unset, .unset, .unset, .unset, .unset, .unset] []))
    have J297 : ∀ (ol oc : Int64) (lm : Int32), own_Go p e below (own_End below s room_1 n0 (fun v' _ => v' = some (.int 1))) (T42.setTop (mkF m 297 #[.val (.int p0), .val (.int p1), .val (.long p2), .second, .val (.long p3), .second, .val (.int ((p0 &&& (2147483647 : Int32)) % (6 : Int32))), .val (.ref b12), .val (.int (0 : Int32)), .val (.long (1 : Int64)), .second, .val (.long (0 : Int64)), .second, .val (.ref b21), .val (.int lm), .val (.long ol), .second, .val (.long oc), .second, .unset] [])) := by
      intro ol oc lm
      refine o_lload cx X43 at_297 rfl ?_
      refine o_lload cx X43 at_299 rfl ?_
      refine o_lcmp cx X43 at_301 rfl ?_
      by_cases hc47 : ol < (1 : Int64)
      · refine o_ifYes cx X43 321 at_302 ((if0 _ _).trans (tlt ((lw_lt ol (1 : Int64)).mpr hc47)).1) (by decide) (by decide) ?_
        refine o_iconst cx X43 (z := (1 : Int32)) at_321 rfl ?_
        refine o_goto cx X43 326 at_322 (by decide) (by decide) ?_
        refine o_istore cx X43 (Ls' := #[.val (.int p0), .val (.int p1), .val (.long p2), .second, .val (.long p3), .second, .val (.int ((p0 &&& (2147483647 : Int32)) % (6 : Int32))), .val (.ref b12), .val (.int (0 : Int32)), .val (.long (1 : Int64)), .second, .val (.long (0 : Int64)), .second, .val (.ref b21), .val (.int lm), .val (.long ol), .second, .val (.long oc), .second, .val (.int (1 : Int32))]) at_326 rfl ?_
        refine o_aload cx X43 at_328 rfl rfl ?_
        refine o_lload cx X43 at_330 rfl ?_
        refine o_lload cx X43 at_332 rfl ?_
        refine o_callVp cx X43 (y' := (⟨"com/example/bulla/bulla/xml/TextPosition", "isSurelyAfter", "(JJ)Z"⟩ : MethodName)) (argsL := [(.long ol), (.long oc)]) (st := []) (a := b21) at_334 (o_w hw 24 rfl) (o_w hw 25 rfl) (o_w hw 27 rfl) (o_w hw 26 rfl) (o_w hw 4 rfl) (o_w hw 28 rfl) (by decide) E36 (rm1 l Z a0 hw b21 (1 : Int64) (1 : Int64) (0 : Int64) ol oc h32 n0 X43.ge0 F37 F38 F39) (by decide) 0 rfl (by decide) rfl (lenOf pd_5 rfl) rfl rfl (by decide) (by decide) fun T48 X49 => ?_
        show own_Go p e below _ (T48.setTop (mkF m 337 #[.val (.int p0), .val (.int p1), .val (.long p2), .second, .val (.long p3), .second, .val (.int ((p0 &&& (2147483647 : Int32)) % (6 : Int32))), .val (.ref b12), .val (.int (0 : Int32)), .val (.long (1 : Int64)), .second, .val (.long (0 : Int64)), .second, .val (.ref b21), .val (.int lm), .val (.long ol), .second, .val (.long oc), .second, .val (.int (1 : Int32))] [(.int (own_sa (1 : Int64) (1 : Int64) (0 : Int64) ol oc))]))
        refine o_iload cx X49 at_337 rfl ?_
        have hfin : (own_sa (1 : Int64) (1 : Int64) (0 : Int64) ol oc) = (1 : Int32) := by
          simp only [Int64.lt_iff_toInt_lt, ← Int64.toInt_inj] at hc47
          unfold own_sa
          simp only [Int64.reduceSub, Int64.reduceToInt] at hc47 ⊢
          repeat' split
          all_goals first | rfl | omega
        refine o_icmpNo cx X49 at_339 (teq hfin).2 ?_
        refine o_iconst cx X49 (z := (1 : Int32)) at_342 rfl ?_
        refine o_goto cx X49 347 at_343 (by decide) (by decide) ?_
        exact o_retN cx X49 (z' := (1 : Int32)) at_347 (by simp) rfl rfl (by decide) (by decide)
      · refine o_ifNo cx X43 at_302 ((if0 _ _).trans (flt (fun q => hc47 ((lw_lt ol (1 : Int64)).mp q))).1) ?_
        refine o_lload cx X43 at_305 rfl ?_
        refine o_lload cx X43 at_307 rfl ?_
        refine o_lcmp cx X43 at_309 rfl ?_
        by_cases hc53 : ol = (1 : Int64)
        · refine o_ifNo cx X43 at_310 ((if0 _ _).trans (teq ((lw_eq ol (1 : Int64)).mpr hc53)).2) ?_
          refine o_lload cx X43 at_313 rfl ?_
          refine o_lload cx X43 at_315 rfl ?_
          refine o_lcmp cx X43 at_317 rfl ?_
          by_cases hc54 : (0 : Int64) < oc
          · refine o_ifYes cx X43 325 at_318 ((if0 _ _).trans (tlt ((lw_gt oc (0 : Int64)).mpr hc54)).2.2.1) (by decide) (by decide) ?_
            refine o_iconst cx X43 (z := (0 : Int32)) at_325 rfl ?_
            refine o_istore cx X43 (Ls' := #[.val (.int p0), .val (.int p1), .val (.long p2), .second, .val (.long p3), .second, .val (.int ((p0 &&& (2147483647 : Int32)) % (6 : Int32))), .val (.ref b12), .val (.int (0 : Int32)), .val (.long (1 : Int64)), .second, .val (.long (0 : Int64)), .second, .val (.ref b21), .val (.int lm), .val (.long ol), .second, .val (.long oc), .second, .val (.int (0 : Int32))]) at_326 rfl ?_
            refine o_aload cx X43 at_328 rfl rfl ?_
            refine o_lload cx X43 at_330 rfl ?_
            refine o_lload cx X43 at_332 rfl ?_
            refine o_callVp cx X43 (y' := (⟨"com/example/bulla/bulla/xml/TextPosition", "isSurelyAfter", "(JJ)Z"⟩ : MethodName)) (argsL := [(.long ol), (.long oc)]) (st := []) (a := b21) at_334 (o_w hw 24 rfl) (o_w hw 25 rfl) (o_w hw 27 rfl) (o_w hw 26 rfl) (o_w hw 4 rfl) (o_w hw 28 rfl) (by decide) E36 (rm1 l Z a0 hw b21 (1 : Int64) (1 : Int64) (0 : Int64) ol oc h32 n0 X43.ge0 F37 F38 F39) (by decide) 0 rfl (by decide) rfl (lenOf pd_5 rfl) rfl rfl (by decide) (by decide) fun T55 X56 => ?_
            show own_Go p e below _ (T55.setTop (mkF m 337 #[.val (.int p0), .val (.int p1), .val (.long p2), .second, .val (.long p3), .second, .val (.int ((p0 &&& (2147483647 : Int32)) % (6 : Int32))), .val (.ref b12), .val (.int (0 : Int32)), .val (.long (1 : Int64)), .second, .val (.long (0 : Int64)), .second, .val (.ref b21), .val (.int lm), .val (.long ol), .second, .val (.long oc), .second, .val (.int (0 : Int32))] [(.int (own_sa (1 : Int64) (1 : Int64) (0 : Int64) ol oc))]))
            refine o_iload cx X56 at_337 rfl ?_
            have hfin : (own_sa (1 : Int64) (1 : Int64) (0 : Int64) ol oc) = (0 : Int32) := by
              simp only [Int64.lt_iff_toInt_lt, ← Int64.toInt_inj] at hc47 hc53 hc54
              unfold own_sa
              simp only [Int64.reduceSub, Int64.reduceToInt] at hc47 hc53 hc54 ⊢
              repeat' split
              all_goals first | rfl | omega
            refine o_icmpNo cx X56 at_339 (teq hfin).2 ?_
            refine o_iconst cx X56 (z := (1 : Int32)) at_342 rfl ?_
            refine o_goto cx X56 347 at_343 (by decide) (by decide) ?_
            exact o_retN cx X56 (z' := (1 : Int32)) at_347 (by simp) rfl rfl (by decide) (by decide)
          · refine o_ifNo cx X43 at_318 ((if0 _ _).trans (flt (fun q => hc54 ((lw_gt oc (0 : Int64)).mp q))).2.2.1) ?_
            refine o_iconst cx X43 (z := (1 : Int32)) at_321 rfl ?_
            refine o_goto cx X43 326 at_322 (by decide) (by decide) ?_
            refine o_istore cx X43 (Ls' := #[.val (.int p0), .val (.int p1), .val (.long p2), .second, .val (.long p3), .second, .val (.int ((p0 &&& (2147483647 : Int32)) % (6 : Int32))), .val (.ref b12), .val (.int (0 : Int32)), .val (.long (1 : Int64)), .second, .val (.long (0 : Int64)), .second, .val (.ref b21), .val (.int lm), .val (.long ol), .second, .val (.long oc), .second, .val (.int (1 : Int32))]) at_326 rfl ?_
            refine o_aload cx X43 at_328 rfl rfl ?_
            refine o_lload cx X43 at_330 rfl ?_
            refine o_lload cx X43 at_332 rfl ?_
            refine o_callVp cx X43 (y' := (⟨"com/example/bulla/bulla/xml/TextPosition", "isSurelyAfter", "(JJ)Z"⟩ : MethodName)) (argsL := [(.long ol), (.long oc)]) (st := []) (a := b21) at_334 (o_w hw 24 rfl) (o_w hw 25 rfl) (o_w hw 27 rfl) (o_w hw 26 rfl) (o_w hw 4 rfl) (o_w hw 28 rfl) (by decide) E36 (rm1 l Z a0 hw b21 (1 : Int64) (1 : Int64) (0 : Int64) ol oc h32 n0 X43.ge0 F37 F38 F39) (by decide) 0 rfl (by decide) rfl (lenOf pd_5 rfl) rfl rfl (by decide) (by decide) fun T60 X61 => ?_
            show own_Go p e below _ (T60.setTop (mkF m 337 #[.val (.int p0), .val (.int p1), .val (.long p2), .second, .val (.long p3), .second, .val (.int ((p0 &&& (2147483647 : Int32)) % (6 : Int32))), .val (.ref b12), .val (.int (0 : Int32)), .val (.long (1 : Int64)), .second, .val (.long (0 : Int64)), .second, .val (.ref b21), .val (.int lm), .val (.long ol), .second, .val (.long oc), .second, .val (.int (1 : Int32))] [(.int (own_sa (1 : Int64) (1 : Int64) (0 : Int64) ol oc))]))
            refine o_iload cx X61 at_337 rfl ?_
            have hfin : (own_sa (1 : Int64) (1 : Int64) (0 : Int64) ol oc) = (1 : Int32) := by
              simp only [Int64.lt_iff_toInt_lt, ← Int64.toInt_inj] at hc47 hc53 hc54
              unfold own_sa
              simp only [Int64.reduceSub, Int64.reduceToInt] at hc47 hc53 hc54 ⊢
              repeat' split
              all_goals first | rfl | omega
            refine o_icmpNo cx X61 at_339 (teq hfin).2 ?_
            refine o_iconst cx X61 (z := (1 : Int32)) at_342 rfl ?_
            refine o_goto cx X61 347 at_343 (by decide) (by decide) ?_
            exact o_retN cx X61 (z' := (1 : Int32)) at_347 (by simp) rfl rfl (by decide) (by decide)
        · refine o_ifYes cx X43 325 at_310 ((if0 _ _).trans (feq (fun q => hc53 ((lw_eq ol (1 : Int64)).mp q))).2) (by decide) (by decide) ?_
          refine o_iconst cx X43 (z := (0 : Int32)) at_325 rfl ?_
          refine o_istore cx X43 (Ls' := #[.val (.int p0), .val (.int p1), .val (.long p2), .second, .val (.long p3), .second, .val (.int ((p0 &&& (2147483647 : Int32)) % (6 : Int32))), .val (.ref b12), .val (.int (0 : Int32)), .val (.long (1 : Int64)), .second, .val (.long (0 : Int64)), .second, .val (.ref b21), .val (.int lm), .val (.long ol), .second, .val (.long oc), .second, .val (.int (0 : Int32))]) at_326 rfl ?_
          refine o_aload cx X43 at_328 rfl rfl ?_
          refine o_lload cx X43 at_330 rfl ?_
          refine o_lload cx X43 at_332 rfl ?_
          refine o_callVp cx X43 (y' := (⟨"com/example/bulla/bulla/xml/TextPosition", "isSurelyAfter", "(JJ)Z"⟩ : MethodName)) (argsL := [(.long ol), (.long oc)]) (st := []) (a := b21) at_334 (o_w hw 24 rfl) (o_w hw 25 rfl) (o_w hw 27 rfl) (o_w hw 26 rfl) (o_w hw 4 rfl) (o_w hw 28 rfl) (by decide) E36 (rm1 l Z a0 hw b21 (1 : Int64) (1 : Int64) (0 : Int64) ol oc h32 n0 X43.ge0 F37 F38 F39) (by decide) 0 rfl (by decide) rfl (lenOf pd_5 rfl) rfl rfl (by decide) (by decide) fun T65 X66 => ?_
          show own_Go p e below _ (T65.setTop (mkF m 337 #[.val (.int p0), .val (.int p1), .val (.long p2), .second, .val (.long p3), .second, .val (.int ((p0 &&& (2147483647 : Int32)) % (6 : Int32))), .val (.ref b12), .val (.int (0 : Int32)), .val (.long (1 : Int64)), .second, .val (.long (0 : Int64)), .second, .val (.ref b21), .val (.int lm), .val (.long ol), .second, .val (.long oc), .second, .val (.int (0 : Int32))] [(.int (own_sa (1 : Int64) (1 : Int64) (0 : Int64) ol oc))]))
          refine o_iload cx X66 at_337 rfl ?_
          have hfin : (own_sa (1 : Int64) (1 : Int64) (0 : Int64) ol oc) = (0 : Int32) := by
            simp only [Int64.lt_iff_toInt_lt, ← Int64.toInt_inj] at hc47 hc53
            unfold own_sa
            simp only [Int64.reduceSub, Int64.reduceToInt] at hc47 hc53 ⊢
            repeat' split
            all_goals first | rfl | omega
          refine o_icmpNo cx X66 at_339 (teq hfin).2 ?_
          refine o_iconst cx X66 (z := (1 : Int32)) at_342 rfl ?_
          refine o_goto cx X66 347 at_343 (by decide) (by decide) ?_
          exact o_retN cx X66 (z' := (1 : Int32)) at_347 (by simp) rfl rfl (by decide) (by decide)
    have J271 : ∀ (ol : Int64) (lm : Int32), own_Go p e below (own_End below s room_1 n0 (fun v' _ => v' = some (.int 1))) (T42.setTop (mkF m 271 #[.val (.int p0), .val (.int p1), .val (.long p2), .second, .val (.long p3), .second, .val (.int ((p0 &&& (2147483647 : Int32)) % (6 : Int32))), .val (.ref b12), .val (.int (0 : Int32)), .val (.long (1 : Int64)), .second, .val (.long (0 : Int64)), .second, .val (.ref b21), .val (.int lm), .val (.long ol), .second, .unset, .unset, .unset] [])) := by
      intro ol lm
      refine o_iloadN cx X43 at_271 rfl ?_
      refine o_iconst cx X43 (z := (2 : Int32)) at_272 rfl ?_
      refine o_ishr cx X43 at_273 rfl ?_
      refine o_iconst cx X43 (z := (1 : Int32)) at_274 rfl ?_
      refine o_iand cx X43 at_275 rfl ?_
      by_cases hc70 : ((p1 >>> ((2 : Int32) &&& 31)) &&& (1 : Int32)) = (0 : Int32)
      · refine o_ifNo cx X43 at_276 ((if0 _ _).trans (teq hc70).2) ?_
        refine o_lload cx X43 at_279 rfl ?_
        refine o_lstore cx X43 (Ls' := #[.val (.int p0), .val (.int p1), .val (.long p2), .second, .val (.long p3), .second, .val (.int ((p0 &&& (2147483647 : Int32)) % (6 : Int32))), .val (.ref b12), .val (.int (0 : Int32)), .val (.long (1 : Int64)), .second, .val (.long (0 : Int64)), .second, .val (.ref b21), .val (.int lm), .val (.long ol), .second, .val (.long p3), .second, .unset]) at_281 rfl ?_
        refine o_goto cx X43 297 at_283 (by decide) (by decide) ?_
        exact J297 ol p3 lm
      · refine o_ifYes cx X43 286 at_276 ((if0 _ _).trans (feq hc70).2) (by decide) (by decide) ?_
        refine o_lload cx X43 at_286 rfl ?_
        refine o_lload cx X43 at_288 rfl ?_
        refine o_ldc2 cx X43 (z := (3 : Int64)) at_290 (o_w hw 31 rfl) ?_
        refine o_lrem cx X43 at_293 (by decide) rfl ?_
        refine o_ladd cx X43 at_294 rfl ?_
        refine o_lstore cx X43 (Ls' := #[.val (.int p0), .val (.int p1), .val (.long p2), .second, .val (.long p3), .second, .val (.int ((p0 &&& (2147483647 : Int32)) % (6 : Int32))), .val (.ref b12), .val (.int (0 : Int32)), .val (.long (1 : Int64)), .second, .val (.long (0 : Int64)), .second, .val (.ref b21), .val (.int lm), .val (.long ol), .second, .val (.long ((0 : Int64) + (p3 % (3 : Int64)))), .second, .unset]) at_295 rfl ?_
        exact J297 ol ((0 : Int64) + (p3 % (3 : Int64))) lm
    refine o_iloadN cx X43 at_221 rfl ?_
    refine o_iconst cx X43 (z := (3 : Int32)) at_222 rfl ?_
    refine o_iand cx X43 at_223 rfl ?_
    refine o_istore cx X43 (Ls' := #[.val (.int p0), .val (.int p1), .val (.long p2), .second, .val (.long p3), .second, .val (.int ((p0 &&& (2147483647 : Int32)) % (6 : Int32))), .val (.ref b12), .val (.int (0 : Int32)), .val (.long (1 : Int64)), .second, .val (.long (0 : Int64)), .second, .val (.ref b21), .val (.int (p1 &&& (3 : Int32))), .unset, .unset, .unset, .unset, .unset]) at_224 rfl ?_
    refine o_iload cx X43 at_226 rfl ?_
    by_cases hc71 : (p1 &&& (3 : Int32)) = (0 : Int32)
    · refine o_ifNo cx X43 at_228 ((if0 _ _).trans (teq hc71).2) ?_
      refine o_lload cx X43 at_231 rfl ?_
      refine o_lconst cx X43 (z := (1 : Int64)) at_233 rfl ?_
      refine o_lsub cx X43 (z := (0 : Int64)) at_234 rfl ?_
      refine o_lstore cx X43 (Ls' := #[.val (.int p0), .val (.int p1), .val (.long p2), .second, .val (.long p3), .second, .val (.int ((p0 &&& (2147483647 : Int32)) % (6 : Int32))), .val (.ref b12), .val (.int (0 : Int32)), .val (.long (1 : Int64)), .second, .val (.long (0 : Int64)), .second, .val (.ref b21), .val (.int (p1 &&& (3 : Int32))), .val (.long (0 : Int64)), .second, .unset, .unset, .unset]) at_235 rfl ?_
      refine o_goto cx X43 271 at_237 (by decide) (by decide) ?_
      exact J271 (0 : Int64) (p1 &&& (3 : Int32))
    · refine o_ifYes cx X43 240 at_228 ((if0 _ _).trans (feq hc71).2) (by decide) (by decide) ?_
      refine o_iload cx X43 at_240 rfl ?_
      refine o_iconst cx X43 (z := (1 : Int32)) at_242 rfl ?_
      by_cases hc72 : (p1 &&& (3 : Int32)) = (1 : Int32)
      · refine o_icmpNo cx X43 at_243 (teq hc72).2 ?_
        refine o_lload cx X43 at_246 rfl ?_
        refine o_lstore cx X43 (Ls' := #[.val (.int p0), .val (.int p1), .val (.long p2), .second, .val (.long p3), .second, .val (.int ((p0 &&& (2147483647 : Int32)) % (6 : Int32))), .val (.ref b12), .val (.int (0 : Int32)), .val (.long (1 : Int64)), .second, .val (.long (0 : Int64)), .second, .val (.ref b21), .val (.int (p1 &&& (3 : Int32))), .val (.long (1 : Int64)), .second, .unset, .unset, .unset]) at_248 rfl ?_
        refine o_goto cx X43 271 at_250 (by decide) (by decide) ?_
        exact J271 (1 : Int64) (p1 &&& (3 : Int32))
      · refine o_icmpYes cx X43 253 at_243 (feq hc72).2 (by decide) (by decide) ?_
        refine o_iload cx X43 at_253 rfl ?_
        refine o_iconst cx X43 (z := (2 : Int32)) at_255 rfl ?_
        by_cases hc73 : (p1 &&& (3 : Int32)) = (2 : Int32)
        · refine o_icmpNo cx X43 at_256 (teq hc73).2 ?_
          refine o_lload cx X43 at_259 rfl ?_
          refine o_lconst cx X43 (z := (1 : Int64)) at_261 rfl ?_
          refine o_ladd cx X43 (z := (2 : Int64)) at_262 rfl ?_
          refine o_lstore cx X43 (Ls' := #[.val (.int p0), .val (.int p1), .val (.long p2), .second, .val (.long p3), .second, .val (.int ((p0 &&& (2147483647 : Int32)) % (6 : Int32))), .val (.ref b12), .val (.int (0 : Int32)), .val (.long (1 : Int64)), .second, .val (.long (0 : Int64)), .second, .val (.ref b21), .val (.int (p1 &&& (3 : Int32))), .val (.long (2 : Int64)), .second, .unset, .unset, .unset]) at_263 rfl ?_
          refine o_goto cx X43 271 at_265 (by decide) (by decide) ?_
          exact J271 (2 : Int64) (p1 &&& (3 : Int32))
        · refine o_icmpYes cx X43 268 at_256 (feq hc73).2 (by decide) (by decide) ?_
          refine o_lloadN cx X43 at_268 rfl ?_
          refine o_lstore cx X43 (Ls' := #[.val (.int p0), .val (.int p1), .val (.long p2), .second, .val (.long p3), .second, .val (.int ((p0 &&& (2147483647 : Int32)) % (6 : Int32))), .val (.ref b12), .val (.int (0 : Int32)), .val (.long (1 : Int64)), .second, .val (.long (0 : Int64)), .second, .val (.ref b21), .val (.int (p1 &&& (3 : Int32))), .val (.long p2), .second, .unset, .unset, .unset]) at_269 rfl ?_
          exact J271 p2 (p1 &&& (3 : Int32))
  · refine o_ifYes cx X14 31 at_16 ((if0 _ _).trans (feq hc20).2) (by decide) (by decide) ?_
    refine o_iload cx X14 at_31 rfl ?_
    refine o_iconst cx X14 (z := (1 : Int32)) at_33 rfl ?_
    by_cases hc74 : ((p0 &&& (2147483647 : Int32)) % (6 : Int32)) = (1 : Int32)
    · refine o_icmpNo cx X14 at_34 (teq hc74).2 ?_
      refine o_aload cx X14 at_37 rfl rfl ?_
      refine o_iconst cx X14 (z := (0 : Int32)) at_39 rfl ?_
      refine o_bipush cx X14 (z := (97 : Int32)) at_40 rfl ?_
      refine o_stB cx X14 (x' := (97 : Int32)) at_42 A17 0 (by decide) rfl (Nat.le_of_ble_eq_true rfl) rfl ge19 fun T75 h77 X76 W78 A17 => ?_
      have A17 : own_Ar Z h77 b12 .byte [(.int (97 : Int32)), (.int (0 : Int32)), (.int (0 : Int32))] := A17
      refine o_aload cx X76 at_43 rfl rfl ?_
      refine o_iconst cx X76 (z := (1 : Int32)) at_45 rfl ?_
      refine o_bipush cx X76 (z := (98 : Int32)) at_46 rfl ?_
      refine o_stB cx X76 (x' := (98 : Int32)) at_48 A17 1 (by decide) rfl (Nat.le_of_ble_eq_true rfl) rfl ge19 fun T79 h81 X80 W82 A17 => ?_
      have A17 : own_Ar Z h81 b12 .byte [(.int (97 : Int32)), (.int (98 : Int32)), (.int (0 : Int32))] := A17
      refine o_iconst cx X80 (z := (2 : Int32)) at_49 rfl ?_
      refine o_istore cx X80 (Ls' := #[.val (.int p0), .val (.int p1), .val (.long p2), .second, .val (.long p3), .second, .val (.int ((p0 &&& (2147483647 : Int32)) % (6 : Int32))), .val (.ref b12), .val (.int (2 : Int32)), .unset, .unset, .unset, .unset, .unset, .unset, .unset, .unset, .unset, .unset, .unset]) at_50 rfl ?_
      refine o_lconst cx X80 (z := (1 : Int64)) at_52 rfl ?_
      refine o_lstore cx X80 (Ls' := #[.val (.int p0), .val (.int p1), .val (.long p2), .second, .val (.long p3), .second, .val (.int ((p0 &&& (2147483647 : Int32)) % (6 : Int32))), .val (.ref b12), .val (.int (2 : Int32)), .val (.long (1 : Int64)), .second, .unset, .unset, .unset, .unset, .unset, .unset, .unset, .unset, .unset]) at_53 rfl ?_
      refine o_ldc2 cx X80 (z := (2 : Int64)) at_55 (o_w hw 51 rfl) ?_
      refine o_lstore cx X80 (Ls' := #[.val (.int p0), .val (.int p1), .val (.long p2), .second, .val (.long p3), .second, .val (.int ((p0 &&& (2147483647 : Int32)) % (6 : Int32))), .val (.ref b12), .val (.int (2 : Int32)), .val (.long (1 : Int64)), .second, .val (.long (2 : Int64)), .second, .unset, .unset, .unset, .unset, .unset, .unset, .unset]) at_58 rfl ?_
      refine o_goto cx X80 202 at_60 (by decide) (by decide) ?_
      refine o_newO cx X80 at_202 (o_w hw 2 rfl) (o_w hw 3 rfl) (o_w hw 4 rfl) (by decide) (by decide) fun T84 h86 b83 gb90 ge91 X85 E87 A88 D89 => ?_
      have ne_b12_b83 : b12 ≠ b83 := by rw [gb90]; exact Nat.ne_of_lt A17.lt
      have A17 := A17.ext E87
      have F_b83_line : Fld Z h86 b83 "com/example/bulla/bulla/xml/TextPosition" "line" "J" (.long (0 : Int64)) := D89 (Or.inl (o_w hw 12 rfl)) (ty := .long) (by decide)
      have F_b83_column : Fld Z h86 b83 "com/example/bulla/bulla/xml/TextPosition" "column" "J" (.long (0 : Int64)) := D89 (Or.inl (o_w hw 14 rfl)) (ty := .long) (by decide)
      have F_b83_shortfall : Fld Z h86 b83 "com/example/bulla/bulla/xml/TextPosition" "shortfall" "J" (.long (0 : Int64)) := D89 (Or.inl (o_w hw 30 rfl)) (ty := .long) (by decide)
      have F_b83_afterReturn : Fld Z h86 b83 "com/example/bulla/bulla/xml/TextPosition" "afterReturn" "Z" (.int (0 : Int32)) := D89 (Or.inl (o_w hw 38 rfl)) (ty := .boolean) (by decide)
      have F_b83_afterLineEnd : Fld Z h86 b83 "com/example/bulla/bulla/xml/TextPosition" "afterLineEnd" "Z" (.int (0 : Int32)) := D89 (Or.inl (o_w hw 47 rfl)) (ty := .boolean) (by decide)
      refine o_dup cx X85 at_205 rfl ?_
      refine o_callC cx X85 (y' := (⟨"com/example/bulla/bulla/xml/TextPosition", "<init>", "()V"⟩ : MethodName)) (argsL := []) (st := [(.ref b83)]) (a := b83) at_206 (o_w hw 5 rfl) (o_w hw 6 rfl) (o_w hw 4 rfl) (o_w hw 7 rfl) (by decide) rfl (ra1_1 l Z a0 hw b83 h86 n0 X85.ge0 ge91 A88 F_b83_line F_b83_column F_b83_shortfall F_b83_afterReturn F_b83_afterLineEnd) (by decide) 1 rfl (by decide) rfl (lenOf pd_1 rfl) rfl rfl (by decide) (by decide) fun v95 T92 h94 X93 Q96 => ?_
      obtain ⟨rfl, K97, E98, F99, F100, F101, F102, F103⟩ := Q96
      have A17 := A17.keep K97 (ninS ne_b12_b83 nin0)
      show own_Go p e below _ (T92.setTop (mkF m 209 #[.val (.int p0), .val (.int p1), .val (.long p2), .second, .val (.long p3), .second, .val (.int ((p0 &&& (2147483647 : Int32)) % (6 : Int32))), .val (.ref b12), .val (.int (2 : Int32)), .val (.long (1 : Int64)), .second, .val (.long (2 : Int64)), .second, .unset, .unset, .unset, .unset, .unset, .unset, .unset] [(.ref b83)]))
      refine o_astore cx X93 (Ls' := #[.val (.int p0), .val (.int p1), .val (.long p2), .second, .val (.long p3), .second, .val (.int ((p0 &&& (2147483647 : Int32)) % (6 : Int32))), .val (.ref b12), .val (.int (2 : Int32)), .val (.long (1 : Int64)), .second, .val (.long (2 : Int64)), .second, .val (.ref b83), .unset, .unset, .unset, .unset, .unset, .unset]) at_209 rfl rfl ?_
      refine o_aload cx X93 at_211 rfl rfl ?_
      refine o_aload cx X93 at_213 rfl rfl ?_
      refine o_iconst cx X93 (z := (0 : Int32)) at_215 rfl ?_
      refine o_iload cx X93 at_216 rfl ?_
      refine o_callV cx X93 (y' := (⟨"com/example/bulla/bulla/xml/TextPosition", "moveOver", "([BII)V"⟩ : MethodName)) (argsL := [(.ref b12), (.int (0 : Int32)), (.int (2 : Int32))]) (st := []) (a := b83) at_218 (o_w hw 15 rfl) (o_w hw 16 rfl) (o_w hw 18 rfl) (o_w hw 17 rfl) (o_w hw 4 rfl) (o_w hw 19 rfl) (by decide) E98 (ra3_4 l Z a0 hw b83 b12 h94 n0 X93.ge0 ge91 ge19 (Ne.symm ne_b12_b83) E98 F99 F100 F101 F102 F103 A17) (by decide) 0 rfl (by decide) rfl (lenOf pd_3 rfl) rfl rfl (by decide) (by decide) fun v107 T104 h106 X105 Q108 => ?_
      obtain ⟨rfl, K109, E110, F111, F112, F113, F114, F115⟩ := Q108
      have A17 := A17.keep K109 (ninS ne_b12_b83 nin0)
      show own_Go p e below _ (T104.setTop (mkF m 221 #[.val (.int p0), .val (.int p1), .val (.long p2), .second, .val (.long p3), .second, .val (.int ((p0 &&& (2147483647 : Int32)) % (6 : Int32))), .val (.ref b12), .val (.int (2 : Int32)), .val (.long (1 : Int64)), .second, .val (.long (2 : Int64)), .second, .val (.ref b83), .unset, .unset, .unset, .unset, .unset, .unset] []))
      have J297 : ∀ (ol oc : Int64) (lm : Int32), own_Go p e below (own_End below s room_1 n0 (fun v' _ => v' = some (.int 1))) (T104.setTop (mkF m 297 #[.val (.int p0), .val (.int p1), .val (.long p2), .second, .val (.long p3), .second, .val (.int ((p0 &&& (2147483647 : Int32)) % (6 : Int32))), .val (.ref b12), .val (.int (2 : Int32)), .val (.long (1 : Int64)), .second, .val (.long (2 : Int64)), .second, .val (.ref b83), .val (.int lm), .val (.long ol), .second, .val (.long oc), .second, .unset] [])) := by
        intro ol oc lm
        refine o_lload cx X105 at_297 rfl ?_
        refine o_lload cx X105 at_299 rfl ?_
        refine o_lcmp cx X105 at_301 rfl ?_
        by_cases hc116 : ol < (1 : Int64)
        · refine o_ifYes cx X105 321 at_302 ((if0 _ _).trans (tlt ((lw_lt ol (1 : Int64)).mpr hc116)).1) (by decide) (by decide) ?_
          refine o_iconst cx X105 (z := (1 : Int32)) at_321 rfl ?_
          refine o_goto cx X105 326 at_322 (by decide) (by decide) ?_
          refine o_istore cx X105 (Ls' := #[.val (.int p0), .val (.int p1), .val (.long p2), .second, .val (.long p3), .second, .val (.int ((p0 &&& (2147483647 : Int32)) % (6 : Int32))), .val (.ref b12), .val (.int (2 : Int32)), .val (.long (1 : Int64)), .second, .val (.long (2 : Int64)), .second, .val (.ref b83), .val (.int lm), .val (.long ol), .second, .val (.long oc), .second, .val (.int (1 : Int32))]) at_326 rfl ?_
          refine o_aload cx X105 at_328 rfl rfl ?_
          refine o_lload cx X105 at_330 rfl ?_
          refine o_lload cx X105 at_332 rfl ?_
          refine o_callVp cx X105 (y' := (⟨"com/example/bulla/bulla/xml/TextPosition", "isSurelyAfter", "(JJ)Z"⟩ : MethodName)) (argsL := [(.long ol), (.long oc)]) (st := []) (a := b83) at_334 (o_w hw 24 rfl) (o_w hw 25 rfl) (o_w hw 27 rfl) (o_w hw 26 rfl) (o_w hw 4 rfl) (o_w hw 28 rfl) (by decide) E110 (rm1 l Z a0 hw b83 (1 : Int64) (3 : Int64) (0 : Int64) ol oc h106 n0 X105.ge0 F111 F112 F113) (by decide) 0 rfl (by decide) rfl (lenOf pd_5 rfl) rfl rfl (by decide) (by decide) fun T117 X118 => ?_
          show own_Go p e below _ (T117.setTop (mkF m 337 #[.val (.int p0), .val (.int p1), .val (.long p2), .second, .val (.long p3), .second, .val (.int ((p0 &&& (2147483647 : Int32)) % (6 : Int32))), .val (.ref b12), .val (.int (2 : Int32)), .val (.long (1 : Int64)), .second, .val (.long (2 : Int64)), .second, .val (.ref b83), .val (.int lm), .val (.long ol), .second, .val (.long oc), .second, .val (.int (1 : Int32))] [(.int (own_sa (1 : Int64) (3 : Int64) (0 : Int64) ol oc))]))
          refine o_iload cx X118 at_337 rfl ?_
          have hfin : (own_sa (1 : Int64) (3 : Int64) (0 : Int64) ol oc) = (1 : Int32) := by
            simp only [Int64.lt_iff_toInt_lt, ← Int64.toInt_inj] at hc116
            unfold own_sa
            simp only [Int64.reduceSub, Int64.reduceToInt] at hc116 ⊢
            repeat' split
            all_goals first | rfl | omega
          refine o_icmpNo cx X118 at_339 (teq hfin).2 ?_
          refine o_iconst cx X118 (z := (1 : Int32)) at_342 rfl ?_
          refine o_goto cx X118 347 at_343 (by decide) (by decide) ?_
          exact o_retN cx X118 (z' := (1 : Int32)) at_347 (by simp) rfl rfl (by decide) (by decide)
        · refine o_ifNo cx X105 at_302 ((if0 _ _).trans (flt (fun q => hc116 ((lw_lt ol (1 : Int64)).mp q))).1) ?_
          refine o_lload cx X105 at_305 rfl ?_
          refine o_lload cx X105 at_307 rfl ?_
          refine o_lcmp cx X105 at_309 rfl ?_
          by_cases hc122 : ol = (1 : Int64)
          · refine o_ifNo cx X105 at_310 ((if0 _ _).trans (teq ((lw_eq ol (1 : Int64)).mpr hc122)).2) ?_
            refine o_lload cx X105 at_313 rfl ?_
            refine o_lload cx X105 at_315 rfl ?_
            refine o_lcmp cx X105 at_317 rfl ?_
            by_cases hc123 : (2 : Int64) < oc
            · refine o_ifYes cx X105 325 at_318 ((if0 _ _).trans (tlt ((lw_gt oc (2 : Int64)).mpr hc123)).2.2.1) (by decide) (by decide) ?_
              refine o_iconst cx X105 (z := (0 : Int32)) at_325 rfl ?_
              refine o_istore cx X105 (Ls' := #[.val (.int p0), .val (.int p1), .val (.long p2), .second, .val (.long p3), .second, .val (.int ((p0 &&& (2147483647 : Int32)) % (6 : Int32))), .val (.ref b12), .val (.int (2 : Int32)), .val (.long (1 : Int64)), .second, .val (.long (2 : Int64)), .second, .val (.ref b83), .val (.int lm), .val (.long ol), .second, .val (.long oc), .second, .val (.int (0 : Int32))]) at_326 rfl ?_
              refine o_aload cx X105 at_328 rfl rfl ?_
              refine o_lload cx X105 at_330 rfl ?_
              refine o_lload cx X105 at_332 rfl ?_
              refine o_callVp cx X105 (y' := (⟨"com/example/bulla/bulla/xml/TextPosition", "isSurelyAfter", "(JJ)Z"⟩ : MethodName)) (argsL := [(.long ol), (.long oc)]) (st := []) (a := b83) at_334 (o_w hw 24 rfl) (o_w hw 25 rfl) (o_w hw 27 rfl) (o_w hw 26 rfl) (o_w hw 4 rfl) (o_w hw 28 rfl) (by decide) E110 (rm1 l Z a0 hw b83 (1 : Int64) (3 : Int64) (0 : Int64) ol oc h106 n0 X105.ge0 F111 F112 F113) (by decide) 0 rfl (by decide) rfl (lenOf pd_5 rfl) rfl rfl (by decide) (by decide) fun T124 X125 => ?_
              show own_Go p e below _ (T124.setTop (mkF m 337 #[.val (.int p0), .val (.int p1), .val (.long p2), .second, .val (.long p3), .second, .val (.int ((p0 &&& (2147483647 : Int32)) % (6 : Int32))), .val (.ref b12), .val (.int (2 : Int32)), .val (.long (1 : Int64)), .second, .val (.long (2 : Int64)), .second, .val (.ref b83), .val (.int lm), .val (.long ol), .second, .val (.long oc), .second, .val (.int (0 : Int32))] [(.int (own_sa (1 : Int64) (3 : Int64) (0 : Int64) ol oc))]))
              refine o_iload cx X125 at_337 rfl ?_
              have hfin : (own_sa (1 : Int64) (3 : Int64) (0 : Int64) ol oc) = (0 : Int32) := by
                simp only [Int64.lt_iff_toInt_lt, ← Int64.toInt_inj] at hc116 hc122 hc123
                unfold own_sa
                simp only [Int64.reduceSub, Int64.reduceToInt] at hc116 hc122 hc123 ⊢
                repeat' split
                all_goals first | rfl | omega
              refine o_icmpNo cx X125 at_339 (teq hfin).2 ?_
              refine o_iconst cx X125 (z := (1 : Int32)) at_342 rfl ?_
              refine o_goto cx X125 347 at_343 (by decide) (by decide) ?_
              exact o_retN cx X125 (z' := (1 : Int32)) at_347 (by simp) rfl rfl (by decide) (by decide)
            · refine o_ifNo cx X105 at_318 ((if0 _ _).trans (flt (fun q => hc123 ((lw_gt oc (2 : Int64)).mp q))).2.2.1) ?_
              refine o_iconst cx X105 (z := (1 : Int32)) at_321 rfl ?_
              refine o_goto cx X105 326 at_322 (by decide) (by decide) ?_
              refine o_istore cx X105 (Ls' := #[.val (.int p0), .val (.int p1), .val (.long p2), .second, .val (.long p3), .second, .val (.int ((p0 &&& (2147483647 : Int32)) % (6 : Int32))), .val (.ref b12), .val (.int (2 : Int32)), .val (.long (1 : Int64)), .second, .val (.long (2 : Int64)), .second, .val (.ref b83), .val (.int lm), .val (.long ol), .second, .val (.long oc), .second, .val (.int (1 : Int32))]) at_326 rfl ?_
              refine o_aload cx X105 at_328 rfl rfl ?_
              refine o_lload cx X105 at_330 rfl ?_
              refine o_lload cx X105 at_332 rfl ?_
              refine o_callVp cx X105 (y' := (⟨"com/example/bulla/bulla/xml/TextPosition", "isSurelyAfter", "(JJ)Z"⟩ : MethodName)) (argsL := [(.long ol), (.long oc)]) (st := []) (a := b83) at_334 (o_w hw 24 rfl) (o_w hw 25 rfl) (o_w hw 27 rfl) (o_w hw 26 rfl) (o_w hw 4 rfl) (o_w hw 28 rfl) (by decide) E110 (rm1 l Z a0 hw b83 (1 : Int64) (3 : Int64) (0 : Int64) ol oc h106 n0 X105.ge0 F111 F112 F113) (by decide) 0 rfl (by decide) rfl (lenOf pd_5 rfl) rfl rfl (by decide) (by decide) fun T129 X130 => ?_
              show own_Go p e below _ (T129.setTop (mkF m 337 #[.val (.int p0), .val (.int p1), .val (.long p2), .second, .val (.long p3), .second, .val (.int ((p0 &&& (2147483647 : Int32)) % (6 : Int32))), .val (.ref b12), .val (.int (2 : Int32)), .val (.long (1 : Int64)), .second, .val (.long (2 : Int64)), .second, .val (.ref b83), .val (.int lm), .val (.long ol), .second, .val (.long oc), .second, .val (.int (1 : Int32))] [(.int (own_sa (1 : Int64) (3 : Int64) (0 : Int64) ol oc))]))
              refine o_iload cx X130 at_337 rfl ?_
              have hfin : (own_sa (1 : Int64) (3 : Int64) (0 : Int64) ol oc) = (1 : Int32) := by
                simp only [Int64.lt_iff_toInt_lt, ← Int64.toInt_inj] at hc116 hc122 hc123
                unfold own_sa
                simp only [Int64.reduceSub, Int64.reduceToInt] at hc116 hc122 hc123 ⊢
                repeat' split
                all_goals first | rfl | omega
              refine o_icmpNo cx X130 at_339 (teq hfin).2 ?_
              refine o_iconst cx X130 (z := (1 : Int32)) at_342 rfl ?_
              refine o_goto cx X130 347 at_343 (by decide) (by decide) ?_
              exact o_retN cx X130 (z' := (1 : Int32)) at_347 (by simp) rfl rfl (by decide) (by decide)
          · refine o_ifYes cx X105 325 at_310 ((if0 _ _).trans (feq (fun q => hc122 ((lw_eq ol (1 : Int64)).mp q))).2) (by decide) (by decide) ?_
            refine o_iconst cx X105 (z := (0 : Int32)) at_325 rfl ?_
            refine o_istore cx X105 (Ls' := #[.val (.int p0), .val (.int p1), .val (.long p2), .second, .val (.long p3), .second, .val (.int ((p0 &&& (2147483647 : Int32)) % (6 : Int32))), .val (.ref b12), .val (.int (2 : Int32)), .val (.long (1 : Int64)), .second, .val (.long (2 : Int64)), .second, .val (.ref b83), .val (.int lm), .val (.long ol), .second, .val (.long oc), .second, .val (.int (0 : Int32))]) at_326 rfl ?_
            refine o_aload cx X105 at_328 rfl rfl ?_
            refine o_lload cx X105 at_330 rfl ?_
            refine o_lload cx X105 at_332 rfl ?_
            refine o_callVp cx X105 (y' := (⟨"com/example/bulla/bulla/xml/TextPosition", "isSurelyAfter", "(JJ)Z"⟩ : MethodName)) (argsL := [(.long ol), (.long oc)]) (st := []) (a := b83) at_334 (o_w hw 24 rfl) (o_w hw 25 rfl) (o_w hw 27 rfl) (o_w hw 26 rfl) (o_w hw 4 rfl) (o_w hw 28 rfl) (by decide) E110 (rm1 l Z a0 hw b83 (1 : Int64) (3 : Int64) (0 : Int64) ol oc h106 n0 X105.ge0 F111 F112 F113) (by decide) 0 rfl (by decide) rfl (lenOf pd_5 rfl) rfl rfl (by decide) (by decide) fun T134 X135 => ?_
            show own_Go p e below _ (T134.setTop (mkF m 337 #[.val (.int p0), .val (.int p1), .val (.long p2), .second, .val (.long p3), .second, .val (.int ((p0 &&& (2147483647 : Int32)) % (6 : Int32))), .val (.ref b12), .val (.int (2 : Int32)), .val (.long (1 : Int64)), .second, .val (.long (2 : Int64)), .second, .val (.ref b83), .val (.int lm), .val (.long ol), .second, .val (.long oc), .second, .val (.int (0 : Int32))] [(.int (own_sa (1 : Int64) (3 : Int64) (0 : Int64) ol oc))]))
            refine o_iload cx X135 at_337 rfl ?_
            have hfin : (own_sa (1 : Int64) (3 : Int64) (0 : Int64) ol oc) = (0 : Int32) := by
              simp only [Int64.lt_iff_toInt_lt, ← Int64.toInt_inj] at hc116 hc122
              unfold own_sa
              simp only [Int64.reduceSub, Int64.reduceToInt] at hc116 hc122 ⊢
              repeat' split
              all_goals first | rfl | omega
            refine o_icmpNo cx X135 at_339 (teq hfin).2 ?_
            refine o_iconst cx X135 (z := (1 : Int32)) at_342 rfl ?_
            refine o_goto cx X135 347 at_343 (by decide) (by decide) ?_
            exact o_retN cx X135 (z' := (1 : Int32)) at_347 (by simp) rfl rfl (by decide) (by decide)
      have J271 : ∀ (ol : Int64) (lm : Int32), own_Go p e below (own_End below s room_1 n0 (fun v' _ => v' = some (.int 1))) (T104.setTop (mkF m 271 #[.val (.int p0), .val (.int p1), .val (.long p2), .second, .val (.long p3), .second, .val (.int ((p0 &&& (2147483647 : Int32)) % (6 : Int32))), .val (.ref b12), .val (.int (2 : Int32)), .val (.long (1 : Int64)), .second, .val (.long (2 : Int64)), .second, .val (.ref b83), .val (.int lm), .val (.long ol), .second, .unset, .unset, .unset] [])) := by
        intro ol lm
        refine o_iloadN cx X105 at_271 rfl ?_
        refine o_iconst cx X105 (z := (2 : Int32)) at_272 rfl ?_
        refine o_ishr cx X105 at_273 rfl ?_
        refine o_iconst cx X105 (z := (1 : Int32)) at_274 rfl ?_
        refine o_iand cx X105 at_275 rfl ?_
        by_cases hc139 : ((p1 >>> ((2 : Int32) &&& 31)) &&& (1 : Int32)) = (0 : Int32)
        · refine o_ifNo cx X105 at_276 ((if0 _ _).trans (teq hc139).2) ?_
          refine o_lload cx X105 at_279 rfl ?_
          refine o_lstore cx X105 (Ls' := #[.val (.int p0), .val (.int p1), .val (.long p2), .second, .val (.long p3), .second, .val (.int ((p0 &&& (2147483647 : Int32)) % (6 : Int32))), .val (.ref b12), .val (.int (2 : Int32)), .val (.long (1 : Int64)), .second, .val (.long (2 : Int64)), .second, .val (.ref b83), .val (.int lm), .val (.long ol), .second, .val (.long p3), .second, .unset]) at_281 rfl ?_
          refine o_goto cx X105 297 at_283 (by decide) (by decide) ?_
          exact J297 ol p3 lm
        · refine o_ifYes cx X105 286 at_276 ((if0 _ _).trans (feq hc139).2) (by decide) (by decide) ?_
          refine o_lload cx X105 at_286 rfl ?_
          refine o_lload cx X105 at_288 rfl ?_
          refine o_ldc2 cx X105 (z := (3 : Int64)) at_290 (o_w hw 31 rfl) ?_
          refine o_lrem cx X105 at_293 (by decide) rfl ?_
          refine o_ladd cx X105 at_294 rfl ?_
          refine o_lstore cx X105 (Ls' := #[.val (.int p0), .val (.int p1), .val (.long p2), .second, .val (.long p3), .second, .val (.int ((p0 &&& (2147483647 : Int32)) % (6 : Int32))), .val (.ref b12), .val (.int (2 : Int32)), .val (.long (1 : Int64)), .second, .val (.long (2 : Int64)), .second, .val (.ref b83), .val (.int lm), .val (.long ol), .second, .val (.long ((2 : Int64) + (p3 % (3 : Int64)))), .second, .unset]) at_295 rfl ?_
          exact J297 ol ((2 : Int64) + (p3 % (3 : Int64))) lm
      refine o_iloadN cx X105 at_221 rfl ?_
      refine o_iconst cx X105 (z := (3 : Int32)) at_222 rfl ?_
      refine o_iand cx X105 at_223 rfl ?_
      refine o_istore cx X105 (Ls' := #[.val (.int p0), .val (.int p1), .val (.long p2), .second, .val (.long p3), .second, .val (.int ((p0 &&& (2147483647 : Int32)) % (6 : Int32))), .val (.ref b12), .val (.int (2 : Int32)), .val (.long (1 : Int64)), .second, .val (.long (2 : Int64)), .second, .val (.ref b83), .val (.int (p1 &&& (3 : Int32))), .unset, .unset, .unset, .unset, .unset]) at_224 rfl ?_
      refine o_iload cx X105 at_226 rfl ?_
      by_cases hc140 : (p1 &&& (3 : Int32)) = (0 : Int32)
      · refine o_ifNo cx X105 at_228 ((if0 _ _).trans (teq hc140).2) ?_
        refine o_lload cx X105 at_231 rfl ?_
        refine o_lconst cx X105 (z := (1 : Int64)) at_233 rfl ?_
        refine o_lsub cx X105 (z := (0 : Int64)) at_234 rfl ?_
        refine o_lstore cx X105 (Ls' := #[.val (.int p0), .val (.int p1), .val (.long p2), .second, .val (.long p3), .second, .val (.int ((p0 &&& (2147483647 : Int32)) % (6 : Int32))), .val (.ref b12), .val (.int (2 : Int32)), .val (.long (1 : Int64)), .second, .val (.long (2 : Int64)), .second, .val (.ref b83), .val (.int (p1 &&& (3 : Int32))), .val (.long (0 : Int64)), .second, .unset, .unset, .unset]) at_235 rfl ?_
        refine o_goto cx X105 271 at_237 (by decide) (by decide) ?_
        exact J271 (0 : Int64) (p1 &&& (3 : Int32))
      · refine o_ifYes cx X105 240 at_228 ((if0 _ _).trans (feq hc140).2) (by decide) (by decide) ?_
        refine o_iload cx X105 at_240 rfl ?_
        refine o_iconst cx X105 (z := (1 : Int32)) at_242 rfl ?_
        by_cases hc141 : (p1 &&& (3 : Int32)) = (1 : Int32)
        · refine o_icmpNo cx X105 at_243 (teq hc141).2 ?_
          refine o_lload cx X105 at_246 rfl ?_
          refine o_lstore cx X105 (Ls' := #[.val (.int p0), .val (.int p1), .val (.long p2), .second, .val (.long p3), .second, .val (.int ((p0 &&& (2147483647 : Int32)) % (6 : Int32))), .val (.ref b12), .val (.int (2 : Int32)), .val (.long (1 : Int64)), .second, .val (.long (2 : Int64)), .second, .val (.ref b83), .val (.int (p1 &&& (3 : Int32))), .val (.long (1 : Int64)), .second, .unset, .unset, .unset]) at_248 rfl ?_
          refine o_goto cx X105 271 at_250 (by decide) (by decide) ?_
          exact J271 (1 : Int64) (p1 &&& (3 : Int32))
        · refine o_icmpYes cx X105 253 at_243 (feq hc141).2 (by decide) (by decide) ?_
          refine o_iload cx X105 at_253 rfl ?_
          refine o_iconst cx X105 (z := (2 : Int32)) at_255 rfl ?_
          by_cases hc142 : (p1 &&& (3 : Int32)) = (2 : Int32)
          · refine o_icmpNo cx X105 at_256 (teq hc142).2 ?_
            refine o_lload cx X105 at_259 rfl ?_
            refine o_lconst cx X105 (z := (1 : Int64)) at_261 rfl ?_
            refine o_ladd cx X105 (z := (2 : Int64)) at_262 rfl ?_
            refine o_lstore cx X105 (Ls' := #[.val (.int p0), .val (.int p1), .val (.long p2), .second, .val (.long p3), .second, .val (.int ((p0 &&& (2147483647 : Int32)) % (6 : Int32))), .val (.ref b12), .val (.int (2 : Int32)), .val (.long (1 : Int64)), .second, .val (.long (2 : Int64)), .second, .val (.ref b83), .val (.int (p1 &&& (3 : Int32))), .val (.long (2 : Int64)), .second, .unset, .unset, .unset]) at_263 rfl ?_
            refine o_goto cx X105 271 at_265 (by decide) (by decide) ?_
            exact J271 (2 : Int64) (p1 &&& (3 : Int32))
          · refine o_icmpYes cx X105 268 at_256 (feq hc142).2 (by decide) (by decide) ?_
            refine o_lloadN cx X105 at_268 rfl ?_
            refine o_lstore cx X105 (Ls' := #[.val (.int p0), .val (.int p1), .val (.long p2), .second, .val (.long p3), .second, .val (.int ((p0 &&& (2147483647 : Int32)) % (6 : Int32))), .val (.ref b12), .val (.int (2 : Int32)), .val (.long (1 : Int64)), .second, .val (.long (2 : Int64)), .second, .val (.ref b83), .val (.int (p1 &&& (3 : Int32))), .val (.long p2), .second, .unset, .unset, .unset]) at_269 rfl ?_
            exact J271 p2 (p1 &&& (3 : Int32))
    · refine o_icmpYes cx X14 63 at_34 (feq hc74).2 (by decide) (by decide) ?_
      refine o_iload cx X14 at_63 rfl ?_
      refine o_iconst cx X14 (z := (2 : Int32)) at_65 rfl ?_
      by_cases hc143 : ((p0 &&& (2147483647 : Int32)) % (6 : Int32)) = (2 : Int32)
      · refine o_icmpNo cx X14 at_66 (teq hc143).2 ?_
        refine o_aload cx X14 at_69 rfl rfl ?_
        refine o_iconst cx X14 (z := (0 : Int32)) at_71 rfl ?_
        refine o_bipush cx X14 (z := (10 : Int32)) at_72 rfl ?_
        refine o_stB cx X14 (x' := (10 : Int32)) at_74 A17 0 (by decide) rfl (Nat.le_of_ble_eq_true rfl) rfl ge19 fun T144 h146 X145 W147 A17 => ?_
        have A17 : own_Ar Z h146 b12 .byte [(.int (10 : Int32)), (.int (0 : Int32)), (.int (0 : Int32))] := A17
        refine o_aload cx X145 at_75 rfl rfl ?_
        refine o_iconst cx X145 (z := (1 : Int32)) at_77 rfl ?_
        refine o_bipush cx X145 (z := (97 : Int32)) at_78 rfl ?_
        refine o_stB cx X145 (x' := (97 : Int32)) at_80 A17 1 (by decide) rfl (Nat.le_of_ble_eq_true rfl) rfl ge19 fun T148 h150 X149 W151 A17 => ?_
        have A17 : own_Ar Z h150 b12 .byte [(.int (10 : Int32)), (.int (97 : Int32)), (.int (0 : Int32))] := A17
        refine o_iconst cx X149 (z := (2 : Int32)) at_81 rfl ?_
        refine o_istore cx X149 (Ls' := #[.val (.int p0), .val (.int p1), .val (.long p2), .second, .val (.long p3), .second, .val (.int ((p0 &&& (2147483647 : Int32)) % (6 : Int32))), .val (.ref b12), .val (.int (2 : Int32)), .unset, .unset, .unset, .unset, .unset, .unset, .unset, .unset, .unset, .unset, .unset]) at_82 rfl ?_
        refine o_ldc2 cx X149 (z := (2 : Int64)) at_84 (o_w hw 51 rfl) ?_
        refine o_lstore cx X149 (Ls' := #[.val (.int p0), .val (.int p1), .val (.long p2), .second, .val (.long p3), .second, .val (.int ((p0 &&& (2147483647 : Int32)) % (6 : Int32))), .val (.ref b12), .val (.int (2 : Int32)), .val (.long (2 : Int64)), .second, .unset, .unset, .unset, .unset, .unset, .unset, .unset, .unset, .unset]) at_87 rfl ?_
        refine o_lconst cx X149 (z := (1 : Int64)) at_89 rfl ?_
        refine o_lstore cx X149 (Ls' := #[.val (.int p0), .val (.int p1), .val (.long p2), .second, .val (.long p3), .second, .val (.int ((p0 &&& (2147483647 : Int32)) % (6 : Int32))), .val (.ref b12), .val (.int (2 : Int32)), .val (.long (2 : Int64)), .second, .val (.long (1 : Int64)), .second, .unset, .unset, .unset, .unset, .unset, .unset, .unset]) at_90 rfl ?_
        refine o_goto cx X149 202 at_92 (by decide) (by decide) ?_
        refine o_newO cx X149 at_202 (o_w hw 2 rfl) (o_w hw 3 rfl) (o_w hw 4 rfl) (by decide) (by decide) fun T153 h155 b152 gb159 ge160 X154 E156 A157 D158 => ?_
        have ne_b12_b152 : b12 ≠ b152 := by rw [gb159]; exact Nat.ne_of_lt A17.lt
        have A17 := A17.ext E156
        have F_b152_line : Fld Z h155 b152 "com/example/bulla/bulla/xml/TextPosition" "line" "J" (.long (0 : Int64)) := D158 (Or.inl (o_w hw 12 rfl)) (ty := .long) (by decide)
        have F_b152_column : Fld Z h155 b152 "com/example/bulla/bulla/xml/TextPosition" "column" "J" (.long (0 : Int64)) := D158 (Or.inl (o_w hw 14 rfl)) (ty := .long) (by decide)
        have F_b152_shortfall : Fld Z h155 b152 "com/example/bulla/bulla/xml/TextPosition" "shortfall" "J" (.long (0 : Int64)) := D158 (Or.inl (o_w hw 30 rfl)) (ty := .long) (by decide)
        have F_b152_afterReturn : Fld Z h155 b152 "com/example/bulla/bulla/xml/TextPosition" "afterReturn" "Z" (.int (0 : Int32)) := D158 (Or.inl (o_w hw 38 rfl)) (ty := .boolean) (by decide)
        have F_b152_afterLineEnd : Fld Z h155 b152 "com/example/bulla/bulla/xml/TextPosition" "afterLineEnd" "Z" (.int (0 : Int32)) := D158 (Or.inl (o_w hw 47 rfl)) (ty := .boolean) (by decide)
        refine o_dup cx X154 at_205 rfl ?_
        refine o_callC cx X154 (y' := (⟨"com/example/bulla/bulla/xml/TextPosition", "<init>", "()V"⟩ : MethodName)) (argsL := []) (st := [(.ref b152)]) (a := b152) at_206 (o_w hw 5 rfl) (o_w hw 6 rfl) (o_w hw 4 rfl) (o_w hw 7 rfl) (by decide) rfl (ra1_1 l Z a0 hw b152 h155 n0 X154.ge0 ge160 A157 F_b152_line F_b152_column F_b152_shortfall F_b152_afterReturn F_b152_afterLineEnd) (by decide) 1 rfl (by decide) rfl (lenOf pd_1 rfl) rfl rfl (by decide) (by decide) fun v164 T161 h163 X162 Q165 => ?_
        obtain ⟨rfl, K166, E167, F168, F169, F170, F171, F172⟩ := Q165
        have A17 := A17.keep K166 (ninS ne_b12_b152 nin0)
        show own_Go p e below _ (T161.setTop (mkF m 209 #[.val (.int p0), .val (.int p1), .val (.long p2), .second, .val (.long p3), .second, .val (.int ((p0 &&& (2147483647 : Int32)) % (6 : Int32))), .val (.ref b12), .val (.int (2 : Int32)), .val (.long (2 : Int64)), .second, .val (.long (1 : Int64)), .second, .unset, .unset, .unset, .unset, .unset, .unset, .unset] [(.ref b152)]))
        refine o_astore cx X162 (Ls' := #[.val (.int p0), .val (.int p1), .val (.long p2), .second, .val (.long p3), .second, .val (.int ((p0 &&& (2147483647 : Int32)) % (6 : Int32))), .val (.ref b12), .val (.int (2 : Int32)), .val (.long (2 : Int64)), .second, .val (.long (1 : Int64)), .second, .val (.ref b152), .unset, .unset, .unset, .unset, .unset, .unset]) at_209 rfl rfl ?_
        refine o_aload cx X162 at_211 rfl rfl ?_
        refine o_aload cx X162 at_213 rfl rfl ?_
        refine o_iconst cx X162 (z := (0 : Int32)) at_215 rfl ?_
        refine o_iload cx X162 at_216 rfl ?_
        refine o_callV cx X162 (y' := (⟨"com/example/bulla/bulla/xml/TextPosition", "moveOver", "([BII)V"⟩ : MethodName)) (argsL := [(.ref b12), (.int (0 : Int32)), (.int (2 : Int32))]) (st := []) (a := b152) at_218 (o_w hw 15 rfl) (o_w hw 16 rfl) (o_w hw 18 rfl) (o_w hw 17 rfl) (o_w hw 4 rfl) (o_w hw 19 rfl) (by decide) E167 (ra3_10 l Z a0 hw b152 b12 h163 n0 X162.ge0 ge160 ge19 (Ne.symm ne_b12_b152) E167 F168 F169 F170 F171 F172 A17) (by decide) 0 rfl (by decide) rfl (lenOf pd_3 rfl) rfl rfl (by decide) (by decide) fun v176 T173 h175 X174 Q177 => ?_
        obtain ⟨rfl, K178, E179, F180, F181, F182, F183, F184⟩ := Q177
        have A17 := A17.keep K178 (ninS ne_b12_b152 nin0)
        show own_Go p e below _ (T173.setTop (mkF m 221 #[.val (.int p0), .val (.int p1), .val (.long p2), .second, .val (.long p3), .second, .val (.int ((p0 &&& (2147483647 : Int32)) % (6 : Int32))), .val (.ref b12), .val (.int (2 : Int32)), .val (.long (2 : Int64)), .second, .val (.long (1 : Int64)), .second, .val (.ref b152), .unset, .unset, .unset, .unset, .unset, .unset] []))
        have J297 : ∀ (ol oc : Int64) (lm : Int32), own_Go p e below (own_End below s room_1 n0 (fun v' _ => v' = some (.int 1))) (T173.setTop (mkF m 297 #[.val (.int p0), .val (.int p1), .val (.long p2), .second, .val (.long p3), .second, .val (.int ((p0 &&& (2147483647 : Int32)) % (6 : Int32))), .val (.ref b12), .val (.int (2 : Int32)), .val (.long (2 : Int64)), .second, .val (.long (1 : Int64)), .second, .val (.ref b152), .val (.int lm), .val (.long ol), .second, .val (.long oc), .second, .unset] [])) := by
          intro ol oc lm
          refine o_lload cx X174 at_297 rfl ?_
          refine o_lload cx X174 at_299 rfl ?_
          refine o_lcmp cx X174 at_301 rfl ?_
          by_cases hc185 : ol < (2 : Int64)
          · refine o_ifYes cx X174 321 at_302 ((if0 _ _).trans (tlt ((lw_lt ol (2 : Int64)).mpr hc185)).1) (by decide) (by decide) ?_
            refine o_iconst cx X174 (z := (1 : Int32)) at_321 rfl ?_
            refine o_goto cx X174 326 at_322 (by decide) (by decide) ?_
            refine o_istore cx X174 (Ls' := #[.val (.int p0), .val (.int p1), .val (.long p2), .second, .val (.long p3), .second, .val (.int ((p0 &&& (2147483647 : Int32)) % (6 : Int32))), .val (.ref b12), .val (.int (2 : Int32)), .val (.long (2 : Int64)), .second, .val (.long (1 : Int64)), .second, .val (.ref b152), .val (.int lm), .val (.long ol), .second, .val (.long oc), .second, .val (.int (1 : Int32))]) at_326 rfl ?_
            refine o_aload cx X174 at_328 rfl rfl ?_
            refine o_lload cx X174 at_330 rfl ?_
            refine o_lload cx X174 at_332 rfl ?_
            refine o_callVp cx X174 (y' := (⟨"com/example/bulla/bulla/xml/TextPosition", "isSurelyAfter", "(JJ)Z"⟩ : MethodName)) (argsL := [(.long ol), (.long oc)]) (st := []) (a := b152) at_334 (o_w hw 24 rfl) (o_w hw 25 rfl) (o_w hw 27 rfl) (o_w hw 26 rfl) (o_w hw 4 rfl) (o_w hw 28 rfl) (by decide) E179 (rm1 l Z a0 hw b152 (2 : Int64) (2 : Int64) (0 : Int64) ol oc h175 n0 X174.ge0 F180 F181 F182) (by decide) 0 rfl (by decide) rfl (lenOf pd_5 rfl) rfl rfl (by decide) (by decide) fun T186 X187 => ?_
            show own_Go p e below _ (T186.setTop (mkF m 337 #[.val (.int p0), .val (.int p1), .val (.long p2), .second, .val (.long p3), .second, .val (.int ((p0 &&& (2147483647 : Int32)) % (6 : Int32))), .val (.ref b12), .val (.int (2 : Int32)), .val (.long (2 : Int64)), .second, .val (.long (1 : Int64)), .second, .val (.ref b152), .val (.int lm), .val (.long ol), .second, .val (.long oc), .second, .val (.int (1 : Int32))] [(.int (own_sa (2 : Int64) (2 : Int64) (0 : Int64) ol oc))]))
            refine o_iload cx X187 at_337 rfl ?_
            have hfin : (own_sa (2 : Int64) (2 : Int64) (0 : Int64) ol oc) = (1 : Int32) := by
              simp only [Int64.lt_iff_toInt_lt, ← Int64.toInt_inj] at hc185
              unfold own_sa
              simp only [Int64.reduceSub, Int64.reduceToInt] at hc185 ⊢
              repeat' split
              all_goals first | rfl | omega
            refine o_icmpNo cx X187 at_339 (teq hfin).2 ?_
            refine o_iconst cx X187 (z := (1 : Int32)) at_342 rfl ?_
            refine o_goto cx X187 347 at_343 (by decide) (by decide) ?_
            exact o_retN cx X187 (z' := (1 : Int32)) at_347 (by simp) rfl rfl (by decide) (by decide)
          · refine o_ifNo cx X174 at_302 ((if0 _ _).trans (flt (fun q => hc185 ((lw_lt ol (2 : Int64)).mp q))).1) ?_
            refine o_lload cx X174 at_305 rfl ?_
            refine o_lload cx X174 at_307 rfl ?_
            refine o_lcmp cx X174 at_309 rfl ?_
            by_cases hc191 : ol = (2 : Int64)
            · refine o_ifNo cx X174 at_310 ((if0 _ _).trans (teq ((lw_eq ol (2 : Int64)).mpr hc191)).2) ?_
              refine o_lload cx X174 at_313 rfl ?_
              refine o_lload cx X174 at_315 rfl ?_
              refine o_lcmp cx X174 at_317 rfl ?_
              by_cases hc192 : (1 : Int64) < oc
              · refine o_ifYes cx X174 325 at_318 ((if0 _ _).trans (tlt ((lw_gt oc (1 : Int64)).mpr hc192)).2.2.1) (by decide) (by decide) ?_
                refine o_iconst cx X174 (z := (0 : Int32)) at_325 rfl ?_
                refine o_istore cx X174 (Ls' := #[.val (.int p0), .val (.int p1), .val (.long p2), .second, .val (.long p3), .second, .val (.int ((p0 &&& (2147483647 : Int32)) % (6 : Int32))), .val (.ref b12), .val (.int (2 : Int32)), .val (.long (2 : Int64)), .second, .val (.long (1 : Int64)), .second, .val (.ref b152), .val (.int lm), .val (.long ol), .second, .val (.long oc), .second, .val (.int (0 : Int32))]) at_326 rfl ?_
                refine o_aload cx X174 at_328 rfl rfl ?_
                refine o_lload cx X174 at_330 rfl ?_
                refine o_lload cx X174 at_332 rfl ?_
                refine o_callVp cx X174 (y' := (⟨"com/example/bulla/bulla/xml/TextPosition", "isSurelyAfter", "(JJ)Z"⟩ : MethodName)) (argsL := [(.long ol), (.long oc)]) (st := []) (a := b152) at_334 (o_w hw 24 rfl) (o_w hw 25 rfl) (o_w hw 27 rfl) (o_w hw 26 rfl) (o_w hw 4 rfl) (o_w hw 28 rfl) (by decide) E179 (rm1 l Z a0 hw b152 (2 : Int64) (2 : Int64) (0 : Int64) ol oc h175 n0 X174.ge0 F180 F181 F182) (by decide) 0 rfl (by decide) rfl (lenOf pd_5 rfl) rfl rfl (by decide) (by decide) fun T193 X194 => ?_
                show own_Go p e below _ (T193.setTop (mkF m 337 #[.val (.int p0), .val (.int p1), .val (.long p2), .second, .val (.long p3), .second, .val (.int ((p0 &&& (2147483647 : Int32)) % (6 : Int32))), .val (.ref b12), .val (.int (2 : Int32)), .val (.long (2 : Int64)), .second, .val (.long (1 : Int64)), .second, .val (.ref b152), .val (.int lm), .val (.long ol), .second, .val (.long oc), .second, .val (.int (0 : Int32))] [(.int (own_sa (2 : Int64) (2 : Int64) (0 : Int64) ol oc))]))
                refine o_iload cx X194 at_337 rfl ?_
                have hfin : (own_sa (2 : Int64) (2 : Int64) (0 : Int64) ol oc) = (0 : Int32) := by
                  simp only [Int64.lt_iff_toInt_lt, ← Int64.toInt_inj] at hc185 hc191 hc192
                  unfold own_sa
                  simp only [Int64.reduceSub, Int64.reduceToInt] at hc185 hc191 hc192 ⊢
                  repeat' split
                  all_goals first | rfl | omega
                refine o_icmpNo cx X194 at_339 (teq hfin).2 ?_
                refine o_iconst cx X194 (z := (1 : Int32)) at_342 rfl ?_
                refine o_goto cx X194 347 at_343 (by decide) (by decide) ?_
                exact o_retN cx X194 (z' := (1 : Int32)) at_347 (by simp) rfl rfl (by decide) (by decide)
              · refine o_ifNo cx X174 at_318 ((if0 _ _).trans (flt (fun q => hc192 ((lw_gt oc (1 : Int64)).mp q))).2.2.1) ?_
                refine o_iconst cx X174 (z := (1 : Int32)) at_321 rfl ?_
                refine o_goto cx X174 326 at_322 (by decide) (by decide) ?_
                refine o_istore cx X174 (Ls' := #[.val (.int p0), .val (.int p1), .val (.long p2), .second, .val (.long p3), .second, .val (.int ((p0 &&& (2147483647 : Int32)) % (6 : Int32))), .val (.ref b12), .val (.int (2 : Int32)), .val (.long (2 : Int64)), .second, .val (.long (1 : Int64)), .second, .val (.ref b152), .val (.int lm), .val (.long ol), .second, .val (.long oc), .second, .val (.int (1 : Int32))]) at_326 rfl ?_
                refine o_aload cx X174 at_328 rfl rfl ?_
                refine o_lload cx X174 at_330 rfl ?_
                refine o_lload cx X174 at_332 rfl ?_
                refine o_callVp cx X174 (y' := (⟨"com/example/bulla/bulla/xml/TextPosition", "isSurelyAfter", "(JJ)Z"⟩ : MethodName)) (argsL := [(.long ol), (.long oc)]) (st := []) (a := b152) at_334 (o_w hw 24 rfl) (o_w hw 25 rfl) (o_w hw 27 rfl) (o_w hw 26 rfl) (o_w hw 4 rfl) (o_w hw 28 rfl) (by decide) E179 (rm1 l Z a0 hw b152 (2 : Int64) (2 : Int64) (0 : Int64) ol oc h175 n0 X174.ge0 F180 F181 F182) (by decide) 0 rfl (by decide) rfl (lenOf pd_5 rfl) rfl rfl (by decide) (by decide) fun T198 X199 => ?_
                show own_Go p e below _ (T198.setTop (mkF m 337 #[.val (.int p0), .val (.int p1), .val (.long p2), .second, .val (.long p3), .second, .val (.int ((p0 &&& (2147483647 : Int32)) % (6 : Int32))), .val (.ref b12), .val (.int (2 : Int32)), .val (.long (2 : Int64)), .second, .val (.long (1 : Int64)), .second, .val (.ref b152), .val (.int lm), .val (.long ol), .second, .val (.long oc), .second, .val (.int (1 : Int32))] [(.int (own_sa (2 : Int64) (2 : Int64) (0 : Int64) ol oc))]))
                refine o_iload cx X199 at_337 rfl ?_
                have hfin : (own_sa (2 : Int64) (2 : Int64) (0 : Int64) ol oc) = (1 : Int32) := by
                  simp only [Int64.lt_iff_toInt_lt, ← Int64.toInt_inj] at hc185 hc191 hc192
                  unfold own_sa
                  simp only [Int64.reduceSub, Int64.reduceToInt] at hc185 hc191 hc192 ⊢
                  repeat' split
                  all_goals first | rfl | omega
                refine o_icmpNo cx X199 at_339 (teq hfin).2 ?_
                refine o_iconst cx X199 (z := (1 : Int32)) at_342 rfl ?_
                refine o_goto cx X199 347 at_343 (by decide) (by decide) ?_
                exact o_retN cx X199 (z' := (1 : Int32)) at_347 (by simp) rfl rfl (by decide) (by decide)
            · refine o_ifYes cx X174 325 at_310 ((if0 _ _).trans (feq (fun q => hc191 ((lw_eq ol (2 : Int64)).mp q))).2) (by decide) (by decide) ?_
              refine o_iconst cx X174 (z := (0 : Int32)) at_325 rfl ?_
              refine o_istore cx X174 (Ls' := #[.val (.int p0), .val (.int p1), .val (.long p2), .second, .val (.long p3), .second, .val (.int ((p0 &&& (2147483647 : Int32)) % (6 : Int32))), .val (.ref b12), .val (.int (2 : Int32)), .val (.long (2 : Int64)), .second, .val (.long (1 : Int64)), .second, .val (.ref b152), .val (.int lm), .val (.long ol), .second, .val (.long oc), .second, .val (.int (0 : Int32))]) at_326 rfl ?_
              refine o_aload cx X174 at_328 rfl rfl ?_
              refine o_lload cx X174 at_330 rfl ?_
              refine o_lload cx X174 at_332 rfl ?_
              refine o_callVp cx X174 (y' := (⟨"com/example/bulla/bulla/xml/TextPosition", "isSurelyAfter", "(JJ)Z"⟩ : MethodName)) (argsL := [(.long ol), (.long oc)]) (st := []) (a := b152) at_334 (o_w hw 24 rfl) (o_w hw 25 rfl) (o_w hw 27 rfl) (o_w hw 26 rfl) (o_w hw 4 rfl) (o_w hw 28 rfl) (by decide) E179 (rm1 l Z a0 hw b152 (2 : Int64) (2 : Int64) (0 : Int64) ol oc h175 n0 X174.ge0 F180 F181 F182) (by decide) 0 rfl (by decide) rfl (lenOf pd_5 rfl) rfl rfl (by decide) (by decide) fun T203 X204 => ?_
              show own_Go p e below _ (T203.setTop (mkF m 337 #[.val (.int p0), .val (.int p1), .val (.long p2), .second, .val (.long p3), .second, .val (.int ((p0 &&& (2147483647 : Int32)) % (6 : Int32))), .val (.ref b12), .val (.int (2 : Int32)), .val (.long (2 : Int64)), .second, .val (.long (1 : Int64)), .second, .val (.ref b152), .val (.int lm), .val (.long ol), .second, .val (.long oc), .second, .val (.int (0 : Int32))] [(.int (own_sa (2 : Int64) (2 : Int64) (0 : Int64) ol oc))]))
              refine o_iload cx X204 at_337 rfl ?_
              have hfin : (own_sa (2 : Int64) (2 : Int64) (0 : Int64) ol oc) = (0 : Int32) := by
                simp only [Int64.lt_iff_toInt_lt, ← Int64.toInt_inj] at hc185 hc191
                unfold own_sa
                simp only [Int64.reduceSub, Int64.reduceToInt] at hc185 hc191 ⊢
                repeat' split
                all_goals first | rfl | omega
              refine o_icmpNo cx X204 at_339 (teq hfin).2 ?_
              refine o_iconst cx X204 (z := (1 : Int32)) at_342 rfl ?_
              refine o_goto cx X204 347 at_343 (by decide) (by decide) ?_
              exact o_retN cx X204 (z' := (1 : Int32)) at_347 (by simp) rfl rfl (by decide) (by decide)
        have J271 : ∀ (ol : Int64) (lm : Int32), own_Go p e below (own_End below s room_1 n0 (fun v' _ => v' = some (.int 1))) (T173.setTop (mkF m 271 #[.val (.int p0), .val (.int p1), .val (.long p2), .second, .val (.long p3), .second, .val (.int ((p0 &&& (2147483647 : Int32)) % (6 : Int32))), .val (.ref b12), .val (.int (2 : Int32)), .val (.long (2 : Int64)), .second, .val (.long (1 : Int64)), .second, .val (.ref b152), .val (.int lm), .val (.long ol), .second, .unset, .unset, .unset] [])) := by
          intro ol lm
          refine o_iloadN cx X174 at_271 rfl ?_
          refine o_iconst cx X174 (z := (2 : Int32)) at_272 rfl ?_
          refine o_ishr cx X174 at_273 rfl ?_
          refine o_iconst cx X174 (z := (1 : Int32)) at_274 rfl ?_
          refine o_iand cx X174 at_275 rfl ?_
          by_cases hc208 : ((p1 >>> ((2 : Int32) &&& 31)) &&& (1 : Int32)) = (0 : Int32)
          · refine o_ifNo cx X174 at_276 ((if0 _ _).trans (teq hc208).2) ?_
            refine o_lload cx X174 at_279 rfl ?_
            refine o_lstore cx X174 (Ls' := #[.val (.int p0), .val (.int p1), .val (.long p2), .second, .val (.long p3), .second, .val (.int ((p0 &&& (2147483647 : Int32)) % (6 : Int32))), .val (.ref b12), .val (.int (2 : Int32)), .val (.long (2 : Int64)), .second, .val (.long (1 : Int64)), .second, .val (.ref b152), .val (.int lm), .val (.long ol), .second, .val (.long p3), .second, .unset]) at_281 rfl ?_
            refine o_goto cx X174 297 at_283 (by decide) (by decide) ?_
            exact J297 ol p3 lm
          · refine o_ifYes cx X174 286 at_276 ((if0 _ _).trans (feq hc208).2) (by decide) (by decide) ?_
            refine o_lload cx X174 at_286 rfl ?_
            refine o_lload cx X174 at_288 rfl ?_
            refine o_ldc2 cx X174 (z := (3 : Int64)) at_290 (o_w hw 31 rfl) ?_
            refine o_lrem cx X174 at_293 (by decide) rfl ?_
            refine o_ladd cx X174 at_294 rfl ?_
            refine o_lstore cx X174 (Ls' := #[.val (.int p0), .val (.int p1), .val (.long p2), .second, .val (.long p3), .second, .val (.int ((p0 &&& (2147483647 : Int32)) % (6 : Int32))), .val (.ref b12), .val (.int (2 : Int32)), .val (.long (2 : Int64)), .second, .val (.long (1 : Int64)), .second, .val (.ref b152), .val (.int lm), .val (.long ol), .second, .val (.long ((1 : Int64) + (p3 % (3 : Int64)))), .second, .unset]) at_295 rfl ?_
            exact J297 ol ((1 : Int64) + (p3 % (3 : Int64))) lm
        refine o_iloadN cx X174 at_221 rfl ?_
        refine o_iconst cx X174 (z := (3 : Int32)) at_222 rfl ?_
        refine o_iand cx X174 at_223 rfl ?_
        refine o_istore cx X174 (Ls' := #[.val (.int p0), .val (.int p1), .val (.long p2), .second, .val (.long p3), .second, .val (.int ((p0 &&& (2147483647 : Int32)) % (6 : Int32))), .val (.ref b12), .val (.int (2 : Int32)), .val (.long (2 : Int64)), .second, .val (.long (1 : Int64)), .second, .val (.ref b152), .val (.int (p1 &&& (3 : Int32))), .unset, .unset, .unset, .unset, .unset]) at_224 rfl ?_
        refine o_iload cx X174 at_226 rfl ?_
        by_cases hc209 : (p1 &&& (3 : Int32)) = (0 : Int32)
        · refine o_ifNo cx X174 at_228 ((if0 _ _).trans (teq hc209).2) ?_
          refine o_lload cx X174 at_231 rfl ?_
          refine o_lconst cx X174 (z := (1 : Int64)) at_233 rfl ?_
          refine o_lsub cx X174 (z := (1 : Int64)) at_234 rfl ?_
          refine o_lstore cx X174 (Ls' := #[.val (.int p0), .val (.int p1), .val (.long p2), .second, .val (.long p3), .second, .val (.int ((p0 &&& (2147483647 : Int32)) % (6 : Int32))), .val (.ref b12), .val (.int (2 : Int32)), .val (.long (2 : Int64)), .second, .val (.long (1 : Int64)), .second, .val (.ref b152), .val (.int (p1 &&& (3 : Int32))), .val (.long (1 : Int64)), .second, .unset, .unset, .unset]) at_235 rfl ?_
          refine o_goto cx X174 271 at_237 (by decide) (by decide) ?_
          exact J271 (1 : Int64) (p1 &&& (3 : Int32))
        · refine o_ifYes cx X174 240 at_228 ((if0 _ _).trans (feq hc209).2) (by decide) (by decide) ?_
          refine o_iload cx X174 at_240 rfl ?_
          refine o_iconst cx X174 (z := (1 : Int32)) at_242 rfl ?_
          by_cases hc210 : (p1 &&& (3 : Int32)) = (1 : Int32)
          · refine o_icmpNo cx X174 at_243 (teq hc210).2 ?_
            refine o_lload cx X174 at_246 rfl ?_
            refine o_lstore cx X174 (Ls' := #[.val (.int p0), .val (.int p1), .val (.long p2), .second, .val (.long p3), .second, .val (.int ((p0 &&& (2147483647 : Int32)) % (6 : Int32))), .val (.ref b12), .val (.int (2 : Int32)), .val (.long (2 : Int64)), .second, .val (.long (1 : Int64)), .second, .val (.ref b152), .val (.int (p1 &&& (3 : Int32))), .val (.long (2 : Int64)), .second, .unset, .unset, .unset]) at_248 rfl ?_
            refine o_goto cx X174 271 at_250 (by decide) (by decide) ?_
            exact J271 (2 : Int64) (p1 &&& (3 : Int32))
          · refine o_icmpYes cx X174 253 at_243 (feq hc210).2 (by decide) (by decide) ?_
            refine o_iload cx X174 at_253 rfl ?_
            refine o_iconst cx X174 (z := (2 : Int32)) at_255 rfl ?_
            by_cases hc211 : (p1 &&& (3 : Int32)) = (2 : Int32)
            · refine o_icmpNo cx X174 at_256 (teq hc211).2 ?_
              refine o_lload cx X174 at_259 rfl ?_
              refine o_lconst cx X174 (z := (1 : Int64)) at_261 rfl ?_
              refine o_ladd cx X174 (z := (3 : Int64)) at_262 rfl ?_
              refine o_lstore cx X174 (Ls' := #[.val (.int p0), .val (.int p1), .val (.long p2), .second, .val (.long p3), .second, .val (.int ((p0 &&& (2147483647 : Int32)) % (6 : Int32))), .val (.ref b12), .val (.int (2 : Int32)), .val (.long (2 : Int64)), .second, .val (.long (1 : Int64)), .second, .val (.ref b152), .val (.int (p1 &&& (3 : Int32))), .val (.long (3 : Int64)), .second, .unset, .unset, .unset]) at_263 rfl ?_
              refine o_goto cx X174 271 at_265 (by decide) (by decide) ?_
              exact J271 (3 : Int64) (p1 &&& (3 : Int32))
            · refine o_icmpYes cx X174 268 at_256 (feq hc211).2 (by decide) (by decide) ?_
              refine o_lloadN cx X174 at_268 rfl ?_
              refine o_lstore cx X174 (Ls' := #[.val (.int p0), .val (.int p1), .val (.long p2), .second, .val (.long p3), .second, .val (.int ((p0 &&& (2147483647 : Int32)) % (6 : Int32))), .val (.ref b12), .val (.int (2 : Int32)), .val (.long (2 : Int64)), .second, .val (.long (1 : Int64)), .second, .val (.ref b152), .val (.int (p1 &&& (3 : Int32))), .val (.long p2), .second, .unset, .unset, .unset]) at_269 rfl ?_
              exact J271 p2 (p1 &&& (3 : Int32))
      · refine o_icmpYes cx X14 95 at_66 (feq hc143).2 (by decide) (by decide) ?_
        refine o_iload cx X14 at_95 rfl ?_
        refine o_iconst cx X14 (z := (3 : Int32)) at_97 rfl ?_
        by_cases hc212 : ((p0 &&& (2147483647 : Int32)) % (6 : Int32)) = (3 : Int32)
        · refine o_icmpNo cx X14 at_98 (teq hc212).2 ?_
          refine o_aload cx X14 at_101 rfl rfl ?_
          refine o_iconst cx X14 (z := (0 : Int32)) at_103 rfl ?_
          refine o_bipush cx X14 (z := (13 : Int32)) at_104 rfl ?_
          refine o_stB cx X14 (x' := (13 : Int32)) at_106 A17 0 (by decide) rfl (Nat.le_of_ble_eq_true rfl) rfl ge19 fun T213 h215 X214 W216 A17 => ?_
          have A17 : own_Ar Z h215 b12 .byte [(.int (13 : Int32)), (.int (0 : Int32)), (.int (0 : Int32))] := A17
          refine o_aload cx X214 at_107 rfl rfl ?_
          refine o_iconst cx X214 (z := (1 : Int32)) at_109 rfl ?_
          refine o_bipush cx X214 (z := (97 : Int32)) at_110 rfl ?_
          refine o_stB cx X214 (x' := (97 : Int32)) at_112 A17 1 (by decide) rfl (Nat.le_of_ble_eq_true rfl) rfl ge19 fun T217 h219 X218 W220 A17 => ?_
          have A17 : own_Ar Z h219 b12 .byte [(.int (13 : Int32)), (.int (97 : Int32)), (.int (0 : Int32))] := A17
          refine o_aload cx X218 at_113 rfl rfl ?_
          refine o_iconst cx X218 (z := (2 : Int32)) at_115 rfl ?_
          refine o_bipush cx X218 (z := (98 : Int32)) at_116 rfl ?_
          refine o_stB cx X218 (x' := (98 : Int32)) at_118 A17 2 (by decide) rfl (Nat.le_of_ble_eq_true rfl) rfl ge19 fun T221 h223 X222 W224 A17 => ?_
          have A17 : own_Ar Z h223 b12 .byte [(.int (13 : Int32)), (.int (97 : Int32)), (.int (98 : Int32))] := A17
          refine o_iconst cx X222 (z := (3 : Int32)) at_119 rfl ?_
          refine o_istore cx X222 (Ls' := #[.val (.int p0), .val (.int p1), .val (.long p2), .second, .val (.long p3), .second, .val (.int ((p0 &&& (2147483647 : Int32)) % (6 : Int32))), .val (.ref b12), .val (.int (3 : Int32)), .unset, .unset, .unset, .unset, .unset, .unset, .unset, .unset, .unset, .unset, .unset]) at_120 rfl ?_
          refine o_ldc2 cx X222 (z := (2 : Int64)) at_122 (o_w hw 51 rfl) ?_
          refine o_lstore cx X222 (Ls' := #[.val (.int p0), .val (.int p1), .val (.long p2), .second, .val (.long p3), .second, .val (.int ((p0 &&& (2147483647 : Int32)) % (6 : Int32))), .val (.ref b12), .val (.int (3 : Int32)), .val (.long (2 : Int64)), .second, .unset, .unset, .unset, .unset, .unset, .unset, .unset, .unset, .unset]) at_125 rfl ?_
          refine o_lconst cx X222 (z := (1 : Int64)) at_127 rfl ?_
          refine o_lstore cx X222 (Ls' := #[.val (.int p0), .val (.int p1), .val (.long p2), .second, .val (.long p3), .second, .val (.int ((p0 &&& (2147483647 : Int32)) % (6 : Int32))), .val (.ref b12), .val (.int (3 : Int32)), .val (.long (2 : Int64)), .second, .val (.long (1 : Int64)), .second, .unset, .unset, .unset, .unset, .unset, .unset, .unset]) at_128 rfl ?_
          refine o_goto cx X222 202 at_130 (by decide) (by decide) ?_
          refine o_newO cx X222 at_202 (o_w hw 2 rfl) (o_w hw 3 rfl) (o_w hw 4 rfl) (by decide) (by decide) fun T226 h228 b225 gb232 ge233 X227 E229 A230 D231 => ?_
          have ne_b12_b225 : b12 ≠ b225 := by rw [gb232]; exact Nat.ne_of_lt A17.lt
          have A17 := A17.ext E229
          have F_b225_line : Fld Z h228 b225 "com/example/bulla/bulla/xml/TextPosition" "line" "J" (.long (0 : Int64)) := D231 (Or.inl (o_w hw 12 rfl)) (ty := .long) (by decide)
          have F_b225_column : Fld Z h228 b225 "com/example/bulla/bulla/xml/TextPosition" "column" "J" (.long (0 : Int64)) := D231 (Or.inl (o_w hw 14 rfl)) (ty := .long) (by decide)
          have F_b225_shortfall : Fld Z h228 b225 "com/example/bulla/bulla/xml/TextPosition" "shortfall" "J" (.long (0 : Int64)) := D231 (Or.inl (o_w hw 30 rfl)) (ty := .long) (by decide)
          have F_b225_afterReturn : Fld Z h228 b225 "com/example/bulla/bulla/xml/TextPosition" "afterReturn" "Z" (.int (0 : Int32)) := D231 (Or.inl (o_w hw 38 rfl)) (ty := .boolean) (by decide)
          have F_b225_afterLineEnd : Fld Z h228 b225 "com/example/bulla/bulla/xml/TextPosition" "afterLineEnd" "Z" (.int (0 : Int32)) := D231 (Or.inl (o_w hw 47 rfl)) (ty := .boolean) (by decide)
          refine o_dup cx X227 at_205 rfl ?_
          refine o_callC cx X227 (y' := (⟨"com/example/bulla/bulla/xml/TextPosition", "<init>", "()V"⟩ : MethodName)) (argsL := []) (st := [(.ref b225)]) (a := b225) at_206 (o_w hw 5 rfl) (o_w hw 6 rfl) (o_w hw 4 rfl) (o_w hw 7 rfl) (by decide) rfl (ra1_1 l Z a0 hw b225 h228 n0 X227.ge0 ge233 A230 F_b225_line F_b225_column F_b225_shortfall F_b225_afterReturn F_b225_afterLineEnd) (by decide) 1 rfl (by decide) rfl (lenOf pd_1 rfl) rfl rfl (by decide) (by decide) fun v237 T234 h236 X235 Q238 => ?_
          obtain ⟨rfl, K239, E240, F241, F242, F243, F244, F245⟩ := Q238
          have A17 := A17.keep K239 (ninS ne_b12_b225 nin0)
          show own_Go p e below _ (T234.setTop (mkF m 209 #[.val (.int p0), .val (.int p1), .val (.long p2), .second, .val (.long p3), .second, .val (.int ((p0 &&& (2147483647 : Int32)) % (6 : Int32))), .val (.ref b12), .val (.int (3 : Int32)), .val (.long (2 : Int64)), .second, .val (.long (1 : Int64)), .second, .unset, .unset, .unset, .unset, .unset, .unset, .unset] [(.ref b225)]))
          refine o_astore cx X235 (Ls' := #[.val (.int p0), .val (.int p1), .val (.long p2), .second, .val (.long p3), .second, .val (.int ((p0 &&& (2147483647 : Int32)) % (6 : Int32))), .val (.ref b12), .val (.int (3 : Int32)), .val (.long (2 : Int64)), .second, .val (.long (1 : Int64)), .second, .val (.ref b225), .unset, .unset, .unset, .unset, .unset, .unset]) at_209 rfl rfl ?_
          refine o_aload cx X235 at_211 rfl rfl ?_
          refine o_aload cx X235 at_213 rfl rfl ?_
          refine o_iconst cx X235 (z := (0 : Int32)) at_215 rfl ?_
          refine o_iload cx X235 at_216 rfl ?_
          refine o_callV cx X235 (y' := (⟨"com/example/bulla/bulla/xml/TextPosition", "moveOver", "([BII)V"⟩ : MethodName)) (argsL := [(.ref b12), (.int (0 : Int32)), (.int (3 : Int32))]) (st := []) (a := b225) at_218 (o_w hw 15 rfl) (o_w hw 16 rfl) (o_w hw 18 rfl) (o_w hw 17 rfl) (o_w hw 4 rfl) (o_w hw 19 rfl) (by decide) E240 (ra3_16 l Z a0 hw b225 b12 h236 n0 X235.ge0 ge233 ge19 (Ne.symm ne_b12_b225) E240 F241 F242 F243 F244 F245 A17) (by decide) 0 rfl (by decide) rfl (lenOf pd_3 rfl) rfl rfl (by decide) (by decide) fun v249 T246 h248 X247 Q250 => ?_
          obtain ⟨rfl, K251, E252, F253, F254, F255, F256, F257⟩ := Q250
          have A17 := A17.keep K251 (ninS ne_b12_b225 nin0)
          show own_Go p e below _ (T246.setTop (mkF m 221 #[.val (.int p0), .val (.int p1), .val (.long p2), .second, .val (.long p3), .second, .val (.int ((p0 &&& (2147483647 : Int32)) % (6 : Int32))), .val (.ref b12), .val (.int (3 : Int32)), .val (.long (2 : Int64)), .second, .val (.long (1 : Int64)), .second, .val (.ref b225), .unset, .unset, .unset, .unset, .unset, .unset] []))
          have J297 : ∀ (ol oc : Int64) (lm : Int32), own_Go p e below (own_End below s room_1 n0 (fun v' _ => v' = some (.int 1))) (T246.setTop (mkF m 297 #[.val (.int p0), .val (.int p1), .val (.long p2), .second, .val (.long p3), .second, .val (.int ((p0 &&& (2147483647 : Int32)) % (6 : Int32))), .val (.ref b12), .val (.int (3 : Int32)), .val (.long (2 : Int64)), .second, .val (.long (1 : Int64)), .second, .val (.ref b225), .val (.int lm), .val (.long ol), .second, .val (.long oc), .second, .unset] [])) := by
            intro ol oc lm
            refine o_lload cx X247 at_297 rfl ?_
            refine o_lload cx X247 at_299 rfl ?_
            refine o_lcmp cx X247 at_301 rfl ?_
            by_cases hc258 : ol < (2 : Int64)
            · refine o_ifYes cx X247 321 at_302 ((if0 _ _).trans (tlt ((lw_lt ol (2 : Int64)).mpr hc258)).1) (by decide) (by decide) ?_
              refine o_iconst cx X247 (z := (1 : Int32)) at_321 rfl ?_
              refine o_goto cx X247 326 at_322 (by decide) (by decide) ?_
              refine o_istore cx X247 (Ls' := #[.val (.int p0), .val (.int p1), .val (.long p2), .second, .val (.long p3), .second, .val (.int ((p0 &&& (2147483647 : Int32)) % (6 : Int32))), .val (.ref b12), .val (.int (3 : Int32)), .val (.long (2 : Int64)), .second, .val (.long (1 : Int64)), .second, .val (.ref b225), .val (.int lm), .val (.long ol), .second, .val (.long oc), .second, .val (.int (1 : Int32))]) at_326 rfl ?_
              refine o_aload cx X247 at_328 rfl rfl ?_
              refine o_lload cx X247 at_330 rfl ?_
              refine o_lload cx X247 at_332 rfl ?_
              refine o_callVp cx X247 (y' := (⟨"com/example/bulla/bulla/xml/TextPosition", "isSurelyAfter", "(JJ)Z"⟩ : MethodName)) (argsL := [(.long ol), (.long oc)]) (st := []) (a := b225) at_334 (o_w hw 24 rfl) (o_w hw 25 rfl) (o_w hw 27 rfl) (o_w hw 26 rfl) (o_w hw 4 rfl) (o_w hw 28 rfl) (by decide) E252 (rm1 l Z a0 hw b225 (2 : Int64) (3 : Int64) (1 : Int64) ol oc h248 n0 X247.ge0 F253 F254 F255) (by decide) 0 rfl (by decide) rfl (lenOf pd_5 rfl) rfl rfl (by decide) (by decide) fun T259 X260 => ?_
              show own_Go p e below _ (T259.setTop (mkF m 337 #[.val (.int p0), .val (.int p1), .val (.long p2), .second, .val (.long p3), .second, .val (.int ((p0 &&& (2147483647 : Int32)) % (6 : Int32))), .val (.ref b12), .val (.int (3 : Int32)), .val (.long (2 : Int64)), .second, .val (.long (1 : Int64)), .second, .val (.ref b225), .val (.int lm), .val (.long ol), .second, .val (.long oc), .second, .val (.int (1 : Int32))] [(.int (own_sa (2 : Int64) (3 : Int64) (1 : Int64) ol oc))]))
              refine o_iload cx X260 at_337 rfl ?_
              have hfin : (own_sa (2 : Int64) (3 : Int64) (1 : Int64) ol oc) = (1 : Int32) := by
                simp only [Int64.lt_iff_toInt_lt, ← Int64.toInt_inj] at hc258
                unfold own_sa
                simp only [Int64.reduceSub, Int64.reduceToInt] at hc258 ⊢
                repeat' split
                all_goals first | rfl | omega
              refine o_icmpNo cx X260 at_339 (teq hfin).2 ?_
              refine o_iconst cx X260 (z := (1 : Int32)) at_342 rfl ?_
              refine o_goto cx X260 347 at_343 (by decide) (by decide) ?_
              exact o_retN cx X260 (z' := (1 : Int32)) at_347 (by simp) rfl rfl (by decide) (by decide)
            · refine o_ifNo cx X247 at_302 ((if0 _ _).trans (flt (fun q => hc258 ((lw_lt ol (2 : Int64)).mp q))).1) ?_
              refine o_lload cx X247 at_305 rfl ?_
              refine o_lload cx X247 at_307 rfl ?_
              refine o_lcmp cx X247 at_309 rfl ?_
              by_cases hc264 : ol = (2 : Int64)
              · refine o_ifNo cx X247 at_310 ((if0 _ _).trans (teq ((lw_eq ol (2 : Int64)).mpr hc264)).2) ?_
                refine o_lload cx X247 at_313 rfl ?_
                refine o_lload cx X247 at_315 rfl ?_
                refine o_lcmp cx X247 at_317 rfl ?_
                by_cases hc265 : (1 : Int64) < oc
                · refine o_ifYes cx X247 325 at_318 ((if0 _ _).trans (tlt ((lw_gt oc (1 : Int64)).mpr hc265)).2.2.1) (by decide) (by decide) ?_
                  refine o_iconst cx X247 (z := (0 : Int32)) at_325 rfl ?_
                  refine o_istore cx X247 (Ls' := #[.val (.int p0), .val (.int p1), .val (.long p2), .second, .val (.long p3), .second, .val (.int ((p0 &&& (2147483647 : Int32)) % (6 : Int32))), .val (.ref b12), .val (.int (3 : Int32)), .val (.long (2 : Int64)), .second, .val (.long (1 : Int64)), .second, .val (.ref b225), .val (.int lm), .val (.long ol), .second, .val (.long oc), .second, .val (.int (0 : Int32))]) at_326 rfl ?_
                  refine o_aload cx X247 at_328 rfl rfl ?_
                  refine o_lload cx X247 at_330 rfl ?_
                  refine o_lload cx X247 at_332 rfl ?_
                  refine o_callVp cx X247 (y' := (⟨"com/example/bulla/bulla/xml/TextPosition", "isSurelyAfter", "(JJ)Z"⟩ : MethodName)) (argsL := [(.long ol), (.long oc)]) (st := []) (a := b225) at_334 (o_w hw 24 rfl) (o_w hw 25 rfl) (o_w hw 27 rfl) (o_w hw 26 rfl) (o_w hw 4 rfl) (o_w hw 28 rfl) (by decide) E252 (rm1 l Z a0 hw b225 (2 : Int64) (3 : Int64) (1 : Int64) ol oc h248 n0 X247.ge0 F253 F254 F255) (by decide) 0 rfl (by decide) rfl (lenOf pd_5 rfl) rfl rfl (by decide) (by decide) fun T266 X267 => ?_
                  show own_Go p e below _ (T266.setTop (mkF m 337 #[.val (.int p0), .val (.int p1), .val (.long p2), .second, .val (.long p3), .second, .val (.int ((p0 &&& (2147483647 : Int32)) % (6 : Int32))), .val (.ref b12), .val (.int (3 : Int32)), .val (.long (2 : Int64)), .second, .val (.long (1 : Int64)), .second, .val (.ref b225), .val (.int lm), .val (.long ol), .second, .val (.long oc), .second, .val (.int (0 : Int32))] [(.int (own_sa (2 : Int64) (3 : Int64) (1 : Int64) ol oc))]))
                  refine o_iload cx X267 at_337 rfl ?_
                  have hfin : (own_sa (2 : Int64) (3 : Int64) (1 : Int64) ol oc) = (0 : Int32) := by
                    simp only [Int64.lt_iff_toInt_lt, ← Int64.toInt_inj] at hc258 hc264 hc265
                    unfold own_sa
                    simp only [Int64.reduceSub, Int64.reduceToInt] at hc258 hc264 hc265 ⊢
                    repeat' split
                    all_goals first | rfl | omega
                  refine o_icmpNo cx X267 at_339 (teq hfin).2 ?_
                  refine o_iconst cx X267 (z := (1 : Int32)) at_342 rfl ?_
                  refine o_goto cx X267 347 at_343 (by decide) (by decide) ?_
                  exact o_retN cx X267 (z' := (1 : Int32)) at_347 (by simp) rfl rfl (by decide) (by decide)
                · refine o_ifNo cx X247 at_318 ((if0 _ _).trans (flt (fun q => hc265 ((lw_gt oc (1 : Int64)).mp q))).2.2.1) ?_
                  refine o_iconst cx X247 (z := (1 : Int32)) at_321 rfl ?_
                  refine o_goto cx X247 326 at_322 (by decide) (by decide) ?_
                  refine o_istore cx X247 (Ls' := #[.val (.int p0), .val (.int p1), .val (.long p2), .second, .val (.long p3), .second, .val (.int ((p0 &&& (2147483647 : Int32)) % (6 : Int32))), .val (.ref b12), .val (.int (3 : Int32)), .val (.long (2 : Int64)), .second, .val (.long (1 : Int64)), .second, .val (.ref b225), .val (.int lm), .val (.long ol), .second, .val (.long oc), .second, .val (.int (1 : Int32))]) at_326 rfl ?_
                  refine o_aload cx X247 at_328 rfl rfl ?_
                  refine o_lload cx X247 at_330 rfl ?_
                  refine o_lload cx X247 at_332 rfl ?_
                  refine o_callVp cx X247 (y' := (⟨"com/example/bulla/bulla/xml/TextPosition", "isSurelyAfter", "(JJ)Z"⟩ : MethodName)) (argsL := [(.long ol), (.long oc)]) (st := []) (a := b225) at_334 (o_w hw 24 rfl) (o_w hw 25 rfl) (o_w hw 27 rfl) (o_w hw 26 rfl) (o_w hw 4 rfl) (o_w hw 28 rfl) (by decide) E252 (rm1 l Z a0 hw b225 (2 : Int64) (3 : Int64) (1 : Int64) ol oc h248 n0 X247.ge0 F253 F254 F255) (by decide) 0 rfl (by decide) rfl (lenOf pd_5 rfl) rfl rfl (by decide) (by decide) fun T271 X272 => ?_
                  show own_Go p e below _ (T271.setTop (mkF m 337 #[.val (.int p0), .val (.int p1), .val (.long p2), .second, .val (.long p3), .second, .val (.int ((p0 &&& (2147483647 : Int32)) % (6 : Int32))), .val (.ref b12), .val (.int (3 : Int32)), .val (.long (2 : Int64)), .second, .val (.long (1 : Int64)), .second, .val (.ref b225), .val (.int lm), .val (.long ol), .second, .val (.long oc), .second, .val (.int (1 : Int32))] [(.int (own_sa (2 : Int64) (3 : Int64) (1 : Int64) ol oc))]))
                  refine o_iload cx X272 at_337 rfl ?_
                  have hfin : (own_sa (2 : Int64) (3 : Int64) (1 : Int64) ol oc) = (1 : Int32) := by
                    simp only [Int64.lt_iff_toInt_lt, ← Int64.toInt_inj] at hc258 hc264 hc265
                    unfold own_sa
                    simp only [Int64.reduceSub, Int64.reduceToInt] at hc258 hc264 hc265 ⊢
                    repeat' split
                    all_goals first | rfl | omega
                  refine o_icmpNo cx X272 at_339 (teq hfin).2 ?_
                  refine o_iconst cx X272 (z := (1 : Int32)) at_342 rfl ?_
                  refine o_goto cx X272 347 at_343 (by decide) (by decide) ?_
                  exact o_retN cx X272 (z' := (1 : Int32)) at_347 (by simp) rfl rfl (by decide) (by decide)
              · refine o_ifYes cx X247 325 at_310 ((if0 _ _).trans (feq (fun q => hc264 ((lw_eq ol (2 : Int64)).mp q))).2) (by decide) (by decide) ?_
                refine o_iconst cx X247 (z := (0 : Int32)) at_325 rfl ?_
                refine o_istore cx X247 (Ls' := #[.val (.int p0), .val (.int p1), .val (.long p2), .second, .val (.long p3), .second, .val (.int ((p0 &&& (2147483647 : Int32)) % (6 : Int32))), .val (.ref b12), .val (.int (3 : Int32)), .val (.long (2 : Int64)), .second, .val (.long (1 : Int64)), .second, .val (.ref b225), .val (.int lm), .val (.long ol), .second, .val (.long oc), .second, .val (.int (0 : Int32))]) at_326 rfl ?_
                refine o_aload cx X247 at_328 rfl rfl ?_
                refine o_lload cx X247 at_330 rfl ?_
                refine o_lload cx X247 at_332 rfl ?_
                refine o_callVp cx X247 (y' := (⟨"com/example/bulla/bulla/xml/TextPosition", "isSurelyAfter", "(JJ)Z"⟩ : MethodName)) (argsL := [(.long ol), (.long oc)]) (st := []) (a := b225) at_334 (o_w hw 24 rfl) (o_w hw 25 rfl) (o_w hw 27 rfl) (o_w hw 26 rfl) (o_w hw 4 rfl) (o_w hw 28 rfl) (by decide) E252 (rm1 l Z a0 hw b225 (2 : Int64) (3 : Int64) (1 : Int64) ol oc h248 n0 X247.ge0 F253 F254 F255) (by decide) 0 rfl (by decide) rfl (lenOf pd_5 rfl) rfl rfl (by decide) (by decide) fun T276 X277 => ?_
                show own_Go p e below _ (T276.setTop (mkF m 337 #[.val (.int p0), .val (.int p1), .val (.long p2), .second, .val (.long p3), .second, .val (.int ((p0 &&& (2147483647 : Int32)) % (6 : Int32))), .val (.ref b12), .val (.int (3 : Int32)), .val (.long (2 : Int64)), .second, .val (.long (1 : Int64)), .second, .val (.ref b225), .val (.int lm), .val (.long ol), .second, .val (.long oc), .second, .val (.int (0 : Int32))] [(.int (own_sa (2 : Int64) (3 : Int64) (1 : Int64) ol oc))]))
                refine o_iload cx X277 at_337 rfl ?_
                have hfin : (own_sa (2 : Int64) (3 : Int64) (1 : Int64) ol oc) = (0 : Int32) := by
                  simp only [Int64.lt_iff_toInt_lt, ← Int64.toInt_inj] at hc258 hc264
                  unfold own_sa
                  simp only [Int64.reduceSub, Int64.reduceToInt] at hc258 hc264 ⊢
                  repeat' split
                  all_goals first | rfl | omega
                refine o_icmpNo cx X277 at_339 (teq hfin).2 ?_
                refine o_iconst cx X277 (z := (1 : Int32)) at_342 rfl ?_
                refine o_goto cx X277 347 at_343 (by decide) (by decide) ?_
                exact o_retN cx X277 (z' := (1 : Int32)) at_347 (by simp) rfl rfl (by decide) (by decide)
          have J271 : ∀ (ol : Int64) (lm : Int32), own_Go p e below (own_End below s room_1 n0 (fun v' _ => v' = some (.int 1))) (T246.setTop (mkF m 271 #[.val (.int p0), .val (.int p1), .val (.long p2), .second, .val (.long p3), .second, .val (.int ((p0 &&& (2147483647 : Int32)) % (6 : Int32))), .val (.ref b12), .val (.int (3 : Int32)), .val (.long (2 : Int64)), .second, .val (.long (1 : Int64)), .second, .val (.ref b225), .val (.int lm), .val (.long ol), .second, .unset, .unset, .unset] [])) := by
            intro ol lm
            refine o_iloadN cx X247 at_271 rfl ?_
            refine o_iconst cx X247 (z := (2 : Int32)) at_272 rfl ?_
            refine o_ishr cx X247 at_273 rfl ?_
            refine o_iconst cx X247 (z := (1 : Int32)) at_274 rfl ?_
            refine o_iand cx X247 at_275 rfl ?_
            by_cases hc281 : ((p1 >>> ((2 : Int32) &&& 31)) &&& (1 : Int32)) = (0 : Int32)
            · refine o_ifNo cx X247 at_276 ((if0 _ _).trans (teq hc281).2) ?_
              refine o_lload cx X247 at_279 rfl ?_
              refine o_lstore cx X247 (Ls' := #[.val (.int p0), .val (.int p1), .val (.long p2), .second, .val (.long p3), .second, .val (.int ((p0 &&& (2147483647 : Int32)) % (6 : Int32))), .val (.ref b12), .val (.int (3 : Int32)), .val (.long (2 : Int64)), .second, .val (.long (1 : Int64)), .second, .val (.ref b225), .val (.int lm), .val (.long ol), .second, .val (.long p3), .second, .unset]) at_281 rfl ?_
              refine o_goto cx X247 297 at_283 (by decide) (by decide) ?_
              exact J297 ol p3 lm
            · refine o_ifYes cx X247 286 at_276 ((if0 _ _).trans (feq hc281).2) (by decide) (by decide) ?_
              refine o_lload cx X247 at_286 rfl ?_
              refine o_lload cx X247 at_288 rfl ?_
              refine o_ldc2 cx X247 (z := (3 : Int64)) at_290 (o_w hw 31 rfl) ?_
              refine o_lrem cx X247 at_293 (by decide) rfl ?_
              refine o_ladd cx X247 at_294 rfl ?_
              refine o_lstore cx X247 (Ls' := #[.val (.int p0), .val (.int p1), .val (.long p2), .second, .val (.long p3), .second, .val (.int ((p0 &&& (2147483647 : Int32)) % (6 : Int32))), .val (.ref b12), .val (.int (3 : Int32)), .val (.long (2 : Int64)), .second, .val (.long (1 : Int64)), .second, .val (.ref b225), .val (.int lm), .val (.long ol), .second, .val (.long ((1 : Int64) + (p3 % (3 : Int64)))), .second, .unset]) at_295 rfl ?_
              exact J297 ol ((1 : Int64) + (p3 % (3 : Int64))) lm
          refine o_iloadN cx X247 at_221 rfl ?_
          refine o_iconst cx X247 (z := (3 : Int32)) at_222 rfl ?_
          refine o_iand cx X247 at_223 rfl ?_
          refine o_istore cx X247 (Ls' := #[.val (.int p0), .val (.int p1), .val (.long p2), .second, .val (.long p3), .second, .val (.int ((p0 &&& (2147483647 : Int32)) % (6 : Int32))), .val (.ref b12), .val (.int (3 : Int32)), .val (.long (2 : Int64)), .second, .val (.long (1 : Int64)), .second, .val (.ref b225), .val (.int (p1 &&& (3 : Int32))), .unset, .unset, .unset, .unset, .unset]) at_224 rfl ?_
          refine o_iload cx X247 at_226 rfl ?_
          by_cases hc282 : (p1 &&& (3 : Int32)) = (0 : Int32)
          · refine o_ifNo cx X247 at_228 ((if0 _ _).trans (teq hc282).2) ?_
            refine o_lload cx X247 at_231 rfl ?_
            refine o_lconst cx X247 (z := (1 : Int64)) at_233 rfl ?_
            refine o_lsub cx X247 (z := (1 : Int64)) at_234 rfl ?_
            refine o_lstore cx X247 (Ls' := #[.val (.int p0), .val (.int p1), .val (.long p2), .second, .val (.long p3), .second, .val (.int ((p0 &&& (2147483647 : Int32)) % (6 : Int32))), .val (.ref b12), .val (.int (3 : Int32)), .val (.long (2 : Int64)), .second, .val (.long (1 : Int64)), .second, .val (.ref b225), .val (.int (p1 &&& (3 : Int32))), .val (.long (1 : Int64)), .second, .unset, .unset, .unset]) at_235 rfl ?_
            refine o_goto cx X247 271 at_237 (by decide) (by decide) ?_
            exact J271 (1 : Int64) (p1 &&& (3 : Int32))
          · refine o_ifYes cx X247 240 at_228 ((if0 _ _).trans (feq hc282).2) (by decide) (by decide) ?_
            refine o_iload cx X247 at_240 rfl ?_
            refine o_iconst cx X247 (z := (1 : Int32)) at_242 rfl ?_
            by_cases hc283 : (p1 &&& (3 : Int32)) = (1 : Int32)
            · refine o_icmpNo cx X247 at_243 (teq hc283).2 ?_
              refine o_lload cx X247 at_246 rfl ?_
              refine o_lstore cx X247 (Ls' := #[.val (.int p0), .val (.int p1), .val (.long p2), .second, .val (.long p3), .second, .val (.int ((p0 &&& (2147483647 : Int32)) % (6 : Int32))), .val (.ref b12), .val (.int (3 : Int32)), .val (.long (2 : Int64)), .second, .val (.long (1 : Int64)), .second, .val (.ref b225), .val (.int (p1 &&& (3 : Int32))), .val (.long (2 : Int64)), .second, .unset, .unset, .unset]) at_248 rfl ?_
              refine o_goto cx X247 271 at_250 (by decide) (by decide) ?_
              exact J271 (2 : Int64) (p1 &&& (3 : Int32))
            · refine o_icmpYes cx X247 253 at_243 (feq hc283).2 (by decide) (by decide) ?_
              refine o_iload cx X247 at_253 rfl ?_
              refine o_iconst cx X247 (z := (2 : Int32)) at_255 rfl ?_
              by_cases hc284 : (p1 &&& (3 : Int32)) = (2 : Int32)
              · refine o_icmpNo cx X247 at_256 (teq hc284).2 ?_
                refine o_lload cx X247 at_259 rfl ?_
                refine o_lconst cx X247 (z := (1 : Int64)) at_261 rfl ?_
                refine o_ladd cx X247 (z := (3 : Int64)) at_262 rfl ?_
                refine o_lstore cx X247 (Ls' := #[.val (.int p0), .val (.int p1), .val (.long p2), .second, .val (.long p3), .second, .val (.int ((p0 &&& (2147483647 : Int32)) % (6 : Int32))), .val (.ref b12), .val (.int (3 : Int32)), .val (.long (2 : Int64)), .second, .val (.long (1 : Int64)), .second, .val (.ref b225), .val (.int (p1 &&& (3 : Int32))), .val (.long (3 : Int64)), .second, .unset, .unset, .unset]) at_263 rfl ?_
                refine o_goto cx X247 271 at_265 (by decide) (by decide) ?_
                exact J271 (3 : Int64) (p1 &&& (3 : Int32))
              · refine o_icmpYes cx X247 268 at_256 (feq hc284).2 (by decide) (by decide) ?_
                refine o_lloadN cx X247 at_268 rfl ?_
                refine o_lstore cx X247 (Ls' := #[.val (.int p0), .val (.int p1), .val (.long p2), .second, .val (.long p3), .second, .val (.int ((p0 &&& (2147483647 : Int32)) % (6 : Int32))), .val (.ref b12), .val (.int (3 : Int32)), .val (.long (2 : Int64)), .second, .val (.long (1 : Int64)), .second, .val (.ref b225), .val (.int (p1 &&& (3 : Int32))), .val (.long p2), .second, .unset, .unset, .unset]) at_269 rfl ?_
                exact J271 p2 (p1 &&& (3 : Int32))
        · refine o_icmpYes cx X14 133 at_98 (feq hc212).2 (by decide) (by decide) ?_
          refine o_iload cx X14 at_133 rfl ?_
          refine o_iconst cx X14 (z := (4 : Int32)) at_135 rfl ?_
          by_cases hc285 : ((p0 &&& (2147483647 : Int32)) % (6 : Int32)) = (4 : Int32)
          · refine o_icmpNo cx X14 at_136 (teq hc285).2 ?_
            refine o_aload cx X14 at_139 rfl rfl ?_
            refine o_iconst cx X14 (z := (0 : Int32)) at_141 rfl ?_
            refine o_bipush cx X14 (z := (13 : Int32)) at_142 rfl ?_
            refine o_stB cx X14 (x' := (13 : Int32)) at_144 A17 0 (by decide) rfl (Nat.le_of_ble_eq_true rfl) rfl ge19 fun T286 h288 X287 W289 A17 => ?_
            have A17 : own_Ar Z h288 b12 .byte [(.int (13 : Int32)), (.int (0 : Int32)), (.int (0 : Int32))] := A17
            refine o_aload cx X287 at_145 rfl rfl ?_
            refine o_iconst cx X287 (z := (1 : Int32)) at_147 rfl ?_
            refine o_bipush cx X287 (z := (13 : Int32)) at_148 rfl ?_
            refine o_stB cx X287 (x' := (13 : Int32)) at_150 A17 1 (by decide) rfl (Nat.le_of_ble_eq_true rfl) rfl ge19 fun T290 h292 X291 W293 A17 => ?_
            have A17 : own_Ar Z h292 b12 .byte [(.int (13 : Int32)), (.int (13 : Int32)), (.int (0 : Int32))] := A17
            refine o_aload cx X291 at_151 rfl rfl ?_
            refine o_iconst cx X291 (z := (2 : Int32)) at_153 rfl ?_
            refine o_bipush cx X291 (z := (97 : Int32)) at_154 rfl ?_
            refine o_stB cx X291 (x' := (97 : Int32)) at_156 A17 2 (by decide) rfl (Nat.le_of_ble_eq_true rfl) rfl ge19 fun T294 h296 X295 W297 A17 => ?_
            have A17 : own_Ar Z h296 b12 .byte [(.int (13 : Int32)), (.int (13 : Int32)), (.int (97 : Int32))] := A17
            refine o_iconst cx X295 (z := (3 : Int32)) at_157 rfl ?_
            refine o_istore cx X295 (Ls' := #[.val (.int p0), .val (.int p1), .val (.long p2), .second, .val (.long p3), .second, .val (.int ((p0 &&& (2147483647 : Int32)) % (6 : Int32))), .val (.ref b12), .val (.int (3 : Int32)), .unset, .unset, .unset, .unset, .unset, .unset, .unset, .unset, .unset, .unset, .unset]) at_158 rfl ?_
            refine o_ldc2 cx X295 (z := (3 : Int64)) at_160 (o_w hw 31 rfl) ?_
            refine o_lstore cx X295 (Ls' := #[.val (.int p0), .val (.int p1), .val (.long p2), .second, .val (.long p3), .second, .val (.int ((p0 &&& (2147483647 : Int32)) % (6 : Int32))), .val (.ref b12), .val (.int (3 : Int32)), .val (.long (3 : Int64)), .second, .unset, .unset, .unset, .unset, .unset, .unset, .unset, .unset, .unset]) at_163 rfl ?_
            refine o_ldc2 cx X295 (z := (-1 : Int64)) at_165 (o_w hw 32 rfl) ?_
            refine o_lstore cx X295 (Ls' := #[.val (.int p0), .val (.int p1), .val (.long p2), .second, .val (.long p3), .second, .val (.int ((p0 &&& (2147483647 : Int32)) % (6 : Int32))), .val (.ref b12), .val (.int (3 : Int32)), .val (.long (3 : Int64)), .second, .val (.long (-1 : Int64)), .second, .unset, .unset, .unset, .unset, .unset, .unset, .unset]) at_168 rfl ?_
            refine o_goto cx X295 202 at_170 (by decide) (by decide) ?_
            refine o_newO cx X295 at_202 (o_w hw 2 rfl) (o_w hw 3 rfl) (o_w hw 4 rfl) (by decide) (by decide) fun T299 h301 b298 gb305 ge306 X300 E302 A303 D304 => ?_
            have ne_b12_b298 : b12 ≠ b298 := by rw [gb305]; exact Nat.ne_of_lt A17.lt
            have A17 := A17.ext E302
            have F_b298_line : Fld Z h301 b298 "com/example/bulla/bulla/xml/TextPosition" "line" "J" (.long (0 : Int64)) := D304 (Or.inl (o_w hw 12 rfl)) (ty := .long) (by decide)
            have F_b298_column : Fld Z h301 b298 "com/example/bulla/bulla/xml/TextPosition" "column" "J" (.long (0 : Int64)) := D304 (Or.inl (o_w hw 14 rfl)) (ty := .long) (by decide)
            have F_b298_shortfall : Fld Z h301 b298 "com/example/bulla/bulla/xml/TextPosition" "shortfall" "J" (.long (0 : Int64)) := D304 (Or.inl (o_w hw 30 rfl)) (ty := .long) (by decide)
            have F_b298_afterReturn : Fld Z h301 b298 "com/example/bulla/bulla/xml/TextPosition" "afterReturn" "Z" (.int (0 : Int32)) := D304 (Or.inl (o_w hw 38 rfl)) (ty := .boolean) (by decide)
            have F_b298_afterLineEnd : Fld Z h301 b298 "com/example/bulla/bulla/xml/TextPosition" "afterLineEnd" "Z" (.int (0 : Int32)) := D304 (Or.inl (o_w hw 47 rfl)) (ty := .boolean) (by decide)
            refine o_dup cx X300 at_205 rfl ?_
            refine o_callC cx X300 (y' := (⟨"com/example/bulla/bulla/xml/TextPosition", "<init>", "()V"⟩ : MethodName)) (argsL := []) (st := [(.ref b298)]) (a := b298) at_206 (o_w hw 5 rfl) (o_w hw 6 rfl) (o_w hw 4 rfl) (o_w hw 7 rfl) (by decide) rfl (ra1_1 l Z a0 hw b298 h301 n0 X300.ge0 ge306 A303 F_b298_line F_b298_column F_b298_shortfall F_b298_afterReturn F_b298_afterLineEnd) (by decide) 1 rfl (by decide) rfl (lenOf pd_1 rfl) rfl rfl (by decide) (by decide) fun v310 T307 h309 X308 Q311 => ?_
            obtain ⟨rfl, K312, E313, F314, F315, F316, F317, F318⟩ := Q311
            have A17 := A17.keep K312 (ninS ne_b12_b298 nin0)
            show own_Go p e below _ (T307.setTop (mkF m 209 #[.val (.int p0), .val (.int p1), .val (.long p2), .second, .val (.long p3), .second, .val (.int ((p0 &&& (2147483647 : Int32)) % (6 : Int32))), .val (.ref b12), .val (.int (3 : Int32)), .val (.long (3 : Int64)), .second, .val (.long (-1 : Int64)), .second, .unset, .unset, .unset, .unset, .unset, .unset, .unset] [(.ref b298)]))
            refine o_astore cx X308 (Ls' := #[.val (.int p0), .val (.int p1), .val (.long p2), .second, .val (.long p3), .second, .val (.int ((p0 &&& (2147483647 : Int32)) % (6 : Int32))), .val (.ref b12), .val (.int (3 : Int32)), .val (.long (3 : Int64)), .second, .val (.long (-1 : Int64)), .second, .val (.ref b298), .unset, .unset, .unset, .unset, .unset, .unset]) at_209 rfl rfl ?_
            refine o_aload cx X308 at_211 rfl rfl ?_
            refine o_aload cx X308 at_213 rfl rfl ?_
            refine o_iconst cx X308 (z := (0 : Int32)) at_215 rfl ?_
            refine o_iload cx X308 at_216 rfl ?_
            refine o_callV cx X308 (y' := (⟨"com/example/bulla/bulla/xml/TextPosition", "moveOver", "([BII)V"⟩ : MethodName)) (argsL := [(.ref b12), (.int (0 : Int32)), (.int (3 : Int32))]) (st := []) (a := b298) at_218 (o_w hw 15 rfl) (o_w hw 16 rfl) (o_w hw 18 rfl) (o_w hw 17 rfl) (o_w hw 4 rfl) (o_w hw 19 rfl) (by decide) E313 (ra3_22 l Z a0 hw b298 b12 h309 n0 X308.ge0 ge306 ge19 (Ne.symm ne_b12_b298) E313 F314 F315 F316 F317 F318 A17) (by decide) 0 rfl (by decide) rfl (lenOf pd_3 rfl) rfl rfl (by decide) (by decide) fun v322 T319 h321 X320 Q323 => ?_
            obtain ⟨rfl, K324, E325, F326, F327, F328, F329, F330⟩ := Q323
            have A17 := A17.keep K324 (ninS ne_b12_b298 nin0)
            show own_Go p e below _ (T319.setTop (mkF m 221 #[.val (.int p0), .val (.int p1), .val (.long p2), .second, .val (.long p3), .second, .val (.int ((p0 &&& (2147483647 : Int32)) % (6 : Int32))), .val (.ref b12), .val (.int (3 : Int32)), .val (.long (3 : Int64)), .second, .val (.long (-1 : Int64)), .second, .val (.ref b298), .unset, .unset, .unset, .unset, .unset, .unset] []))
            have J297 : ∀ (ol oc : Int64) (lm : Int32), own_Go p e below (own_End below s room_1 n0 (fun v' _ => v' = some (.int 1))) (T319.setTop (mkF m 297 #[.val (.int p0), .val (.int p1), .val (.long p2), .second, .val (.long p3), .second, .val (.int ((p0 &&& (2147483647 : Int32)) % (6 : Int32))), .val (.ref b12), .val (.int (3 : Int32)), .val (.long (3 : Int64)), .second, .val (.long (-1 : Int64)), .second, .val (.ref b298), .val (.int lm), .val (.long ol), .second, .val (.long oc), .second, .unset] [])) := by
              intro ol oc lm
              refine o_lload cx X320 at_297 rfl ?_
              refine o_lload cx X320 at_299 rfl ?_
              refine o_lcmp cx X320 at_301 rfl ?_
              by_cases hc331 : ol < (3 : Int64)
              · refine o_ifYes cx X320 321 at_302 ((if0 _ _).trans (tlt ((lw_lt ol (3 : Int64)).mpr hc331)).1) (by decide) (by decide) ?_
                refine o_iconst cx X320 (z := (1 : Int32)) at_321 rfl ?_
                refine o_goto cx X320 326 at_322 (by decide) (by decide) ?_
                refine o_istore cx X320 (Ls' := #[.val (.int p0), .val (.int p1), .val (.long p2), .second, .val (.long p3), .second, .val (.int ((p0 &&& (2147483647 : Int32)) % (6 : Int32))), .val (.ref b12), .val (.int (3 : Int32)), .val (.long (3 : Int64)), .second, .val (.long (-1 : Int64)), .second, .val (.ref b298), .val (.int lm), .val (.long ol), .second, .val (.long oc), .second, .val (.int (1 : Int32))]) at_326 rfl ?_
                refine o_aload cx X320 at_328 rfl rfl ?_
                refine o_lload cx X320 at_330 rfl ?_
                refine o_lload cx X320 at_332 rfl ?_
                refine o_callVp cx X320 (y' := (⟨"com/example/bulla/bulla/xml/TextPosition", "isSurelyAfter", "(JJ)Z"⟩ : MethodName)) (argsL := [(.long ol), (.long oc)]) (st := []) (a := b298) at_334 (o_w hw 24 rfl) (o_w hw 25 rfl) (o_w hw 27 rfl) (o_w hw 26 rfl) (o_w hw 4 rfl) (o_w hw 28 rfl) (by decide) E325 (rm1 l Z a0 hw b298 (3 : Int64) (2 : Int64) (2 : Int64) ol oc h321 n0 X320.ge0 F326 F327 F328) (by decide) 0 rfl (by decide) rfl (lenOf pd_5 rfl) rfl rfl (by decide) (by decide) fun T332 X333 => ?_
                show own_Go p e below _ (T332.setTop (mkF m 337 #[.val (.int p0), .val (.int p1), .val (.long p2), .second, .val (.long p3), .second, .val (.int ((p0 &&& (2147483647 : Int32)) % (6 : Int32))), .val (.ref b12), .val (.int (3 : Int32)), .val (.long (3 : Int64)), .second, .val (.long (-1 : Int64)), .second, .val (.ref b298), .val (.int lm), .val (.long ol), .second, .val (.long oc), .second, .val (.int (1 : Int32))] [(.int (own_sa (3 : Int64) (2 : Int64) (2 : Int64) ol oc))]))
                refine o_iload cx X333 at_337 rfl ?_
                have hfin : (own_sa (3 : Int64) (2 : Int64) (2 : Int64) ol oc) = (1 : Int32) := by
                  simp only [Int64.lt_iff_toInt_lt, ← Int64.toInt_inj] at hc331
                  unfold own_sa
                  simp only [Int64.reduceSub, Int64.reduceToInt] at hc331 ⊢
                  repeat' split
                  all_goals first | rfl | omega
                refine o_icmpNo cx X333 at_339 (teq hfin).2 ?_
                refine o_iconst cx X333 (z := (1 : Int32)) at_342 rfl ?_
                refine o_goto cx X333 347 at_343 (by decide) (by decide) ?_
                exact o_retN cx X333 (z' := (1 : Int32)) at_347 (by simp) rfl rfl (by decide) (by decide)
              · refine o_ifNo cx X320 at_302 ((if0 _ _).trans (flt (fun q => hc331 ((lw_lt ol (3 : Int64)).mp q))).1) ?_
                refine o_lload cx X320 at_305 rfl ?_
                refine o_lload cx X320 at_307 rfl ?_
                refine o_lcmp cx X320 at_309 rfl ?_
                by_cases hc337 : ol = (3 : Int64)
                · refine o_ifNo cx X320 at_310 ((if0 _ _).trans (teq ((lw_eq ol (3 : Int64)).mpr hc337)).2) ?_
                  refine o_lload cx X320 at_313 rfl ?_
                  refine o_lload cx X320 at_315 rfl ?_
                  refine o_lcmp cx X320 at_317 rfl ?_
                  by_cases hc338 : (-1 : Int64) < oc
                  · refine o_ifYes cx X320 325 at_318 ((if0 _ _).trans (tlt ((lw_gt oc (-1 : Int64)).mpr hc338)).2.2.1) (by decide) (by decide) ?_
                    refine o_iconst cx X320 (z := (0 : Int32)) at_325 rfl ?_
                    refine o_istore cx X320 (Ls' := #[.val (.int p0), .val (.int p1), .val (.long p2), .second, .val (.long p3), .second, .val (.int ((p0 &&& (2147483647 : Int32)) % (6 : Int32))), .val (.ref b12), .val (.int (3 : Int32)), .val (.long (3 : Int64)), .second, .val (.long (-1 : Int64)), .second, .val (.ref b298), .val (.int lm), .val (.long ol), .second, .val (.long oc), .second, .val (.int (0 : Int32))]) at_326 rfl ?_
                    refine o_aload cx X320 at_328 rfl rfl ?_
                    refine o_lload cx X320 at_330 rfl ?_
                    refine o_lload cx X320 at_332 rfl ?_
                    refine o_callVp cx X320 (y' := (⟨"com/example/bulla/bulla/xml/TextPosition", "isSurelyAfter", "(JJ)Z"⟩ : MethodName)) (argsL := [(.long ol), (.long oc)]) (st := []) (a := b298) at_334 (o_w hw 24 rfl) (o_w hw 25 rfl) (o_w hw 27 rfl) (o_w hw 26 rfl) (o_w hw 4 rfl) (o_w hw 28 rfl) (by decide) E325 (rm1 l Z a0 hw b298 (3 : Int64) (2 : Int64) (2 : Int64) ol oc h321 n0 X320.ge0 F326 F327 F328) (by decide) 0 rfl (by decide) rfl (lenOf pd_5 rfl) rfl rfl (by decide) (by decide) fun T339 X340 => ?_
                    show own_Go p e below _ (T339.setTop (mkF m 337 #[.val (.int p0), .val (.int p1), .val (.long p2), .second, .val (.long p3), .second, .val (.int ((p0 &&& (2147483647 : Int32)) % (6 : Int32))), .val (.ref b12), .val (.int (3 : Int32)), .val (.long (3 : Int64)), .second, .val (.long (-1 : Int64)), .second, .val (.ref b298), .val (.int lm), .val (.long ol), .second, .val (.long oc), .second, .val (.int (0 : Int32))] [(.int (own_sa (3 : Int64) (2 : Int64) (2 : Int64) ol oc))]))
                    refine o_iload cx X340 at_337 rfl ?_
                    have hfin : (own_sa (3 : Int64) (2 : Int64) (2 : Int64) ol oc) = (0 : Int32) := by
                      simp only [Int64.lt_iff_toInt_lt, ← Int64.toInt_inj] at hc331 hc337 hc338
                      unfold own_sa
                      simp only [Int64.reduceSub, Int64.reduceToInt] at hc331 hc337 hc338 ⊢
                      repeat' split
                      all_goals first | rfl | omega
                    refine o_icmpNo cx X340 at_339 (teq hfin).2 ?_
                    refine o_iconst cx X340 (z := (1 : Int32)) at_342 rfl ?_
                    refine o_goto cx X340 347 at_343 (by decide) (by decide) ?_
                    exact o_retN cx X340 (z' := (1 : Int32)) at_347 (by simp) rfl rfl (by decide) (by decide)
                  · refine o_ifNo cx X320 at_318 ((if0 _ _).trans (flt (fun q => hc338 ((lw_gt oc (-1 : Int64)).mp q))).2.2.1) ?_
                    refine o_iconst cx X320 (z := (1 : Int32)) at_321 rfl ?_
                    refine o_goto cx X320 326 at_322 (by decide) (by decide) ?_
                    refine o_istore cx X320 (Ls' := #[.val (.int p0), .val (.int p1), .val (.long p2), .second, .val (.long p3), .second, .val (.int ((p0 &&& (2147483647 : Int32)) % (6 : Int32))), .val (.ref b12), .val (.int (3 : Int32)), .val (.long (3 : Int64)), .second, .val (.long (-1 : Int64)), .second, .val (.ref b298), .val (.int lm), .val (.long ol), .second, .val (.long oc), .second, .val (.int (1 : Int32))]) at_326 rfl ?_
                    refine o_aload cx X320 at_328 rfl rfl ?_
                    refine o_lload cx X320 at_330 rfl ?_
                    refine o_lload cx X320 at_332 rfl ?_
                    refine o_callVp cx X320 (y' := (⟨"com/example/bulla/bulla/xml/TextPosition", "isSurelyAfter", "(JJ)Z"⟩ : MethodName)) (argsL := [(.long ol), (.long oc)]) (st := []) (a := b298) at_334 (o_w hw 24 rfl) (o_w hw 25 rfl) (o_w hw 27 rfl) (o_w hw 26 rfl) (o_w hw 4 rfl) (o_w hw 28 rfl) (by decide) E325 (rm1 l Z a0 hw b298 (3 : Int64) (2 : Int64) (2 : Int64) ol oc h321 n0 X320.ge0 F326 F327 F328) (by decide) 0 rfl (by decide) rfl (lenOf pd_5 rfl) rfl rfl (by decide) (by decide) fun T344 X345 => ?_
                    show own_Go p e below _ (T344.setTop (mkF m 337 #[.val (.int p0), .val (.int p1), .val (.long p2), .second, .val (.long p3), .second, .val (.int ((p0 &&& (2147483647 : Int32)) % (6 : Int32))), .val (.ref b12), .val (.int (3 : Int32)), .val (.long (3 : Int64)), .second, .val (.long (-1 : Int64)), .second, .val (.ref b298), .val (.int lm), .val (.long ol), .second, .val (.long oc), .second, .val (.int (1 : Int32))] [(.int (own_sa (3 : Int64) (2 : Int64) (2 : Int64) ol oc))]))
                    refine o_iload cx X345 at_337 rfl ?_
                    have hfin : (own_sa (3 : Int64) (2 : Int64) (2 : Int64) ol oc) = (1 : Int32) := by
                      simp only [Int64.lt_iff_toInt_lt, ← Int64.toInt_inj] at hc331 hc337 hc338
                      unfold own_sa
                      simp only [Int64.reduceSub, Int64.reduceToInt] at hc331 hc337 hc338 ⊢
                      repeat' split
                      all_goals first | rfl | omega
                    refine o_icmpNo cx X345 at_339 (teq hfin).2 ?_
                    refine o_iconst cx X345 (z := (1 : Int32)) at_342 rfl ?_
                    refine o_goto cx X345 347 at_343 (by decide) (by decide) ?_
                    exact o_retN cx X345 (z' := (1 : Int32)) at_347 (by simp) rfl rfl (by decide) (by decide)
                · refine o_ifYes cx X320 325 at_310 ((if0 _ _).trans (feq (fun q => hc337 ((lw_eq ol (3 : Int64)).mp q))).2) (by decide) (by decide) ?_
                  refine o_iconst cx X320 (z := (0 : Int32)) at_325 rfl ?_
                  refine o_istore cx X320 (Ls' := #[.val (.int p0), .val (.int p1), .val (.long p2), .second, .val (.long p3), .second, .val (.int ((p0 &&& (2147483647 : Int32)) % (6 : Int32))), .val (.ref b12), .val (.int (3 : Int32)), .val (.long (3 : Int64)), .second, .val (.long (-1 : Int64)), .second, .val (.ref b298), .val (.int lm), .val (.long ol), .second, .val (.long oc), .second, .val (.int (0 : Int32))]) at_326 rfl ?_
                  refine o_aload cx X320 at_328 rfl rfl ?_
                  refine o_lload cx X320 at_330 rfl ?_
                  refine o_lload cx X320 at_332 rfl ?_
                  refine o_callVp cx X320 (y' := (⟨"com/example/bulla/bulla/xml/TextPosition", "isSurelyAfter", "(JJ)Z"⟩ : MethodName)) (argsL := [(.long ol), (.long oc)]) (st := []) (a := b298) at_334 (o_w hw 24 rfl) (o_w hw 25 rfl) (o_w hw 27 rfl) (o_w hw 26 rfl) (o_w hw 4 rfl) (o_w hw 28 rfl) (by decide) E325 (rm1 l Z a0 hw b298 (3 : Int64) (2 : Int64) (2 : Int64) ol oc h321 n0 X320.ge0 F326 F327 F328) (by decide) 0 rfl (by decide) rfl (lenOf pd_5 rfl) rfl rfl (by decide) (by decide) fun T349 X350 => ?_
                  show own_Go p e below _ (T349.setTop (mkF m 337 #[.val (.int p0), .val (.int p1), .val (.long p2), .second, .val (.long p3), .second, .val (.int ((p0 &&& (2147483647 : Int32)) % (6 : Int32))), .val (.ref b12), .val (.int (3 : Int32)), .val (.long (3 : Int64)), .second, .val (.long (-1 : Int64)), .second, .val (.ref b298), .val (.int lm), .val (.long ol), .second, .val (.long oc), .second, .val (.int (0 : Int32))] [(.int (own_sa (3 : Int64) (2 : Int64) (2 : Int64) ol oc))]))
                  refine o_iload cx X350 at_337 rfl ?_
                  have hfin : (own_sa (3 : Int64) (2 : Int64) (2 : Int64) ol oc) = (0 : Int32) := by
                    simp only [Int64.lt_iff_toInt_lt, ← Int64.toInt_inj] at hc331 hc337
                    unfold own_sa
                    simp only [Int64.reduceSub, Int64.reduceToInt] at hc331 hc337 ⊢
                    repeat' split
                    all_goals first | rfl | omega
                  refine o_icmpNo cx X350 at_339 (teq hfin).2 ?_
                  refine o_iconst cx X350 (z := (1 : Int32)) at_342 rfl ?_
                  refine o_goto cx X350 347 at_343 (by decide) (by decide) ?_
                  exact o_retN cx X350 (z' := (1 : Int32)) at_347 (by simp) rfl rfl (by decide) (by decide)
            have J271 : ∀ (ol : Int64) (lm : Int32), own_Go p e below (own_End below s room_1 n0 (fun v' _ => v' = some (.int 1))) (T319.setTop (mkF m 271 #[.val (.int p0), .val (.int p1), .val (.long p2), .second, .val (.long p3), .second, .val (.int ((p0 &&& (2147483647 : Int32)) % (6 : Int32))), .val (.ref b12), .val (.int (3 : Int32)), .val (.long (3 : Int64)), .second, .val (.long (-1 : Int64)), .second, .val (.ref b298), .val (.int lm), .val (.long ol), .second, .unset, .unset, .unset] [])) := by
              intro ol lm
              refine o_iloadN cx X320 at_271 rfl ?_
              refine o_iconst cx X320 (z := (2 : Int32)) at_272 rfl ?_
              refine o_ishr cx X320 at_273 rfl ?_
              refine o_iconst cx X320 (z := (1 : Int32)) at_274 rfl ?_
              refine o_iand cx X320 at_275 rfl ?_
              by_cases hc354 : ((p1 >>> ((2 : Int32) &&& 31)) &&& (1 : Int32)) = (0 : Int32)
              · refine o_ifNo cx X320 at_276 ((if0 _ _).trans (teq hc354).2) ?_
                refine o_lload cx X320 at_279 rfl ?_
                refine o_lstore cx X320 (Ls' := #[.val (.int p0), .val (.int p1), .val (.long p2), .second, .val (.long p3), .second, .val (.int ((p0 &&& (2147483647 : Int32)) % (6 : Int32))), .val (.ref b12), .val (.int (3 : Int32)), .val (.long (3 : Int64)), .second, .val (.long (-1 : Int64)), .second, .val (.ref b298), .val (.int lm), .val (.long ol), .second, .val (.long p3), .second, .unset]) at_281 rfl ?_
                refine o_goto cx X320 297 at_283 (by decide) (by decide) ?_
                exact J297 ol p3 lm
              · refine o_ifYes cx X320 286 at_276 ((if0 _ _).trans (feq hc354).2) (by decide) (by decide) ?_
                refine o_lload cx X320 at_286 rfl ?_
                refine o_lload cx X320 at_288 rfl ?_
                refine o_ldc2 cx X320 (z := (3 : Int64)) at_290 (o_w hw 31 rfl) ?_
                refine o_lrem cx X320 at_293 (by decide) rfl ?_
                refine o_ladd cx X320 at_294 rfl ?_
                refine o_lstore cx X320 (Ls' := #[.val (.int p0), .val (.int p1), .val (.long p2), .second, .val (.long p3), .second, .val (.int ((p0 &&& (2147483647 : Int32)) % (6 : Int32))), .val (.ref b12), .val (.int (3 : Int32)), .val (.long (3 : Int64)), .second, .val (.long (-1 : Int64)), .second, .val (.ref b298), .val (.int lm), .val (.long ol), .second, .val (.long ((-1 : Int64) + (p3 % (3 : Int64)))), .second, .unset]) at_295 rfl ?_
                exact J297 ol ((-1 : Int64) + (p3 % (3 : Int64))) lm
            refine o_iloadN cx X320 at_221 rfl ?_
            refine o_iconst cx X320 (z := (3 : Int32)) at_222 rfl ?_
            refine o_iand cx X320 at_223 rfl ?_
            refine o_istore cx X320 (Ls' := #[.val (.int p0), .val (.int p1), .val (.long p2), .second, .val (.long p3), .second, .val (.int ((p0 &&& (2147483647 : Int32)) % (6 : Int32))), .val (.ref b12), .val (.int (3 : Int32)), .val (.long (3 : Int64)), .second, .val (.long (-1 : Int64)), .second, .val (.ref b298), .val (.int (p1 &&& (3 : Int32))), .unset, .unset, .unset, .unset, .unset]) at_224 rfl ?_
            refine o_iload cx X320 at_226 rfl ?_
            by_cases hc355 : (p1 &&& (3 : Int32)) = (0 : Int32)
            · refine o_ifNo cx X320 at_228 ((if0 _ _).trans (teq hc355).2) ?_
              refine o_lload cx X320 at_231 rfl ?_
              refine o_lconst cx X320 (z := (1 : Int64)) at_233 rfl ?_
              refine o_lsub cx X320 (z := (2 : Int64)) at_234 rfl ?_
              refine o_lstore cx X320 (Ls' := #[.val (.int p0), .val (.int p1), .val (.long p2), .second, .val (.long p3), .second, .val (.int ((p0 &&& (2147483647 : Int32)) % (6 : Int32))), .val (.ref b12), .val (.int (3 : Int32)), .val (.long (3 : Int64)), .second, .val (.long (-1 : Int64)), .second, .val (.ref b298), .val (.int (p1 &&& (3 : Int32))), .val (.long (2 : Int64)), .second, .unset, .unset, .unset]) at_235 rfl ?_
              refine o_goto cx X320 271 at_237 (by decide) (by decide) ?_
              exact J271 (2 : Int64) (p1 &&& (3 : Int32))
            · refine o_ifYes cx X320 240 at_228 ((if0 _ _).trans (feq hc355).2) (by decide) (by decide) ?_
              refine o_iload cx X320 at_240 rfl ?_
              refine o_iconst cx X320 (z := (1 : Int32)) at_242 rfl ?_
              by_cases hc356 : (p1 &&& (3 : Int32)) = (1 : Int32)
              · refine o_icmpNo cx X320 at_243 (teq hc356).2 ?_
                refine o_lload cx X320 at_246 rfl ?_
                refine o_lstore cx X320 (Ls' := #[.val (.int p0), .val (.int p1), .val (.long p2), .second, .val (.long p3), .second, .val (.int ((p0 &&& (2147483647 : Int32)) % (6 : Int32))), .val (.ref b12), .val (.int (3 : Int32)), .val (.long (3 : Int64)), .second, .val (.long (-1 : Int64)), .second, .val (.ref b298), .val (.int (p1 &&& (3 : Int32))), .val (.long (3 : Int64)), .second, .unset, .unset, .unset]) at_248 rfl ?_
                refine o_goto cx X320 271 at_250 (by decide) (by decide) ?_
                exact J271 (3 : Int64) (p1 &&& (3 : Int32))
              · refine o_icmpYes cx X320 253 at_243 (feq hc356).2 (by decide) (by decide) ?_
                refine o_iload cx X320 at_253 rfl ?_
                refine o_iconst cx X320 (z := (2 : Int32)) at_255 rfl ?_
                by_cases hc357 : (p1 &&& (3 : Int32)) = (2 : Int32)
                · refine o_icmpNo cx X320 at_256 (teq hc357).2 ?_
                  refine o_lload cx X320 at_259 rfl ?_
                  refine o_lconst cx X320 (z := (1 : Int64)) at_261 rfl ?_
                  refine o_ladd cx X320 (z := (4 : Int64)) at_262 rfl ?_
                  refine o_lstore cx X320 (Ls' := #[.val (.int p0), .val (.int p1), .val (.long p2), .second, .val (.long p3), .second, .val (.int ((p0 &&& (2147483647 : Int32)) % (6 : Int32))), .val (.ref b12), .val (.int (3 : Int32)), .val (.long (3 : Int64)), .second, .val (.long (-1 : Int64)), .second, .val (.ref b298), .val (.int (p1 &&& (3 : Int32))), .val (.long (4 : Int64)), .second, .unset, .unset, .unset]) at_263 rfl ?_
                  refine o_goto cx X320 271 at_265 (by decide) (by decide) ?_
                  exact J271 (4 : Int64) (p1 &&& (3 : Int32))
                · refine o_icmpYes cx X320 268 at_256 (feq hc357).2 (by decide) (by decide) ?_
                  refine o_lloadN cx X320 at_268 rfl ?_
                  refine o_lstore cx X320 (Ls' := #[.val (.int p0), .val (.int p1), .val (.long p2), .second, .val (.long p3), .second, .val (.int ((p0 &&& (2147483647 : Int32)) % (6 : Int32))), .val (.ref b12), .val (.int (3 : Int32)), .val (.long (3 : Int64)), .second, .val (.long (-1 : Int64)), .second, .val (.ref b298), .val (.int (p1 &&& (3 : Int32))), .val (.long p2), .second, .unset, .unset, .unset]) at_269 rfl ?_
                  exact J271 p2 (p1 &&& (3 : Int32))
          · refine o_icmpYes cx X14 173 at_136 (feq hc285).2 (by decide) (by decide) ?_
            refine o_aload cx X14 at_173 rfl rfl ?_
            refine o_iconst cx X14 (z := (0 : Int32)) at_175 rfl ?_
            refine o_bipush cx X14 (z := (13 : Int32)) at_176 rfl ?_
            refine o_stB cx X14 (x' := (13 : Int32)) at_178 A17 0 (by decide) rfl (Nat.le_of_ble_eq_true rfl) rfl ge19 fun T358 h360 X359 W361 A17 => ?_
            have A17 : own_Ar Z h360 b12 .byte [(.int (13 : Int32)), (.int (0 : Int32)), (.int (0 : Int32))] := A17
            refine o_aload cx X359 at_179 rfl rfl ?_
            refine o_iconst cx X359 (z := (1 : Int32)) at_181 rfl ?_
            refine o_bipush cx X359 (z := (10 : Int32)) at_182 rfl ?_
            refine o_stB cx X359 (x' := (10 : Int32)) at_184 A17 1 (by decide) rfl (Nat.le_of_ble_eq_true rfl) rfl ge19 fun T362 h364 X363 W365 A17 => ?_
            have A17 : own_Ar Z h364 b12 .byte [(.int (13 : Int32)), (.int (10 : Int32)), (.int (0 : Int32))] := A17
            refine o_aload cx X363 at_185 rfl rfl ?_
            refine o_iconst cx X363 (z := (2 : Int32)) at_187 rfl ?_
            refine o_bipush cx X363 (z := (97 : Int32)) at_188 rfl ?_
            refine o_stB cx X363 (x' := (97 : Int32)) at_190 A17 2 (by decide) rfl (Nat.le_of_ble_eq_true rfl) rfl ge19 fun T366 h368 X367 W369 A17 => ?_
            have A17 : own_Ar Z h368 b12 .byte [(.int (13 : Int32)), (.int (10 : Int32)), (.int (97 : Int32))] := A17
            refine o_iconst cx X367 (z := (3 : Int32)) at_191 rfl ?_
            refine o_istore cx X367 (Ls' := #[.val (.int p0), .val (.int p1), .val (.long p2), .second, .val (.long p3), .second, .val (.int ((p0 &&& (2147483647 : Int32)) % (6 : Int32))), .val (.ref b12), .val (.int (3 : Int32)), .unset, .unset, .unset, .unset, .unset, .unset, .unset, .unset, .unset, .unset, .unset]) at_192 rfl ?_
            refine o_ldc2 cx X367 (z := (2 : Int64)) at_194 (o_w hw 51 rfl) ?_
            refine o_lstore cx X367 (Ls' := #[.val (.int p0), .val (.int p1), .val (.long p2), .second, .val (.long p3), .second, .val (.int ((p0 &&& (2147483647 : Int32)) % (6 : Int32))), .val (.ref b12), .val (.int (3 : Int32)), .val (.long (2 : Int64)), .second, .unset, .unset, .unset, .unset, .unset, .unset, .unset, .unset, .unset]) at_197 rfl ?_
            refine o_lconst cx X367 (z := (1 : Int64)) at_199 rfl ?_
            refine o_lstore cx X367 (Ls' := #[.val (.int p0), .val (.int p1), .val (.long p2), .second, .val (.long p3), .second, .val (.int ((p0 &&& (2147483647 : Int32)) % (6 : Int32))), .val (.ref b12), .val (.int (3 : Int32)), .val (.long (2 : Int64)), .second, .val (.long (1 : Int64)), .second, .unset, .unset, .unset, .unset, .unset, .unset, .unset]) at_200 rfl ?_
            refine o_newO cx X367 at_202 (o_w hw 2 rfl) (o_w hw 3 rfl) (o_w hw 4 rfl) (by decide) (by decide) fun T371 h373 b370 gb377 ge378 X372 E374 A375 D376 => ?_
            have ne_b12_b370 : b12 ≠ b370 := by rw [gb377]; exact Nat.ne_of_lt A17.lt
            have A17 := A17.ext E374
            have F_b370_line : Fld Z h373 b370 "com/example/bulla/bulla/xml/TextPosition" "line" "J" (.long (0 : Int64)) := D376 (Or.inl (o_w hw 12 rfl)) (ty := .long) (by decide)
            have F_b370_column : Fld Z h373 b370 "com/example/bulla/bulla/xml/TextPosition" "column" "J" (.long (0 : Int64)) := D376 (Or.inl (o_w hw 14 rfl)) (ty := .long) (by decide)
            have F_b370_shortfall : Fld Z h373 b370 "com/example/bulla/bulla/xml/TextPosition" "shortfall" "J" (.long (0 : Int64)) := D376 (Or.inl (o_w hw 30 rfl)) (ty := .long) (by decide)
            have F_b370_afterReturn : Fld Z h373 b370 "com/example/bulla/bulla/xml/TextPosition" "afterReturn" "Z" (.int (0 : Int32)) := D376 (Or.inl (o_w hw 38 rfl)) (ty := .boolean) (by decide)
            have F_b370_afterLineEnd : Fld Z h373 b370 "com/example/bulla/bulla/xml/TextPosition" "afterLineEnd" "Z" (.int (0 : Int32)) := D376 (Or.inl (o_w hw 47 rfl)) (ty := .boolean) (by decide)
            refine o_dup cx X372 at_205 rfl ?_
            refine o_callC cx X372 (y' := (⟨"com/example/bulla/bulla/xml/TextPosition", "<init>", "()V"⟩ : MethodName)) (argsL := []) (st := [(.ref b370)]) (a := b370) at_206 (o_w hw 5 rfl) (o_w hw 6 rfl) (o_w hw 4 rfl) (o_w hw 7 rfl) (by decide) rfl (ra1_1 l Z a0 hw b370 h373 n0 X372.ge0 ge378 A375 F_b370_line F_b370_column F_b370_shortfall F_b370_afterReturn F_b370_afterLineEnd) (by decide) 1 rfl (by decide) rfl (lenOf pd_1 rfl) rfl rfl (by decide) (by decide) fun v382 T379 h381 X380 Q383 => ?_
            obtain ⟨rfl, K384, E385, F386, F387, F388, F389, F390⟩ := Q383
            have A17 := A17.keep K384 (ninS ne_b12_b370 nin0)
            show own_Go p e below _ (T379.setTop (mkF m 209 #[.val (.int p0), .val (.int p1), .val (.long p2), .second, .val (.long p3), .second, .val (.int ((p0 &&& (2147483647 : Int32)) % (6 : Int32))), .val (.ref b12), .val (.int (3 : Int32)), .val (.long (2 : Int64)), .second, .val (.long (1 : Int64)), .second, .unset, .unset, .unset, .unset, .unset, .unset, .unset] [(.ref b370)]))
            refine o_astore cx X380 (Ls' := #[.val (.int p0), .val (.int p1), .val (.long p2), .second, .val (.long p3), .second, .val (.int ((p0 &&& (2147483647 : Int32)) % (6 : Int32))), .val (.ref b12), .val (.int (3 : Int32)), .val (.long (2 : Int64)), .second, .val (.long (1 : Int64)), .second, .val (.ref b370), .unset, .unset, .unset, .unset, .unset, .unset]) at_209 rfl rfl ?_
            refine o_aload cx X380 at_211 rfl rfl ?_
            refine o_aload cx X380 at_213 rfl rfl ?_
            refine o_iconst cx X380 (z := (0 : Int32)) at_215 rfl ?_
            refine o_iload cx X380 at_216 rfl ?_
            refine o_callV cx X380 (y' := (⟨"com/example/bulla/bulla/xml/TextPosition", "moveOver", "([BII)V"⟩ : MethodName)) (argsL := [(.ref b12), (.int (0 : Int32)), (.int (3 : Int32))]) (st := []) (a := b370) at_218 (o_w hw 15 rfl) (o_w hw 16 rfl) (o_w hw 18 rfl) (o_w hw 17 rfl) (o_w hw 4 rfl) (o_w hw 19 rfl) (by decide) E385 (ra3_27 l Z a0 hw b370 b12 h381 n0 X380.ge0 ge378 ge19 (Ne.symm ne_b12_b370) E385 F386 F387 F388 F389 F390 A17) (by decide) 0 rfl (by decide) rfl (lenOf pd_3 rfl) rfl rfl (by decide) (by decide) fun v394 T391 h393 X392 Q395 => ?_
            obtain ⟨rfl, K396, E397, F398, F399, F400, F401, F402⟩ := Q395
            have A17 := A17.keep K396 (ninS ne_b12_b370 nin0)
            show own_Go p e below _ (T391.setTop (mkF m 221 #[.val (.int p0), .val (.int p1), .val (.long p2), .second, .val (.long p3), .second, .val (.int ((p0 &&& (2147483647 : Int32)) % (6 : Int32))), .val (.ref b12), .val (.int (3 : Int32)), .val (.long (2 : Int64)), .second, .val (.long (1 : Int64)), .second, .val (.ref b370), .unset, .unset, .unset, .unset, .unset, .unset] []))
            have J297 : ∀ (ol oc : Int64) (lm : Int32), own_Go p e below (own_End below s room_1 n0 (fun v' _ => v' = some (.int 1))) (T391.setTop (mkF m 297 #[.val (.int p0), .val (.int p1), .val (.long p2), .second, .val (.long p3), .second, .val (.int ((p0 &&& (2147483647 : Int32)) % (6 : Int32))), .val (.ref b12), .val (.int (3 : Int32)), .val (.long (2 : Int64)), .second, .val (.long (1 : Int64)), .second, .val (.ref b370), .val (.int lm), .val (.long ol), .second, .val (.long oc), .second, .unset] [])) := by
              intro ol oc lm
              refine o_lload cx X392 at_297 rfl ?_
              refine o_lload cx X392 at_299 rfl ?_
              refine o_lcmp cx X392 at_301 rfl ?_
              by_cases hc403 : ol < (2 : Int64)
              · refine o_ifYes cx X392 321 at_302 ((if0 _ _).trans (tlt ((lw_lt ol (2 : Int64)).mpr hc403)).1) (by decide) (by decide) ?_
                refine o_iconst cx X392 (z := (1 : Int32)) at_321 rfl ?_
                refine o_goto cx X392 326 at_322 (by decide) (by decide) ?_
                refine o_istore cx X392 (Ls' := #[.val (.int p0), .val (.int p1), .val (.long p2), .second, .val (.long p3), .second, .val (.int ((p0 &&& (2147483647 : Int32)) % (6 : Int32))), .val (.ref b12), .val (.int (3 : Int32)), .val (.long (2 : Int64)), .second, .val (.long (1 : Int64)), .second, .val (.ref b370), .val (.int lm), .val (.long ol), .second, .val (.long oc), .second, .val (.int (1 : Int32))]) at_326 rfl ?_
                refine o_aload cx X392 at_328 rfl rfl ?_
                refine o_lload cx X392 at_330 rfl ?_
                refine o_lload cx X392 at_332 rfl ?_
                refine o_callVp cx X392 (y' := (⟨"com/example/bulla/bulla/xml/TextPosition", "isSurelyAfter", "(JJ)Z"⟩ : MethodName)) (argsL := [(.long ol), (.long oc)]) (st := []) (a := b370) at_334 (o_w hw 24 rfl) (o_w hw 25 rfl) (o_w hw 27 rfl) (o_w hw 26 rfl) (o_w hw 4 rfl) (o_w hw 28 rfl) (by decide) E397 (rm1 l Z a0 hw b370 (2 : Int64) (2 : Int64) (0 : Int64) ol oc h393 n0 X392.ge0 F398 F399 F400) (by decide) 0 rfl (by decide) rfl (lenOf pd_5 rfl) rfl rfl (by decide) (by decide) fun T404 X405 => ?_
                show own_Go p e below _ (T404.setTop (mkF m 337 #[.val (.int p0), .val (.int p1), .val (.long p2), .second, .val (.long p3), .second, .val (.int ((p0 &&& (2147483647 : Int32)) % (6 : Int32))), .val (.ref b12), .val (.int (3 : Int32)), .val (.long (2 : Int64)), .second, .val (.long (1 : Int64)), .second, .val (.ref b370), .val (.int lm), .val (.long ol), .second, .val (.long oc), .second, .val (.int (1 : Int32))] [(.int (own_sa (2 : Int64) (2 : Int64) (0 : Int64) ol oc))]))
                refine o_iload cx X405 at_337 rfl ?_
                have hfin : (own_sa (2 : Int64) (2 : Int64) (0 : Int64) ol oc) = (1 : Int32) := by
                  simp only [Int64.lt_iff_toInt_lt, ← Int64.toInt_inj] at hc403
                  unfold own_sa
                  simp only [Int64.reduceSub, Int64.reduceToInt] at hc403 ⊢
                  repeat' split
                  all_goals first | rfl | omega
                refine o_icmpNo cx X405 at_339 (teq hfin).2 ?_
                refine o_iconst cx X405 (z := (1 : Int32)) at_342 rfl ?_
                refine o_goto cx X405 347 at_343 (by decide) (by decide) ?_
                exact o_retN cx X405 (z' := (1 : Int32)) at_347 (by simp) rfl rfl (by decide) (by decide)
              · refine o_ifNo cx X392 at_302 ((if0 _ _).trans (flt (fun q => hc403 ((lw_lt ol (2 : Int64)).mp q))).1) ?_
                refine o_lload cx X392 at_305 rfl ?_
                refine o_lload cx X392 at_307 rfl ?_
                refine o_lcmp cx X392 at_309 rfl ?_
                by_cases hc409 : ol = (2 : Int64)
                · refine o_ifNo cx X392 at_310 ((if0 _ _).trans (teq ((lw_eq ol (2 : Int64)).mpr hc409)).2) ?_
                  refine o_lload cx X392 at_313 rfl ?_
                  refine o_lload cx X392 at_315 rfl ?_
                  refine o_lcmp cx X392 at_317 rfl ?_
                  by_cases hc410 : (1 : Int64) < oc
                  · refine o_ifYes cx X392 325 at_318 ((if0 _ _).trans (tlt ((lw_gt oc (1 : Int64)).mpr hc410)).2.2.1) (by decide) (by decide) ?_
                    refine o_iconst cx X392 (z := (0 : Int32)) at_325 rfl ?_
                    refine o_istore cx X392 (Ls' := #[.val (.int p0), .val (.int p1), .val (.long p2), .second, .val (.long p3), .second, .val (.int ((p0 &&& (2147483647 : Int32)) % (6 : Int32))), .val (.ref b12), .val (.int (3 : Int32)), .val (.long (2 : Int64)), .second, .val (.long (1 : Int64)), .second, .val (.ref b370), .val (.int lm), .val (.long ol), .second, .val (.long oc), .second, .val (.int (0 : Int32))]) at_326 rfl ?_
                    refine o_aload cx X392 at_328 rfl rfl ?_
                    refine o_lload cx X392 at_330 rfl ?_
                    refine o_lload cx X392 at_332 rfl ?_
                    refine o_callVp cx X392 (y' := (⟨"com/example/bulla/bulla/xml/TextPosition", "isSurelyAfter", "(JJ)Z"⟩ : MethodName)) (argsL := [(.long ol), (.long oc)]) (st := []) (a := b370) at_334 (o_w hw 24 rfl) (o_w hw 25 rfl) (o_w hw 27 rfl) (o_w hw 26 rfl) (o_w hw 4 rfl) (o_w hw 28 rfl) (by decide) E397 (rm1 l Z a0 hw b370 (2 : Int64) (2 : Int64) (0 : Int64) ol oc h393 n0 X392.ge0 F398 F399 F400) (by decide) 0 rfl (by decide) rfl (lenOf pd_5 rfl) rfl rfl (by decide) (by decide) fun T411 X412 => ?_
                    show own_Go p e below _ (T411.setTop (mkF m 337 #[.val (.int p0), .val (.int p1), .val (.long p2), .second, .val (.long p3), .second, .val (.int ((p0 &&& (2147483647 : Int32)) % (6 : Int32))), .val (.ref b12), .val (.int (3 : Int32)), .val (.long (2 : Int64)), .second, .val (.long (1 : Int64)), .second, .val (.ref b370), .val (.int lm), .val (.long ol), .second, .val (.long oc), .second, .val (.int (0 : Int32))] [(.int (own_sa (2 : Int64) (2 : Int64) (0 : Int64) ol oc))]))
                    refine o_iload cx X412 at_337 rfl ?_
                    have hfin : (own_sa (2 : Int64) (2 : Int64) (0 : Int64) ol oc) = (0 : Int32) := by
                      simp only [Int64.lt_iff_toInt_lt, ← Int64.toInt_inj] at hc403 hc409 hc410
                      unfold own_sa
                      simp only [Int64.reduceSub, Int64.reduceToInt] at hc403 hc409 hc410 ⊢
                      repeat' split
                      all_goals first | rfl | omega
                    refine o_icmpNo cx X412 at_339 (teq hfin).2 ?_
                    refine o_iconst cx X412 (z := (1 : Int32)) at_342 rfl ?_
                    refine o_goto cx X412 347 at_343 (by decide) (by decide) ?_
                    exact o_retN cx X412 (z' := (1 : Int32)) at_347 (by simp) rfl rfl (by decide) (by decide)
                  · refine o_ifNo cx X392 at_318 ((if0 _ _).trans (flt (fun q => hc410 ((lw_gt oc (1 : Int64)).mp q))).2.2.1) ?_
                    refine o_iconst cx X392 (z := (1 : Int32)) at_321 rfl ?_
                    refine o_goto cx X392 326 at_322 (by decide) (by decide) ?_
                    refine o_istore cx X392 (Ls' := #[.val (.int p0), .val (.int p1), .val (.long p2), .second, .val (.long p3), .second, .val (.int ((p0 &&& (2147483647 : Int32)) % (6 : Int32))), .val (.ref b12), .val (.int (3 : Int32)), .val (.long (2 : Int64)), .second, .val (.long (1 : Int64)), .second, .val (.ref b370), .val (.int lm), .val (.long ol), .second, .val (.long oc), .second, .val (.int (1 : Int32))]) at_326 rfl ?_
                    refine o_aload cx X392 at_328 rfl rfl ?_
                    refine o_lload cx X392 at_330 rfl ?_
                    refine o_lload cx X392 at_332 rfl ?_
                    refine o_callVp cx X392 (y' := (⟨"com/example/bulla/bulla/xml/TextPosition", "isSurelyAfter", "(JJ)Z"⟩ : MethodName)) (argsL := [(.long ol), (.long oc)]) (st := []) (a := b370) at_334 (o_w hw 24 rfl) (o_w hw 25 rfl) (o_w hw 27 rfl) (o_w hw 26 rfl) (o_w hw 4 rfl) (o_w hw 28 rfl) (by decide) E397 (rm1 l Z a0 hw b370 (2 : Int64) (2 : Int64) (0 : Int64) ol oc h393 n0 X392.ge0 F398 F399 F400) (by decide) 0 rfl (by decide) rfl (lenOf pd_5 rfl) rfl rfl (by decide) (by decide) fun T416 X417 => ?_
                    show own_Go p e below _ (T416.setTop (mkF m 337 #[.val (.int p0), .val (.int p1), .val (.long p2), .second, .val (.long p3), .second, .val (.int ((p0 &&& (2147483647 : Int32)) % (6 : Int32))), .val (.ref b12), .val (.int (3 : Int32)), .val (.long (2 : Int64)), .second, .val (.long (1 : Int64)), .second, .val (.ref b370), .val (.int lm), .val (.long ol), .second, .val (.long oc), .second, .val (.int (1 : Int32))] [(.int (own_sa (2 : Int64) (2 : Int64) (0 : Int64) ol oc))]))
                    refine o_iload cx X417 at_337 rfl ?_
                    have hfin : (own_sa (2 : Int64) (2 : Int64) (0 : Int64) ol oc) = (1 : Int32) := by
                      simp only [Int64.lt_iff_toInt_lt, ← Int64.toInt_inj] at hc403 hc409 hc410
                      unfold own_sa
                      simp only [Int64.reduceSub, Int64.reduceToInt] at hc403 hc409 hc410 ⊢
                      repeat' split
                      all_goals first | rfl | omega
                    refine o_icmpNo cx X417 at_339 (teq hfin).2 ?_
                    refine o_iconst cx X417 (z := (1 : Int32)) at_342 rfl ?_
                    refine o_goto cx X417 347 at_343 (by decide) (by decide) ?_
                    exact o_retN cx X417 (z' := (1 : Int32)) at_347 (by simp) rfl rfl (by decide) (by decide)
                · refine o_ifYes cx X392 325 at_310 ((if0 _ _).trans (feq (fun q => hc409 ((lw_eq ol (2 : Int64)).mp q))).2) (by decide) (by decide) ?_
                  refine o_iconst cx X392 (z := (0 : Int32)) at_325 rfl ?_
                  refine o_istore cx X392 (Ls' := #[.val (.int p0), .val (.int p1), .val (.long p2), .second, .val (.long p3), .second, .val (.int ((p0 &&& (2147483647 : Int32)) % (6 : Int32))), .val (.ref b12), .val (.int (3 : Int32)), .val (.long (2 : Int64)), .second, .val (.long (1 : Int64)), .second, .val (.ref b370), .val (.int lm), .val (.long ol), .second, .val (.long oc), .second, .val (.int (0 : Int32))]) at_326 rfl ?_
                  refine o_aload cx X392 at_328 rfl rfl ?_
                  refine o_lload cx X392 at_330 rfl ?_
                  refine o_lload cx X392 at_332 rfl ?_
                  refine o_callVp cx X392 (y' := (⟨"com/example/bulla/bulla/xml/TextPosition", "isSurelyAfter", "(JJ)Z"⟩ : MethodName)) (argsL := [(.long ol), (.long oc)]) (st := []) (a := b370) at_334 (o_w hw 24 rfl) (o_w hw 25 rfl) (o_w hw 27 rfl) (o_w hw 26 rfl) (o_w hw 4 rfl) (o_w hw 28 rfl) (by decide) E397 (rm1 l Z a0 hw b370 (2 : Int64) (2 : Int64) (0 : Int64) ol oc h393 n0 X392.ge0 F398 F399 F400) (by decide) 0 rfl (by decide) rfl (lenOf pd_5 rfl) rfl rfl (by decide) (by decide) fun T421 X422 => ?_
                  show own_Go p e below _ (T421.setTop (mkF m 337 #[.val (.int p0), .val (.int p1), .val (.long p2), .second, .val (.long p3), .second, .val (.int ((p0 &&& (2147483647 : Int32)) % (6 : Int32))), .val (.ref b12), .val (.int (3 : Int32)), .val (.long (2 : Int64)), .second, .val (.long (1 : Int64)), .second, .val (.ref b370), .val (.int lm), .val (.long ol), .second, .val (.long oc), .second, .val (.int (0 : Int32))] [(.int (own_sa (2 : Int64) (2 : Int64) (0 : Int64) ol oc))]))
                  refine o_iload cx X422 at_337 rfl ?_
                  have hfin : (own_sa (2 : Int64) (2 : Int64) (0 : Int64) ol oc) = (0 : Int32) := by
                    simp only [Int64.lt_iff_toInt_lt, ← Int64.toInt_inj] at hc403 hc409
                    unfold own_sa
                    simp only [Int64.reduceSub, Int64.reduceToInt] at hc403 hc409 ⊢
                    repeat' split
                    all_goals first | rfl | omega
                  refine o_icmpNo cx X422 at_339 (teq hfin).2 ?_
                  refine o_iconst cx X422 (z := (1 : Int32)) at_342 rfl ?_
                  refine o_goto cx X422 347 at_343 (by decide) (by decide) ?_
                  exact o_retN cx X422 (z' := (1 : Int32)) at_347 (by simp) rfl rfl (by decide) (by decide)
            have J271 : ∀ (ol : Int64) (lm : Int32), own_Go p e below (own_End below s room_1 n0 (fun v' _ => v' = some (.int 1))) (T391.setTop (mkF m 271 #[.val (.int p0), .val (.int p1), .val (.long p2), .second, .val (.long p3), .second, .val (.int ((p0 &&& (2147483647 : Int32)) % (6 : Int32))), .val (.ref b12), .val (.int (3 : Int32)), .val (.long (2 : Int64)), .second, .val (.long (1 : Int64)), .second, .val (.ref b370), .val (.int lm), .val (.long ol), .second, .unset, .unset, .unset] [])) := by
              intro ol lm
              refine o_iloadN cx X392 at_271 rfl ?_
              refine o_iconst cx X392 (z := (2 : Int32)) at_272 rfl ?_
              refine o_ishr cx X392 at_273 rfl ?_
              refine o_iconst cx X392 (z := (1 : Int32)) at_274 rfl ?_
              refine o_iand cx X392 at_275 rfl ?_
              by_cases hc426 : ((p1 >>> ((2 : Int32) &&& 31)) &&& (1 : Int32)) = (0 : Int32)
              · refine o_ifNo cx X392 at_276 ((if0 _ _).trans (teq hc426).2) ?_
                refine o_lload cx X392 at_279 rfl ?_
                refine o_lstore cx X392 (Ls' := #[.val (.int p0), .val (.int p1), .val (.long p2), .second, .val (.long p3), .second, .val (.int ((p0 &&& (2147483647 : Int32)) % (6 : Int32))), .val (.ref b12), .val (.int (3 : Int32)), .val (.long (2 : Int64)), .second, .val (.long (1 : Int64)), .second, .val (.ref b370), .val (.int lm), .val (.long ol), .second, .val (.long p3), .second, .unset]) at_281 rfl ?_
                refine o_goto cx X392 297 at_283 (by decide) (by decide) ?_
                exact J297 ol p3 lm
              · refine o_ifYes cx X392 286 at_276 ((if0 _ _).trans (feq hc426).2) (by decide) (by decide) ?_
                refine o_lload cx X392 at_286 rfl ?_
                refine o_lload cx X392 at_288 rfl ?_
                refine o_ldc2 cx X392 (z := (3 : Int64)) at_290 (o_w hw 31 rfl) ?_
                refine o_lrem cx X392 at_293 (by decide) rfl ?_
                refine o_ladd cx X392 at_294 rfl ?_
                refine o_lstore cx X392 (Ls' := #[.val (.int p0), .val (.int p1), .val (.long p2), .second, .val (.long p3), .second, .val (.int ((p0 &&& (2147483647 : Int32)) % (6 : Int32))), .val (.ref b12), .val (.int (3 : Int32)), .val (.long (2 : Int64)), .second, .val (.long (1 : Int64)), .second, .val (.ref b370), .val (.int lm), .val (.long ol), .second, .val (.long ((1 : Int64) + (p3 % (3 : Int64)))), .second, .unset]) at_295 rfl ?_
                exact J297 ol ((1 : Int64) + (p3 % (3 : Int64))) lm
            refine o_iloadN cx X392 at_221 rfl ?_
            refine o_iconst cx X392 (z := (3 : Int32)) at_222 rfl ?_
            refine o_iand cx X392 at_223 rfl ?_
            refine o_istore cx X392 (Ls' := #[.val (.int p0), .val (.int p1), .val (.long p2), .second, .val (.long p3), .second, .val (.int ((p0 &&& (2147483647 : Int32)) % (6 : Int32))), .val (.ref b12), .val (.int (3 : Int32)), .val (.long (2 : Int64)), .second, .val (.long (1 : Int64)), .second, .val (.ref b370), .val (.int (p1 &&& (3 : Int32))), .unset, .unset, .unset, .unset, .unset]) at_224 rfl ?_
            refine o_iload cx X392 at_226 rfl ?_
            by_cases hc427 : (p1 &&& (3 : Int32)) = (0 : Int32)
            · refine o_ifNo cx X392 at_228 ((if0 _ _).trans (teq hc427).2) ?_
              refine o_lload cx X392 at_231 rfl ?_
              refine o_lconst cx X392 (z := (1 : Int64)) at_233 rfl ?_
              refine o_lsub cx X392 (z := (1 : Int64)) at_234 rfl ?_
              refine o_lstore cx X392 (Ls' := #[.val (.int p0), .val (.int p1), .val (.long p2), .second, .val (.long p3), .second, .val (.int ((p0 &&& (2147483647 : Int32)) % (6 : Int32))), .val (.ref b12), .val (.int (3 : Int32)), .val (.long (2 : Int64)), .second, .val (.long (1 : Int64)), .second, .val (.ref b370), .val (.int (p1 &&& (3 : Int32))), .val (.long (1 : Int64)), .second, .unset, .unset, .unset]) at_235 rfl ?_
              refine o_goto cx X392 271 at_237 (by decide) (by decide) ?_
              exact J271 (1 : Int64) (p1 &&& (3 : Int32))
            · refine o_ifYes cx X392 240 at_228 ((if0 _ _).trans (feq hc427).2) (by decide) (by decide) ?_
              refine o_iload cx X392 at_240 rfl ?_
              refine o_iconst cx X392 (z := (1 : Int32)) at_242 rfl ?_
              by_cases hc428 : (p1 &&& (3 : Int32)) = (1 : Int32)
              · refine o_icmpNo cx X392 at_243 (teq hc428).2 ?_
                refine o_lload cx X392 at_246 rfl ?_
                refine o_lstore cx X392 (Ls' := #[.val (.int p0), .val (.int p1), .val (.long p2), .second, .val (.long p3), .second, .val (.int ((p0 &&& (2147483647 : Int32)) % (6 : Int32))), .val (.ref b12), .val (.int (3 : Int32)), .val (.long (2 : Int64)), .second, .val (.long (1 : Int64)), .second, .val (.ref b370), .val (.int (p1 &&& (3 : Int32))), .val (.long (2 : Int64)), .second, .unset, .unset, .unset]) at_248 rfl ?_
                refine o_goto cx X392 271 at_250 (by decide) (by decide) ?_
                exact J271 (2 : Int64) (p1 &&& (3 : Int32))
              · refine o_icmpYes cx X392 253 at_243 (feq hc428).2 (by decide) (by decide) ?_
                refine o_iload cx X392 at_253 rfl ?_
                refine o_iconst cx X392 (z := (2 : Int32)) at_255 rfl ?_
                by_cases hc429 : (p1 &&& (3 : Int32)) = (2 : Int32)
                · refine o_icmpNo cx X392 at_256 (teq hc429).2 ?_
                  refine o_lload cx X392 at_259 rfl ?_
                  refine o_lconst cx X392 (z := (1 : Int64)) at_261 rfl ?_
                  refine o_ladd cx X392 (z := (3 : Int64)) at_262 rfl ?_
                  refine o_lstore cx X392 (Ls' := #[.val (.int p0), .val (.int p1), .val (.long p2), .second, .val (.long p3), .second, .val (.int ((p0 &&& (2147483647 : Int32)) % (6 : Int32))), .val (.ref b12), .val (.int (3 : Int32)), .val (.long (2 : Int64)), .second, .val (.long (1 : Int64)), .second, .val (.ref b370), .val (.int (p1 &&& (3 : Int32))), .val (.long (3 : Int64)), .second, .unset, .unset, .unset]) at_263 rfl ?_
                  refine o_goto cx X392 271 at_265 (by decide) (by decide) ?_
                  exact J271 (3 : Int64) (p1 &&& (3 : Int32))
                · refine o_icmpYes cx X392 268 at_256 (feq hc429).2 (by decide) (by decide) ?_
                  refine o_lloadN cx X392 at_268 rfl ?_
                  refine o_lstore cx X392 (Ls' := #[.val (.int p0), .val (.int p1), .val (.long p2), .second, .val (.long p3), .second, .val (.int ((p0 &&& (2147483647 : Int32)) % (6 : Int32))), .val (.ref b12), .val (.int (3 : Int32)), .val (.long (2 : Int64)), .second, .val (.long (1 : Int64)), .second, .val (.ref b370), .val (.int (p1 &&& (3 : Int32))), .val (.long p2), .second, .unset, .unset, .unset]) at_269 rfl ?_
                  exact J271 p2 (p1 &&& (3 : Int32))
set_option maxRecDepth 65536 in
set_option maxHeartbeats 40000000 in
theorem comes_1 {Post : Tables → Env → Array Value → State → Outcome → State → Prop} (hpost : ∀ tb e args s v u, (limb_1_1.after args s (.returned v) u = true ∧ limb_1_2.after args s (.returned v) u = true ∧ True) → FrameEnd s (.returned v) u (Jvm.fieldLocs frame_1_writes args s ++ Jvm.arrayLocs frame_1_arrays args s ++ Jvm.staticLocs frame_1_statics s) 16 128 → Post tb e args s (.returned v) u) :
    ArmFor flags0 classFile x code maxLocals ret World_1 tables_1 room_1 Calls_1 rest_1 Pre_1 Post := by
  intro l hfl _ _ p e ha hc hk s m args below hf hA hF happ hP
  obtain ⟨hcalls, hrest, hpre⟩ := hP
  obtain ⟨-, -, -, hnamed, -, -, -, hat⟩ := (Spec.applies_iff hf).mp happ
  obtain ⟨hg, hn⟩ := and_e (Cond.before_iff.mp (show (Jvm.Cond.and given_1 narrow_1).before args s = true from hpre))
  obtain ⟨q0, g0⟩ := and_e hg
  obtain ⟨q1, g1⟩ := and_e g0
  obtain ⟨q2, g2⟩ := and_e g1
  obtain ⟨q3, g3⟩ := and_e g2
  obtain ⟨w0, w1, w2, w3, rfl⟩ : ∃ w0 w1 w2 w3 : Value, args = #[w0, w1, w2, w3] := by
    have hs : args.size = 4 := by simpa [Cond.value, given_1] using q0
    obtain ⟨L⟩ := args
    match L, hs with
    | [w0, w1, w2, w3], _ => exact ⟨w0, w1, w2, w3, rfl⟩
  have hw := fun d (hd : d ∈ tables_1) => atoms_spec (ws := Jvm.Cond.code x code maxLocals ret :: tables_1) hat d (List.mem_cons_of_mem _ hd)
  obtain ⟨i0, ei0⟩ := is_v q1
  obtain rfl : w0 = (.int i0) := Option.some.inj ei0
  obtain ⟨i1, ei1⟩ := is_v q2
  obtain rfl : w1 = (.int i1) := Option.some.inj ei1
  obtain ⟨i2, ei2⟩ := isL_v q3
  obtain rfl : w2 = (.long i2) := Option.some.inj ei2
  obtain ⟨i3, ei3⟩ := isL_v g3
  obtain rfl : w3 = (.long i3) := Option.some.inj ei3
  obtain ⟨n, o, h1, h2, h3, v, L, rfl, ⟨hv, _, N⟩, hq⟩ := rm0 l s _ hw i0 i1 i2 i3 s.heap s.heap.size (Nat.le_refl _) tables_1 p e ha hc hk s m _ below hf ((Spec.applies_iff_loose hf).mp happ).1 ⟨rfl, State.Warmed39.refl s, rfl⟩ trivial
  obtain rfl : v = some (.int 1) := hv
  refine ⟨n, _, h1, h2, h3, hpost _ _ _ _ _ _ ⟨Cond.after_iff.mpr rfl, Cond.after_iff.mpr (eq_i res_at (Term.int_eval (1)) rfl), trivial⟩ ⟨hq.1, hq.2.1, (hq.2.2.sift fun y hy => Or.inr (N y hy)).mono (by decide) (by decide)⟩⟩
theorem main_1_1 : Claimed_1_1 := comes_1 fun _ _ _ _ _ _ h hF => ⟨h.1, hF⟩
theorem main_1_2 : Claimed_1_2 := comes_1 fun _ _ _ _ _ _ h hF => ⟨h.2.1, hF⟩
end Jvm.Pilot.@@N@@
namespace Jvm.Pilot.@@N@@
open Jvm Jvm.ClassFile Sem Op Lib Jvm.Free Jvm.Stand Jvm.Pilot.@@N@@.Jvm.D
/-! MADE BY PROGRAM (witnessworld.py) out of the Statement's table words and the real class files: 9 classes; the members and pool entries that the words name. The judged class is class 1, her method 1. -/
namespace start1
open Jvm.ClassFile
def u (s : String) : CpInfo := .utf8 (stringToUtf16 s)
/-- a pool by its gaps: so many unusable entries, then the entry; so many at the end -/
def gap : Nat → List CpInfo → List CpInfo
  | 0, r => r
  | n + 1, r => .unusable :: gap n r
def poolList (es : List (Nat × CpInfo)) (last : Nat) : List CpInfo := es.foldr (fun e r => gap e.1 (e.2 :: r)) (gap last [])
def pool (es : List (Nat × CpInfo)) (last : Nat) : Array CpInfo := ⟨poolList es last⟩
def fileOf (pool : Array CpInfo) (this : Nat) (attrs : Array Attribute := #[]) (ms : Array MethodInfo := #[]) (fl : Nat := 33) (sup : Nat := 0) (ifs : Array Nat := #[]) (fds : Array FieldInfo := #[]) : ClassFile where
  minorVersion := 0
  majorVersion := 65
  constantPool := pool
  accessFlags := fl
  thisClass := this
  superClass := sup
  interfaces := ifs
  fields := fds
  methods := ms
  attributes := attrs
def plain (name : String) (sup : Option ClassId) : Class where
  name := name
  kind := .ordinary
  loader := none
  accessFlags := 33
  super := sup
  interfaces := #[]
  cf := none
  fields := #[]
  methods := #[]
  instanceTypes := #[]
  staticTypes := #[]
  resolved := #[]
  callSites := []
  init := .initialized
  statics := none
  mirror := none

def pool0 : Array CpInfo := pool [(5, u "<init>"), (0, u "()V"), (1, .class_ 10), (1, u "java/lang/Object")] 113

def k0c0 : Code := { maxStack := 0, maxLocals := 1, code := object_method_1_code, exceptionTable := #[], attributes := #[] }
def k0m0 : Method := { name := "<init>", desc := "()V", sig := { parameters := [], returnType := none }, accessFlags := 1, code := some k0c0 }
/-- java/lang/Object -/
def k0 : Class := { plain "java/lang/Object" none with
  accessFlags := 33
  interfaces := #[]
  cf := some (fileOf pool0 8 #[] #[{ accessFlags := 1, nameIndex := 5, descriptorIndex := 6, attributes := #[] }] 33 0 #[] #[])
  fields := #[]
  methods := #[k0m0]
  instanceTypes := #[]
  staticTypes := #[]
  resolved := Array.replicate 124 none
  statics := none }

def pool1 : Array CpInfo := pool [(2, .class_ 4), (0, .nameAndType 5 6), (0, u "java/lang/Object"), (0, u "<init>"), (0, u "()V"), (0, .integer 2147483647), (0, .long 2), (1, .long 3), (1, .long 18446744073709551615), (1, .class_ 15), (0, u "com/example/bulla/bulla/xml/TextPosition"), (0, .methodref 14 3), (0, .methodref 14 18), (0, .nameAndType 19 20), (0, u "moveOver"), (0, u "([BII)V"), (0, .methodref 14 22), (0, .nameAndType 23 24), (0, u "isSurelyAfter"), (0, u "(JJ)Z"), (0, .class_ 26), (0, u "com/example/bulla/bulla/xml/TextPositionIsSurelyAfterPinLaw"), (2, u "law"), (0, u "(IIJJ)Z")] 5

def k1m0 : Method := { name := "<init>", desc := "()V", sig := { parameters := [], returnType := none }, accessFlags := 1, code := none }
def k1c1 : Code := { maxStack := 6, maxLocals := 20, code := code, exceptionTable := #[], attributes := #[] }
def k1m1 : Method := { name := "law", desc := "(IIJJ)Z", sig := { parameters := [.int, .int, .long, .long], returnType := some .boolean }, accessFlags := 9, code := some k1c1 }
/-- com/example/bulla/bulla/xml/TextPositionIsSurelyAfterPinLaw -/
def k1 : Class := { plain "com/example/bulla/bulla/xml/TextPositionIsSurelyAfterPinLaw" (some 0) with
  accessFlags := 49
  interfaces := #[]
  cf := some (fileOf pool1 25 #[] #[{ accessFlags := 1, nameIndex := 5, descriptorIndex := 6, attributes := #[] }, { accessFlags := 9, nameIndex := 29, descriptorIndex := 30, attributes := #[] }] 49 2 #[] #[])
  fields := #[]
  methods := #[k1m0, k1m1]
  instanceTypes := #[]
  staticTypes := #[]
  resolved := Array.replicate 36 none
  statics := none }

def pool2 : Array CpInfo := pool [(1, .methodref 2 3), (0, .class_ 4), (0, .nameAndType 5 6), (0, u "java/lang/Object"), (0, u "<init>"), (0, u "()V"), (0, .fieldref 8 9), (0, .class_ 10), (0, .nameAndType 11 12), (0, u "com/example/bulla/bulla/xml/TextPosition"), (0, u "line"), (0, u "J"), (0, .fieldref 8 14), (0, .nameAndType 15 12), (0, u "column"), (0, .fieldref 8 17), (0, .nameAndType 18 12), (0, u "shortfall"), (0, .methodref 8 20), (0, .nameAndType 21 22), (0, u "move"), (0, u "([BIIZ)V"), (0, .methodref 8 24), (0, .nameAndType 25 26), (0, u "joinedLineFeeds"), (0, u "([BIII)I"), (0, .methodref 8 28), (0, .nameAndType 29 30), (0, u "isLineEnd"), (0, u "(B)Z"), (0, .methodref 8 32), (0, .nameAndType 33 34), (0, u "columns"), (0, u "([BII)J"), (0, .methodref 8 36), (0, .nameAndType 37 34), (0, u "returnsAlone"), (0, .fieldref 8 39), (0, .nameAndType 40 41), (0, u "afterLineEnd"), (0, u "Z"), (0, .fieldref 8 43), (0, .nameAndType 44 41), (0, u "afterReturn"), (3, u "moveOver"), (0, u "([BII)V"), (3, u "isSurelyAfter"), (0, u "(JJ)Z")] 8

def k2c0 : Code := { maxStack := 3, maxLocals := 1, code := prog_169_method_1_code, exceptionTable := #[], attributes := #[] }
def k2m0 : Method := { name := "<init>", desc := "()V", sig := { parameters := [], returnType := none }, accessFlags := 0, code := some k2c0 }
def k2c1 : Code := { maxStack := 4, maxLocals := 5, code := prog_169_method_5_code, exceptionTable := #[], attributes := #[] }
def k2m1 : Method := { name := "isSurelyAfter", desc := "(JJ)Z", sig := { parameters := [.long, .long], returnType := some .boolean }, accessFlags := 0, code := some k2c1 }
def k2c2 : Code := { maxStack := 5, maxLocals := 4, code := prog_169_method_6_code, exceptionTable := #[], attributes := #[] }
def k2m2 : Method := { name := "moveOver", desc := "([BII)V", sig := { parameters := [(.array .byte), .int, .int], returnType := none }, accessFlags := 0, code := some k2c2 }
def k2c3 : Code := { maxStack := 9, maxLocals := 8, code := prog_169_method_8_code, exceptionTable := #[], attributes := #[] }
def k2m3 : Method := { name := "move", desc := "([BIIZ)V", sig := { parameters := [(.array .byte), .int, .int, .boolean], returnType := none }, accessFlags := 2, code := some k2c3 }
def k2c4 : Code := { maxStack := 4, maxLocals := 7, code := prog_169_method_10_code, exceptionTable := #[], attributes := #[] }
def k2m4 : Method := { name := "joinedLineFeeds", desc := "([BIII)I", sig := { parameters := [(.array .byte), .int, .int, .int], returnType := some .int }, accessFlags := 2, code := some k2c4 }
def k2c5 : Code := { maxStack := 6, maxLocals := 8, code := prog_169_method_11_code, exceptionTable := #[], attributes := #[] }
def k2m5 : Method := { name := "returnsAlone", desc := "([BII)J", sig := { parameters := [(.array .byte), .int, .int], returnType := some .long }, accessFlags := 2, code := some k2c5 }
def k2c6 : Code := { maxStack := 2, maxLocals := 1, code := prog_169_method_12_code, exceptionTable := #[], attributes := #[] }
def k2m6 : Method := { name := "isLineEnd", desc := "(B)Z", sig := { parameters := [.byte], returnType := some .boolean }, accessFlags := 10, code := some k2c6 }
def k2c7 : Code := { maxStack := 4, maxLocals := 7, code := prog_169_method_13_code, exceptionTable := #[], attributes := #[] }
def k2m7 : Method := { name := "columns", desc := "([BII)J", sig := { parameters := [(.array .byte), .int, .int], returnType := some .long }, accessFlags := 10, code := some k2c7 }
/-- com/example/bulla/bulla/xml/TextPosition -/
def k2 : Class := { plain "com/example/bulla/bulla/xml/TextPosition" (some 0) with
  accessFlags := 48
  interfaces := #[]
  cf := some (fileOf pool2 8 #[] #[{ accessFlags := 0, nameIndex := 5, descriptorIndex := 6, attributes := #[] }, { accessFlags := 0, nameIndex := 53, descriptorIndex := 54, attributes := #[] }, { accessFlags := 0, nameIndex := 48, descriptorIndex := 49, attributes := #[] }, { accessFlags := 2, nameIndex := 21, descriptorIndex := 22, attributes := #[] }, { accessFlags := 2, nameIndex := 25, descriptorIndex := 26, attributes := #[] }, { accessFlags := 2, nameIndex := 37, descriptorIndex := 34, attributes := #[] }, { accessFlags := 10, nameIndex := 29, descriptorIndex := 30, attributes := #[] }, { accessFlags := 10, nameIndex := 33, descriptorIndex := 34, attributes := #[] }] 48 2 #[] #[{ accessFlags := 2, nameIndex := 11, descriptorIndex := 12, attributes := #[] }, { accessFlags := 2, nameIndex := 15, descriptorIndex := 12, attributes := #[] }, { accessFlags := 2, nameIndex := 18, descriptorIndex := 12, attributes := #[] }, { accessFlags := 2, nameIndex := 40, descriptorIndex := 41, attributes := #[] }, { accessFlags := 2, nameIndex := 44, descriptorIndex := 41, attributes := #[] }])
  fields := #[{ name := "line", type := .long, accessFlags := 2, slot := 0, constantValue := 0 }, { name := "column", type := .long, accessFlags := 2, slot := 1, constantValue := 0 }, { name := "shortfall", type := .long, accessFlags := 2, slot := 2, constantValue := 0 }, { name := "afterLineEnd", type := .boolean, accessFlags := 2, slot := 3, constantValue := 0 }, { name := "afterReturn", type := .boolean, accessFlags := 2, slot := 4, constantValue := 0 }]
  methods := #[k2m0, k2m1, k2m2, k2m3, k2m4, k2m5, k2m6, k2m7]
  instanceTypes := #[.long, .long, .long, .boolean, .boolean]
  staticTypes := #[]
  resolved := Array.replicate 63 none
  statics := none }

def pool3 : Array CpInfo := pool [(1, u "java/lang/Cloneable"), (0, .class_ 1), (0, u "java/lang/Object"), (0, .class_ 3)] 3

/-- java/lang/Cloneable -/
def k3 : Class := { plain "java/lang/Cloneable" (some 0) with
  accessFlags := 1537
  interfaces := #[]
  cf := some (fileOf pool3 2 #[] #[] 1537 4 #[] #[])
  fields := #[]
  methods := #[]
  instanceTypes := #[]
  staticTypes := #[]
  resolved := Array.replicate 8 none
  statics := none }

def pool4 : Array CpInfo := pool [(1, u "java/io/Serializable"), (0, .class_ 1), (0, u "java/lang/Object"), (0, .class_ 3)] 3

/-- java/io/Serializable -/
def k4 : Class := { plain "java/io/Serializable" (some 0) with
  accessFlags := 1537
  interfaces := #[]
  cf := some (fileOf pool4 2 #[] #[] 1537 4 #[] #[])
  fields := #[]
  methods := #[]
  instanceTypes := #[]
  staticTypes := #[]
  resolved := Array.replicate 8 none
  statics := none }

/-- the primitive byte -/
def k5 : Class := { plain "byte" none with kind := .primitive 'B', accessFlags := 0x411 }
/-- [B -/
def k6 : Class := { plain "[B" (some 0) with kind := .array 5 .byte, interfaces := #[3, 4], accessFlags := 1041 }

/-- the primitive int -/
def k7 : Class := { plain "int" none with kind := .primitive 'I', accessFlags := 0x411 }
/-- [I -/
def k8 : Class := { plain "[I" (some 0) with kind := .array 7 .int, interfaces := #[3, 4], accessFlags := 1041 }

def heap : Heap := #[]
def classes : Array Class := #[k0, k1, k2, k3, k4, k5, k6, k7, k8]
def interned : List (Array UInt16 × Addr) := []
def slotsUsed : Nat := 0
def theMethod : MethodId := ⟨1, 1⟩
def args0 : Array Value := #[.int 5, .int 3, .long 4, .long 2]
def aboutOver (below : List Frame) : State where
  vm := { classes := classes, interned := interned.toArray }
  heap := heap
  slotsUsed := slotsUsed
  threads := #[{ frames := .invoking theMethod args0 :: below }]
def below0 : List Frame := [.native { method := ⟨0, 0⟩, args := #[] }]
def about1 : State := aboutOver below0
def p0 : Program := .bare "" "" ""
def e0 : Env := launch0.env 0 0 0
theorem w_frames : about1.frames = Frame.invoking theMethod args0 :: below0 := rfl
set_option maxRecDepth 65536 in
theorem w_args : argsFit about1.vm theMethod args0 = true := by decide +kernel
set_option maxRecDepth 65536 in
theorem w_heap : heapFits about1 = true := by decide +kernel
set_option maxRecDepth 65536 in
theorem w_runnable : about1.curStatus? = some .runnable := by decide +kernel
set_option maxRecDepth 65536 in
theorem w_alone : about1.alone = true := by decide +kernel
set_option maxRecDepth 65536 in
theorem w_named : about1.methodNamed? x = some theMethod := by decide +kernel
set_option maxRecDepth 65536 in
theorem w_hears : about1.hears theMethod below0 = true := by decide +kernel
set_option maxRecDepth 65536 in
theorem w_ripe : about1.ripe theMethod args0 below0 = true := by decide +kernel
theorem w_running : about1.status = .running := rfl
set_option maxRecDepth 65536 in
theorem w_room : about1.hasRoom e0.platform room_1 = true :=
  launch0.hasRoom_least _ room_1 (by decide +kernel) (by decide +kernel) (by decide +kernel) (by decide +kernel) (by decide +kernel) (by decide +kernel)
theorem allAtoms_all (ts : List Jvm.Cond) (a : Array Jvm.Value) (st : Jvm.State) : (allAtoms ts).before a st = ts.all (fun c => c.before a st) := by
  induction ts with
  | nil => rfl
  | cons c t ih =>
    show (Jvm.Cond.and c (allAtoms t)).before a st = _
    rw [Jvm.Cond.before_and, ih, List.all_cons]
def words1 : List Jvm.Cond := Jvm.Cond.code x code maxLocals ret :: tables_1
/-- a 'code' word, met by the world's own term for the bytes: nothing is compared byte by byte -/
theorem code_word {y : MethodName} {bytes : ByteArray} {mx : Nat} {rt : Option FieldType} {a : Array Value} {s : State} {m : MethodId} {meth : Method} {c : Code} (h1 : s.methodNamed? y = some m) (h2 : s.vm.method? m = some meth) (h3 : meth.code = some c) (h4 : c.code = bytes)
    (h5 : (c.maxLocals == mx && c.exceptionTable.isEmpty && decide (c.maxStack ≤ mostOperands) && decide (meth.sig.returnType = rt) && !meth.locks && decide (parseMethodDescriptor y.desc = some meth.sig)) = true) : (Jvm.Cond.code y bytes mx rt).before a s = true := by
  simp only [Bool.and_eq_true, beq_iff_eq, Bool.not_eq_true', decide_eq_true_eq] at h5
  obtain ⟨⟨⟨⟨⟨g1, g2⟩, g3⟩, g4⟩, g5⟩, g6⟩ := h5
  simp [Cond.before, Cond.holds, Cond.value, h1, h2, h3, h4, g1, g2, g3, g4, g5, g6]
def isCode : Jvm.Cond → Bool
  | .code _ _ _ _ => true
  | _ => false
theorem all_split {L : List Jvm.Cond} {P : Jvm.Cond → Bool} (h1 : L.all (fun c => isCode c || P c) = true) (h2 : ∀ c ∈ L.filter isCode, P c = true) : L.all P = true := by
  refine List.all_eq_true.mpr fun c hc => ?_
  have h := List.all_eq_true.mp h1 c hc
  rcases Bool.eq_false_or_eq_true (isCode c) with hi | hi
  · exact h2 c (List.mem_filter.mpr ⟨hc, hi⟩)
  · simpa [hi] using h
set_option maxRecDepth 65536 in
theorem w_c0 : (Jvm.Cond.code x code maxLocals ret).before args0 about1 = true := code_word (m := ⟨1, 1⟩) (meth := k1m1) (c := k1c1) (by decide +kernel) rfl rfl rfl (by decide +kernel)
set_option maxRecDepth 65536 in
theorem w_c1 : (Jvm.Cond.code ({ cls := "com/example/bulla/bulla/xml/TextPosition", name := "<init>", desc := "()V" } : Jvm.MethodName) prog_169_method_1_code (1 : Nat) (Option.none : Option Jvm.ClassFile.FieldType)).before args0 about1 = true := code_word (m := ⟨2, 0⟩) (meth := k2m0) (c := k2c0) (by decide +kernel) rfl rfl rfl (by decide +kernel)
set_option maxRecDepth 65536 in
theorem w_c2 : (Jvm.Cond.code ({ cls := "java/lang/Object", name := "<init>", desc := "()V" } : Jvm.MethodName) object_method_1_code (1 : Nat) (Option.none : Option Jvm.ClassFile.FieldType)).before args0 about1 = true := code_word (m := ⟨0, 0⟩) (meth := k0m0) (c := k0c0) (by decide +kernel) rfl rfl rfl (by decide +kernel)
set_option maxRecDepth 65536 in
theorem w_c3 : (Jvm.Cond.code ({ cls := "com/example/bulla/bulla/xml/TextPosition", name := "moveOver", desc := "([BII)V" } : Jvm.MethodName) prog_169_method_6_code (4 : Nat) (Option.none : Option Jvm.ClassFile.FieldType)).before args0 about1 = true := code_word (m := ⟨2, 2⟩) (meth := k2m2) (c := k2c2) (by decide +kernel) rfl rfl rfl (by decide +kernel)
set_option maxRecDepth 65536 in
theorem w_c4 : (Jvm.Cond.code ({ cls := "com/example/bulla/bulla/xml/TextPosition", name := "move", desc := "([BIIZ)V" } : Jvm.MethodName) prog_169_method_8_code (8 : Nat) (Option.none : Option Jvm.ClassFile.FieldType)).before args0 about1 = true := code_word (m := ⟨2, 3⟩) (meth := k2m3) (c := k2c3) (by decide +kernel) rfl rfl rfl (by decide +kernel)
set_option maxRecDepth 65536 in
theorem w_c5 : (Jvm.Cond.code ({ cls := "com/example/bulla/bulla/xml/TextPosition", name := "isSurelyAfter", desc := "(JJ)Z" } : Jvm.MethodName) prog_169_method_5_code (5 : Nat) (Option.some Jvm.ClassFile.FieldType.boolean)).before args0 about1 = true := code_word (m := ⟨2, 1⟩) (meth := k2m1) (c := k2c1) (by decide +kernel) rfl rfl rfl (by decide +kernel)
set_option maxRecDepth 65536 in
theorem w_c6 : (Jvm.Cond.code ({ cls := "com/example/bulla/bulla/xml/TextPosition", name := "joinedLineFeeds", desc := "([BIII)I" } : Jvm.MethodName) prog_169_method_10_code (7 : Nat) (Option.some Jvm.ClassFile.FieldType.int)).before args0 about1 = true := code_word (m := ⟨2, 4⟩) (meth := k2m4) (c := k2c4) (by decide +kernel) rfl rfl rfl (by decide +kernel)
set_option maxRecDepth 65536 in
theorem w_c7 : (Jvm.Cond.code ({ cls := "com/example/bulla/bulla/xml/TextPosition", name := "isLineEnd", desc := "(B)Z" } : Jvm.MethodName) prog_169_method_12_code (1 : Nat) (Option.some Jvm.ClassFile.FieldType.boolean)).before args0 about1 = true := code_word (m := ⟨2, 6⟩) (meth := k2m6) (c := k2c6) (by decide +kernel) rfl rfl rfl (by decide +kernel)
set_option maxRecDepth 65536 in
theorem w_c8 : (Jvm.Cond.code ({ cls := "com/example/bulla/bulla/xml/TextPosition", name := "returnsAlone", desc := "([BII)J" } : Jvm.MethodName) prog_169_method_11_code (8 : Nat) (Option.some Jvm.ClassFile.FieldType.long)).before args0 about1 = true := code_word (m := ⟨2, 5⟩) (meth := k2m5) (c := k2c5) (by decide +kernel) rfl rfl rfl (by decide +kernel)
set_option maxRecDepth 65536 in
theorem w_c9 : (Jvm.Cond.code ({ cls := "com/example/bulla/bulla/xml/TextPosition", name := "columns", desc := "([BII)J" } : Jvm.MethodName) prog_169_method_13_code (7 : Nat) (Option.some Jvm.ClassFile.FieldType.long)).before args0 about1 = true := code_word (m := ⟨2, 7⟩) (meth := k2m7) (c := k2c7) (by decide +kernel) rfl rfl rfl (by decide +kernel)
def codes1 : List Jvm.Cond := [Jvm.Cond.code x code maxLocals ret, Jvm.Cond.code ({ cls := "com/example/bulla/bulla/xml/TextPosition", name := "<init>", desc := "()V" } : Jvm.MethodName) prog_169_method_1_code (1 : Nat) (Option.none : Option Jvm.ClassFile.FieldType), Jvm.Cond.code ({ cls := "java/lang/Object", name := "<init>", desc := "()V" } : Jvm.MethodName) object_method_1_code (1 : Nat) (Option.none : Option Jvm.ClassFile.FieldType), Jvm.Cond.code ({ cls := "com/example/bulla/bulla/xml/TextPosition", name := "moveOver", desc := "([BII)V" } : Jvm.MethodName) prog_169_method_6_code (4 : Nat) (Option.none : Option Jvm.ClassFile.FieldType), Jvm.Cond.code ({ cls := "com/example/bulla/bulla/xml/TextPosition", name := "move", desc := "([BIIZ)V" } : Jvm.MethodName) prog_169_method_8_code (8 : Nat) (Option.none : Option Jvm.ClassFile.FieldType), Jvm.Cond.code ({ cls := "com/example/bulla/bulla/xml/TextPosition", name := "isSurelyAfter", desc := "(JJ)Z" } : Jvm.MethodName) prog_169_method_5_code (5 : Nat) (Option.some Jvm.ClassFile.FieldType.boolean), Jvm.Cond.code ({ cls := "com/example/bulla/bulla/xml/TextPosition", name := "joinedLineFeeds", desc := "([BIII)I" } : Jvm.MethodName) prog_169_method_10_code (7 : Nat) (Option.some Jvm.ClassFile.FieldType.int), Jvm.Cond.code ({ cls := "com/example/bulla/bulla/xml/TextPosition", name := "isLineEnd", desc := "(B)Z" } : Jvm.MethodName) prog_169_method_12_code (1 : Nat) (Option.some Jvm.ClassFile.FieldType.boolean), Jvm.Cond.code ({ cls := "com/example/bulla/bulla/xml/TextPosition", name := "returnsAlone", desc := "([BII)J" } : Jvm.MethodName) prog_169_method_11_code (8 : Nat) (Option.some Jvm.ClassFile.FieldType.long), Jvm.Cond.code ({ cls := "com/example/bulla/bulla/xml/TextPosition", name := "columns", desc := "([BII)J" } : Jvm.MethodName) prog_169_method_13_code (7 : Nat) (Option.some Jvm.ClassFile.FieldType.long)]
set_option maxRecDepth 65536 in
theorem codes_eq : words1.filter isCode = codes1 := rfl
theorem w_codes : ∀ c ∈ words1.filter isCode, c.before args0 about1 = true := by
  rw [codes_eq]
  intro c hc
  simp only [codes1, List.mem_cons, List.not_mem_nil, or_false] at hc
  rcases hc with rfl | rfl | rfl | rfl | rfl | rfl | rfl | rfl | rfl | rfl
  · exact w_c0
  · exact w_c1
  · exact w_c2
  · exact w_c3
  · exact w_c4
  · exact w_c5
  · exact w_c6
  · exact w_c7
  · exact w_c8
  · exact w_c9
set_option maxRecDepth 65536 in
theorem w_t1 : (words1.take 24).all (fun c => isCode c || c.before args0 about1) = true := by decide +kernel
set_option maxRecDepth 65536 in
theorem w_t2 : ((words1.drop 24).take 24).all (fun c => isCode c || c.before args0 about1) = true := by decide +kernel
set_option maxRecDepth 65536 in
theorem w_t3 : ((words1.drop 24).drop 24).all (fun c => isCode c || c.before args0 about1) = true := by decide +kernel
theorem w_tables : (allAtoms (Jvm.Cond.code x code maxLocals ret :: tables_1)).before args0 about1 = true := by
  rw [allAtoms_all]
  show words1.all (fun c => c.before args0 about1) = true
  refine all_split ?_ w_codes
  rw [← List.take_append_drop 24 words1, List.all_append, w_t1, ← List.take_append_drop 24 (words1.drop 24), List.all_append, w_t2, w_t3]
  rfl
set_option maxRecDepth 65536 in
theorem w_case : (Jvm.Cond.and given_1 narrow_1).before args0 about1 = true := by decide +kernel
theorem w_applies : (headSpec (Jvm.Cond.code x code maxLocals ret :: tables_1) room_1).applies x e0.platform about1 = true :=
  (Spec.applies_iff w_frames).mpr ⟨w_running, w_runnable, w_alone, w_named, w_hears, w_ripe, w_room, w_tables⟩
theorem atStart : AtStart classFile x code maxLocals ret World_1 tables_1 room_1 Calls_1 rest_1 Pre_1 launch0 p0 e0 about1 theMethod args0 below0 :=
  ⟨lists_1, trivial, launch0.admits_env _ _ _, launch0.least_env, fairChoices_fair.cas, fairChoices_fair.clock, w_frames, w_args, w_heap, w_applies, trivial, trivial, w_case⟩
end start1
theorem witness_1 : WitnessClaimed_1 := ⟨start1.p0, start1.e0, start1.about1, start1.theMethod, start1.args0, start1.below0, start1.atStart⟩
end Jvm.Pilot.@@N@@
