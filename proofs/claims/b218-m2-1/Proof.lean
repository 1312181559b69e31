import JvmDerived
import JvmDerived.Pilot.@@N@@Statement
import JvmDerived.Pilot.@@N@@Code
set_option linter.unusedVariables false
set_option linter.unusedSimpArgs false
namespace Jvm.RoadKit
open Sem ClassFile Op Lib Jvm.Stand Jvm.Free Jvm.LawKit
section New
variable {p : Program} {l : Launch} {e : Env} {R : Room} {s : State} {m : MethodId} {args : Array Value} {below : List Frame} {meth : Method} {c : Code} {T : State} {locs : List Loc} {cells slots : Nat}
theorem retI (X : Stand p l e R s m args below meth c T locs cells slots) (hx : p.tables.exec = Jvm.exec) {pc : Nat} {Ls : Array Slot} {z : Int32} {rest : List Value} (hret : meth.sig.returnType = some .int) (hd : decode c.code pc = .ok (.ireturn, 1)) {fs : List Frame}
    (hl : ∀ (f : JFrame) (acts : List Action), f.method = m → f.locked = none → f.entered = [] → (doReturn e (T.setTop f) acts (some (.int z))).1 = T.setFrames fs) : Steps p.tables e below (T.setTop (mkF m pc Ls (.int z :: rest))) (T.setFrames fs) := by
  have hm' : T.vm.method? m = some meth := X.method'
  have hn : narrow .int (.int z) = .int z := rfl
  show Steps p.tables e below (T.setTop { method := m, pc := pc, locals := Ls, stack := _ :: rest, locked := none }) _
  jvm_step X.here [X.here.top, hx, hd, hm', hret, hn]
  first | (intro acts; rw [hl _ acts rfl rfl rfl]) | rw [hl _ _ rfl rfl rfl]
  exact Steps.refl _
end New
end Jvm.RoadKit
namespace Jvm.Pilot.@@N@@
open Jvm Jvm.ClassFile Sem Op Lib Jvm.Free Jvm.Stand Jvm.LawKit Jvm.RoadKit Bundle Jvm.Pilot.@@N@@.Jvm.D
section Own
variable {p : Program} {l : Launch} {e : Env} {R : Room} {s : State} {m : MethodId} {args : Array Value} {below : List Frame} {meth : Method} {c : Code} {T : State} {n0 C S : Nat} {Z : State} {a0 : Array Value} {h h' : Heap} {P : State → Outcome → Prop} {Q : Option Value → Heap → Prop}
/-- from U the run comes to an end at which P holds -/
def own_Go (p : Program) (e : Env) (below : List Frame) (P : State → Outcome → Prop) (U : State) : Prop := ∃ t o, Steps p.tables e below U t ∧ P t o
theorem own_st {U U' : State} (k : ∀ t, Steps p.tables e below U' t → Steps p.tables e below U t) (g : own_Go p e below P U') : own_Go p e below P U := by
  obtain ⟨t, o, a, b⟩ := g; exact ⟨t, o, k t a, b⟩
/-- where the run stands: its state, its heap, how many cells and slots are spent; nothing below n0 was written -/
def own_Sd (p : Program) (l : Launch) (e : Env) (R : Room) (s : State) (m : MethodId) (args : Array Value) (below : List Frame) (meth : Method) (c : Code) (n0 : Nat) (T : State) (h : Heap) (C S : Nat) : Prop :=
  ∃ locs, Stand p l e R s m args below meth c T locs C S ∧ Fr n0 locs ∧ T.heap = h ∧ n0 ≤ s.heap.size ∧ s.heap.size ≤ h.size
theorem own_Sd.here (X : own_Sd p l e R s m args below meth c n0 T h C S) : At T m c below := by obtain ⟨_, X, _⟩ := X; exact X.here
theorem own_Sd.ge0 (X : own_Sd p l e R s m args below meth c n0 T h C S) : n0 ≤ h.size := by obtain ⟨_, _, _, _, h1, h2⟩ := X; exact Nat.le_trans h1 h2
theorem own_Sd.more (X : own_Sd p l e R s m args below meth c n0 T h C S) {C' S' : Nat} (hc : C ≤ C') (hs : S ≤ S') : own_Sd p l e R s m args below meth c n0 T h C' S' := by
  obtain ⟨L, X, r⟩ := X; exact ⟨L, X.more hc hs, r⟩
/-- what the body of one method knows of itself -/
def own_Cx (p : Program) (s : State) (m : MethodId) (meth : Method) (c : Code) (Z : State) (bytes : ByteArray) (maxL : Nat) (y : MethodName) (ret : Option FieldType) : Prop :=
  p.tables.exec = Jvm.exec ∧ c.code = bytes ∧ c.maxLocals = maxL ∧ s.vm.findClass y.cls = some m.cls ∧ meth.name = y.name ∧ meth.sig.returnType = ret ∧ meth.locks = false ∧ Z.Warmed39 s.vm
def own_End (below : List Frame) (s : State) (R : Room) (n0 : Nat) (Q : Option Value → Heap → Prop) (t : State) (o : Outcome) : Prop :=
  t.status = .running ∧ Ended t below o ∧ ∃ v L, o = .returned v ∧ (Q v t.heap ∧ s.heap.size ≤ t.heap.size ∧ Fr n0 L) ∧ FrameEnd s o t L R.cells R.slots
/-- a method's contract: on these arguments, at this heap, it returns so that Q -/
def own_Met (l : Launch) (Z : State) (y : MethodName) (bytes : ByteArray) (maxL : Nat) (ret : Option FieldType) (rm : Room) (as' : Array Value) (h0 : Heap) (n0 : Nat) (Q : Option Value → Heap → Prop) : Prop :=
  ∀ ws, MetFree l y (head1 (Jvm.Cond.code y bytes maxL ret :: ws) rm) (fun a U => a = as' ∧ Z.Warmed39 U.vm ∧ U.heap = h0) (fun _ _ _ _ _ => True)
    (fun _ U o U' => ∃ v L, o = .returned v ∧ (Q v U'.heap ∧ h0.size ≤ U'.heap.size ∧ Fr n0 L) ∧ FrameEnd U o U' L rm.cells rm.slots)
theorem own_body {y : MethodName} {bytes : ByteArray} {maxL : Nat} {ret : Option FieldType} {rm : Room} {as' : Array Value} {h0 : Heap} {Ls : Array Slot} (hpl : plainFor y = true) (hfr : ∀ m, entryFrame m as' maxL = mkF m 0 Ls []) (hn : n0 ≤ h0.size)
    (B : ∀ (p : Program) (e : Env) (s : State) (m : MethodId) (below : List Frame) (meth : Method) (c : Code) (T : State), own_Cx p s m meth c Z bytes maxL y ret → own_Sd p l e rm s m as' below meth c n0 T h0 0 0 → own_Go p e below (own_End below s rm n0 Q) (T.setTop (mkF m 0 Ls []))) :
    own_Met l Z y bytes maxL ret rm as' h0 n0 Q := by
  intro ws
  refine MetFree.of_bodySF hpl hisR ?_
  intro p e s m args below meth c s₁ Bd hml0 hP hK
  obtain ⟨rfl, hZ, hh⟩ := hP
  have X0 : Stand p l e rm s m args below meth c s₁ [] 0 0 := Stand.of_body Bd
  have e0 : s₁.heap = h0 := by rw [← hh, Bd.state]; rfl
  have hs : s.heap.size = h0.size := by rw [hh]
  obtain ⟨t, o, st, h1, h2, v, L, h3, h4, h5⟩ := B p e s m below meth c s₁ ⟨Bd.exec, Bd.bytes, hml0, findClass_of_methodNamed Bd.named, (name_of_methodNamed Bd.named Bd.method).1, Bd.returns, Bd.notSynchronized, hZ⟩ ⟨[], X0, Fr.nil n0, e0, by rw [hs]; exact hn, by rw [hs]; exact Nat.le_refl _⟩
  rw [hs] at h4
  exact ⟨t, o, castTop (hfr m) st, h1, h2, v, L, h3, h4, h5⟩
theorem own_fin (X : own_Sd p l e R s m args below meth c n0 T h C S) (hlk : meth.locks = false) {v : Option Value} (hv : meth.sig.returnType = none → v = none) (hC : C ≤ R.cells) (hS : S ≤ R.slots) (q : Q v h) {U : State}
    (k : ∀ (T' : State) (locs : List Loc) (fs : List Frame), T' = T → Stand p l e R s m args below meth c T locs C S → (∀ (f : JFrame) (acts : List Action), f.method = m → f.locked = none → f.entered = [] → (doReturn e (T.setTop f) acts v).1 = T.setFrames fs) → Steps p.tables e below U (T.setFrames fs)) : own_Go p e below (own_End below s R n0 Q) U := by
  obtain ⟨L, X, N, eT, hn, hs⟩ := X
  obtain ⟨fs, hr, hrun, hended, hW, hsame⟩ := X.leave (v := v) hv hlk
  have e1 : (T.setFrames fs).heap = h := eT
  refine ⟨_, _, k T L fs rfl X hr, hrun, hended, v, L, rfl, ⟨?_, ?_, N⟩, ⟨_, rfl⟩, hW, hsame.mono hC hS⟩
  · rw [e1]; exact q
  · rw [e1]; exact hs
theorem own_retI (X : own_Sd p l e R s m args below meth c n0 T h C S) (hx : p.tables.exec = Jvm.exec) (hret : meth.sig.returnType = some .int) (hlk : meth.locks = false) {pc : Nat} {Ls : Array Slot} {z : Int32} {rest : List Value} (hd : decode c.code pc = .ok (.ireturn, 1)) (hC : C ≤ R.cells) (hS : S ≤ R.slots) (q : Q (some (.int z)) h) :
    own_Go p e below (own_End below s R n0 Q) (T.setTop (mkF m pc Ls (.int z :: rest))) :=
  own_fin X hlk (fun h => by rw [hret] at h; cases h) hC hS q fun _ _ _ _ X hr => retI X hx hret hd hr
theorem own_retN (X : own_Sd p l e R s m args below meth c n0 T h C S) (hx : p.tables.exec = Jvm.exec) {t : FieldType} (hret : meth.sig.returnType = some t) (ht : t = .boolean ∨ t = .byte ∨ t = .char ∨ t = .short) (hlk : meth.locks = false) {pc : Nat} {Ls : Array Slot} {z : Int32} {rest : List Value} (hd : decode c.code pc = .ok (.ireturn, 1)) (hC : C ≤ R.cells) (hS : S ≤ R.slots) (q : Q (some (.int (nar t z))) h) :
    own_Go p e below (own_End below s R n0 Q) (T.setTop (mkF m pc Ls (.int z :: rest))) :=
  own_fin X hlk (fun h => by rw [hret] at h; cases h) hC hS q fun _ _ _ _ X hr => retN X hx hret ht hd hr
theorem own_retJ (X : own_Sd p l e R s m args below meth c n0 T h C S) (hx : p.tables.exec = Jvm.exec) (hret : meth.sig.returnType = some .long) (hlk : meth.locks = false) {pc : Nat} {Ls : Array Slot} {z : Int64} {rest : List Value} (hd : decode c.code pc = .ok (.lreturn, 1)) (hC : C ≤ R.cells) (hS : S ≤ R.slots) (q : Q (some (.long z)) h) :
    own_Go p e below (own_End below s R n0 Q) (T.setTop (mkF m pc Ls (.long z :: rest))) :=
  own_fin X hlk (fun h => by rw [hret] at h; cases h) hC hS q fun _ _ _ _ X hr => retOut X hx hret rfl (Or.inr (Or.inl ⟨rfl, rfl, z, rfl⟩)) hd hr
theorem own_retA (X : own_Sd p l e R s m args below meth c n0 T h C S) (hx : p.tables.exec = Jvm.exec) {t : FieldType} (hret : meth.sig.returnType = some t) (ht : t.isReference = true) (hlk : meth.locks = false) {pc : Nat} {Ls : Array Slot} {w : Value} (hw : w.isRef = true) (hn : narrow t w = w) {rest : List Value} (hd : decode c.code pc = .ok (.areturn, 1)) (hC : C ≤ R.cells) (hS : S ≤ R.slots) (q : Q (some w) h) :
    own_Go p e below (own_End below s R n0 Q) (T.setTop (mkF m pc Ls (w :: rest))) :=
  own_fin X hlk (fun h => by rw [hret] at h; cases h) hC hS q fun _ _ _ _ X hr => retOut X hx hret hn (Or.inr (Or.inr (Or.inr (Or.inr ⟨rfl, ht, hw⟩)))) hd hr
theorem own_retV (X : own_Sd p l e R s m args below meth c n0 T h C S) (hx : p.tables.exec = Jvm.exec) (hret : meth.sig.returnType = none) (hlk : meth.locks = false) {pc : Nat} {Ls : Array Slot} (hd : decode c.code pc = .ok (.return_, 1)) (hC : C ≤ R.cells) (hS : S ≤ R.slots) (q : Q none h) :
    own_Go p e below (own_End below s R n0 Q) (T.setTop (mkF m pc Ls [])) :=
  own_fin X hlk (fun _ => rfl) hC hS q fun _ _ _ _ X hr => X.returnOut hx hret hd hr
/-! single steps that want a Stand -/
theorem own_irem (X : own_Sd p l e R s m args below meth c n0 T h C S) (hx : p.tables.exec = Jvm.exec) {g : JFrame} {x y : Int32} {rest : List Value} (hd : decode c.code g.pc = .ok (.irem, 1)) (hs : g.stack = .int y :: .int x :: rest) (hy : y ≠ 0) (hg : g.method = m)
    (k : own_Go p e below P (T.setTop { g with pc := g.pc + 1, stack := .int (x % y) :: rest })) : own_Go p e below P (T.setTop g) := by
  obtain ⟨_, X, _⟩ := X; exact own_st (fun _ q => iremM X hx hg hd hs hy q) k
theorem own_ldc (X : own_Sd p l e R s m args below meth c n0 T h C S) (hx : p.tables.exec = Jvm.exec) (hZ : Z.Warmed39 s.vm) {own : String} {index : Nat} {v : Int32} (hown : s.vm.findClass own = some m.cls) (w : (Cond.constant own index v).before a0 Z = true) {g : JFrame} (hg : g.method = m) (hd : decode c.code g.pc = .ok (.ldc index, 2))
    (k : own_Go p e below P (T.setTop { g with pc := g.pc + 2, stack := .int v :: g.stack })) : own_Go p e below P (T.setTop g) := by
  obtain ⟨_, X, _⟩ := X; exact own_st (fun _ q => X.ldcInt hx hown (mvT hZ w) hg hd _ q) k
theorem own_ldc2 (X : own_Sd p l e R s m args below meth c n0 T h C S) (hx : p.tables.exec = Jvm.exec) (hZ : Z.Warmed39 s.vm) {own : String} {index : Nat} {v : Int64} (hown : s.vm.findClass own = some m.cls) (w : (Cond.constantLong own index v).before a0 Z = true) {g : JFrame} (hg : g.method = m) (hd : decode c.code g.pc = .ok (.ldc2_w index, 3))
    (k : own_Go p e below P (T.setTop { g with pc := g.pc + 3, stack := .long v :: g.stack })) : own_Go p e below P (T.setTop g) := by
  obtain ⟨_, X, _⟩ := X; exact own_st (fun _ q => X.ldc2Long hx hown (mvT hZ w) hg hd _ q) k
theorem own_acmp (X : own_Sd p l e R s m args below meth c n0 T h C S) (hx : p.tables.exec = Jvm.exec) {g : JFrame} (hg : g.method = m) {cd : ACond} {x y : Value} (h1 : x.isRef = true) (h2 : y.isRef = true) {rest : List Value} {o : Int} {pc0 pc' : Nat} {same : Bool} (hpc : g.pc = pc0) (hd : decode c.code g.pc = .ok (.if_acmp cd o, 3)) (hs : g.stack = y :: x :: rest) (hsame : decide (x = y) = same) (ho : 0 ≤ (pc0 : Int) + o) (hp : pc' = if acV cd same then ((pc0 : Int) + o).toNat else pc0 + 3)
    (k : own_Go p e below P (T.setTop { g with pc := pc', stack := rest })) : own_Go p e below P (T.setTop g) := by
  obtain ⟨_, X, _⟩ := X; exact own_st (fun _ q => Jvm.RoadKit.acmp X hx hg h1 h2 hpc hd hs hsame ho hp q) k
theorem own_lrem (X : own_Sd p l e R s m args below meth c n0 T h C S) (hx : p.tables.exec = Jvm.exec) {g : JFrame} {x y : Int64} {rest : List Value} (hd : decode c.code g.pc = .ok (.lrem, 1)) (hs : g.stack = .long y :: .long x :: rest) (hy : y ≠ 0) (hg : g.method = m)
    (k : own_Go p e below P (T.setTop { g with pc := g.pc + 1, stack := .long (x % y) :: rest })) : own_Go p e below P (T.setTop g) :=
  own_st (fun _ q => XS.lrem X.here hx hg hd hs hy (by rw [lrem_mod]; exact q)) k
theorem own_dupX2 (X : own_Sd p l e R s m args below meth c n0 T h C S) (hx : p.tables.exec = Jvm.exec) {g : JFrame} {x y z : Value} {rest : List Value} (hd : decode c.code g.pc = .ok (.dup_x2, 1)) (hs : g.stack = x :: y :: z :: rest) (h1 : x.category = 1) (h2 : y.category = 1) (h3 : z.category = 1) (hg : g.method = m)
    (k : own_Go p e below P (T.setTop { g with pc := g.pc + 1, stack := x :: y :: z :: x :: rest })) : own_Go p e below P (T.setTop g) := by
  refine own_st (fun t q => ?_) k
  subst hg
  have h := X.here
  jvm_step h [h.top, hx, hd, hs, h1, h2, h3]
  exact q
/-! fields, objects -/
theorem own_getF (X : own_Sd p l e R s m args below meth c n0 T h C S) (hx : p.tables.exec = Jvm.exec) (hZ : Z.Warmed39 s.vm) {own O n d : String} {index : Nat} (hown : s.vm.findClass own = some m.cls) (w : (Cond.fieldLink own index O n d).before a0 Z = true) {a : Addr} {v : Value} (F : Fld Z h a O n d v) {g : JFrame} (hg : g.method = m) {rest : List Value} (hs : g.stack = .ref a :: rest) (hd : decode c.code g.pc = .ok (.getfield index, 3))
    (k : ∀ T', own_Sd p l e R s m args below meth c n0 T' h C S → own_Go p e below P (T'.setTop { g with pc := g.pc + 3, stack := v :: rest })) : own_Go p e below P (T.setTop g) := by
  obtain ⟨L, X, N, eT, r⟩ := X
  obtain ⟨T', X', e', st⟩ := getF X hx hZ hown (host := "") (Or.inl w) Via.refl eT F hg hs hd
  exact own_st st (k T' ⟨L, X', N, e', r⟩)
theorem own_putF (X : own_Sd p l e R s m args below meth c n0 T h C S) (hx : p.tables.exec = Jvm.exec) (hZ : Z.Warmed39 s.vm) {own O n d K : String} {index kk : Nat} {ty : FieldType} (hown : s.vm.findClass own = some m.cls) (w : (Cond.fieldLink own index O n d).before a0 Z = true) {a : Addr} {v v' old : Value} (F : Fld Z h a O n d old) (E : Exa Z h a K) (L : (Cond.lays K O n d).before a0 Z = true ∨ ((Cond.laysFinal K O n d).before a0 Z = true ∧ own = O ∧ meth.name = "<init>")) (wi : (Cond.instantiable K kk).before a0 Z = true)
    (hty : parseFieldDescriptor d = some ty) (hn : narrow ty v = v') (hf : fits ty v' = true) (ga : n0 ≤ a) {g : JFrame} (hg : g.method = m) {rest : List Value} (hs : g.stack = v :: .ref a :: rest) (hd : decode c.code g.pc = .ok (.putfield index, 3))
    (k : ∀ T' h', own_Sd p l e R s m args below meth c n0 T' h' C S → Wr h h' a (Jvm.RoadKit.slotOf Z O n d) v' → own_Go p e below P (T'.setTop { g with pc := g.pc + 3, stack := rest })) : own_Go p e below P (T.setTop g) := by
  obtain ⟨L0, X, N, eT, r1, r2⟩ := X
  obtain ⟨T', h', X', e', W, st⟩ := putFN X hx hZ hown w Via.refl eT F E L wi hty hn hf hg hs hd
  exact own_st st (k T' h' ⟨_, X', Fr.snoc X' N ga, e', r1, by rw [W.size]; exact r2⟩ W)
theorem own_newO (X : own_Sd p l e R s m args below meth c n0 T h C S) (hx : p.tables.exec = Jvm.exec) (hZ : Z.Warmed39 s.vm) {own K : String} {index n : Nat} (hown : s.vm.findClass own = some m.cls) (w : (Cond.classLink own index K).before a0 Z = true) (wi : (Cond.instantiable K n).before a0 Z = true) (wz : (Cond.initialized K).before a0 Z = true)
    {g : JFrame} (hg : g.method = m) (hd : decode c.code g.pc = .ok (.new index, 3)) (hc : C + 1 ≤ R.cells) (hl : S + n ≤ R.slots)
    (k : ∀ T' h' b, b = h.size → n0 ≤ b → own_Sd p l e R s m args below meth c n0 T' h' (C + 1) (S + n) → Ext h h' → Exa Z h' b K → (∀ {O nm d : String} {ty : FieldType}, Laid Z a0 K O nm d → parseFieldDescriptor d = some ty → Fld Z h' b O nm d (defaultValue ty)) → own_Go p e below P (T'.setTop { g with pc := g.pc + 3, stack := .ref b :: g.stack })) : own_Go p e below P (T.setTop g) := by
  have hn := X.ge0
  obtain ⟨L, X, N, eT, r1, r2⟩ := X
  obtain ⟨T', h', X', e', E, A, D, -, st⟩ := newO X hx hZ hown w wi wz eT hg hd hc hl
  exact own_st st (k T' h' h.size rfl hn ⟨L, X', N, e', r1, Nat.le_trans r2 E.1⟩ E A D)
theorem own_initO (X : own_Sd p l e R s m args below meth c n0 T h C S) (hx : p.tables.exec = Jvm.exec) (hZ : Z.Warmed39 s.vm) {own : String} {idx : Nat} (hown : s.vm.findClass own = some m.cls) (w1 : (Cond.methodLink own idx Lib.objectInit).before a0 Z = true) (w2 : (Cond.instanceMethod Lib.objectInit).before a0 Z = true)
    (w3 : (Cond.code Lib.objectInit ⟨#[0xb1]⟩ 1 none).before a0 Z = true) {g : JFrame} (hg : g.method = m) (hsize : g.locals.size = c.maxLocals) {a : Addr} {rest : List Value} (hs : g.stack = .ref a :: rest) (hd : decode c.code g.pc = .ok (.invokespecial idx, 3))
    (hf : 1 ≤ R.frames) {W : Nat} (hW : 2 * g.monitorRoom + (rest.map fun v => v.category).sum ≤ W) (hl : W + 12 ≤ R.locals)
    (k : ∀ T', own_Sd p l e R s m args below meth c n0 T' h C S → own_Go p e below P (T'.setTop { g with pc := g.pc + 3, stack := rest })) : own_Go p e below P (T.setTop g) := by
  obtain ⟨L, X, N, eT, r⟩ := X
  obtain ⟨T', X', e', st⟩ := initO X hx hZ hown w1 w2 w3 eT hg hsize hs hd hf hW hl
  exact own_st st (k T' ⟨L, X', N, e', r⟩)
/-! calls -/
theorem own_back {y : MethodName} {bytes : ByteArray} {maxL : Nat} {ret : Option FieldType} {rm : Room} {as' : Array Value} {len W : Nat} (hM : own_Met l Z y bytes maxL ret rm as' h n0 Q) (hZ : Z.Warmed39 s.vm) (wc : (Cond.code y bytes maxL ret).before a0 Z = true) (wz : (Cond.initialized y.cls).before a0 Z = true) (hf : rm.frames + 1 ≤ R.frames) (hl : W + (maxL + 11) + rm.locals ≤ R.locals) :
    Back l R p e below s args y len W (fun A a => a = as' ∧ A.U.heap = h ∧ A.cells + rm.cells ≤ R.cells ∧ A.slots + rm.slots ≤ R.slots) (fun A _ v B => ∃ L, (Q v B.U.heap ∧ h.size ≤ B.U.heap.size ∧ Fr n0 L) ∧ B.locs = A.locs ++ L ∧ B.cells = A.cells + rm.cells ∧ B.slots = A.slots + rm.slots) :=
  backOf (Q := fun v h' L => Q v h' ∧ h.size ≤ h'.size ∧ Fr n0 L) (hM []) hZ wc wz hf hl
theorem own_callS (X : own_Sd p l e R s m args below meth c n0 T h C S) (hx : p.tables.exec = Jvm.exec) (hZ : Z.Warmed39 s.vm) {own : String} {index : Nat} {y : MethodName} {bytes : ByteArray} {maxL : Nat} {ret : Option FieldType} (hown : s.vm.findClass own = some m.cls)
    (w1 : (Cond.methodLink own index y).before a0 Z = true) (w2 : (Cond.static y).before a0 Z = true) (w3 : (Cond.initialized y.cls).before a0 Z = true) (w4 : (Cond.code y bytes maxL ret).before a0 Z = true) (hy : y.cls ≠ "java/lang/invoke/MethodHandle" ∧ y.cls ≠ "java/lang/invoke/VarHandle")
    {rm : Room} {as' : Array Value} (hM : own_Met l Z y bytes maxL ret rm as' h n0 Q) (hf : rm.frames + 1 ≤ R.frames) {W : Nat} (hlo : W + (maxL + 11) + rm.locals ≤ R.locals) {g : JFrame} (hg : g.method = m) (hsize : g.locals.size = c.maxLocals) {argsL rest : List Value} (hlen : ∀ sig, parseMethodDescriptor y.desc = some sig → argsL.length = sig.parameters.length) (has : argsL.toArray = as')
    (hstack : g.stack = argsL.reverse ++ rest) (hW : 2 * g.monitorRoom + (rest.map fun v => v.category).sum ≤ W) (hd : decode c.code g.pc = .ok (.invokestatic index, 3)) (hc : C + rm.cells ≤ R.cells) (hs : S + rm.slots ≤ R.slots)
    (k : ∀ v T' h', own_Sd p l e R s m args below meth c n0 T' h' (C + rm.cells) (S + rm.slots) → Q v h' → own_Go p e below P (T'.setTop { g with pc := g.pc + 3, stack := v.toList ++ rest })) : own_Go p e below P (T.setTop g) := by
  obtain ⟨L, X, N, eT, r1, r2⟩ := X
  obtain ⟨v, _, ⟨T', L', k', n'⟩, -, X', ⟨Lc, ⟨hQ, hsz, hN⟩, e1, e2, e3⟩, st⟩ := Jvm.LawKit.callS X hx hown (mvT hZ w1) (mvT hZ w2) (mvT hZ w3) (mvT hZ w4) hy (own_back (W := W) hM hZ w4 w3 hf hlo) hg hsize hlen hstack hW hd (fun _ _ => ⟨has, eT, hc, hs⟩)
  dsimp only [Pt.U, Pt.locs, Pt.cells, Pt.slots] at X' e1 e2 e3 st hQ hsz
  subst e1 e2 e3
  exact own_st st (k v T' T'.heap ⟨_, X', Fr.app N hN, rfl, r1, Nat.le_trans r2 hsz⟩ hQ)
theorem own_callC (X : own_Sd p l e R s m args below meth c n0 T h C S) (hx : p.tables.exec = Jvm.exec) (hZ : Z.Warmed39 s.vm) {own : String} {index : Nat} {y : MethodName} {bytes : ByteArray} {maxL : Nat} (hy1 : y.name = "<init>") (hown : s.vm.findClass own = some m.cls)
    (w1 : (Cond.methodLink own index y).before a0 Z = true) (w2 : (Cond.instanceMethod y).before a0 Z = true) (w3 : (Cond.initialized y.cls).before a0 Z = true) (w4 : (Cond.code y bytes maxL none).before a0 Z = true) (hy : y.cls ≠ "java/lang/invoke/MethodHandle" ∧ y.cls ≠ "java/lang/invoke/VarHandle")
    {rm : Room} {as' : Array Value} (hM : own_Met l Z y bytes maxL none rm as' h n0 Q) (hf : rm.frames + 1 ≤ R.frames) {W : Nat} (hlo : W + (maxL + 11) + rm.locals ≤ R.locals) {g : JFrame} (hg : g.method = m) (hsize : g.locals.size = c.maxLocals) {a : Addr} {argsL rest : List Value} (hlen : ∀ sig, parseMethodDescriptor y.desc = some sig → argsL.length = sig.parameters.length) (has : (.ref a :: argsL).toArray = as')
    (hstack : g.stack = argsL.reverse ++ .ref a :: rest) (hW : 2 * g.monitorRoom + (rest.map fun v => v.category).sum ≤ W) (hd : decode c.code g.pc = .ok (.invokespecial index, 3)) (hc : C + rm.cells ≤ R.cells) (hs : S + rm.slots ≤ R.slots)
    (k : ∀ v T' h', own_Sd p l e R s m args below meth c n0 T' h' (C + rm.cells) (S + rm.slots) → Q v h' → own_Go p e below P (T'.setTop { g with pc := g.pc + 3, stack := v.toList ++ rest })) : own_Go p e below P (T.setTop g) := by
  obtain ⟨L, X, N, eT, r1, r2⟩ := X
  obtain ⟨v, _, ⟨T', L', k', n'⟩, -, X', ⟨Lc, ⟨hQ, hsz, hN⟩, e1, e2, e3⟩, st⟩ := X.specialBack hx hy1 hown (mvT hZ w1) (mvT hZ w2) (mvT hZ w4) hy (own_back (W := W) hM hZ w4 w3 hf hlo) hg hsize (Steps.refl _) hlen hstack hW hd (fun _ _ => ⟨has, eT, hc, hs⟩)
  dsimp only [Pt.U, Pt.locs, Pt.cells, Pt.slots] at X' e1 e2 e3 st hQ hsz
  subst e1 e2 e3
  exact own_st (fun _ q => st.trans q) (k v T' T'.heap ⟨_, X', Fr.app N hN, rfl, r1, Nat.le_trans r2 hsz⟩ hQ)
theorem own_callV (X : own_Sd p l e R s m args below meth c n0 T h C S) (hx : p.tables.exec = Jvm.exec) (hZ : Z.Warmed39 s.vm) {own K : String} {index : Nat} {y : MethodName} {bytes : ByteArray} {maxL : Nat} {ret : Option FieldType} (hown : s.vm.findClass own = some m.cls)
    (w1 : (Cond.methodLink own index y).before a0 Z = true) (w2 : (Cond.declares y).before a0 Z = true) (w5 : (Cond.selects K y y).before a0 Z = true) (w6 : (Cond.instanceMethod y).before a0 Z = true) (w3 : (Cond.initialized y.cls).before a0 Z = true) (w4 : (Cond.code y bytes maxL ret).before a0 Z = true) (hy : y.cls ≠ "java/lang/invoke/MethodHandle" ∧ y.cls ≠ "java/lang/invoke/VarHandle")
    {a : Addr} (E : Exa Z h a K) {rm : Room} {as' : Array Value} (hM : own_Met l Z y bytes maxL ret rm as' h n0 Q) (hf : rm.frames + 1 ≤ R.frames) {W : Nat} (hlo : W + (maxL + 11) + rm.locals ≤ R.locals) {g : JFrame} (hg : g.method = m) (hsize : g.locals.size = c.maxLocals) {argsL rest : List Value} (hlen : ∀ sig, parseMethodDescriptor y.desc = some sig → argsL.length = sig.parameters.length) (has : (.ref a :: argsL).toArray = as')
    (hstack : g.stack = argsL.reverse ++ .ref a :: rest) (hW : 2 * g.monitorRoom + (rest.map fun v => v.category).sum ≤ W) (hd : decode c.code g.pc = .ok (.invokevirtual index, 3)) (hc : C + rm.cells ≤ R.cells) (hs : S + rm.slots ≤ R.slots)
    (k : ∀ v T' h', own_Sd p l e R s m args below meth c n0 T' h' (C + rm.cells) (S + rm.slots) → Q v h' → own_Go p e below P (T'.setTop { g with pc := g.pc + 3, stack := v.toList ++ rest })) : own_Go p e below P (T.setTop g) := by
  obtain ⟨L, X, N, eT, r1, r2⟩ := X
  obtain ⟨cB, kB, q1, q2, q3⟩ := isOf hZ eT E
  obtain ⟨v, _, ⟨T', L', k', n'⟩, -, X', ⟨Lc, ⟨hQ, hsz, hN⟩, e1, e2, e3⟩, st⟩ := X.virtualBack hx hown (mvT hZ w1) (mvT hZ w2) (notFace_of_selects (args := #[]) (mvT hZ w5)) (mvT hZ w5) (mvT hZ w6) hy (own_back (W := W) hM hZ w4 w3 hf hlo) q1 q3 hg hsize (Steps.refl _) hlen hstack hW hd (fun _ _ => ⟨has, eT, hc, hs⟩)
  dsimp only [Pt.U, Pt.locs, Pt.cells, Pt.slots] at X' e1 e2 e3 st hQ hsz
  subst e1 e2 e3
  exact own_st (fun _ q => st.trans q) (k v T' T'.heap ⟨_, X', Fr.app N hN, rfl, r1, Nat.le_trans r2 hsz⟩ hQ)
theorem own_callP (X : own_Sd p l e R s m args below meth c n0 T h C S) (hx : p.tables.exec = Jvm.exec) (hZ : Z.Warmed39 s.vm) {own K K' : String} {index : Nat} {y y' : MethodName} {bytes : ByteArray} {maxL : Nat} {ret : Option FieldType} (hown : s.vm.findClass own = some m.cls)
    (w1 : (Cond.methodLink own index y).before a0 Z = true) (w7 : (Cond.privateMethod y).before a0 Z = true) (w5 : (Cond.selects K y' y').before a0 Z = true) (hyy : y'.cls = y.cls) (w6 : (Cond.instanceMethod y).before a0 Z = true) (w3 : (Cond.initialized y.cls).before a0 Z = true) (w4 : (Cond.code y bytes maxL ret).before a0 Z = true) (hy : y.cls ≠ "java/lang/invoke/MethodHandle" ∧ y.cls ≠ "java/lang/invoke/VarHandle")
    {a : Addr} (E : Exa Z h a K') {rm : Room} {as' : Array Value} (hM : own_Met l Z y bytes maxL ret rm as' h n0 Q) (hf : rm.frames + 1 ≤ R.frames) {W : Nat} (hlo : W + (maxL + 11) + rm.locals ≤ R.locals) {g : JFrame} (hg : g.method = m) (hsize : g.locals.size = c.maxLocals) {argsL rest : List Value} (hlen : ∀ sig, parseMethodDescriptor y.desc = some sig → argsL.length = sig.parameters.length) (has : (.ref a :: argsL).toArray = as')
    (hstack : g.stack = argsL.reverse ++ .ref a :: rest) (hW : 2 * g.monitorRoom + (rest.map fun v => v.category).sum ≤ W) (hd : decode c.code g.pc = .ok (.invokevirtual index, 3)) (hc : C + rm.cells ≤ R.cells) (hs : S + rm.slots ≤ R.slots)
    (k : ∀ v T' h', own_Sd p l e R s m args below meth c n0 T' h' (C + rm.cells) (S + rm.slots) → Q v h' → own_Go p e below P (T'.setTop { g with pc := g.pc + 3, stack := v.toList ++ rest })) : own_Go p e below P (T.setTop g) := by
  obtain ⟨L, X, N, eT, r1, r2⟩ := X
  obtain ⟨c2, q2, m2, -, -, q3, -, kP, hkP, hkPi⟩ := Cond.selects_spec (mvT hZ w5 : (Cond.selects K y' y').before args s = true)
  have hcl := findClass_of_methodNamed q3
  rw [hyy] at hcl
  have hp := Cond.privateMethod_at (mvP hZ w7 (args := #[]))
  have hsel := selects_self_of_private (args := args) hcl hkP hkPi hp (mvT hZ w6) hy
  obtain ⟨cl, h1, h2⟩ := E.cell
  obtain ⟨v, _, ⟨T', L', k', n'⟩, -, X', ⟨Lc, ⟨hQ, hsz, hN⟩, e1, e2, e3⟩, st⟩ := X.privateBack hx hown (mvT hZ w1) (mvT hZ w6) hsel hp (mvT hZ w4) hy (own_back (W := W) hM hZ w4 w3 hf hlo) hg hsize (Steps.refl _) (by rw [eT]; exact h1) h2 hlen hstack hW hd (fun _ _ => ⟨has, eT, hc, hs⟩)
  dsimp only [Pt.U, Pt.locs, Pt.cells, Pt.slots] at X' e1 e2 e3 st hQ hsz
  subst e1 e2 e3
  exact own_st (fun _ q => st.trans q) (k v T' T'.heap ⟨_, X', Fr.app N hN, rfl, r1, Nat.le_trans r2 hsz⟩ hQ)
/-! calls of methods that leave the heap as it is -/
theorem own_callSp (X : own_Sd p l e R s m args below meth c n0 T h C S) (hx : p.tables.exec = Jvm.exec) (hZ : Z.Warmed39 s.vm) {own : String} {index : Nat} {y : MethodName} {bytes : ByteArray} {maxL : Nat} {ret : Option FieldType} (hown : s.vm.findClass own = some m.cls)
    (w1 : (Cond.methodLink own index y).before a0 Z = true) (w2 : (Cond.static y).before a0 Z = true) (w3 : (Cond.initialized y.cls).before a0 Z = true) (w4 : (Cond.code y bytes maxL ret).before a0 Z = true) (hy : y.cls ≠ "java/lang/invoke/MethodHandle" ∧ y.cls ≠ "java/lang/invoke/VarHandle")
    {rm : Room} {as' : Array Value} {r : Option Value} (hM : own_Met l Z y bytes maxL ret rm as' h n0 (fun v' h' => v' = r ∧ h' = h)) (hf : rm.frames + 1 ≤ R.frames) {W : Nat} (hlo : W + (maxL + 11) + rm.locals ≤ R.locals) {g : JFrame} (hg : g.method = m) (hsize : g.locals.size = c.maxLocals) {argsL rest : List Value} (hlen : ∀ sig, parseMethodDescriptor y.desc = some sig → argsL.length = sig.parameters.length) (has : argsL.toArray = as')
    (hstack : g.stack = argsL.reverse ++ rest) (hW : 2 * g.monitorRoom + (rest.map fun v => v.category).sum ≤ W) (hd : decode c.code g.pc = .ok (.invokestatic index, 3)) (hc : C + rm.cells ≤ R.cells) (hs : S + rm.slots ≤ R.slots)
    (k : ∀ T', own_Sd p l e R s m args below meth c n0 T' h (C + rm.cells) (S + rm.slots) → own_Go p e below P (T'.setTop { g with pc := g.pc + 3, stack := r.toList ++ rest })) : own_Go p e below P (T.setTop g) :=
  own_callS X hx hZ hown w1 w2 w3 w4 hy hM hf hlo hg hsize hlen has hstack hW hd hc hs fun v T' h' X' q => by
    obtain ⟨e1, e2⟩ := q; rw [e1]; rw [e2] at X'; exact k T' X'
theorem own_callVp (X : own_Sd p l e R s m args below meth c n0 T h C S) (hx : p.tables.exec = Jvm.exec) (hZ : Z.Warmed39 s.vm) {own K : String} {index : Nat} {y : MethodName} {bytes : ByteArray} {maxL : Nat} {ret : Option FieldType} (hown : s.vm.findClass own = some m.cls)
    (w1 : (Cond.methodLink own index y).before a0 Z = true) (w2 : (Cond.declares y).before a0 Z = true) (w5 : (Cond.selects K y y).before a0 Z = true) (w6 : (Cond.instanceMethod y).before a0 Z = true) (w3 : (Cond.initialized y.cls).before a0 Z = true) (w4 : (Cond.code y bytes maxL ret).before a0 Z = true) (hy : y.cls ≠ "java/lang/invoke/MethodHandle" ∧ y.cls ≠ "java/lang/invoke/VarHandle")
    {a : Addr} (E : Exa Z h a K) {rm : Room} {as' : Array Value} {r : Option Value} (hM : own_Met l Z y bytes maxL ret rm as' h n0 (fun v' h' => v' = r ∧ h' = h)) (hf : rm.frames + 1 ≤ R.frames) {W : Nat} (hlo : W + (maxL + 11) + rm.locals ≤ R.locals) {g : JFrame} (hg : g.method = m) (hsize : g.locals.size = c.maxLocals) {argsL rest : List Value} (hlen : ∀ sig, parseMethodDescriptor y.desc = some sig → argsL.length = sig.parameters.length) (has : (.ref a :: argsL).toArray = as')
    (hstack : g.stack = argsL.reverse ++ .ref a :: rest) (hW : 2 * g.monitorRoom + (rest.map fun v => v.category).sum ≤ W) (hd : decode c.code g.pc = .ok (.invokevirtual index, 3)) (hc : C + rm.cells ≤ R.cells) (hs : S + rm.slots ≤ R.slots)
    (k : ∀ T', own_Sd p l e R s m args below meth c n0 T' h (C + rm.cells) (S + rm.slots) → own_Go p e below P (T'.setTop { g with pc := g.pc + 3, stack := r.toList ++ rest })) : own_Go p e below P (T.setTop g) :=
  own_callV X hx hZ hown w1 w2 w5 w6 w3 w4 hy E hM hf hlo hg hsize hlen has hstack hW hd hc hs fun v T' h' X' q => by
    obtain ⟨e1, e2⟩ := q; rw [e1]; rw [e2] at X'; exact k T' X'
theorem own_callCp (X : own_Sd p l e R s m args below meth c n0 T h C S) (hx : p.tables.exec = Jvm.exec) (hZ : Z.Warmed39 s.vm) {own : String} {index : Nat} {y : MethodName} {bytes : ByteArray} {maxL : Nat} (hy1 : y.name = "<init>") (hown : s.vm.findClass own = some m.cls)
    (w1 : (Cond.methodLink own index y).before a0 Z = true) (w2 : (Cond.instanceMethod y).before a0 Z = true) (w3 : (Cond.initialized y.cls).before a0 Z = true) (w4 : (Cond.code y bytes maxL none).before a0 Z = true) (hy : y.cls ≠ "java/lang/invoke/MethodHandle" ∧ y.cls ≠ "java/lang/invoke/VarHandle")
    {rm : Room} {as' : Array Value} {r : Option Value} (hM : own_Met l Z y bytes maxL none rm as' h n0 (fun v' h' => v' = r ∧ h' = h)) (hf : rm.frames + 1 ≤ R.frames) {W : Nat} (hlo : W + (maxL + 11) + rm.locals ≤ R.locals) {g : JFrame} (hg : g.method = m) (hsize : g.locals.size = c.maxLocals) {a : Addr} {argsL rest : List Value} (hlen : ∀ sig, parseMethodDescriptor y.desc = some sig → argsL.length = sig.parameters.length) (has : (.ref a :: argsL).toArray = as')
    (hstack : g.stack = argsL.reverse ++ .ref a :: rest) (hW : 2 * g.monitorRoom + (rest.map fun v => v.category).sum ≤ W) (hd : decode c.code g.pc = .ok (.invokespecial index, 3)) (hc : C + rm.cells ≤ R.cells) (hs : S + rm.slots ≤ R.slots)
    (k : ∀ T', own_Sd p l e R s m args below meth c n0 T' h (C + rm.cells) (S + rm.slots) → own_Go p e below P (T'.setTop { g with pc := g.pc + 3, stack := r.toList ++ rest })) : own_Go p e below P (T.setTop g) :=
  own_callC X hx hZ hy1 hown w1 w2 w3 w4 hy hM hf hlo hg hsize hlen has hstack hW hd hc hs fun v T' h' X' q => by
    obtain ⟨e1, e2⟩ := q; rw [e1]; rw [e2] at X'; exact k T' X'
theorem own_callPp (X : own_Sd p l e R s m args below meth c n0 T h C S) (hx : p.tables.exec = Jvm.exec) (hZ : Z.Warmed39 s.vm) {own K K' : String} {index : Nat} {y y' : MethodName} {bytes : ByteArray} {maxL : Nat} {ret : Option FieldType} (hown : s.vm.findClass own = some m.cls)
    (w1 : (Cond.methodLink own index y).before a0 Z = true) (w7 : (Cond.privateMethod y).before a0 Z = true) (w5 : (Cond.selects K y' y').before a0 Z = true) (hyy : y'.cls = y.cls) (w6 : (Cond.instanceMethod y).before a0 Z = true) (w3 : (Cond.initialized y.cls).before a0 Z = true) (w4 : (Cond.code y bytes maxL ret).before a0 Z = true) (hy : y.cls ≠ "java/lang/invoke/MethodHandle" ∧ y.cls ≠ "java/lang/invoke/VarHandle")
    {a : Addr} (E : Exa Z h a K') {rm : Room} {as' : Array Value} {r : Option Value} (hM : own_Met l Z y bytes maxL ret rm as' h n0 (fun v' h' => v' = r ∧ h' = h)) (hf : rm.frames + 1 ≤ R.frames) {W : Nat} (hlo : W + (maxL + 11) + rm.locals ≤ R.locals) {g : JFrame} (hg : g.method = m) (hsize : g.locals.size = c.maxLocals) {argsL rest : List Value} (hlen : ∀ sig, parseMethodDescriptor y.desc = some sig → argsL.length = sig.parameters.length) (has : (.ref a :: argsL).toArray = as')
    (hstack : g.stack = argsL.reverse ++ .ref a :: rest) (hW : 2 * g.monitorRoom + (rest.map fun v => v.category).sum ≤ W) (hd : decode c.code g.pc = .ok (.invokevirtual index, 3)) (hc : C + rm.cells ≤ R.cells) (hs : S + rm.slots ≤ R.slots)
    (k : ∀ T', own_Sd p l e R s m args below meth c n0 T' h (C + rm.cells) (S + rm.slots) → own_Go p e below P (T'.setTop { g with pc := g.pc + 3, stack := r.toList ++ rest })) : own_Go p e below P (T.setTop g) :=
  own_callP X hx hZ hown w1 w7 w5 hyy w6 w3 w4 hy E hM hf hlo hg hsize hlen has hstack hW hd hc hs fun v T' h' X' q => by
    obtain ⟨e1, e2⟩ := q; rw [e1]; rw [e2] at X'; exact k T' X'
end Own
section OwnS
variable {p : Program} {l : Launch} {e : Env} {R : Room} {s : State} {m : MethodId} {args : Array Value} {below : List Frame} {meth : Method} {c : Code} {T : State} {n0 C S : Nat} {Z : State} {a0 : Array Value} {h h' : Heap} {P : State → Outcome → Prop} {Q : Option Value → Heap → Prop} {a b : Addr} {ty : FieldType} {vs : List Value} {v : Value} {sl i : Nat}
variable {bytes : ByteArray} {maxL : Nat} {y : MethodName} {ret : Option FieldType} {pc : Nat} {Ls Ls' : Array Slot} {st : List Value}
theorem o_w (hw : ∀ d ∈ tables_1, d.before a0 Z = true) (i : Nat) {d : Jvm.Cond} (q : tables_1[i]? = some d) : d.before a0 Z = true := hw d (List.mem_of_getElem? q)
theorem o_iload (cx : own_Cx p s m meth c Z bytes maxL y ret) (X : own_Sd p l e R s m args below meth c n0 T h C S) {k : Nat} {z : Int32} (hd : decode bytes pc = .ok (.iload k, 2)) (hl : Ls[k]? = some (.val (.int z))) (k : own_Go p e below P (T.setTop (mkF m (pc + 2) Ls (.int z :: st)))) : own_Go p e below P (T.setTop (mkF m pc Ls st)) := by
  obtain ⟨hx, hby, -⟩ := cx
  exact own_st (fun _ q => XS.iload X.here hx rfl (hb hby hd) hl q) k
theorem o_lload (cx : own_Cx p s m meth c Z bytes maxL y ret) (X : own_Sd p l e R s m args below meth c n0 T h C S) {k : Nat} {z : Int64} (hd : decode bytes pc = .ok (.lload k, 2)) (hl : Ls[k]? = some (.val (.long z))) (k : own_Go p e below P (T.setTop (mkF m (pc + 2) Ls (.long z :: st)))) : own_Go p e below P (T.setTop (mkF m pc Ls st)) := by
  obtain ⟨hx, hby, -⟩ := cx
  exact own_st (fun _ q => XS.lload X.here hx rfl (hb hby hd) hl q) k
theorem o_aload (cx : own_Cx p s m meth c Z bytes maxL y ret) (X : own_Sd p l e R s m args below meth c n0 T h C S) {k : Nat} {v : Value} (hd : decode bytes pc = .ok (.aload k, 2)) (hl : Ls[k]? = some (.val v)) (hv : v.isRef = true) (k : own_Go p e below P (T.setTop (mkF m (pc + 2) Ls (v :: st)))) : own_Go p e below P (T.setTop (mkF m pc Ls st)) := by
  obtain ⟨hx, hby, -⟩ := cx
  exact own_st (fun _ q => XS.aload X.here hx rfl (hb hby hd) hl hv q) k
theorem o_istore (cx : own_Cx p s m meth c Z bytes maxL y ret) (X : own_Sd p l e R s m args below meth c n0 T h C S) {k : Nat} {z : Int32} (hd : decode bytes pc = .ok (.istore k, 2)) (hl : storeLocals Ls k (.int z) = some Ls') (k : own_Go p e below P (T.setTop (mkF m (pc + 2) Ls' st))) : own_Go p e below P (T.setTop (mkF m pc Ls (.int z :: st))) := by
  obtain ⟨hx, hby, -⟩ := cx
  exact own_st (fun _ q => XS.istore X.here hx rfl (hb hby hd) rfl hl q) k
theorem o_lstore (cx : own_Cx p s m meth c Z bytes maxL y ret) (X : own_Sd p l e R s m args below meth c n0 T h C S) {k : Nat} {z : Int64} (hd : decode bytes pc = .ok (.lstore k, 2)) (hl : storeLocals Ls k (.long z) = some Ls') (k : own_Go p e below P (T.setTop (mkF m (pc + 2) Ls' st))) : own_Go p e below P (T.setTop (mkF m pc Ls (.long z :: st))) := by
  obtain ⟨hx, hby, -⟩ := cx
  exact own_st (fun _ q => XS.lstore X.here hx rfl (hb hby hd) rfl hl q) k
theorem o_astore (cx : own_Cx p s m meth c Z bytes maxL y ret) (X : own_Sd p l e R s m args below meth c n0 T h C S) {k : Nat} {v : Value} (hd : decode bytes pc = .ok (.astore k, 2)) (hv : v.isRef = true) (hl : storeLocals Ls k v = some Ls') (k : own_Go p e below P (T.setTop (mkF m (pc + 2) Ls' st))) : own_Go p e below P (T.setTop (mkF m pc Ls (v :: st))) := by
  obtain ⟨hx, hby, -⟩ := cx
  exact own_st (fun _ q => XS.astore X.here hx rfl (hb hby hd) rfl hv hl q) k
theorem o_iloadN (cx : own_Cx p s m meth c Z bytes maxL y ret) (X : own_Sd p l e R s m args below meth c n0 T h C S) {k : Fin 4} {z : Int32} (hd : decode bytes pc = .ok (.iload_n k, 1)) (hl : Ls[k.val]? = some (.val (.int z))) (k : own_Go p e below P (T.setTop (mkF m (pc + 1) Ls (.int z :: st)))) : own_Go p e below P (T.setTop (mkF m pc Ls st)) := by
  obtain ⟨hx, hby, -⟩ := cx
  exact own_st (fun _ q => XS.iloadN X.here hx rfl (hb hby hd) hl q) k
theorem o_lloadN (cx : own_Cx p s m meth c Z bytes maxL y ret) (X : own_Sd p l e R s m args below meth c n0 T h C S) {k : Fin 4} {z : Int64} (hd : decode bytes pc = .ok (.lload_n k, 1)) (hl : Ls[k.val]? = some (.val (.long z))) (k : own_Go p e below P (T.setTop (mkF m (pc + 1) Ls (.long z :: st)))) : own_Go p e below P (T.setTop (mkF m pc Ls st)) := by
  obtain ⟨hx, hby, -⟩ := cx
  exact own_st (fun _ q => XS.lloadN X.here hx rfl (hb hby hd) hl q) k
theorem o_aloadN (cx : own_Cx p s m meth c Z bytes maxL y ret) (X : own_Sd p l e R s m args below meth c n0 T h C S) {k : Fin 4} {v : Value} (hd : decode bytes pc = .ok (.aload_n k, 1)) (hl : Ls[k.val]? = some (.val v)) (hv : v.isRef = true) (k : own_Go p e below P (T.setTop (mkF m (pc + 1) Ls (v :: st)))) : own_Go p e below P (T.setTop (mkF m pc Ls st)) := by
  obtain ⟨hx, hby, -⟩ := cx
  exact own_st (fun _ q => XS.aloadN X.here hx rfl (hb hby hd) hl hv q) k
theorem o_istoreN (cx : own_Cx p s m meth c Z bytes maxL y ret) (X : own_Sd p l e R s m args below meth c n0 T h C S) {k : Fin 4} {z : Int32} (hd : decode bytes pc = .ok (.istore_n k, 1)) (hl : storeLocals Ls k.val (.int z) = some Ls') (k : own_Go p e below P (T.setTop (mkF m (pc + 1) Ls' st))) : own_Go p e below P (T.setTop (mkF m pc Ls (.int z :: st))) := by
  obtain ⟨hx, hby, -⟩ := cx
  exact own_st (fun _ q => XS.istoreN X.here hx rfl (hb hby hd) rfl hl q) k
theorem o_lstoreN (cx : own_Cx p s m meth c Z bytes maxL y ret) (X : own_Sd p l e R s m args below meth c n0 T h C S) {k : Fin 4} {z : Int64} (hd : decode bytes pc = .ok (.lstore_n k, 1)) (hl : storeLocals Ls k.val (.long z) = some Ls') (k : own_Go p e below P (T.setTop (mkF m (pc + 1) Ls' st))) : own_Go p e below P (T.setTop (mkF m pc Ls (.long z :: st))) := by
  obtain ⟨hx, hby, -⟩ := cx
  exact own_st (fun _ q => XS.lstoreN X.here hx rfl (hb hby hd) rfl hl q) k
theorem o_astoreN (cx : own_Cx p s m meth c Z bytes maxL y ret) (X : own_Sd p l e R s m args below meth c n0 T h C S) {k : Fin 4} {v : Value} (hd : decode bytes pc = .ok (.astore_n k, 1)) (hv : v.isRef = true) (hl : storeLocals Ls k.val v = some Ls') (k : own_Go p e below P (T.setTop (mkF m (pc + 1) Ls' st))) : own_Go p e below P (T.setTop (mkF m pc Ls (v :: st))) := by
  obtain ⟨hx, hby, -⟩ := cx
  exact own_st (fun _ q => XS.astoreN X.here hx rfl (hb hby hd) rfl hv hl q) k
theorem o_iconst (cx : own_Cx p s m meth c Z bytes maxL y ret) (X : own_Sd p l e R s m args below meth c n0 T h C S) {i : Int} {z : Int32} (hd : decode bytes pc = .ok (.iconst i, 1)) (hz : Int32.ofInt i = z) (k : own_Go p e below P (T.setTop (mkF m (pc + 1) Ls (.int z :: st)))) : own_Go p e below P (T.setTop (mkF m pc Ls st)) := by
  obtain ⟨hx, hby, -⟩ := cx
  exact own_st (fun _ q => XS.iconst X.here hx rfl (hb hby hd) (by rw [hz]; exact q)) k
theorem o_bipush (cx : own_Cx p s m meth c Z bytes maxL y ret) (X : own_Sd p l e R s m args below meth c n0 T h C S) {i : Int} {z : Int32} (hd : decode bytes pc = .ok (.bipush i, 2)) (hz : (Int8.ofInt i).toInt32 = z) (k : own_Go p e below P (T.setTop (mkF m (pc + 2) Ls (.int z :: st)))) : own_Go p e below P (T.setTop (mkF m pc Ls st)) := by
  obtain ⟨hx, hby, -⟩ := cx
  exact own_st (fun _ q => XS.bipush X.here hx rfl (hb hby hd) (by rw [hz]; exact q)) k
theorem o_sipush (cx : own_Cx p s m meth c Z bytes maxL y ret) (X : own_Sd p l e R s m args below meth c n0 T h C S) {i : Int} {z : Int32} (hd : decode bytes pc = .ok (.sipush i, 3)) (hz : (Int16.ofInt i).toInt32 = z) (k : own_Go p e below P (T.setTop (mkF m (pc + 3) Ls (.int z :: st)))) : own_Go p e below P (T.setTop (mkF m pc Ls st)) := by
  obtain ⟨hx, hby, -⟩ := cx
  exact own_st (fun _ q => XS.sipush X.here hx rfl (hb hby hd) (by rw [hz]; exact q)) k
theorem o_lconst (cx : own_Cx p s m meth c Z bytes maxL y ret) (X : own_Sd p l e R s m args below meth c n0 T h C S) {j : Fin 2} {z : Int64} (hd : decode bytes pc = .ok (.lconst j, 1)) (hz : Int64.ofNat j = z) (k : own_Go p e below P (T.setTop (mkF m (pc + 1) Ls (.long z :: st)))) : own_Go p e below P (T.setTop (mkF m pc Ls st)) := by
  obtain ⟨hx, hby, -⟩ := cx
  exact own_st (fun _ q => XS.lconst X.here hx rfl (hb hby hd) (by rw [hz]; exact q)) k
theorem o_aconst_null (cx : own_Cx p s m meth c Z bytes maxL y ret) (X : own_Sd p l e R s m args below meth c n0 T h C S)  (hd : decode bytes pc = .ok (.aconst_null, 1))  (k : own_Go p e below P (T.setTop (mkF m (pc + 1) Ls (.null :: st)))) : own_Go p e below P (T.setTop (mkF m pc Ls st)) := by
  obtain ⟨hx, hby, -⟩ := cx
  exact own_st (fun _ q => XS.aconstNull X.here hx rfl (hb hby hd) q) k
theorem o_iadd (cx : own_Cx p s m meth c Z bytes maxL y ret) (X : own_Sd p l e R s m args below meth c n0 T h C S) {x w z : Int32} (hd : decode bytes pc = .ok (.iadd, 1)) (hz : (x + w) = z) (k : own_Go p e below P (T.setTop (mkF m (pc + 1) Ls (.int z :: st)))) : own_Go p e below P (T.setTop (mkF m pc Ls (.int w :: .int x :: st))) := by
  obtain ⟨hx, hby, -⟩ := cx
  exact own_st (fun _ q => XS.iadd X.here hx rfl (hb hby hd) rfl (by rw [hz]; exact q)) k
theorem o_isub (cx : own_Cx p s m meth c Z bytes maxL y ret) (X : own_Sd p l e R s m args below meth c n0 T h C S) {x w z : Int32} (hd : decode bytes pc = .ok (.isub, 1)) (hz : (x - w) = z) (k : own_Go p e below P (T.setTop (mkF m (pc + 1) Ls (.int z :: st)))) : own_Go p e below P (T.setTop (mkF m pc Ls (.int w :: .int x :: st))) := by
  obtain ⟨hx, hby, -⟩ := cx
  exact own_st (fun _ q => XS.isub X.here hx rfl (hb hby hd) rfl (by rw [hz]; exact q)) k
theorem o_imul (cx : own_Cx p s m meth c Z bytes maxL y ret) (X : own_Sd p l e R s m args below meth c n0 T h C S) {x w z : Int32} (hd : decode bytes pc = .ok (.imul, 1)) (hz : (x * w) = z) (k : own_Go p e below P (T.setTop (mkF m (pc + 1) Ls (.int z :: st)))) : own_Go p e below P (T.setTop (mkF m pc Ls (.int w :: .int x :: st))) := by
  obtain ⟨hx, hby, -⟩ := cx
  exact own_st (fun _ q => XS.imul X.here hx rfl (hb hby hd) rfl (by rw [hz]; exact q)) k
theorem o_iand (cx : own_Cx p s m meth c Z bytes maxL y ret) (X : own_Sd p l e R s m args below meth c n0 T h C S) {x w z : Int32} (hd : decode bytes pc = .ok (.iand, 1)) (hz : (x &&& w) = z) (k : own_Go p e below P (T.setTop (mkF m (pc + 1) Ls (.int z :: st)))) : own_Go p e below P (T.setTop (mkF m pc Ls (.int w :: .int x :: st))) := by
  obtain ⟨hx, hby, -⟩ := cx
  exact own_st (fun _ q => XS.iand X.here hx rfl (hb hby hd) rfl (by rw [hz]; exact q)) k
theorem o_ior (cx : own_Cx p s m meth c Z bytes maxL y ret) (X : own_Sd p l e R s m args below meth c n0 T h C S) {x w z : Int32} (hd : decode bytes pc = .ok (.ior, 1)) (hz : (x ||| w) = z) (k : own_Go p e below P (T.setTop (mkF m (pc + 1) Ls (.int z :: st)))) : own_Go p e below P (T.setTop (mkF m pc Ls (.int w :: .int x :: st))) := by
  obtain ⟨hx, hby, -⟩ := cx
  exact own_st (fun _ q => XS.ior X.here hx rfl (hb hby hd) rfl (by rw [hz]; exact q)) k
theorem o_ixor (cx : own_Cx p s m meth c Z bytes maxL y ret) (X : own_Sd p l e R s m args below meth c n0 T h C S) {x w z : Int32} (hd : decode bytes pc = .ok (.ixor, 1)) (hz : (x ^^^ w) = z) (k : own_Go p e below P (T.setTop (mkF m (pc + 1) Ls (.int z :: st)))) : own_Go p e below P (T.setTop (mkF m pc Ls (.int w :: .int x :: st))) := by
  obtain ⟨hx, hby, -⟩ := cx
  exact own_st (fun _ q => XS.ixor X.here hx rfl (hb hby hd) rfl (by rw [hz]; exact q)) k
theorem o_ishl (cx : own_Cx p s m meth c Z bytes maxL y ret) (X : own_Sd p l e R s m args below meth c n0 T h C S) {x w z : Int32} (hd : decode bytes pc = .ok (.ishl, 1)) (hz : (x <<< (w &&& 31)) = z) (k : own_Go p e below P (T.setTop (mkF m (pc + 1) Ls (.int z :: st)))) : own_Go p e below P (T.setTop (mkF m pc Ls (.int w :: .int x :: st))) := by
  obtain ⟨hx, hby, -⟩ := cx
  exact own_st (fun _ q => XS.ishl X.here hx rfl (hb hby hd) rfl (by rw [hz]; exact q)) k
theorem o_ishr (cx : own_Cx p s m meth c Z bytes maxL y ret) (X : own_Sd p l e R s m args below meth c n0 T h C S) {x w z : Int32} (hd : decode bytes pc = .ok (.ishr, 1)) (hz : (x >>> (w &&& 31)) = z) (k : own_Go p e below P (T.setTop (mkF m (pc + 1) Ls (.int z :: st)))) : own_Go p e below P (T.setTop (mkF m pc Ls (.int w :: .int x :: st))) := by
  obtain ⟨hx, hby, -⟩ := cx
  exact own_st (fun _ q => XS.ishr X.here hx rfl (hb hby hd) rfl (by rw [hz]; exact q)) k
theorem o_iushr (cx : own_Cx p s m meth c Z bytes maxL y ret) (X : own_Sd p l e R s m args below meth c n0 T h C S) {x w z : Int32} (hd : decode bytes pc = .ok (.iushr, 1)) (hz : ((x.toUInt32 >>> (w &&& 31).toUInt32).toInt32) = z) (k : own_Go p e below P (T.setTop (mkF m (pc + 1) Ls (.int z :: st)))) : own_Go p e below P (T.setTop (mkF m pc Ls (.int w :: .int x :: st))) := by
  obtain ⟨hx, hby, -⟩ := cx
  exact own_st (fun _ q => XS.iushr X.here hx rfl (hb hby hd) rfl (by rw [hz]; exact q)) k
theorem o_ladd (cx : own_Cx p s m meth c Z bytes maxL y ret) (X : own_Sd p l e R s m args below meth c n0 T h C S) {x w z : Int64} (hd : decode bytes pc = .ok (.ladd, 1)) (hz : (x + w) = z) (k : own_Go p e below P (T.setTop (mkF m (pc + 1) Ls (.long z :: st)))) : own_Go p e below P (T.setTop (mkF m pc Ls (.long w :: .long x :: st))) := by
  obtain ⟨hx, hby, -⟩ := cx
  exact own_st (fun _ q => XS.ladd X.here hx rfl (hb hby hd) rfl (by rw [hz]; exact q)) k
theorem o_lsub (cx : own_Cx p s m meth c Z bytes maxL y ret) (X : own_Sd p l e R s m args below meth c n0 T h C S) {x w z : Int64} (hd : decode bytes pc = .ok (.lsub, 1)) (hz : (x - w) = z) (k : own_Go p e below P (T.setTop (mkF m (pc + 1) Ls (.long z :: st)))) : own_Go p e below P (T.setTop (mkF m pc Ls (.long w :: .long x :: st))) := by
  obtain ⟨hx, hby, -⟩ := cx
  exact own_st (fun _ q => XS.lsub X.here hx rfl (hb hby hd) rfl (by rw [hz]; exact q)) k
theorem o_lmul (cx : own_Cx p s m meth c Z bytes maxL y ret) (X : own_Sd p l e R s m args below meth c n0 T h C S) {x w z : Int64} (hd : decode bytes pc = .ok (.lmul, 1)) (hz : (x * w) = z) (k : own_Go p e below P (T.setTop (mkF m (pc + 1) Ls (.long z :: st)))) : own_Go p e below P (T.setTop (mkF m pc Ls (.long w :: .long x :: st))) := by
  obtain ⟨hx, hby, -⟩ := cx
  exact own_st (fun _ q => XS.lmul X.here hx rfl (hb hby hd) rfl (by rw [hz]; exact q)) k
theorem o_land (cx : own_Cx p s m meth c Z bytes maxL y ret) (X : own_Sd p l e R s m args below meth c n0 T h C S) {x w z : Int64} (hd : decode bytes pc = .ok (.land, 1)) (hz : (x &&& w) = z) (k : own_Go p e below P (T.setTop (mkF m (pc + 1) Ls (.long z :: st)))) : own_Go p e below P (T.setTop (mkF m pc Ls (.long w :: .long x :: st))) := by
  obtain ⟨hx, hby, -⟩ := cx
  exact own_st (fun _ q => XS.land X.here hx rfl (hb hby hd) rfl (by rw [hz]; exact q)) k
theorem o_lor (cx : own_Cx p s m meth c Z bytes maxL y ret) (X : own_Sd p l e R s m args below meth c n0 T h C S) {x w z : Int64} (hd : decode bytes pc = .ok (.lor, 1)) (hz : (x ||| w) = z) (k : own_Go p e below P (T.setTop (mkF m (pc + 1) Ls (.long z :: st)))) : own_Go p e below P (T.setTop (mkF m pc Ls (.long w :: .long x :: st))) := by
  obtain ⟨hx, hby, -⟩ := cx
  exact own_st (fun _ q => XS.lor X.here hx rfl (hb hby hd) rfl (by rw [hz]; exact q)) k
theorem o_lxor (cx : own_Cx p s m meth c Z bytes maxL y ret) (X : own_Sd p l e R s m args below meth c n0 T h C S) {x w z : Int64} (hd : decode bytes pc = .ok (.lxor, 1)) (hz : (x ^^^ w) = z) (k : own_Go p e below P (T.setTop (mkF m (pc + 1) Ls (.long z :: st)))) : own_Go p e below P (T.setTop (mkF m pc Ls (.long w :: .long x :: st))) := by
  obtain ⟨hx, hby, -⟩ := cx
  exact own_st (fun _ q => XS.lxor X.here hx rfl (hb hby hd) rfl (by rw [hz]; exact q)) k
theorem o_lshl (cx : own_Cx p s m meth c Z bytes maxL y ret) (X : own_Sd p l e R s m args below meth c n0 T h C S) {x : Int64} {w : Int32} {z : Int64} (hd : decode bytes pc = .ok (.lshl, 1)) (hz : (x <<< (w &&& 0x3f).toInt64) = z) (k : own_Go p e below P (T.setTop (mkF m (pc + 1) Ls (.long z :: st)))) : own_Go p e below P (T.setTop (mkF m pc Ls (.int w :: .long x :: st))) := by
  obtain ⟨hx, hby, -⟩ := cx
  exact own_st (fun _ q => XS.lshl X.here hx rfl (hb hby hd) rfl (by rw [hz]; exact q)) k
theorem o_lshr (cx : own_Cx p s m meth c Z bytes maxL y ret) (X : own_Sd p l e R s m args below meth c n0 T h C S) {x : Int64} {w : Int32} {z : Int64} (hd : decode bytes pc = .ok (.lshr, 1)) (hz : (x >>> (w &&& 0x3f).toInt64) = z) (k : own_Go p e below P (T.setTop (mkF m (pc + 1) Ls (.long z :: st)))) : own_Go p e below P (T.setTop (mkF m pc Ls (.int w :: .long x :: st))) := by
  obtain ⟨hx, hby, -⟩ := cx
  exact own_st (fun _ q => XS.lshr X.here hx rfl (hb hby hd) rfl (by rw [hz]; exact q)) k
theorem o_lushr (cx : own_Cx p s m meth c Z bytes maxL y ret) (X : own_Sd p l e R s m args below meth c n0 T h C S) {x : Int64} {w : Int32} {z : Int64} (hd : decode bytes pc = .ok (.lushr, 1)) (hz : ((x.toUInt64 >>> (w &&& 0x3f).toInt64.toUInt64).toInt64) = z) (k : own_Go p e below P (T.setTop (mkF m (pc + 1) Ls (.long z :: st)))) : own_Go p e below P (T.setTop (mkF m pc Ls (.int w :: .long x :: st))) := by
  obtain ⟨hx, hby, -⟩ := cx
  exact own_st (fun _ q => XS.lushr X.here hx rfl (hb hby hd) rfl (by rw [hz]; exact q)) k
theorem o_ineg (cx : own_Cx p s m meth c Z bytes maxL y ret) (X : own_Sd p l e R s m args below meth c n0 T h C S) {x : Int32} {z : Int32} (hd : decode bytes pc = .ok (.ineg, 1)) (hz : (-x) = z) (k : own_Go p e below P (T.setTop (mkF m (pc + 1) Ls (.int z :: st)))) : own_Go p e below P (T.setTop (mkF m pc Ls (.int x :: st))) := by
  obtain ⟨hx, hby, -⟩ := cx
  exact own_st (fun _ q => XS.ineg X.here hx rfl (hb hby hd) rfl (by rw [hz]; exact q)) k
theorem o_lneg (cx : own_Cx p s m meth c Z bytes maxL y ret) (X : own_Sd p l e R s m args below meth c n0 T h C S) {x : Int64} {z : Int64} (hd : decode bytes pc = .ok (.lneg, 1)) (hz : (-x) = z) (k : own_Go p e below P (T.setTop (mkF m (pc + 1) Ls (.long z :: st)))) : own_Go p e below P (T.setTop (mkF m pc Ls (.long x :: st))) := by
  obtain ⟨hx, hby, -⟩ := cx
  exact own_st (fun _ q => XS.lneg X.here hx rfl (hb hby hd) rfl (by rw [hz]; exact q)) k
theorem o_i2l (cx : own_Cx p s m meth c Z bytes maxL y ret) (X : own_Sd p l e R s m args below meth c n0 T h C S) {x : Int32} {z : Int64} (hd : decode bytes pc = .ok (.i2l, 1)) (hz : (x.toInt64) = z) (k : own_Go p e below P (T.setTop (mkF m (pc + 1) Ls (.long z :: st)))) : own_Go p e below P (T.setTop (mkF m pc Ls (.int x :: st))) := by
  obtain ⟨hx, hby, -⟩ := cx
  exact own_st (fun _ q => XS.i2l X.here hx rfl (hb hby hd) rfl (by rw [hz]; exact q)) k
theorem o_l2i (cx : own_Cx p s m meth c Z bytes maxL y ret) (X : own_Sd p l e R s m args below meth c n0 T h C S) {x : Int64} {z : Int32} (hd : decode bytes pc = .ok (.l2i, 1)) (hz : (x.toInt32) = z) (k : own_Go p e below P (T.setTop (mkF m (pc + 1) Ls (.int z :: st)))) : own_Go p e below P (T.setTop (mkF m pc Ls (.long x :: st))) := by
  obtain ⟨hx, hby, -⟩ := cx
  exact own_st (fun _ q => XS.l2i X.here hx rfl (hb hby hd) rfl (by rw [hz]; exact q)) k
theorem o_i2b (cx : own_Cx p s m meth c Z bytes maxL y ret) (X : own_Sd p l e R s m args below meth c n0 T h C S) {x : Int32} {z : Int32} (hd : decode bytes pc = .ok (.i2b, 1)) (hz : (x.toInt8.toInt32) = z) (k : own_Go p e below P (T.setTop (mkF m (pc + 1) Ls (.int z :: st)))) : own_Go p e below P (T.setTop (mkF m pc Ls (.int x :: st))) := by
  obtain ⟨hx, hby, -⟩ := cx
  exact own_st (fun _ q => XS.i2b X.here hx rfl (hb hby hd) rfl (by rw [hz]; exact q)) k
theorem o_i2s (cx : own_Cx p s m meth c Z bytes maxL y ret) (X : own_Sd p l e R s m args below meth c n0 T h C S) {x : Int32} {z : Int32} (hd : decode bytes pc = .ok (.i2s, 1)) (hz : (x.toInt16.toInt32) = z) (k : own_Go p e below P (T.setTop (mkF m (pc + 1) Ls (.int z :: st)))) : own_Go p e below P (T.setTop (mkF m pc Ls (.int x :: st))) := by
  obtain ⟨hx, hby, -⟩ := cx
  exact own_st (fun _ q => XS.i2s X.here hx rfl (hb hby hd) rfl (by rw [hz]; exact q)) k
theorem o_i2c (cx : own_Cx p s m meth c Z bytes maxL y ret) (X : own_Sd p l e R s m args below meth c n0 T h C S) {x : Int32} {z : Int32} (hd : decode bytes pc = .ok (.i2c, 1)) (hz : (x.toUInt32.toUInt16.toUInt32.toInt32) = z) (k : own_Go p e below P (T.setTop (mkF m (pc + 1) Ls (.int z :: st)))) : own_Go p e below P (T.setTop (mkF m pc Ls (.int x :: st))) := by
  obtain ⟨hx, hby, -⟩ := cx
  exact own_st (fun _ q => XS.i2c X.here hx rfl (hb hby hd) rfl (by rw [hz]; exact q)) k
theorem o_lcmp (cx : own_Cx p s m meth c Z bytes maxL y ret) (X : own_Sd p l e R s m args below meth c n0 T h C S) {x w : Int64} {z : Int32} (hd : decode bytes pc = .ok (.lcmp, 1)) (hz : lcmpW x w = z) (k : own_Go p e below P (T.setTop (mkF m (pc + 1) Ls (.int z :: st)))) : own_Go p e below P (T.setTop (mkF m pc Ls (.long w :: .long x :: st))) := by
  obtain ⟨hx, hby, -⟩ := cx
  exact own_st (fun _ q => XS.lcmp X.here hx rfl (hb hby hd) rfl (by rw [← hz] at q; exact q)) k
theorem o_irem (cx : own_Cx p s m meth c Z bytes maxL y ret) (X : own_Sd p l e R s m args below meth c n0 T h C S) {x w z : Int32} (hd : decode bytes pc = .ok (.irem, 1)) (hw : w ≠ 0) (hz : x % w = z) (k : own_Go p e below P (T.setTop (mkF m (pc + 1) Ls (.int z :: st)))) : own_Go p e below P (T.setTop (mkF m pc Ls (.int w :: .int x :: st))) := by
  obtain ⟨hx, hby, -⟩ := cx
  exact own_st (fun _ q => by obtain ⟨_, X, _⟩ := X; exact iremM X hx rfl (hb hby hd) rfl hw (by rw [hz]; exact q)) k
theorem o_lrem (cx : own_Cx p s m meth c Z bytes maxL y ret) (X : own_Sd p l e R s m args below meth c n0 T h C S) {x w z : Int64} (hd : decode bytes pc = .ok (.lrem, 1)) (hw : w ≠ 0) (hz : x % w = z) (k : own_Go p e below P (T.setTop (mkF m (pc + 1) Ls (.long z :: st)))) : own_Go p e below P (T.setTop (mkF m pc Ls (.long w :: .long x :: st))) := by
  obtain ⟨hx, hby, -⟩ := cx
  exact own_st (fun _ q => XS.lrem X.here hx rfl (hb hby hd) rfl hw (by rw [lrem_mod, hz]; exact q)) k
theorem o_iinc (cx : own_Cx p s m meth c Z bytes maxL y ret) (X : own_Sd p l e R s m args below meth c n0 T h C S) {k : Nat} {i : Int} {x z : Int32} (hd : decode bytes pc = .ok (.iinc k i, 3)) (hl : Ls[k]? = some (.val (.int x))) (hz : x + Int32.ofInt i = z) (hl' : storeLocals Ls k (.int z) = some Ls') (k : own_Go p e below P (T.setTop (mkF m (pc + 3) Ls' st))) : own_Go p e below P (T.setTop (mkF m pc Ls st)) := by
  obtain ⟨hx, hby, -⟩ := cx
  exact own_st (fun _ q => XS.iinc X.here hx rfl (hb hby hd) hl (by rw [hz]; exact hl') q) k
theorem o_dup (cx : own_Cx p s m meth c Z bytes maxL y ret) (X : own_Sd p l e R s m args below meth c n0 T h C S) {v : Value} (hd : decode bytes pc = .ok (.dup, 1)) (hc : v.category = 1) (k : own_Go p e below P (T.setTop (mkF m (pc + 1) Ls (v :: v :: st)))) : own_Go p e below P (T.setTop (mkF m pc Ls (v :: st))) := by
  obtain ⟨hx, hby, -⟩ := cx
  exact own_st (fun _ q => XS.dup X.here hx rfl (hb hby hd) rfl hc q) k
theorem o_pop (cx : own_Cx p s m meth c Z bytes maxL y ret) (X : own_Sd p l e R s m args below meth c n0 T h C S) {v : Value} (hd : decode bytes pc = .ok (.pop, 1)) (hc : v.category = 1) (k : own_Go p e below P (T.setTop (mkF m (pc + 1) Ls st))) : own_Go p e below P (T.setTop (mkF m pc Ls (v :: st))) := by
  obtain ⟨hx, hby, -⟩ := cx
  exact own_st (fun _ q => XS.pop X.here hx rfl (hb hby hd) rfl hc q) k
theorem o_dup_x1 (cx : own_Cx p s m meth c Z bytes maxL y ret) (X : own_Sd p l e R s m args below meth c n0 T h C S) {v w : Value} (hd : decode bytes pc = .ok (.dup_x1, 1)) (hc : v.category = 1) (hc' : w.category = 1) (k : own_Go p e below P (T.setTop (mkF m (pc + 1) Ls (v :: w :: v :: st)))) : own_Go p e below P (T.setTop (mkF m pc Ls (v :: w :: st))) := by
  obtain ⟨hx, hby, -⟩ := cx
  exact own_st (fun _ q => XS.dupX1 X.here hx rfl (hb hby hd) rfl hc hc' q) k
theorem o_dup2 (cx : own_Cx p s m meth c Z bytes maxL y ret) (X : own_Sd p l e R s m args below meth c n0 T h C S) {v w : Value} (hd : decode bytes pc = .ok (.dup2, 1)) (hc : v.category = 1) (hc' : w.category = 1) (k : own_Go p e below P (T.setTop (mkF m (pc + 1) Ls (v :: w :: v :: w :: st)))) : own_Go p e below P (T.setTop (mkF m pc Ls (v :: w :: st))) := by
  obtain ⟨hx, hby, -⟩ := cx
  exact own_st (fun _ q => Jvm.Free.XT.dup2 X.here hx rfl (hb hby hd) rfl hc hc' q) k
theorem o_dup_x2 (cx : own_Cx p s m meth c Z bytes maxL y ret) (X : own_Sd p l e R s m args below meth c n0 T h C S) {x w z : Value} (hd : decode bytes pc = .ok (.dup_x2, 1)) (h1 : x.category = 1) (h2 : w.category = 1) (h3 : z.category = 1) (k : own_Go p e below P (T.setTop (mkF m (pc + 1) Ls (x :: w :: z :: x :: st)))) : own_Go p e below P (T.setTop (mkF m pc Ls (x :: w :: z :: st))) := by
  obtain ⟨hx, hby, -⟩ := cx
  exact own_dupX2 X hx (g := mkF m pc Ls (x :: w :: z :: st)) (hb hby hd) rfl h1 h2 h3 rfl k
theorem o_goto (cx : own_Cx p s m meth c Z bytes maxL y ret) (X : own_Sd p l e R s m args below meth c n0 T h C S) {o : Int} (n : Nat) (hd : decode bytes pc = .ok (.goto o, 3)) (ho : 0 ≤ (pc : Int) + o) (hp : ((pc : Int) + o).toNat = n) (k : own_Go p e below P (T.setTop (mkF m n Ls st))) : own_Go p e below P (T.setTop (mkF m pc Ls st)) := by
  obtain ⟨hx, hby, -⟩ := cx
  exact own_st (fun _ q => XS.goto X.here hx rfl rfl (hb hby hd) ho hp q) k
theorem o_ifYes (cx : own_Cx p s m meth c Z bytes maxL y ret) (X : own_Sd p l e R s m args below meth c n0 T h C S) {cd : ClassFile.Cond} {x : Int32} {o : Int} (n : Nat) (hd : decode bytes pc = .ok (.ifCond cd o, 3)) (hc : ifCond.holds cd x = true) (ho : 0 ≤ (pc : Int) + o) (hp : ((pc : Int) + o).toNat = n) (k : own_Go p e below P (T.setTop (mkF m n Ls st))) : own_Go p e below P (T.setTop (mkF m pc Ls (.int x :: st))) := by
  obtain ⟨hx, hby, -⟩ := cx
  exact own_st (fun _ q => XS.ifYes X.here hx rfl rfl (hb hby hd) rfl hc ho hp q) k
theorem o_ifNo (cx : own_Cx p s m meth c Z bytes maxL y ret) (X : own_Sd p l e R s m args below meth c n0 T h C S) {cd : ClassFile.Cond} {x : Int32} {o : Int} (hd : decode bytes pc = .ok (.ifCond cd o, 3)) (hc : ifCond.holds cd x = false) (k : own_Go p e below P (T.setTop (mkF m (pc + 3) Ls st))) : own_Go p e below P (T.setTop (mkF m pc Ls (.int x :: st))) := by
  obtain ⟨hx, hby, -⟩ := cx
  exact own_st (fun _ q => XS.ifNo X.here hx rfl (hb hby hd) rfl hc q) k
theorem o_icmpYes (cx : own_Cx p s m meth c Z bytes maxL y ret) (X : own_Sd p l e R s m args below meth c n0 T h C S) {cd : ClassFile.Cond} {x w : Int32} {o : Int} (n : Nat) (hd : decode bytes pc = .ok (.if_icmp cd o, 3)) (hc : if_icmp.holds cd x w = true) (ho : 0 ≤ (pc : Int) + o) (hp : ((pc : Int) + o).toNat = n) (k : own_Go p e below P (T.setTop (mkF m n Ls st))) : own_Go p e below P (T.setTop (mkF m pc Ls (.int w :: .int x :: st))) := by
  obtain ⟨hx, hby, -⟩ := cx
  exact own_st (fun _ q => XS.icmpYes X.here hx rfl rfl (hb hby hd) rfl hc ho hp q) k
theorem o_icmpNo (cx : own_Cx p s m meth c Z bytes maxL y ret) (X : own_Sd p l e R s m args below meth c n0 T h C S) {cd : ClassFile.Cond} {x w : Int32} {o : Int} (hd : decode bytes pc = .ok (.if_icmp cd o, 3)) (hc : if_icmp.holds cd x w = false) (k : own_Go p e below P (T.setTop (mkF m (pc + 3) Ls st))) : own_Go p e below P (T.setTop (mkF m pc Ls (.int w :: .int x :: st))) := by
  obtain ⟨hx, hby, -⟩ := cx
  exact own_st (fun _ q => XS.icmpNo X.here hx rfl (hb hby hd) rfl hc q) k
theorem o_ifnullYes (cx : own_Cx p s m meth c Z bytes maxL y ret) (X : own_Sd p l e R s m args below meth c n0 T h C S) {o : Int} (n : Nat) (hd : decode bytes pc = .ok (.ifnull o, 3)) (ho : 0 ≤ (pc : Int) + o) (hp : ((pc : Int) + o).toNat = n) (k : own_Go p e below P (T.setTop (mkF m n Ls st))) : own_Go p e below P (T.setTop (mkF m pc Ls (.null :: st))) := by
  obtain ⟨hx, hby, -⟩ := cx
  exact own_st (fun _ q => XS.ifnullYes X.here hx rfl rfl (hb hby hd) rfl ho hp q) k
theorem o_ifnullNo (cx : own_Cx p s m meth c Z bytes maxL y ret) (X : own_Sd p l e R s m args below meth c n0 T h C S) {o : Int} {b : Addr} (hd : decode bytes pc = .ok (.ifnull o, 3))  (k : own_Go p e below P (T.setTop (mkF m (pc + 3) Ls st))) : own_Go p e below P (T.setTop (mkF m pc Ls (.ref b :: st))) := by
  obtain ⟨hx, hby, -⟩ := cx
  exact own_st (fun _ q => XS.ifnullNo X.here hx rfl (hb hby hd) rfl q) k
theorem o_ifnonnullYes (cx : own_Cx p s m meth c Z bytes maxL y ret) (X : own_Sd p l e R s m args below meth c n0 T h C S) {o : Int} (n : Nat) {b : Addr} (hd : decode bytes pc = .ok (.ifnonnull o, 3)) (ho : 0 ≤ (pc : Int) + o) (hp : ((pc : Int) + o).toNat = n) (k : own_Go p e below P (T.setTop (mkF m n Ls st))) : own_Go p e below P (T.setTop (mkF m pc Ls (.ref b :: st))) := by
  obtain ⟨hx, hby, -⟩ := cx
  exact own_st (fun _ q => XS.ifnonnullYes X.here hx rfl rfl (hb hby hd) rfl ho hp q) k
theorem o_ifnonnullNo (cx : own_Cx p s m meth c Z bytes maxL y ret) (X : own_Sd p l e R s m args below meth c n0 T h C S) {o : Int} (hd : decode bytes pc = .ok (.ifnonnull o, 3))  (k : own_Go p e below P (T.setTop (mkF m (pc + 3) Ls st))) : own_Go p e below P (T.setTop (mkF m pc Ls (.null :: st))) := by
  obtain ⟨hx, hby, -⟩ := cx
  exact own_st (fun _ q => XS.ifnonnullNo X.here hx rfl (hb hby hd) rfl q) k
theorem o_acmp (cx : own_Cx p s m meth c Z bytes maxL y ret) (X : own_Sd p l e R s m args below meth c n0 T h C S) {cd : ACond} {x w : Value} {o : Int} (n : Nat) (same : Bool) (hd : decode bytes pc = .ok (.if_acmp cd o, 3)) (h1 : x.isRef = true) (h2 : w.isRef = true) (hsame : decide (x = w) = same) (ho : 0 ≤ (pc : Int) + o) (hp : n = if acV cd same then ((pc : Int) + o).toNat else pc + 3) (k : own_Go p e below P (T.setTop (mkF m n Ls st))) : own_Go p e below P (T.setTop (mkF m pc Ls (w :: x :: st))) := by
  obtain ⟨hx, hby, hml, hown, hnm, hret, hlk, hZ⟩ := cx
  exact own_acmp X hx (g := mkF m pc Ls (w :: x :: st)) rfl h1 h2 rfl (hb hby hd) rfl hsame ho hp k
theorem o_ldc (cx : own_Cx p s m meth c Z bytes maxL y ret) (X : own_Sd p l e R s m args below meth c n0 T h C S) {j : Nat} {z : Int32} (hd : decode bytes pc = .ok (.ldc j, 2)) (w : (Jvm.Cond.constant y.cls j z).before a0 Z = true) (k : own_Go p e below P (T.setTop (mkF m (pc + 2) Ls (.int z :: st)))) : own_Go p e below P (T.setTop (mkF m pc Ls st)) := by
  obtain ⟨hx, hby, hml, hown, hnm, hret, hlk, hZ⟩ := cx
  exact own_ldc X hx hZ hown w (g := mkF m pc Ls st) rfl (hb hby hd) k
theorem o_ldc2 (cx : own_Cx p s m meth c Z bytes maxL y ret) (X : own_Sd p l e R s m args below meth c n0 T h C S) {j : Nat} {z : Int64} (hd : decode bytes pc = .ok (.ldc2_w j, 3)) (w : (Jvm.Cond.constantLong y.cls j z).before a0 Z = true) (k : own_Go p e below P (T.setTop (mkF m (pc + 3) Ls (.long z :: st)))) : own_Go p e below P (T.setTop (mkF m pc Ls st)) := by
  obtain ⟨hx, hby, hml, hown, hnm, hret, hlk, hZ⟩ := cx
  exact own_ldc2 X hx hZ hown w (g := mkF m pc Ls st) rfl (hb hby hd) k
theorem o_getF (cx : own_Cx p s m meth c Z bytes maxL y ret) (X : own_Sd p l e R s m args below meth c n0 T h C S) {O n d : String} {j : Nat} (hd : decode bytes pc = .ok (.getfield j, 3)) (w : (Jvm.Cond.fieldLink y.cls j O n d).before a0 Z = true) (F : Fld Z h a O n d v) (k : ∀ T', own_Sd p l e R s m args below meth c n0 T' h C S → own_Go p e below P (T'.setTop (mkF m (pc + 3) Ls (v :: st)))) : own_Go p e below P (T.setTop (mkF m pc Ls (.ref a :: st))) := by
  obtain ⟨hx, hby, hml, hown, hnm, hret, hlk, hZ⟩ := cx
  exact own_getF X hx hZ hown w F (g := mkF m pc Ls (.ref a :: st)) rfl rfl (hb hby hd) k
theorem o_putF (cx : own_Cx p s m meth c Z bytes maxL y ret) (X : own_Sd p l e R s m args below meth c n0 T h C S) {O n d K : String} {j kk : Nat} {v' old : Value} (hd : decode bytes pc = .ok (.putfield j, 3)) (w : (Jvm.Cond.fieldLink y.cls j O n d).before a0 Z = true) (F : Fld Z h a O n d old) (E : Exa Z h a K) (L : (Jvm.Cond.lays K O n d).before a0 Z = true ∨ ((Jvm.Cond.laysFinal K O n d).before a0 Z = true ∧ y.cls = O ∧ y.name = "<init>")) (wi : (Jvm.Cond.instantiable K kk).before a0 Z = true) (hty : parseFieldDescriptor d = some ty) (hn : narrow ty v = v') (hf : fits ty v' = true) (ga : n0 ≤ a) (k : ∀ T' h', own_Sd p l e R s m args below meth c n0 T' h' C S → Wr h h' a (Jvm.RoadKit.slotOf Z O n d) v' → own_Go p e below P (T'.setTop (mkF m (pc + 3) Ls st))) : own_Go p e below P (T.setTop (mkF m pc Ls (v :: .ref a :: st))) := by
  obtain ⟨hx, hby, hml, hown, hnm, hret, hlk, hZ⟩ := cx
  exact own_putF X hx hZ hown w F E (by rw [hnm]; exact L) wi hty hn hf ga (g := mkF m pc Ls (v :: .ref a :: st)) rfl rfl (hb hby hd) k
theorem o_newO (cx : own_Cx p s m meth c Z bytes maxL y ret) (X : own_Sd p l e R s m args below meth c n0 T h C S) {K : String} {j n : Nat} (hd : decode bytes pc = .ok (.new j, 3)) (w : (Jvm.Cond.classLink y.cls j K).before a0 Z = true) (wi : (Jvm.Cond.instantiable K n).before a0 Z = true) (wz : (Jvm.Cond.initialized K).before a0 Z = true) (hc : C + 1 ≤ R.cells) (hl : S + n ≤ R.slots) (k : ∀ T' h' b, b = h.size → n0 ≤ b → own_Sd p l e R s m args below meth c n0 T' h' (C + 1) (S + n) → Ext h h' → Exa Z h' b K → (∀ {O nm d : String} {ty : FieldType}, Laid Z a0 K O nm d → parseFieldDescriptor d = some ty → Fld Z h' b O nm d (defaultValue ty)) → own_Go p e below P (T'.setTop (mkF m (pc + 3) Ls (.ref b :: st)))) : own_Go p e below P (T.setTop (mkF m pc Ls st)) := by
  obtain ⟨hx, hby, hml, hown, hnm, hret, hlk, hZ⟩ := cx
  exact own_newO X hx hZ hown w wi wz (g := mkF m pc Ls st) rfl (hb hby hd) hc hl k
theorem o_initO (cx : own_Cx p s m meth c Z bytes maxL y ret) (X : own_Sd p l e R s m args below meth c n0 T h C S) {j : Nat} (hd : decode bytes pc = .ok (.invokespecial j, 3)) (w1 : (Jvm.Cond.methodLink y.cls j Lib.objectInit).before a0 Z = true) (w2 : (Jvm.Cond.instanceMethod Lib.objectInit).before a0 Z = true) (w3 : (Jvm.Cond.code Lib.objectInit ⟨#[0xb1]⟩ 1 none).before a0 Z = true) (hsz : Ls.size = maxL) (hf : 1 ≤ R.frames) (W : Nat) (hW : (st.map fun v => v.category).sum = W) (hl : W + 12 ≤ R.locals) (k : ∀ T', own_Sd p l e R s m args below meth c n0 T' h C S → own_Go p e below P (T'.setTop (mkF m (pc + 3) Ls st))) : own_Go p e below P (T.setTop (mkF m pc Ls (.ref a :: st))) := by
  obtain ⟨hx, hby, hml, hown, hnm, hret, hlk, hZ⟩ := cx
  exact own_initO X hx hZ hown w1 w2 w3 (g := mkF m pc Ls (.ref a :: st)) rfl (by rw [hml]; exact hsz) rfl (hb hby hd) hf (W := W) (by show 2 * 0 + _ ≤ _; omega) hl k
theorem o_callS (cx : own_Cx p s m meth c Z bytes maxL y ret) (X : own_Sd p l e R s m args below meth c n0 T h C S) {y' : MethodName} {bytes' : ByteArray} {maxL' : Nat} {ret' : Option FieldType} {j : Nat} {stk : List Value} (hd : decode bytes pc = .ok (.invokestatic j, 3)) (w1 : (Jvm.Cond.methodLink y.cls j y').before a0 Z = true) (w2 : (Jvm.Cond.static y').before a0 Z = true) (w3 : (Jvm.Cond.initialized y'.cls).before a0 Z = true) (w4 : (Jvm.Cond.code y' bytes' maxL' ret').before a0 Z = true) (hy : y'.cls ≠ "java/lang/invoke/MethodHandle" ∧ y'.cls ≠ "java/lang/invoke/VarHandle") {rm : Room} {as' : Array Value}  (hM : own_Met l Z y' bytes' maxL' ret' rm as' h n0 Q) (hf : rm.frames + 1 ≤ R.frames) (W : Nat) (hW : (st.map fun v => v.category).sum = W) (hlo : W + (maxL' + 11) + rm.locals ≤ R.locals) (hsz : Ls.size = maxL) {argsL : List Value} (hlen : ∀ sig, parseMethodDescriptor y'.desc = some sig → argsL.length = sig.parameters.length) (has : argsL.toArray = as') (hstk : stk = argsL.reverse ++ st) (hc : C + rm.cells ≤ R.cells) (hs : S + rm.slots ≤ R.slots) (k : ∀ v T' h', own_Sd p l e R s m args below meth c n0 T' h' (C + rm.cells) (S + rm.slots) → Q v h' → own_Go p e below P (T'.setTop (mkF m (pc + 3) Ls (v.toList ++ st)))) : own_Go p e below P (T.setTop (mkF m pc Ls stk)) := by
  obtain ⟨hx, hby, hml, hown, hnm, hret, hlk, hZ⟩ := cx
  exact own_callS X hx hZ hown w1 w2 w3 w4 hy hM hf (W := W) hlo (g := mkF m pc Ls stk) rfl (by rw [hml]; exact hsz) hlen has hstk (by show 2 * 0 + _ ≤ _; omega) (hb hby hd) hc hs k
theorem o_callC (cx : own_Cx p s m meth c Z bytes maxL y ret) (X : own_Sd p l e R s m args below meth c n0 T h C S) {y' : MethodName} {bytes' : ByteArray} {maxL' : Nat} {j : Nat} {stk : List Value} (hd : decode bytes pc = .ok (.invokespecial j, 3)) (w1 : (Jvm.Cond.methodLink y.cls j y').before a0 Z = true) (w2 : (Jvm.Cond.instanceMethod y').before a0 Z = true) (w3 : (Jvm.Cond.initialized y'.cls).before a0 Z = true) (w4 : (Jvm.Cond.code y' bytes' maxL' none).before a0 Z = true) (hy : y'.cls ≠ "java/lang/invoke/MethodHandle" ∧ y'.cls ≠ "java/lang/invoke/VarHandle") (hy1 : y'.name = "<init>") {rm : Room} {as' : Array Value}  (hM : own_Met l Z y' bytes' maxL' none rm as' h n0 Q) (hf : rm.frames + 1 ≤ R.frames) (W : Nat) (hW : (st.map fun v => v.category).sum = W) (hlo : W + (maxL' + 11) + rm.locals ≤ R.locals) (hsz : Ls.size = maxL) {argsL : List Value} (hlen : ∀ sig, parseMethodDescriptor y'.desc = some sig → argsL.length = sig.parameters.length) (has : (.ref a :: argsL).toArray = as') (hstk : stk = argsL.reverse ++ .ref a :: st) (hc : C + rm.cells ≤ R.cells) (hs : S + rm.slots ≤ R.slots) (k : ∀ v T' h', own_Sd p l e R s m args below meth c n0 T' h' (C + rm.cells) (S + rm.slots) → Q v h' → own_Go p e below P (T'.setTop (mkF m (pc + 3) Ls (v.toList ++ st)))) : own_Go p e below P (T.setTop (mkF m pc Ls stk)) := by
  obtain ⟨hx, hby, hml, hown, hnm, hret, hlk, hZ⟩ := cx
  exact own_callC X hx hZ hy1 hown w1 w2 w3 w4 hy hM hf (W := W) hlo (g := mkF m pc Ls stk) rfl (by rw [hml]; exact hsz) hlen has hstk (by show 2 * 0 + _ ≤ _; omega) (hb hby hd) hc hs k
theorem o_callV (cx : own_Cx p s m meth c Z bytes maxL y ret) (X : own_Sd p l e R s m args below meth c n0 T h C S) {y' : MethodName} {bytes' : ByteArray} {maxL' : Nat} {ret' : Option FieldType} {j : Nat} {stk : List Value} {K : String} (hd : decode bytes pc = .ok (.invokevirtual j, 3)) (w1 : (Jvm.Cond.methodLink y.cls j y').before a0 Z = true) (w2 : (Jvm.Cond.declares y').before a0 Z = true) (w5 : (Jvm.Cond.selects K y' y').before a0 Z = true) (w6 : (Jvm.Cond.instanceMethod y').before a0 Z = true) (w3 : (Jvm.Cond.initialized y'.cls).before a0 Z = true) (w4 : (Jvm.Cond.code y' bytes' maxL' ret').before a0 Z = true) (hy : y'.cls ≠ "java/lang/invoke/MethodHandle" ∧ y'.cls ≠ "java/lang/invoke/VarHandle") (E : Exa Z h a K) {rm : Room} {as' : Array Value}  (hM : own_Met l Z y' bytes' maxL' ret' rm as' h n0 Q) (hf : rm.frames + 1 ≤ R.frames) (W : Nat) (hW : (st.map fun v => v.category).sum = W) (hlo : W + (maxL' + 11) + rm.locals ≤ R.locals) (hsz : Ls.size = maxL) {argsL : List Value} (hlen : ∀ sig, parseMethodDescriptor y'.desc = some sig → argsL.length = sig.parameters.length) (has : (.ref a :: argsL).toArray = as') (hstk : stk = argsL.reverse ++ .ref a :: st) (hc : C + rm.cells ≤ R.cells) (hs : S + rm.slots ≤ R.slots) (k : ∀ v T' h', own_Sd p l e R s m args below meth c n0 T' h' (C + rm.cells) (S + rm.slots) → Q v h' → own_Go p e below P (T'.setTop (mkF m (pc + 3) Ls (v.toList ++ st)))) : own_Go p e below P (T.setTop (mkF m pc Ls stk)) := by
  obtain ⟨hx, hby, hml, hown, hnm, hret, hlk, hZ⟩ := cx
  exact own_callV X hx hZ hown w1 w2 w5 w6 w3 w4 hy E hM hf (W := W) hlo (g := mkF m pc Ls stk) rfl (by rw [hml]; exact hsz) hlen has hstk (by show 2 * 0 + _ ≤ _; omega) (hb hby hd) hc hs k
theorem o_callP (cx : own_Cx p s m meth c Z bytes maxL y ret) (X : own_Sd p l e R s m args below meth c n0 T h C S) {y' : MethodName} {bytes' : ByteArray} {maxL' : Nat} {ret' : Option FieldType} {j : Nat} {stk : List Value} {K K' : String} {y2 : MethodName} (hd : decode bytes pc = .ok (.invokevirtual j, 3)) (w1 : (Jvm.Cond.methodLink y.cls j y').before a0 Z = true) (w7 : (Jvm.Cond.privateMethod y').before a0 Z = true) (w5 : (Jvm.Cond.selects K y2 y2).before a0 Z = true) (hyy : y2.cls = y'.cls) (w6 : (Jvm.Cond.instanceMethod y').before a0 Z = true) (w3 : (Jvm.Cond.initialized y'.cls).before a0 Z = true) (w4 : (Jvm.Cond.code y' bytes' maxL' ret').before a0 Z = true) (hy : y'.cls ≠ "java/lang/invoke/MethodHandle" ∧ y'.cls ≠ "java/lang/invoke/VarHandle") (E : Exa Z h a K') {rm : Room} {as' : Array Value}  (hM : own_Met l Z y' bytes' maxL' ret' rm as' h n0 Q) (hf : rm.frames + 1 ≤ R.frames) (W : Nat) (hW : (st.map fun v => v.category).sum = W) (hlo : W + (maxL' + 11) + rm.locals ≤ R.locals) (hsz : Ls.size = maxL) {argsL : List Value} (hlen : ∀ sig, parseMethodDescriptor y'.desc = some sig → argsL.length = sig.parameters.length) (has : (.ref a :: argsL).toArray = as') (hstk : stk = argsL.reverse ++ .ref a :: st) (hc : C + rm.cells ≤ R.cells) (hs : S + rm.slots ≤ R.slots) (k : ∀ v T' h', own_Sd p l e R s m args below meth c n0 T' h' (C + rm.cells) (S + rm.slots) → Q v h' → own_Go p e below P (T'.setTop (mkF m (pc + 3) Ls (v.toList ++ st)))) : own_Go p e below P (T.setTop (mkF m pc Ls stk)) := by
  obtain ⟨hx, hby, hml, hown, hnm, hret, hlk, hZ⟩ := cx
  exact own_callP X hx hZ hown w1 w7 w5 hyy w6 w3 w4 hy E hM hf (W := W) hlo (g := mkF m pc Ls stk) rfl (by rw [hml]; exact hsz) hlen has hstk (by show 2 * 0 + _ ≤ _; omega) (hb hby hd) hc hs k
theorem o_callSp (cx : own_Cx p s m meth c Z bytes maxL y ret) (X : own_Sd p l e R s m args below meth c n0 T h C S) {y' : MethodName} {bytes' : ByteArray} {maxL' : Nat} {ret' : Option FieldType} {j : Nat} {stk : List Value} (hd : decode bytes pc = .ok (.invokestatic j, 3)) (w1 : (Jvm.Cond.methodLink y.cls j y').before a0 Z = true) (w2 : (Jvm.Cond.static y').before a0 Z = true) (w3 : (Jvm.Cond.initialized y'.cls).before a0 Z = true) (w4 : (Jvm.Cond.code y' bytes' maxL' ret').before a0 Z = true) (hy : y'.cls ≠ "java/lang/invoke/MethodHandle" ∧ y'.cls ≠ "java/lang/invoke/VarHandle") {rm : Room} {as' : Array Value} {r : Option Value} (hM : own_Met l Z y' bytes' maxL' ret' rm as' h n0 (fun v' h' => v' = r ∧ h' = h)) (hf : rm.frames + 1 ≤ R.frames) (W : Nat) (hW : (st.map fun v => v.category).sum = W) (hlo : W + (maxL' + 11) + rm.locals ≤ R.locals) (hsz : Ls.size = maxL) {argsL : List Value} (hlen : ∀ sig, parseMethodDescriptor y'.desc = some sig → argsL.length = sig.parameters.length) (has : argsL.toArray = as') (hstk : stk = argsL.reverse ++ st) (hc : C + rm.cells ≤ R.cells) (hs : S + rm.slots ≤ R.slots) (k : ∀ T', own_Sd p l e R s m args below meth c n0 T' h (C + rm.cells) (S + rm.slots) → own_Go p e below P (T'.setTop (mkF m (pc + 3) Ls (r.toList ++ st)))) : own_Go p e below P (T.setTop (mkF m pc Ls stk)) := by
  obtain ⟨hx, hby, hml, hown, hnm, hret, hlk, hZ⟩ := cx
  exact own_callSp X hx hZ hown w1 w2 w3 w4 hy hM hf (W := W) hlo (g := mkF m pc Ls stk) rfl (by rw [hml]; exact hsz) hlen has hstk (by show 2 * 0 + _ ≤ _; omega) (hb hby hd) hc hs k
theorem o_callCp (cx : own_Cx p s m meth c Z bytes maxL y ret) (X : own_Sd p l e R s m args below meth c n0 T h C S) {y' : MethodName} {bytes' : ByteArray} {maxL' : Nat} {j : Nat} {stk : List Value} (hd : decode bytes pc = .ok (.invokespecial j, 3)) (w1 : (Jvm.Cond.methodLink y.cls j y').before a0 Z = true) (w2 : (Jvm.Cond.instanceMethod y').before a0 Z = true) (w3 : (Jvm.Cond.initialized y'.cls).before a0 Z = true) (w4 : (Jvm.Cond.code y' bytes' maxL' none).before a0 Z = true) (hy : y'.cls ≠ "java/lang/invoke/MethodHandle" ∧ y'.cls ≠ "java/lang/invoke/VarHandle") (hy1 : y'.name = "<init>") {rm : Room} {as' : Array Value} {r : Option Value} (hM : own_Met l Z y' bytes' maxL' none rm as' h n0 (fun v' h' => v' = r ∧ h' = h)) (hf : rm.frames + 1 ≤ R.frames) (W : Nat) (hW : (st.map fun v => v.category).sum = W) (hlo : W + (maxL' + 11) + rm.locals ≤ R.locals) (hsz : Ls.size = maxL) {argsL : List Value} (hlen : ∀ sig, parseMethodDescriptor y'.desc = some sig → argsL.length = sig.parameters.length) (has : (.ref a :: argsL).toArray = as') (hstk : stk = argsL.reverse ++ .ref a :: st) (hc : C + rm.cells ≤ R.cells) (hs : S + rm.slots ≤ R.slots) (k : ∀ T', own_Sd p l e R s m args below meth c n0 T' h (C + rm.cells) (S + rm.slots) → own_Go p e below P (T'.setTop (mkF m (pc + 3) Ls (r.toList ++ st)))) : own_Go p e below P (T.setTop (mkF m pc Ls stk)) := by
  obtain ⟨hx, hby, hml, hown, hnm, hret, hlk, hZ⟩ := cx
  exact own_callCp X hx hZ hy1 hown w1 w2 w3 w4 hy hM hf (W := W) hlo (g := mkF m pc Ls stk) rfl (by rw [hml]; exact hsz) hlen has hstk (by show 2 * 0 + _ ≤ _; omega) (hb hby hd) hc hs k
theorem o_callVp (cx : own_Cx p s m meth c Z bytes maxL y ret) (X : own_Sd p l e R s m args below meth c n0 T h C S) {y' : MethodName} {bytes' : ByteArray} {maxL' : Nat} {ret' : Option FieldType} {j : Nat} {stk : List Value} {K : String} (hd : decode bytes pc = .ok (.invokevirtual j, 3)) (w1 : (Jvm.Cond.methodLink y.cls j y').before a0 Z = true) (w2 : (Jvm.Cond.declares y').before a0 Z = true) (w5 : (Jvm.Cond.selects K y' y').before a0 Z = true) (w6 : (Jvm.Cond.instanceMethod y').before a0 Z = true) (w3 : (Jvm.Cond.initialized y'.cls).before a0 Z = true) (w4 : (Jvm.Cond.code y' bytes' maxL' ret').before a0 Z = true) (hy : y'.cls ≠ "java/lang/invoke/MethodHandle" ∧ y'.cls ≠ "java/lang/invoke/VarHandle") (E : Exa Z h a K) {rm : Room} {as' : Array Value} {r : Option Value} (hM : own_Met l Z y' bytes' maxL' ret' rm as' h n0 (fun v' h' => v' = r ∧ h' = h)) (hf : rm.frames + 1 ≤ R.frames) (W : Nat) (hW : (st.map fun v => v.category).sum = W) (hlo : W + (maxL' + 11) + rm.locals ≤ R.locals) (hsz : Ls.size = maxL) {argsL : List Value} (hlen : ∀ sig, parseMethodDescriptor y'.desc = some sig → argsL.length = sig.parameters.length) (has : (.ref a :: argsL).toArray = as') (hstk : stk = argsL.reverse ++ .ref a :: st) (hc : C + rm.cells ≤ R.cells) (hs : S + rm.slots ≤ R.slots) (k : ∀ T', own_Sd p l e R s m args below meth c n0 T' h (C + rm.cells) (S + rm.slots) → own_Go p e below P (T'.setTop (mkF m (pc + 3) Ls (r.toList ++ st)))) : own_Go p e below P (T.setTop (mkF m pc Ls stk)) := by
  obtain ⟨hx, hby, hml, hown, hnm, hret, hlk, hZ⟩ := cx
  exact own_callVp X hx hZ hown w1 w2 w5 w6 w3 w4 hy E hM hf (W := W) hlo (g := mkF m pc Ls stk) rfl (by rw [hml]; exact hsz) hlen has hstk (by show 2 * 0 + _ ≤ _; omega) (hb hby hd) hc hs k
theorem o_callPp (cx : own_Cx p s m meth c Z bytes maxL y ret) (X : own_Sd p l e R s m args below meth c n0 T h C S) {y' : MethodName} {bytes' : ByteArray} {maxL' : Nat} {ret' : Option FieldType} {j : Nat} {stk : List Value} {K K' : String} {y2 : MethodName} (hd : decode bytes pc = .ok (.invokevirtual j, 3)) (w1 : (Jvm.Cond.methodLink y.cls j y').before a0 Z = true) (w7 : (Jvm.Cond.privateMethod y').before a0 Z = true) (w5 : (Jvm.Cond.selects K y2 y2).before a0 Z = true) (hyy : y2.cls = y'.cls) (w6 : (Jvm.Cond.instanceMethod y').before a0 Z = true) (w3 : (Jvm.Cond.initialized y'.cls).before a0 Z = true) (w4 : (Jvm.Cond.code y' bytes' maxL' ret').before a0 Z = true) (hy : y'.cls ≠ "java/lang/invoke/MethodHandle" ∧ y'.cls ≠ "java/lang/invoke/VarHandle") (E : Exa Z h a K') {rm : Room} {as' : Array Value} {r : Option Value} (hM : own_Met l Z y' bytes' maxL' ret' rm as' h n0 (fun v' h' => v' = r ∧ h' = h)) (hf : rm.frames + 1 ≤ R.frames) (W : Nat) (hW : (st.map fun v => v.category).sum = W) (hlo : W + (maxL' + 11) + rm.locals ≤ R.locals) (hsz : Ls.size = maxL) {argsL : List Value} (hlen : ∀ sig, parseMethodDescriptor y'.desc = some sig → argsL.length = sig.parameters.length) (has : (.ref a :: argsL).toArray = as') (hstk : stk = argsL.reverse ++ .ref a :: st) (hc : C + rm.cells ≤ R.cells) (hs : S + rm.slots ≤ R.slots) (k : ∀ T', own_Sd p l e R s m args below meth c n0 T' h (C + rm.cells) (S + rm.slots) → own_Go p e below P (T'.setTop (mkF m (pc + 3) Ls (r.toList ++ st)))) : own_Go p e below P (T.setTop (mkF m pc Ls stk)) := by
  obtain ⟨hx, hby, hml, hown, hnm, hret, hlk, hZ⟩ := cx
  exact own_callPp X hx hZ hown w1 w7 w5 hyy w6 w3 w4 hy E hM hf (W := W) hlo (g := mkF m pc Ls stk) rfl (by rw [hml]; exact hsz) hlen has hstk (by show 2 * 0 + _ ≤ _; omega) (hb hby hd) hc hs k
theorem o_retI (cx : own_Cx p s m meth c Z bytes maxL y (some .int)) (X : own_Sd p l e R s m args below meth c n0 T h C S) {z : Int32} (hd : decode bytes pc = .ok (.ireturn, 1)) (q : Q (some (.int z)) h) (hC : C ≤ R.cells) (hS : S ≤ R.slots) : own_Go p e below (own_End below s R n0 Q) (T.setTop (mkF m pc Ls (.int z :: st))) := by
  obtain ⟨hx, hby, hml, hown, hnm, hret, hlk, hZ⟩ := cx
  exact own_retI X hx hret hlk (hb hby hd) hC hS q
theorem o_retN {t : FieldType} (cx : own_Cx p s m meth c Z bytes maxL y (some t)) (X : own_Sd p l e R s m args below meth c n0 T h C S) {z z' : Int32} (hd : decode bytes pc = .ok (.ireturn, 1)) (ht : t = .boolean ∨ t = .byte ∨ t = .char ∨ t = .short) (hz : nar t z = z') (q : Q (some (.int z')) h) (hC : C ≤ R.cells) (hS : S ≤ R.slots) : own_Go p e below (own_End below s R n0 Q) (T.setTop (mkF m pc Ls (.int z :: st))) := by
  obtain ⟨hx, hby, hml, hown, hnm, hret, hlk, hZ⟩ := cx
  exact own_retN X hx hret ht hlk (hb hby hd) hC hS (by rw [hz]; exact q)
theorem o_retJ (cx : own_Cx p s m meth c Z bytes maxL y (some .long)) (X : own_Sd p l e R s m args below meth c n0 T h C S) {z : Int64} (hd : decode bytes pc = .ok (.lreturn, 1)) (q : Q (some (.long z)) h) (hC : C ≤ R.cells) (hS : S ≤ R.slots) : own_Go p e below (own_End below s R n0 Q) (T.setTop (mkF m pc Ls (.long z :: st))) := by
  obtain ⟨hx, hby, hml, hown, hnm, hret, hlk, hZ⟩ := cx
  exact own_retJ X hx hret hlk (hb hby hd) hC hS q
theorem o_retA {t : FieldType} (cx : own_Cx p s m meth c Z bytes maxL y (some t)) (X : own_Sd p l e R s m args below meth c n0 T h C S) {w : Value} (hd : decode bytes pc = .ok (.areturn, 1)) (ht : t.isReference = true) (hw : w.isRef = true) (hn : narrow t w = w) (q : Q (some w) h) (hC : C ≤ R.cells) (hS : S ≤ R.slots) : own_Go p e below (own_End below s R n0 Q) (T.setTop (mkF m pc Ls (w :: st))) := by
  obtain ⟨hx, hby, hml, hown, hnm, hret, hlk, hZ⟩ := cx
  exact own_retA X hx hret ht hlk hw hn (hb hby hd) hC hS q
theorem o_retV (cx : own_Cx p s m meth c Z bytes maxL y none) (X : own_Sd p l e R s m args below meth c n0 T h C S)  (hd : decode bytes pc = .ok (.return_, 1)) (q : Q none h) (hC : C ≤ R.cells) (hS : S ≤ R.slots) : own_Go p e below (own_End below s R n0 Q) (T.setTop (mkF m pc Ls [])) := by
  obtain ⟨hx, hby, hml, hown, hnm, hret, hlk, hZ⟩ := cx
  exact own_retV X hx hret hlk (hb hby hd) hC hS q
end OwnS
section OwnA
variable {p : Program} {l : Launch} {e : Env} {R : Room} {s : State} {m : MethodId} {args : Array Value} {below : List Frame} {meth : Method} {c : Code} {T : State} {n0 C S : Nat} {Z : State} {a0 : Array Value} {h h' : Heap} {P : State → Outcome → Prop} {a b : Addr} {ty : FieldType} {vs : List Value} {v : Value} {sl i : Nat} {wsA : List Addr}
/-- an array with just these elements -/
def own_Ar (Z : State) (h : Heap) (a : Addr) (ty : FieldType) (vs : List Value) : Prop := ∃ cl : Cell, Arr Z h a cl ty ∧ cl.slots = vs.toArray ∧ vs.length < 2 ^ 31
theorem own_Ar.lt (F : own_Ar Z h a ty vs) : a < h.size := by obtain ⟨_, A, _⟩ := F; exact A.lt
theorem own_Ar.ext (F : own_Ar Z h a ty vs) (E : Ext h h') : own_Ar Z h' a ty vs := by obtain ⟨c, A, r⟩ := F; exact ⟨c, A.ext E, r⟩
theorem own_Ar.other (F : own_Ar Z h b ty vs) (W : Wr h h' a sl v) (q : b ≠ a) : own_Ar Z h' b ty vs := by obtain ⟨c, A, r⟩ := F; exact ⟨c, A.other W q, r⟩
theorem own_Ar.keep (F : own_Ar Z h a ty vs) (K : Keep h h' wsA) (q : a ∉ wsA) : own_Ar Z h' a ty vs := by obtain ⟨c, A, r⟩ := F; exact ⟨c, ⟨K.2.1 a c A.1 q, A.2⟩, r⟩
theorem own_Ar.set (F : own_Ar Z h a ty vs) (W : Wr h h' a i v) : own_Ar Z h' a ty (vs.set i v) := by
  obtain ⟨cl, A, e, hl⟩ := F
  exact ⟨_, A.same W, by simp [Cell.setSlot, e], by simpa using hl⟩
theorem own_newP (X : own_Sd p l e R s m args below meth c n0 T h C S) (hx : p.tables.exec = Jvm.exec) (hZ : Z.Warmed39 s.vm) {aty : ArrayType} (w : (Cond.arrayClass (newarray.typeOf aty)).before a0 Z = true) {g : JFrame} (hg : g.method = m) (hd : decode c.code g.pc = .ok (.newarray aty, 2)) {n : Int32} {rest : List Value} (hs : g.stack = .int n :: rest)
    (hn : ¬ n < 0) {N cap : Nat} (hN : n.toNatClampNeg = N) (hcap : N ≤ cap) (hb : cap * 8 ≤ 536870912) (hc : C + 1 ≤ R.cells) (hl : S + cap ≤ R.slots)
    (k : ∀ T' h' b, b = h.size → n0 ≤ b → own_Sd p l e R s m args below meth c n0 T' h' (C + 1) (S + cap) → Ext h h' → own_Ar Z h' b (newarray.typeOf aty) (List.replicate N (defaultValue (newarray.typeOf aty))) → own_Go p e below P (T'.setTop { g with pc := g.pc + 2, stack := .ref b :: rest })) : own_Go p e below P (T.setTop g) := by
  have hn0 := X.ge0
  obtain ⟨L, X, N', eT, r1, r2⟩ := X
  obtain ⟨T', h', cA, X', e', E, A, st⟩ := newP X hx hZ w eT hg hd hs hn (cap := cap) (by rw [hN]; exact hcap) hb hc hl
  refine own_st st (k T' h' h.size rfl hn0 ⟨L, X', N', e', r1, Nat.le_trans r2 E.1⟩ E ⟨_, A, ?_, ?_⟩)
  · simp [newA, hN]
  · have := (back32 hn).2; rw [List.length_replicate]; omega
theorem own_inb {cl : Cell} (e : cl.slots = vs.toArray) {j : Int32} (hj : ¬ j < 0) (hi : j.toNatClampNeg = i) (hl : i < vs.length) : ¬ (j < 0 ∨ cl.slots.size ≤ j.toNatClampNeg) := by
  rw [e, hi]; intro q; rcases q with q | q
  · exact hj q
  · simp at q; omega
theorem own_stB (X : own_Sd p l e R s m args below meth c n0 T h C S) (hx : p.tables.exec = Jvm.exec) (hZ : Z.Warmed39 s.vm) (A : own_Ar Z h a .byte vs) {j x x' : Int32} (hj : ¬ j < 0) (hi : j.toNatClampNeg = i) (hl : i < vs.length) (hv : x.toInt8.toInt32 = x') (ga : n0 ≤ a) {g : JFrame} (hg : g.method = m) {rest : List Value} (hs : g.stack = .int x :: .int j :: .ref a :: rest) (hd : decode c.code g.pc = .ok (.bastore, 1))
    (k : ∀ T' h', own_Sd p l e R s m args below meth c n0 T' h' C S → Wr h h' a i (.int x') → own_Ar Z h' a .byte (vs.set i (.int x')) → own_Go p e below P (T'.setTop { g with pc := g.pc + 1, stack := rest })) : own_Go p e below P (T.setTop g) := by
  obtain ⟨L, X, N, eT, r1, r2⟩ := X
  have A0 := A
  obtain ⟨cl, A1, e1, hl1⟩ := A
  obtain ⟨T', h', X', e', W, st⟩ := stB X hx hZ eT A1 (own_inb e1 hj hi hl) hg hs hd
  have W' : Wr h h' a i (.int x') := by rw [← hi, ← hv]; exact W
  exact own_st st (k T' h' ⟨_, X', Fr.snoc X' N ga, e', r1, by rw [W.size]; exact r2⟩ W' (A0.set W'))
theorem own_stI (X : own_Sd p l e R s m args below meth c n0 T h C S) (hx : p.tables.exec = Jvm.exec) (hZ : Z.Warmed39 s.vm) (A : own_Ar Z h a .int vs) {j x : Int32} (hj : ¬ j < 0) (hi : j.toNatClampNeg = i) (hl : i < vs.length) (ga : n0 ≤ a) {g : JFrame} (hg : g.method = m) {rest : List Value} (hs : g.stack = .int x :: .int j :: .ref a :: rest) (hd : decode c.code g.pc = .ok (.iastore, 1))
    (k : ∀ T' h', own_Sd p l e R s m args below meth c n0 T' h' C S → Wr h h' a i (.int x) → own_Ar Z h' a .int (vs.set i (.int x)) → own_Go p e below P (T'.setTop { g with pc := g.pc + 1, stack := rest })) : own_Go p e below P (T.setTop g) := by
  obtain ⟨L, X, N, eT, r1, r2⟩ := X
  have A0 := A
  obtain ⟨cl, A1, e1, hl1⟩ := A
  obtain ⟨T', h', X', e', W, st⟩ := stI X hx hZ eT A1 (own_inb e1 hj hi hl) hg hs hd
  have W' : Wr h h' a i (.int x) := by rw [← hi]; exact W
  exact own_st st (k T' h' ⟨_, X', Fr.snoc X' N ga, e', r1, by rw [W.size]; exact r2⟩ W' (A0.set W'))
theorem own_stJ (X : own_Sd p l e R s m args below meth c n0 T h C S) (hx : p.tables.exec = Jvm.exec) (hZ : Z.Warmed39 s.vm) (A : own_Ar Z h a .long vs) {j : Int32} {x : Int64} (hj : ¬ j < 0) (hi : j.toNatClampNeg = i) (hl : i < vs.length) (ga : n0 ≤ a) {g : JFrame} (hg : g.method = m) {rest : List Value} (hs : g.stack = .long x :: .int j :: .ref a :: rest) (hd : decode c.code g.pc = .ok (.lastore, 1))
    (k : ∀ T' h', own_Sd p l e R s m args below meth c n0 T' h' C S → Wr h h' a i (.long x) → own_Ar Z h' a .long (vs.set i (.long x)) → own_Go p e below P (T'.setTop { g with pc := g.pc + 1, stack := rest })) : own_Go p e below P (T.setTop g) := by
  obtain ⟨L, X, N, eT, r1, r2⟩ := X
  have A0 := A
  obtain ⟨cl, A1, e1, hl1⟩ := A
  obtain ⟨T', h', X', e', W, st⟩ := stJ X hx hZ eT A1 (own_inb e1 hj hi hl) hg hs hd
  have W' : Wr h h' a i (.long x) := by rw [← hi]; exact W
  exact own_st st (k T' h' ⟨_, X', Fr.snoc X' N ga, e', r1, by rw [W.size]; exact r2⟩ W' (A0.set W'))
theorem own_at {cl : Cell} (e : cl.slots = vs.toArray) {j : Int32} (hi : j.toNatClampNeg = i) (hv : vs[i]? = some v) : cl.slots[j.toNatClampNeg]? = some v := by rw [e, hi]; simpa using hv
theorem own_ltl (hv : vs[i]? = some v) : i < vs.length := (List.getElem?_eq_some_iff.mp hv).1
theorem own_ldB (X : own_Sd p l e R s m args below meth c n0 T h C S) (hx : p.tables.exec = Jvm.exec) (hZ : Z.Warmed39 s.vm) (A : own_Ar Z h a .byte vs) {j : Int32} (hj : ¬ j < 0) (hi : j.toNatClampNeg = i) (hv : vs[i]? = some v) {g : JFrame} (hg : g.method = m) {rest : List Value} (hs : g.stack = .int j :: .ref a :: rest) (hd : decode c.code g.pc = .ok (.baload, 1))
    (k : own_Go p e below P (T.setTop { g with pc := g.pc + 1, stack := v :: rest })) : own_Go p e below P (T.setTop g) := by
  obtain ⟨L, X, N, eT, r⟩ := X
  obtain ⟨cl, A1, e1, hl1⟩ := A
  exact own_st (fun _ q => X.baloadBytes hx (by rw [eT]; exact A1.1) (State.isArrayOf_alike hZ.alike A1.2.1) A1.2.2 (own_inb e1 hj hi (own_ltl hv)) (own_at e1 hi hv) hg hs hd _ q) k
theorem own_ldI (X : own_Sd p l e R s m args below meth c n0 T h C S) (hx : p.tables.exec = Jvm.exec) (hZ : Z.Warmed39 s.vm) (A : own_Ar Z h a .int vs) {j : Int32} (hj : ¬ j < 0) (hi : j.toNatClampNeg = i) (hv : vs[i]? = some v) {g : JFrame} (hg : g.method = m) {rest : List Value} (hs : g.stack = .int j :: .ref a :: rest) (hd : decode c.code g.pc = .ok (.iaload, 1))
    (k : own_Go p e below P (T.setTop { g with pc := g.pc + 1, stack := v :: rest })) : own_Go p e below P (T.setTop g) := by
  obtain ⟨L, X, N, eT, r⟩ := X
  obtain ⟨cl, A1, e1, hl1⟩ := A
  exact own_st (fun _ q => X.iaload hx (by rw [eT]; exact A1.1) (State.isArrayOf_alike hZ.alike A1.2.1) A1.2.2 (own_inb e1 hj hi (own_ltl hv)) (own_at e1 hi hv) hg hs hd _ q) k
theorem own_ldJ (X : own_Sd p l e R s m args below meth c n0 T h C S) (hx : p.tables.exec = Jvm.exec) (hZ : Z.Warmed39 s.vm) (A : own_Ar Z h a .long vs) {j : Int32} (hj : ¬ j < 0) (hi : j.toNatClampNeg = i) (hv : vs[i]? = some v) {g : JFrame} (hg : g.method = m) {rest : List Value} (hs : g.stack = .int j :: .ref a :: rest) (hd : decode c.code g.pc = .ok (.laload, 1))
    (k : own_Go p e below P (T.setTop { g with pc := g.pc + 1, stack := v :: rest })) : own_Go p e below P (T.setTop g) := by
  obtain ⟨L, X, N, eT, r⟩ := X
  obtain ⟨cl, A1, e1, hl1⟩ := A
  exact own_st (fun _ q => X.laload hx (by rw [eT]; exact A1.1) (State.isArrayOf_alike hZ.alike A1.2.1) A1.2.2 (own_inb e1 hj hi (own_ltl hv)) (own_at e1 hi hv) hg hs hd _ q) k
theorem own_len (X : own_Sd p l e R s m args below meth c n0 T h C S) (hx : p.tables.exec = Jvm.exec) (hZ : Z.Warmed39 s.vm) (A : own_Ar Z h a ty vs) {z : Int32} (hz : vs.length.toInt32 = z) {g : JFrame} (hg : g.method = m) {rest : List Value} (hs : g.stack = .ref a :: rest) (hd : decode c.code g.pc = .ok (.arraylength, 1))
    (k : own_Go p e below P (T.setTop { g with pc := g.pc + 1, stack := .int z :: rest })) : own_Go p e below P (T.setTop g) := by
  obtain ⟨L, X, N, eT, r⟩ := X
  obtain ⟨cl, A1, e1, hl1⟩ := A
  have ez : cl.slots.size.toInt32 = z := by rw [e1, ← hz]; simp
  exact own_st (fun _ q => X.arraylength hx (by rw [eT]; exact A1.1) (State.isArrayOf_alike hZ.alike A1.2.1) hg hs hd _ (by rw [ez]; exact q)) k
theorem own_i8 (x : Int32) : x.toInt8.toInt32.toInt8.toInt32 = x.toInt8.toInt32 := by simp
end OwnA
section OwnT
variable {p : Program} {l : Launch} {e : Env} {R : Room} {s : State} {m : MethodId} {args : Array Value} {below : List Frame} {meth : Method} {c : Code} {T : State} {n0 C S : Nat} {Z : State} {a0 : Array Value} {h h' : Heap} {P : State → Outcome → Prop} {Q : Option Value → Heap → Prop} {a b : Addr} {ty : FieldType} {vs : List Value} {v : Value} {sl i : Nat}
variable {bytes : ByteArray} {maxL : Nat} {y : MethodName} {ret : Option FieldType} {pc : Nat} {Ls Ls' : Array Slot} {st : List Value}
theorem o_newP (cx : own_Cx p s m meth c Z bytes maxL y ret) (X : own_Sd p l e R s m args below meth c n0 T h C S) {aty : ArrayType} {n : Int32} (hd : decode bytes pc = .ok (.newarray aty, 2)) (w : (Jvm.Cond.arrayClass (newarray.typeOf aty)).before a0 Z = true) (hn : ¬ n < 0) (N cap : Nat) (hN : n.toNatClampNeg = N) (hcap : N ≤ cap) (hb8 : cap * 8 ≤ 536870912) (hc : C + 1 ≤ R.cells) (hl : S + cap ≤ R.slots) (k : ∀ T' h' b, b = h.size → n0 ≤ b → own_Sd p l e R s m args below meth c n0 T' h' (C + 1) (S + cap) → Ext h h' → own_Ar Z h' b (newarray.typeOf aty) (List.replicate N (defaultValue (newarray.typeOf aty))) → own_Go p e below P (T'.setTop (mkF m (pc + 2) Ls (.ref b :: st)))) : own_Go p e below P (T.setTop (mkF m pc Ls (.int n :: st))) := by
  obtain ⟨hx, hby, hml, hown, hnm, hret, hlk, hZ⟩ := cx
  exact own_newP X hx hZ w (g := mkF m pc Ls (.int n :: st)) rfl (hb hby hd) rfl hn hN hcap hb8 hc hl k
theorem o_stB (cx : own_Cx p s m meth c Z bytes maxL y ret) (X : own_Sd p l e R s m args below meth c n0 T h C S) {j : Int32} {x x' : Int32} (hd : decode bytes pc = .ok (.bastore, 1)) (A : own_Ar Z h a .byte vs) (i : Nat) (hj : ¬ j < 0) (hi : j.toNatClampNeg = i) (hl : i < vs.length) (hv : x.toInt8.toInt32 = x') (ga : n0 ≤ a) (k : ∀ T' h', own_Sd p l e R s m args below meth c n0 T' h' C S → Wr h h' a i (.int x') → own_Ar Z h' a .byte (vs.set i (.int x')) → own_Go p e below P (T'.setTop (mkF m (pc + 1) Ls st))) : own_Go p e below P (T.setTop (mkF m pc Ls (.int x :: .int j :: .ref a :: st))) := by
  obtain ⟨hx, hby, hml, hown, hnm, hret, hlk, hZ⟩ := cx
  exact own_stB X hx hZ A hj hi hl hv ga (g := mkF m pc Ls (.int x :: .int j :: .ref a :: st)) rfl rfl (hb hby hd) k
theorem o_stI (cx : own_Cx p s m meth c Z bytes maxL y ret) (X : own_Sd p l e R s m args below meth c n0 T h C S) {j : Int32} {x : Int32} (hd : decode bytes pc = .ok (.iastore, 1)) (A : own_Ar Z h a .int vs) (i : Nat) (hj : ¬ j < 0) (hi : j.toNatClampNeg = i) (hl : i < vs.length)  (ga : n0 ≤ a) (k : ∀ T' h', own_Sd p l e R s m args below meth c n0 T' h' C S → Wr h h' a i (.int x) → own_Ar Z h' a .int (vs.set i (.int x)) → own_Go p e below P (T'.setTop (mkF m (pc + 1) Ls st))) : own_Go p e below P (T.setTop (mkF m pc Ls (.int x :: .int j :: .ref a :: st))) := by
  obtain ⟨hx, hby, hml, hown, hnm, hret, hlk, hZ⟩ := cx
  exact own_stI X hx hZ A hj hi hl ga (g := mkF m pc Ls (.int x :: .int j :: .ref a :: st)) rfl rfl (hb hby hd) k
theorem o_stJ (cx : own_Cx p s m meth c Z bytes maxL y ret) (X : own_Sd p l e R s m args below meth c n0 T h C S) {j : Int32} {x : Int64} (hd : decode bytes pc = .ok (.lastore, 1)) (A : own_Ar Z h a .long vs) (i : Nat) (hj : ¬ j < 0) (hi : j.toNatClampNeg = i) (hl : i < vs.length)  (ga : n0 ≤ a) (k : ∀ T' h', own_Sd p l e R s m args below meth c n0 T' h' C S → Wr h h' a i (.long x) → own_Ar Z h' a .long (vs.set i (.long x)) → own_Go p e below P (T'.setTop (mkF m (pc + 1) Ls st))) : own_Go p e below P (T.setTop (mkF m pc Ls (.long x :: .int j :: .ref a :: st))) := by
  obtain ⟨hx, hby, hml, hown, hnm, hret, hlk, hZ⟩ := cx
  exact own_stJ X hx hZ A hj hi hl ga (g := mkF m pc Ls (.long x :: .int j :: .ref a :: st)) rfl rfl (hb hby hd) k
theorem o_ldB (cx : own_Cx p s m meth c Z bytes maxL y ret) (X : own_Sd p l e R s m args below meth c n0 T h C S) {j : Int32} (hd : decode bytes pc = .ok (.baload, 1)) (A : own_Ar Z h a .byte vs) (i : Nat) (hj : ¬ j < 0) (hi : j.toNatClampNeg = i) (hv : vs[i]? = some v) (k : own_Go p e below P (T.setTop (mkF m (pc + 1) Ls (v :: st)))) : own_Go p e below P (T.setTop (mkF m pc Ls (.int j :: .ref a :: st))) := by
  obtain ⟨hx, hby, hml, hown, hnm, hret, hlk, hZ⟩ := cx
  exact own_ldB X hx hZ A hj hi hv (g := mkF m pc Ls (.int j :: .ref a :: st)) rfl rfl (hb hby hd) k
theorem o_ldI (cx : own_Cx p s m meth c Z bytes maxL y ret) (X : own_Sd p l e R s m args below meth c n0 T h C S) {j : Int32} (hd : decode bytes pc = .ok (.iaload, 1)) (A : own_Ar Z h a .int vs) (i : Nat) (hj : ¬ j < 0) (hi : j.toNatClampNeg = i) (hv : vs[i]? = some v) (k : own_Go p e below P (T.setTop (mkF m (pc + 1) Ls (v :: st)))) : own_Go p e below P (T.setTop (mkF m pc Ls (.int j :: .ref a :: st))) := by
  obtain ⟨hx, hby, hml, hown, hnm, hret, hlk, hZ⟩ := cx
  exact own_ldI X hx hZ A hj hi hv (g := mkF m pc Ls (.int j :: .ref a :: st)) rfl rfl (hb hby hd) k
theorem o_ldJ (cx : own_Cx p s m meth c Z bytes maxL y ret) (X : own_Sd p l e R s m args below meth c n0 T h C S) {j : Int32} (hd : decode bytes pc = .ok (.laload, 1)) (A : own_Ar Z h a .long vs) (i : Nat) (hj : ¬ j < 0) (hi : j.toNatClampNeg = i) (hv : vs[i]? = some v) (k : own_Go p e below P (T.setTop (mkF m (pc + 1) Ls (v :: st)))) : own_Go p e below P (T.setTop (mkF m pc Ls (.int j :: .ref a :: st))) := by
  obtain ⟨hx, hby, hml, hown, hnm, hret, hlk, hZ⟩ := cx
  exact own_ldJ X hx hZ A hj hi hv (g := mkF m pc Ls (.int j :: .ref a :: st)) rfl rfl (hb hby hd) k
theorem o_len (cx : own_Cx p s m meth c Z bytes maxL y ret) (X : own_Sd p l e R s m args below meth c n0 T h C S) {z : Int32} (hd : decode bytes pc = .ok (.arraylength, 1)) (A : own_Ar Z h a ty vs) (hz : vs.length.toInt32 = z) (k : own_Go p e below P (T.setTop (mkF m (pc + 1) Ls (.int z :: st)))) : own_Go p e below P (T.setTop (mkF m pc Ls (.ref a :: st))) := by
  obtain ⟨hx, hby, hml, hown, hnm, hret, hlk, hZ⟩ := cx
  exact own_len X hx hZ A hz (g := mkF m pc Ls (.ref a :: st)) rfl rfl (hb hby hd) k
end OwnT
section OwnR
variable {p : Program} {l : Launch} {e : Env} {R : Room} {s : State} {m : MethodId} {args : Array Value} {below : List Frame} {meth : Method} {c : Code} {T : State} {n0 C S : Nat} {Z : State} {a0 : Array Value} {h h' : Heap} {P : State → Outcome → Prop} {a b : Addr} {K : String} {vs : List Value} {v : Value} {sl i : Nat} {wsA : List Addr}
variable {bytes : ByteArray} {maxL : Nat} {y : MethodName} {ret : Option FieldType} {pc : Nat} {Ls : Array Slot} {st : List Value}
/-- an array of references to objects of a class, with just these elements -/
def own_Rr (Z : State) (h : Heap) (a : Addr) (K : String) (vs : List Value) : Prop := ∃ cl : Cell, Arr Z h a cl (.object K) ∧ cl.slots = vs.toArray ∧ vs.length < 2 ^ 31 ∧ Ovr Z cl.cls K
theorem own_Rr.lt (F : own_Rr Z h a K vs) : a < h.size := by obtain ⟨_, A, _⟩ := F; exact A.lt
theorem own_Rr.ext (F : own_Rr Z h a K vs) (E : Ext h h') : own_Rr Z h' a K vs := by obtain ⟨c, A, r⟩ := F; exact ⟨c, A.ext E, r⟩
theorem own_Rr.other (F : own_Rr Z h b K vs) (W : Wr h h' a sl v) (q : b ≠ a) : own_Rr Z h' b K vs := by obtain ⟨c, A, r⟩ := F; exact ⟨c, A.other W q, r⟩
theorem own_Rr.keep (F : own_Rr Z h a K vs) (Q : Keep h h' wsA) (q : a ∉ wsA) : own_Rr Z h' a K vs := by obtain ⟨c, A, r⟩ := F; exact ⟨c, ⟨Q.2.1 a c A.1 q, A.2⟩, r⟩
theorem own_Rr.set (F : own_Rr Z h a K vs) (W : Wr h h' a i v) : own_Rr Z h' a K (vs.set i v) := by
  obtain ⟨cl, A, e, hl, O⟩ := F
  exact ⟨_, A.same W, by simp [Cell.setSlot, e], by simpa using hl, O⟩
theorem own_Rr.sto {q : Addr} (F : own_Rr Z h a K vs) (E : Exa Z h q K) : Sto Z h a (.ref q) := by obtain ⟨cl, A, e, hl, O⟩ := F; exact Sto.of A O (Ins.self E)
/-- a static field that was there at the start -/
def own_St (Z : State) (n0 : Nat) (h : Heap) (K n d : String) (v : Value) : Prop := ∃ (cf i : Nat) (k : Class) (f : Field) (st : Addr) (cell : Cell), Z.fieldFound? K n d = some (cf, k, i, f) ∧ f.isStatic = true ∧ k.init = .initialized ∧ k.statics = some st ∧ h[st]? = some cell ∧ cell.vm.isStatics = true ∧ cell.slots[f.slot]? = some v ∧ st < n0
theorem own_St.of {n d : String} (F : Sta Z h K n d v) : own_St Z h.size h K n d v := by
  obtain ⟨cf, i, k, f, st, cell, h1, h2, h3, h4, h5, h6, h7⟩ := F
  exact ⟨cf, i, k, f, st, cell, h1, h2, h3, h4, h5, h6, h7, (Array.getElem?_eq_some_iff.mp h5).1⟩
theorem own_St.sta {n d : String} (F : own_St Z n0 h K n d v) : Sta Z h K n d v := by
  obtain ⟨cf, i, k, f, st, cell, h1, h2, h3, h4, h5, h6, h7, -⟩ := F
  exact ⟨cf, i, k, f, st, cell, h1, h2, h3, h4, h5, h6, h7⟩
theorem own_St.ext {n d : String} (F : own_St Z n0 h K n d v) (E : Ext h h') : own_St Z n0 h' K n d v := by
  obtain ⟨cf, i, k, f, st, cell, h1, h2, h3, h4, h5, r⟩ := F
  exact ⟨cf, i, k, f, st, cell, h1, h2, h3, h4, E.2 _ _ h5, r⟩
theorem own_St.keep {n d : String} (F : own_St Z n0 h K n d v) (Q : Keep h h' wsA) (q : ∀ x ∈ wsA, n0 ≤ x) : own_St Z n0 h' K n d v := by
  obtain ⟨cf, i, k, f, st, cell, h1, h2, h3, h4, h5, h6, h7, h8⟩ := F
  exact ⟨cf, i, k, f, st, cell, h1, h2, h3, h4, Q.2.1 _ _ h5 (fun z => absurd (q _ z) (Nat.not_le.mpr h8)), h6, h7, h8⟩
theorem own_St.wr {n d : String} {w : Value} (F : own_St Z n0 h K n d v) (W : Wr h h' a sl w) (g : n0 ≤ a) : own_St Z n0 h' K n d v := F.keep (Keep.of_wr W) (allS g all0)
theorem o_getS (cx : own_Cx p s m meth c Z bytes maxL y ret) (X : own_Sd p l e R s m args below meth c n0 T h C S) {O n d : String} {j : Nat} (hd : decode bytes pc = .ok (.getstatic j, 3)) (w : (Jvm.Cond.fieldLink y.cls j O n d).before a0 Z = true) (F : own_St Z n0 h O n d v)
    (k : ∀ T', own_Sd p l e R s m args below meth c n0 T' h C S → own_Go p e below P (T'.setTop (mkF m (pc + 3) Ls (v :: st)))) : own_Go p e below P (T.setTop (mkF m pc Ls st)) := by
  obtain ⟨hx, hby, hml, hown, hnm, hret, hlk, hZ⟩ := cx
  obtain ⟨L, X, N, eT, r⟩ := X
  obtain ⟨T', X', e', st'⟩ := getS (host := "") X hx hZ hown w Via.refl eT F.sta (g := mkF m pc Ls st) rfl (hb hby hd)
  exact own_st st' (k T' ⟨L, X', N, e', r⟩)
theorem o_newR (cx : own_Cx p s m meth c Z bytes maxL y ret) (X : own_Sd p l e R s m args below meth c n0 T h C S) {j : Nat} {n : Int32} (hd : decode bytes pc = .ok (.anewarray j, 3)) (w1 : (Jvm.Cond.classLink y.cls j K).before a0 Z = true) (w2 : (Jvm.Cond.arrayOver (.object K)).before a0 Z = true) (hn : ¬ n < 0) (N cap : Nat) (hN : n.toNatClampNeg = N) (hcap : N ≤ cap) (hb8 : cap * 8 ≤ 536870912) (hc : C + 1 ≤ R.cells) (hl : S + cap ≤ R.slots)
    (k : ∀ T' h' b, b = h.size → n0 ≤ b → own_Sd p l e R s m args below meth c n0 T' h' (C + 1) (S + cap) → Ext h h' → own_Rr Z h' b K (List.replicate N .null) → own_Go p e below P (T'.setTop (mkF m (pc + 3) Ls (.ref b :: st)))) : own_Go p e below P (T.setTop (mkF m pc Ls (.int n :: st))) := by
  have hn0 := X.ge0
  obtain ⟨hx, hby, hml, hown, hnm, hret, hlk, hZ⟩ := cx
  obtain ⟨L, X, N', eT, r1, r2⟩ := X
  obtain ⟨T', h', cA, X', e', E, A, O, st'⟩ := newR X hx hZ hown w1 w2 eT (g := mkF m pc Ls (.int n :: st)) rfl (hb hby hd) rfl hn (cap := cap) (by rw [hN]; exact hcap) hb8 hc hl
  refine own_st st' (k T' h' h.size rfl hn0 ⟨L, X', N', e', r1, Nat.le_trans r2 E.1⟩ E ⟨_, A, ?_, ?_, O⟩)
  · simp [newA, hN, defaultValue]
  · have := (back32 hn).2; rw [List.length_replicate]; omega
theorem o_stR (cx : own_Cx p s m meth c Z bytes maxL y ret) (X : own_Sd p l e R s m args below meth c n0 T h C S) {j : Int32} (hd : decode bytes pc = .ok (.aastore, 1)) (A : own_Rr Z h a K vs) (i : Nat) (hj : ¬ j < 0) (hi : j.toNatClampNeg = i) (hl : i < vs.length) (F : Sto Z h a v) (ga : n0 ≤ a)
    (k : ∀ T' h', own_Sd p l e R s m args below meth c n0 T' h' C S → Wr h h' a i v → own_Rr Z h' a K (vs.set i v) → own_Go p e below P (T'.setTop (mkF m (pc + 1) Ls st))) : own_Go p e below P (T.setTop (mkF m pc Ls (v :: .int j :: .ref a :: st))) := by
  obtain ⟨hx, hby, hml, hown, hnm, hret, hlk, hZ⟩ := cx
  obtain ⟨L, X, N, eT, r1, r2⟩ := X
  have A0 := A
  obtain ⟨cl, A1, e1, hl1, O⟩ := A
  obtain ⟨T', h', X', e', W, st'⟩ := stR X hx hZ eT A1 (own_inb e1 hj hi hl) rfl F (g := mkF m pc Ls (v :: .int j :: .ref a :: st)) rfl rfl (hb hby hd)
  have W' : Wr h h' a i v := by rw [← hi]; exact W
  exact own_st st' (k T' h' ⟨_, X', Fr.snoc X' N ga, e', r1, by rw [W.size]; exact r2⟩ W' (A0.set W'))
theorem o_lenR (cx : own_Cx p s m meth c Z bytes maxL y ret) (X : own_Sd p l e R s m args below meth c n0 T h C S) {z : Int32} (hd : decode bytes pc = .ok (.arraylength, 1)) (A : own_Rr Z h a K vs) (hz : vs.length.toInt32 = z)
    (k : own_Go p e below P (T.setTop (mkF m (pc + 1) Ls (.int z :: st)))) : own_Go p e below P (T.setTop (mkF m pc Ls (.ref a :: st))) := by
  obtain ⟨hx, hby, hml, hown, hnm, hret, hlk, hZ⟩ := cx
  obtain ⟨cl, A1, e1, hl1, O⟩ := A
  exact own_len X hx hZ (⟨cl, A1, e1, hl1⟩ : own_Ar Z h a (.object K) vs) hz (g := mkF m pc Ls (.ref a :: st)) rfl rfl (hb hby hd) k
end OwnR
theorem own_c8 (y : Int32) : ¬ (255 : Int32) < ((y &&& (255 : Int32)).toUInt32.toUInt16.toUInt32.toInt32) := by
  rw [i2c_mask]
  have e : (y &&& (255 : Int32)).toInt = y.toInt % 256 := c_mask y 255 8 (by decide) (by decide)
  have l : (255 : Int32).toInt = 255 := by decide
  rw [Int32.lt_iff_toInt_lt, e, l]; omega
theorem d4_0 : decode jdk_43_method_3_code 0 = .ok (.iload_n 0, 1) := by decide +kernel
theorem d4_1 : decode jdk_43_method_3_code 1 = .ok (.sipush 255, 3) := by decide +kernel
theorem d4_4 : decode jdk_43_method_3_code 4 = .ok (.if_icmp .gt 7, 3) := by decide +kernel
theorem d4_7 : decode jdk_43_method_3_code 7 = .ok (.iconst 1, 1) := by decide +kernel
theorem d4_8 : decode jdk_43_method_3_code 8 = .ok (.goto 4, 3) := by decide +kernel
theorem d4_12 : decode jdk_43_method_3_code 12 = .ok (.ireturn, 1) := by decide +kernel
theorem pn_4 : plainName "java/lang/StringLatin1" = true := by first | (simp [plainName, overriddenIn]; done) | decide +kernel
theorem ef_rm1 (m : MethodId) (cc : Int32) : entryFrame m #[(.int cc)] 1 = mkF m 0 #[.val (.int cc)] [] := by first | (simp [entryFrame, mkF, argsToLocals, Value.category]; done) | rfl
set_option maxRecDepth 65536 in
set_option maxHeartbeats 40000000 in
theorem rm1 (l : Launch) (Z : State) (a0 : Array Value) (hw : ∀ d ∈ tables_1, d.before a0 Z = true) (cc : Int32) (h0 : Heap) (n0 : Nat) (Z0 : n0 ≤ h0.size) (hq : ¬ (255 : Int32) < cc) :
    own_Met l Z (⟨"java/lang/StringLatin1", "canEncode", "(C)Z"⟩ : MethodName) jdk_43_method_3_code 1 (some .boolean) ({ frames := 0, cells := 0, slots := 0, locals := 0 } : Room) #[(.int cc)] h0 n0 (fun v' h' => v' = some (.int 1) ∧ h' = h0) := by
  refine own_body (plainFor_of_name pn_4) (fun m => ef_rm1 m cc) Z0 ?_
  intro p e s m below meth c T0 cx X0
  show own_Go p e below _ (T0.setTop (mkF m 0 #[.val (.int cc)] []))
  refine o_iloadN cx X0 d4_0 rfl ?_
  refine o_sipush cx X0 (z := (255 : Int32)) d4_1 rfl ?_
  refine o_icmpNo cx X0 d4_4 (flt hq).2.2.1 ?_
  refine o_iconst cx X0 (z := (1 : Int32)) d4_7 rfl ?_
  refine o_goto cx X0 12 d4_8 (by decide) (by decide) ?_
  exact o_retN cx X0 (z' := (1 : Int32)) d4_12 (by simp) rfl ⟨rfl, rfl⟩ (by decide) (by decide)
theorem d3_0 : decode jdk_42_method_139_code 0 = .ok (.getstatic 38, 3) := by decide +kernel
theorem d3_3 : decode jdk_42_method_139_code 3 = .ok (.ifCond .eq 23, 3) := by decide +kernel
theorem d3_6 : decode jdk_42_method_139_code 6 = .ok (.iload_n 0, 1) := by decide +kernel
theorem d3_7 : decode jdk_42_method_139_code 7 = .ok (.invokestatic 1015, 3) := by decide +kernel
theorem pd_4 : parseMethodDescriptor "(C)Z" = some ⟨[.char], some .boolean⟩ := by decide +kernel
theorem d3_10 : decode jdk_42_method_139_code 10 = .ok (.ifCond .eq 16, 3) := by decide +kernel
theorem d3_13 : decode jdk_42_method_139_code 13 = .ok (.new 10, 3) := by decide +kernel
theorem d3_16 : decode jdk_42_method_139_code 16 = .ok (.dup, 1) := by decide +kernel
theorem d3_17 : decode jdk_42_method_139_code 17 = .ok (.iload_n 0, 1) := by decide +kernel
theorem d3_18 : decode jdk_42_method_139_code 18 = .ok (.invokestatic 1018, 3) := by decide +kernel
theorem d5_0 : decode jdk_43_method_46_code 0 = .ok (.iconst 1, 1) := by decide +kernel
theorem d5_1 : decode jdk_43_method_46_code 1 = .ok (.newarray .byte, 2) := by decide +kernel
theorem d5_3 : decode jdk_43_method_46_code 3 = .ok (.dup, 1) := by decide +kernel
theorem d5_4 : decode jdk_43_method_46_code 4 = .ok (.iconst 0, 1) := by decide +kernel
theorem d5_5 : decode jdk_43_method_46_code 5 = .ok (.iload_n 0, 1) := by decide +kernel
theorem d5_6 : decode jdk_43_method_46_code 6 = .ok (.i2b, 1) := by decide +kernel
theorem d5_7 : decode jdk_43_method_46_code 7 = .ok (.bastore, 1) := by decide +kernel
theorem d5_8 : decode jdk_43_method_46_code 8 = .ok (.areturn, 1) := by decide +kernel
theorem ef_ra5_1 (m : MethodId) (q0 : Int32) : entryFrame m #[(.int q0)] 1 = mkF m 0 #[.val (.int q0)] [] := by first | (simp [entryFrame, mkF, argsToLocals, Value.category]; done) | rfl
set_option maxRecDepth 65536 in
set_option maxHeartbeats 40000000 in
theorem ra5_1 (l : Launch) (Z : State) (a0 : Array Value) (hw : ∀ d ∈ tables_1, d.before a0 Z = true) (q0 : Int32) (h0 : Heap) (n0 : Nat) (Z0 : n0 ≤ h0.size) :
    own_Met l Z (⟨"java/lang/StringLatin1", "toBytes", "(C)[B"⟩ : MethodName) jdk_43_method_46_code 1 (some (.array .byte)) ({ frames := 0, cells := 1, slots := 1, locals := 0 } : Room) #[(.int q0)] h0 n0 (fun v' h' => ∃ b0 : Addr, v' = some (.ref b0) ∧ Keep h0 h' [] ∧ h0.size ≤ b0 ∧ n0 ≤ b0 ∧ own_Ar Z h' b0 .byte [(.int (q0.toInt8.toInt32))]) := by
  refine own_body (plainFor_of_name pn_4) (fun m => ef_ra5_1 m q0) Z0 ?_
  intro p e s m below meth c T0 cx X0
  have KK := Keep.refl h0 []
  show own_Go p e below _ (T0.setTop (mkF m 0 #[.val (.int q0)] []))
  refine o_iconst cx X0 (z := (1 : Int32)) d5_0 rfl ?_
  refine o_newP cx X0 d5_1 (o_w hw 28 rfl) (by decide) 1 1 rfl (Nat.le_refl _) (by decide) (by decide) (by decide) fun T30 h32 b29 gb35 ge36 X31 E33 A34 => ?_
  have sz_b29 : h0.size ≤ b29 := by rw [gb35]; exact KK.1
  have KK := KK.ext E33
  have A34 : own_Ar Z h32 b29 .byte [(.int (0 : Int32))] := A34
  refine o_dup cx X31 d5_3 rfl ?_
  refine o_iconst cx X31 (z := (0 : Int32)) d5_4 rfl ?_
  refine o_iloadN cx X31 d5_5 rfl ?_
  refine o_i2b cx X31 d5_6 rfl ?_
  refine o_stB cx X31 (x' := (q0.toInt8.toInt32)) d5_7 A34 0 (by decide) rfl (Nat.le_of_ble_eq_true rfl) (own_i8 _) ge36 fun T37 h39 X38 W40 A34 => ?_
  have KK := KK.wr W40 (Or.inr sz_b29)
  have A34 : own_Ar Z h39 b29 .byte [(.int (q0.toInt8.toInt32))] := A34
  exact o_retA cx X38 d5_8 rfl rfl rfl ⟨b29, rfl, KK, sz_b29, ge36, A34⟩ (by decide) (by decide)
theorem pd_5 : parseMethodDescriptor "(C)[B" = some ⟨[.char], some (.array .byte)⟩ := by decide +kernel
theorem d3_21 : decode jdk_42_method_139_code 21 = .ok (.iconst 0, 1) := by decide +kernel
theorem d3_22 : decode jdk_42_method_139_code 22 = .ok (.invokespecial 209, 3) := by decide +kernel
theorem d6_0 : decode jdk_42_method_151_code 0 = .ok (.aload_n 0, 1) := by decide +kernel
theorem d6_1 : decode jdk_42_method_151_code 1 = .ok (.invokespecial 1, 3) := by decide +kernel
theorem d6_4 : decode jdk_42_method_151_code 4 = .ok (.aload_n 0, 1) := by decide +kernel
theorem d6_5 : decode jdk_42_method_151_code 5 = .ok (.aload_n 1, 1) := by decide +kernel
theorem d6_6 : decode jdk_42_method_151_code 6 = .ok (.putfield 9, 3) := by decide +kernel
theorem d6_9 : decode jdk_42_method_151_code 9 = .ok (.aload_n 0, 1) := by decide +kernel
theorem d6_10 : decode jdk_42_method_151_code 10 = .ok (.iload_n 2, 1) := by decide +kernel
theorem d6_11 : decode jdk_42_method_151_code 11 = .ok (.putfield 15, 3) := by decide +kernel
theorem d6_14 : decode jdk_42_method_151_code 14 = .ok (.return_, 1) := by decide +kernel
theorem pn_6 : plainName "java/lang/String" = true := by first | (simp [plainName, overriddenIn]; done) | decide +kernel
theorem ef_ra6_2 (m : MethodId) (ob0 : Addr) (ob1 : Addr) : entryFrame m #[(.ref ob0), (.ref ob1), (.int (0 : Int32))] 3 = mkF m 0 #[.val (.ref ob0), .val (.ref ob1), .val (.int (0 : Int32))] [] := by first | (simp [entryFrame, mkF, argsToLocals, Value.category]; done) | rfl
set_option maxRecDepth 65536 in
set_option maxHeartbeats 40000000 in
theorem ra6_2 (l : Launch) (Z : State) (a0 : Array Value) (hw : ∀ d ∈ tables_1, d.before a0 Z = true) (ob0 : Addr) (ob1 : Addr) (q0 : Int32) (h0 : Heap) (n0 : Nat) (Z0 : n0 ≤ h0.size) (ga0 : n0 ≤ ob0) (ga1 : n0 ≤ ob1) (ne_0_1 : ob0 ≠ ob1) (G0 : Exa Z h0 ob0 "java/lang/String") (G1 : Fld Z h0 ob0 "java/lang/String" "value" "[B" .null) (G2 : Fld Z h0 ob0 "java/lang/String" "coder" "B" (.int (0 : Int32))) (G3 : own_Ar Z h0 ob1 .byte [(.int q0)]) :
    own_Met l Z (⟨"java/lang/String", "<init>", "([BB)V"⟩ : MethodName) jdk_42_method_151_code 3 none ({ frames := 1, cells := 0, slots := 0, locals := 12 } : Room) #[(.ref ob0), (.ref ob1), (.int (0 : Int32))] h0 n0 (fun v' h' => v' = none ∧ Keep h0 h' [ob0] ∧ Exa Z h' ob0 "java/lang/String" ∧ Fld Z h' ob0 "java/lang/String" "value" "[B" (.ref ob1) ∧ Fld Z h' ob0 "java/lang/String" "coder" "B" (.int (0 : Int32))) := by
  refine own_body (plainFor_of_name pn_6) (fun m => ef_ra6_2 m ob0 ob1) Z0 ?_
  intro p e s m below meth c T0 cx X0
  have KK := Keep.refl h0 [ob0]
  show own_Go p e below _ (T0.setTop (mkF m 0 #[.val (.ref ob0), .val (.ref ob1), .val (.int (0 : Int32))] []))
  refine o_aloadN cx X0 d6_0 rfl rfl ?_
  refine o_initO cx X0 d6_1 (o_w hw 47 rfl) (o_w hw 7 rfl) (o_w hw 8 rfl) rfl (by decide) 0 rfl (by decide) fun T59 X60 => ?_
  refine o_aloadN cx X60 d6_4 rfl rfl ?_
  refine o_aloadN cx X60 d6_5 rfl rfl ?_
  refine o_putF cx X60 (v' := (.ref ob1)) (ty := (.array .byte)) d6_6 (o_w hw 48 rfl) G1 G0 (Or.inr ⟨(o_w hw 49 rfl), rfl, rfl⟩) (o_w hw 39 rfl) (by decide) rfl rfl ga0 fun T61 h63 X62 W64 => ?_
  have G0 := G0.wr W64
  have G1 := G1.same W64
  have G2 := G2.other W64 (Or.inr (slot_ne (Or.inr (o_w hw 51 rfl)) (Or.inr (o_w hw 49 rfl)) (by decide) (t := .byte) (t' := (.array .byte)) (by decide) (by decide)))
  have G3 := G3.other W64 (Ne.symm ne_0_1)
  have KK := KK.wr W64 (Or.inl (List.mem_of_getElem? (i := 0) rfl))
  refine o_aloadN cx X62 d6_9 rfl rfl ?_
  refine o_iloadN cx X62 d6_10 rfl ?_
  refine o_putF cx X62 (v' := (.int (0 : Int32))) (ty := .byte) d6_11 (o_w hw 50 rfl) G2 G0 (Or.inr ⟨(o_w hw 51 rfl), rfl, rfl⟩) (o_w hw 39 rfl) (by decide) rfl (fits_nar_byte (0 : Int32)) ga0 fun T65 h67 X66 W68 => ?_
  have G0 := G0.wr W68
  have G1 := G1.other W68 (Or.inr (slot_ne (Or.inr (o_w hw 49 rfl)) (Or.inr (o_w hw 51 rfl)) (by decide) (t := (.array .byte)) (t' := .byte) (by decide) (by decide)))
  have G2 := G2.same W68
  have G3 := G3.other W68 (Ne.symm ne_0_1)
  have KK := KK.wr W68 (Or.inl (List.mem_of_getElem? (i := 0) rfl))
  exact o_retV cx X66 d6_14 ⟨rfl, KK, G0, G1, G2⟩ (by decide) (by decide)
theorem pd_6 : parseMethodDescriptor "([BB)V" = some ⟨[(.array .byte), .byte], none⟩ := by decide +kernel
theorem d3_25 : decode jdk_42_method_139_code 25 = .ok (.areturn, 1) := by decide +kernel
theorem ef_rm2 (m : MethodId) (cc : Int32) : entryFrame m #[(.int cc)] 1 = mkF m 0 #[.val (.int cc)] [] := by first | (simp [entryFrame, mkF, argsToLocals, Value.category]; done) | rfl
set_option maxRecDepth 65536 in
set_option maxHeartbeats 40000000 in
theorem rm2 (l : Launch) (Z : State) (a0 : Array Value) (hw : ∀ d ∈ tables_1, d.before a0 Z = true) (cc : Int32) (cs : Int32) (h0 : Heap) (n0 : Nat) (Z0 : n0 ≤ h0.size) (hq : ¬ (255 : Int32) < cc) (hs : ¬ cs = (0 : Int32)) (S0 : own_St Z n0 h0 "java/lang/String" "COMPACT_STRINGS" "Z" (.int cs)) :
    own_Met l Z (⟨"java/lang/String", "valueOf", "(C)Ljava/lang/String;"⟩ : MethodName) jdk_42_method_139_code 1 (some (.object "java/lang/String")) ({ frames := 2, cells := 2, slots := 5, locals := 27 } : Room) #[(.int cc)] h0 n0 (fun v' h' => ∃ b : Addr, v' = some (.ref b) ∧ Keep h0 h' [] ∧ h0.size ≤ b ∧ n0 ≤ b ∧ Exa Z h' b "java/lang/String") := by
  refine own_body (plainFor_of_name pn_6) (fun m => ef_rm2 m cc) Z0 ?_
  intro p e s m below meth c T0 cx X0
  have KK := Keep.refl h0 []
  show own_Go p e below _ (T0.setTop (mkF m 0 #[.val (.int cc)] []))
  refine o_getS cx X0 d3_0 (o_w hw 33 rfl) S0 fun T1 X2 => ?_
  refine o_ifNo cx X2 d3_3 ((if0 _ _).trans (feq hs).1) ?_
  refine o_iloadN cx X2 d3_6 rfl ?_
  refine o_callSp cx X2 (y' := (⟨"java/lang/StringLatin1", "canEncode", "(C)Z"⟩ : MethodName)) (argsL := [(.int cc)]) (st := []) d3_7 (o_w hw 34 rfl) (o_w hw 35 rfl) (o_w hw 36 rfl) (o_w hw 37 rfl) (by decide) (rm1 l Z a0 hw cc h0 n0 X2.ge0 hq) (by decide) 0 rfl (by decide) rfl (lenOf pd_4 rfl) rfl rfl (by decide) (by decide) fun T3 X4 => ?_
  show own_Go p e below _ (T3.setTop (mkF m 10 #[.val (.int cc)] [(.int (1 : Int32))]))
  refine o_ifNo cx X4 d3_10 (by decide) ?_
  refine o_newO cx X4 d3_13 (o_w hw 38 rfl) (o_w hw 39 rfl) (o_w hw 31 rfl) (by decide) (by decide) fun T9 h11 b8 gb15 ge16 X10 E12 A13 D14 => ?_
  have sz_b8 : h0.size ≤ b8 := by rw [gb15]; exact KK.1
  have S0 := S0.ext E12
  have KK := KK.ext E12
  have F_b8_value : Fld Z h11 b8 "java/lang/String" "value" "[B" .null := D14 (Or.inr (o_w hw 49 rfl)) (ty := (.array .byte)) (by decide)
  have F_b8_coder : Fld Z h11 b8 "java/lang/String" "coder" "B" (.int (0 : Int32)) := D14 (Or.inr (o_w hw 51 rfl)) (ty := .byte) (by decide)
  refine o_dup cx X10 d3_16 rfl ?_
  refine o_iloadN cx X10 d3_17 rfl ?_
  refine o_callS cx X10 (y' := (⟨"java/lang/StringLatin1", "toBytes", "(C)[B"⟩ : MethodName)) (argsL := [(.int cc)]) (st := [(.ref b8), (.ref b8)]) d3_18 (o_w hw 40 rfl) (o_w hw 41 rfl) (o_w hw 36 rfl) (o_w hw 42 rfl) (by decide) (ra5_1 l Z a0 hw cc h11 n0 X10.ge0 ) (by decide) 2 rfl (by decide) rfl (lenOf pd_5 rfl) rfl rfl (by decide) (by decide) fun v20 T17 h19 X18 Q21 => ?_
  obtain ⟨b22, rfl, K23, sz_b22, ge_b22, A24⟩ := Q21
  have ne_b8_b22 : b8 ≠ b22 := Nat.ne_of_lt (Nat.lt_of_lt_of_le A13.lt sz_b22)
  have szk_b22 : h0.size ≤ b22 := Nat.le_trans KK.1 sz_b22
  have S0 := S0.keep K23 all0
  have A13 := A13.keep K23
  have F_b8_value := F_b8_value.keep K23 nin0
  have F_b8_coder := F_b8_coder.keep K23 nin0
  have KK := KK.trans K23 all0
  show own_Go p e below _ (T17.setTop (mkF m 21 #[.val (.int cc)] [(.ref b22), (.ref b8), (.ref b8)]))
  refine o_iconst cx X18 (z := (0 : Int32)) d3_21 rfl ?_
  refine o_callC cx X18 (y' := (⟨"java/lang/String", "<init>", "([BB)V"⟩ : MethodName)) (argsL := [(.ref b22), (.int (0 : Int32))]) (st := [(.ref b8)]) (a := b8) d3_22 (o_w hw 43 rfl) (o_w hw 44 rfl) (o_w hw 31 rfl) (o_w hw 46 rfl) (by decide) rfl (ra6_2 l Z a0 hw b8 b22 (cc.toInt8.toInt32) h19 n0 X18.ge0 ge16 ge_b22 ne_b8_b22 A13 F_b8_value F_b8_coder A24) (by decide) 1 rfl (by decide) rfl (lenOf pd_6 rfl) rfl rfl (by decide) (by decide) fun v28 T25 h27 X26 Q29 => ?_
  obtain ⟨rfl, K30, E31, F32, F33⟩ := Q29
  have S0 := S0.keep K30 (allS ge16 all0)
  have A24 := A24.keep K30 (ninS (Ne.symm ne_b8_b22) nin0)
  have KK := KK.trans K30 (allS (Or.inr sz_b8) all0)
  show own_Go p e below _ (T25.setTop (mkF m 25 #[.val (.int cc)] [(.ref b8)]))
  exact o_retA cx X26 d3_25 rfl rfl rfl ⟨b8, rfl, KK, sz_b8, ge16, E31⟩ (by decide) (by decide)
theorem d1_0 : decode prog_166_method_1_code 0 = .ok (.aload_n 0, 1) := by decide +kernel
theorem d1_1 : decode prog_166_method_1_code 1 = .ok (.invokespecial 1, 3) := by decide +kernel
theorem d1_4 : decode prog_166_method_1_code 4 = .ok (.aload_n 0, 1) := by decide +kernel
theorem d1_5 : decode prog_166_method_1_code 5 = .ok (.iconst 4, 1) := by decide +kernel
theorem d1_6 : decode prog_166_method_1_code 6 = .ok (.anewarray 7, 3) := by decide +kernel
theorem d1_9 : decode prog_166_method_1_code 9 = .ok (.putfield 9, 3) := by decide +kernel
theorem d1_12 : decode prog_166_method_1_code 12 = .ok (.aload_n 0, 1) := by decide +kernel
theorem d1_13 : decode prog_166_method_1_code 13 = .ok (.iconst 4, 1) := by decide +kernel
theorem d1_14 : decode prog_166_method_1_code 14 = .ok (.anewarray 7, 3) := by decide +kernel
theorem d1_17 : decode prog_166_method_1_code 17 = .ok (.putfield 15, 3) := by decide +kernel
theorem d1_20 : decode prog_166_method_1_code 20 = .ok (.aload_n 0, 1) := by decide +kernel
theorem d1_21 : decode prog_166_method_1_code 21 = .ok (.bipush 16, 2) := by decide +kernel
theorem d1_23 : decode prog_166_method_1_code 23 = .ok (.anewarray 7, 3) := by decide +kernel
theorem d1_26 : decode prog_166_method_1_code 26 = .ok (.putfield 18, 3) := by decide +kernel
theorem d1_29 : decode prog_166_method_1_code 29 = .ok (.aload_n 0, 1) := by decide +kernel
theorem d1_30 : decode prog_166_method_1_code 30 = .ok (.bipush 16, 2) := by decide +kernel
theorem d1_32 : decode prog_166_method_1_code 32 = .ok (.anewarray 7, 3) := by decide +kernel
theorem d1_35 : decode prog_166_method_1_code 35 = .ok (.putfield 21, 3) := by decide +kernel
theorem d1_38 : decode prog_166_method_1_code 38 = .ok (.aload_n 0, 1) := by decide +kernel
theorem d1_39 : decode prog_166_method_1_code 39 = .ok (.bipush 16, 2) := by decide +kernel
theorem d1_41 : decode prog_166_method_1_code 41 = .ok (.anewarray 7, 3) := by decide +kernel
theorem d1_44 : decode prog_166_method_1_code 44 = .ok (.putfield 24, 3) := by decide +kernel
theorem d1_47 : decode prog_166_method_1_code 47 = .ok (.aload_n 0, 1) := by decide +kernel
theorem d1_48 : decode prog_166_method_1_code 48 = .ok (.bipush 16, 2) := by decide +kernel
theorem d1_50 : decode prog_166_method_1_code 50 = .ok (.anewarray 7, 3) := by decide +kernel
theorem d1_53 : decode prog_166_method_1_code 53 = .ok (.putfield 27, 3) := by decide +kernel
theorem d1_56 : decode prog_166_method_1_code 56 = .ok (.aload_n 0, 1) := by decide +kernel
theorem d1_57 : decode prog_166_method_1_code 57 = .ok (.bipush 16, 2) := by decide +kernel
theorem d1_59 : decode prog_166_method_1_code 59 = .ok (.newarray .int, 2) := by decide +kernel
theorem d1_61 : decode prog_166_method_1_code 61 = .ok (.putfield 30, 3) := by decide +kernel
theorem d1_64 : decode prog_166_method_1_code 64 = .ok (.aload_n 0, 1) := by decide +kernel
theorem d1_65 : decode prog_166_method_1_code 65 = .ok (.bipush 16, 2) := by decide +kernel
theorem d1_67 : decode prog_166_method_1_code 67 = .ok (.newarray .int, 2) := by decide +kernel
theorem d1_69 : decode prog_166_method_1_code 69 = .ok (.putfield 34, 3) := by decide +kernel
theorem d1_72 : decode prog_166_method_1_code 72 = .ok (.return_, 1) := by decide +kernel
theorem pn_1 : plainName "com/example/bulla/bulla/xml/StreamedElement" = true := by first | (simp [plainName, overriddenIn]; done) | decide +kernel
theorem ef_ra1_3 (m : MethodId) (ob0 : Addr) : entryFrame m #[(.ref ob0)] 1 = mkF m 0 #[.val (.ref ob0)] [] := by first | (simp [entryFrame, mkF, argsToLocals, Value.category]; done) | rfl
set_option maxRecDepth 65536 in
set_option maxHeartbeats 40000000 in
theorem ra1_3 (l : Launch) (Z : State) (a0 : Array Value) (hw : ∀ d ∈ tables_1, d.before a0 Z = true) (ob0 : Addr) (h0 : Heap) (n0 : Nat) (Z0 : n0 ≤ h0.size) (ga0 : n0 ≤ ob0) (G0 : Exa Z h0 ob0 "com/example/bulla/bulla/xml/StreamedElement") (G1 : Fld Z h0 ob0 "com/example/bulla/bulla/xml/StreamedElement" "declaredPrefixes" "[Ljava/lang/String;" .null) (G2 : Fld Z h0 ob0 "com/example/bulla/bulla/xml/StreamedElement" "declaredNamespaces" "[Ljava/lang/String;" .null) (G3 : Fld Z h0 ob0 "com/example/bulla/bulla/xml/StreamedElement" "attributeNames" "[Ljava/lang/String;" .null) (G4 : Fld Z h0 ob0 "com/example/bulla/bulla/xml/StreamedElement" "attributePrefixes" "[Ljava/lang/String;" .null) (G5 : Fld Z h0 ob0 "com/example/bulla/bulla/xml/StreamedElement" "attributeLocalNames" "[Ljava/lang/String;" .null) (G6 : Fld Z h0 ob0 "com/example/bulla/bulla/xml/StreamedElement" "attributeNamespaces" "[Ljava/lang/String;" .null) (G7 : Fld Z h0 ob0 "com/example/bulla/bulla/xml/StreamedElement" "valueStarts" "[I" .null) (G8 : Fld Z h0 ob0 "com/example/bulla/bulla/xml/StreamedElement" "valueEnds" "[I" .null) (G9 : Fld Z h0 ob0 "com/example/bulla/bulla/xml/StreamedElement" "depth" "I" (.int (0 : Int32))) (G10 : Fld Z h0 ob0 "com/example/bulla/bulla/xml/StreamedElement" "ordinal" "I" (.int (0 : Int32))) (G11 : Fld Z h0 ob0 "com/example/bulla/bulla/xml/StreamedElement" "values" "[B" .null) (G12 : Fld Z h0 ob0 "com/example/bulla/bulla/xml/StreamedElement" "namespace" "Ljava/lang/String;" .null) (G13 : Fld Z h0 ob0 "com/example/bulla/bulla/xml/StreamedElement" "declarationCount" "I" (.int (0 : Int32))) (G14 : Fld Z h0 ob0 "com/example/bulla/bulla/xml/StreamedElement" "attributeCount" "I" (.int (0 : Int32))) :
    own_Met l Z (⟨"com/example/bulla/bulla/xml/StreamedElement", "<init>", "()V"⟩ : MethodName) prog_166_method_1_code 1 none ({ frames := 1, cells := 8, slots := 104, locals := 12 } : Room) #[(.ref ob0)] h0 n0 (fun v' h' => ∃ b0 b1 b2 b3 b4 b5 b6 b7 : Addr, v' = none ∧ Keep h0 h' [ob0] ∧ h0.size ≤ b0 ∧ n0 ≤ b0 ∧ h0.size ≤ b1 ∧ n0 ≤ b1 ∧ h0.size ≤ b2 ∧ n0 ≤ b2 ∧ h0.size ≤ b3 ∧ n0 ≤ b3 ∧ h0.size ≤ b4 ∧ n0 ≤ b4 ∧ h0.size ≤ b5 ∧ n0 ≤ b5 ∧ h0.size ≤ b6 ∧ n0 ≤ b6 ∧ h0.size ≤ b7 ∧ n0 ≤ b7 ∧ b0 ≠ b1 ∧ b0 ≠ b2 ∧ b0 ≠ b3 ∧ b0 ≠ b4 ∧ b0 ≠ b5 ∧ b0 ≠ b6 ∧ b0 ≠ b7 ∧ b1 ≠ b2 ∧ b1 ≠ b3 ∧ b1 ≠ b4 ∧ b1 ≠ b5 ∧ b1 ≠ b6 ∧ b1 ≠ b7 ∧ b2 ≠ b3 ∧ b2 ≠ b4 ∧ b2 ≠ b5 ∧ b2 ≠ b6 ∧ b2 ≠ b7 ∧ b3 ≠ b4 ∧ b3 ≠ b5 ∧ b3 ≠ b6 ∧ b3 ≠ b7 ∧ b4 ≠ b5 ∧ b4 ≠ b6 ∧ b4 ≠ b7 ∧ b5 ≠ b6 ∧ b5 ≠ b7 ∧ b6 ≠ b7 ∧ Exa Z h' ob0 "com/example/bulla/bulla/xml/StreamedElement" ∧ Fld Z h' ob0 "com/example/bulla/bulla/xml/StreamedElement" "declaredPrefixes" "[Ljava/lang/String;" (.ref b0) ∧ Fld Z h' ob0 "com/example/bulla/bulla/xml/StreamedElement" "declaredNamespaces" "[Ljava/lang/String;" (.ref b1) ∧ Fld Z h' ob0 "com/example/bulla/bulla/xml/StreamedElement" "attributeNames" "[Ljava/lang/String;" (.ref b2) ∧ Fld Z h' ob0 "com/example/bulla/bulla/xml/StreamedElement" "attributePrefixes" "[Ljava/lang/String;" (.ref b3) ∧ Fld Z h' ob0 "com/example/bulla/bulla/xml/StreamedElement" "attributeLocalNames" "[Ljava/lang/String;" (.ref b4) ∧ Fld Z h' ob0 "com/example/bulla/bulla/xml/StreamedElement" "attributeNamespaces" "[Ljava/lang/String;" (.ref b5) ∧ Fld Z h' ob0 "com/example/bulla/bulla/xml/StreamedElement" "valueStarts" "[I" (.ref b6) ∧ Fld Z h' ob0 "com/example/bulla/bulla/xml/StreamedElement" "valueEnds" "[I" (.ref b7) ∧ Fld Z h' ob0 "com/example/bulla/bulla/xml/StreamedElement" "depth" "I" (.int (0 : Int32)) ∧ Fld Z h' ob0 "com/example/bulla/bulla/xml/StreamedElement" "ordinal" "I" (.int (0 : Int32)) ∧ Fld Z h' ob0 "com/example/bulla/bulla/xml/StreamedElement" "values" "[B" .null ∧ Fld Z h' ob0 "com/example/bulla/bulla/xml/StreamedElement" "namespace" "Ljava/lang/String;" .null ∧ Fld Z h' ob0 "com/example/bulla/bulla/xml/StreamedElement" "declarationCount" "I" (.int (0 : Int32)) ∧ Fld Z h' ob0 "com/example/bulla/bulla/xml/StreamedElement" "attributeCount" "I" (.int (0 : Int32)) ∧ own_Rr Z h' b0 "java/lang/String" [.null, .null, .null, .null] ∧ own_Rr Z h' b1 "java/lang/String" [.null, .null, .null, .null] ∧ own_Rr Z h' b2 "java/lang/String" [.null, .null, .null, .null, .null, .null, .null, .null, .null, .null, .null, .null, .null, .null, .null, .null] ∧ own_Rr Z h' b3 "java/lang/String" [.null, .null, .null, .null, .null, .null, .null, .null, .null, .null, .null, .null, .null, .null, .null, .null] ∧ own_Rr Z h' b4 "java/lang/String" [.null, .null, .null, .null, .null, .null, .null, .null, .null, .null, .null, .null, .null, .null, .null, .null] ∧ own_Rr Z h' b5 "java/lang/String" [.null, .null, .null, .null, .null, .null, .null, .null, .null, .null, .null, .null, .null, .null, .null, .null] ∧ own_Ar Z h' b6 .int [(.int (0 : Int32)), (.int (0 : Int32)), (.int (0 : Int32)), (.int (0 : Int32)), (.int (0 : Int32)), (.int (0 : Int32)), (.int (0 : Int32)), (.int (0 : Int32)), (.int (0 : Int32)), (.int (0 : Int32)), (.int (0 : Int32)), (.int (0 : Int32)), (.int (0 : Int32)), (.int (0 : Int32)), (.int (0 : Int32)), (.int (0 : Int32))] ∧ own_Ar Z h' b7 .int [(.int (0 : Int32)), (.int (0 : Int32)), (.int (0 : Int32)), (.int (0 : Int32)), (.int (0 : Int32)), (.int (0 : Int32)), (.int (0 : Int32)), (.int (0 : Int32)), (.int (0 : Int32)), (.int (0 : Int32)), (.int (0 : Int32)), (.int (0 : Int32)), (.int (0 : Int32)), (.int (0 : Int32)), (.int (0 : Int32)), (.int (0 : Int32))]) := by
  refine own_body (plainFor_of_name pn_1) (fun m => ef_ra1_3 m ob0) Z0 ?_
  intro p e s m below meth c T0 cx X0
  have KK := Keep.refl h0 [ob0]
  show own_Go p e below _ (T0.setTop (mkF m 0 #[.val (.ref ob0)] []))
  refine o_aloadN cx X0 d1_0 rfl rfl ?_
  refine o_initO cx X0 d1_1 (o_w hw 6 rfl) (o_w hw 7 rfl) (o_w hw 8 rfl) rfl (by decide) 0 rfl (by decide) fun T141 X142 => ?_
  refine o_aloadN cx X142 d1_4 rfl rfl ?_
  refine o_iconst cx X142 (z := (4 : Int32)) d1_5 rfl ?_
  refine o_newR cx X142 d1_6 (o_w hw 9 rfl) (o_w hw 10 rfl) (by decide) 4 4 rfl (Nat.le_refl _) (by decide) (by decide) (by decide) fun T144 h146 b143 gb149 ge150 X145 E147 A148 => ?_
  have ne_ob0_b143 : ob0 ≠ b143 := by rw [gb149]; exact Nat.ne_of_lt G0.lt
  have sz_b143 : h0.size ≤ b143 := by rw [gb149]; exact KK.1
  have G0 := G0.ext E147
  have G1 := G1.ext E147
  have G2 := G2.ext E147
  have G3 := G3.ext E147
  have G4 := G4.ext E147
  have G5 := G5.ext E147
  have G6 := G6.ext E147
  have G7 := G7.ext E147
  have G8 := G8.ext E147
  have G9 := G9.ext E147
  have G10 := G10.ext E147
  have G11 := G11.ext E147
  have G12 := G12.ext E147
  have G13 := G13.ext E147
  have G14 := G14.ext E147
  have KK := KK.ext E147
  have A148 : own_Rr Z h146 b143 "java/lang/String" [.null, .null, .null, .null] := A148
  refine o_putF cx X145 (v' := (.ref b143)) (ty := (.array (.object "java/lang/String"))) d1_9 (o_w hw 11 rfl) G1 G0 (Or.inl (o_w hw 12 rfl)) (o_w hw 1 rfl) (by decide) rfl rfl ga0 fun T151 h153 X152 W154 => ?_
  have G0 := G0.wr W154
  have G1 := G1.same W154
  have G2 := G2.other W154 (Or.inr (slot_ne (Or.inl (o_w hw 14 rfl)) (Or.inl (o_w hw 12 rfl)) (by decide) (t := (.array (.object "java/lang/String"))) (t' := (.array (.object "java/lang/String"))) (by decide) (by decide)))
  have G3 := G3.other W154 (Or.inr (slot_ne (Or.inl (o_w hw 16 rfl)) (Or.inl (o_w hw 12 rfl)) (by decide) (t := (.array (.object "java/lang/String"))) (t' := (.array (.object "java/lang/String"))) (by decide) (by decide)))
  have G4 := G4.other W154 (Or.inr (slot_ne (Or.inl (o_w hw 18 rfl)) (Or.inl (o_w hw 12 rfl)) (by decide) (t := (.array (.object "java/lang/String"))) (t' := (.array (.object "java/lang/String"))) (by decide) (by decide)))
  have G5 := G5.other W154 (Or.inr (slot_ne (Or.inl (o_w hw 20 rfl)) (Or.inl (o_w hw 12 rfl)) (by decide) (t := (.array (.object "java/lang/String"))) (t' := (.array (.object "java/lang/String"))) (by decide) (by decide)))
  have G6 := G6.other W154 (Or.inr (slot_ne (Or.inl (o_w hw 22 rfl)) (Or.inl (o_w hw 12 rfl)) (by decide) (t := (.array (.object "java/lang/String"))) (t' := (.array (.object "java/lang/String"))) (by decide) (by decide)))
  have G7 := G7.other W154 (Or.inr (slot_ne (Or.inl (o_w hw 25 rfl)) (Or.inl (o_w hw 12 rfl)) (by decide) (t := (.array .int)) (t' := (.array (.object "java/lang/String"))) (by decide) (by decide)))
  have G8 := G8.other W154 (Or.inr (slot_ne (Or.inl (o_w hw 27 rfl)) (Or.inl (o_w hw 12 rfl)) (by decide) (t := (.array .int)) (t' := (.array (.object "java/lang/String"))) (by decide) (by decide)))
  have G9 := G9.other W154 (Or.inr (slot_ne (Or.inl (o_w hw 58 rfl)) (Or.inl (o_w hw 12 rfl)) (by decide) (t := .int) (t' := (.array (.object "java/lang/String"))) (by decide) (by decide)))
  have G10 := G10.other W154 (Or.inr (slot_ne (Or.inl (o_w hw 60 rfl)) (Or.inl (o_w hw 12 rfl)) (by decide) (t := .int) (t' := (.array (.object "java/lang/String"))) (by decide) (by decide)))
  have G11 := G11.other W154 (Or.inr (slot_ne (Or.inl (o_w hw 62 rfl)) (Or.inl (o_w hw 12 rfl)) (by decide) (t := (.array .byte)) (t' := (.array (.object "java/lang/String"))) (by decide) (by decide)))
  have G12 := G12.other W154 (Or.inr (slot_ne (Or.inl (o_w hw 64 rfl)) (Or.inl (o_w hw 12 rfl)) (by decide) (t := (.object "java/lang/String")) (t' := (.array (.object "java/lang/String"))) (by decide) (by decide)))
  have G13 := G13.other W154 (Or.inr (slot_ne (Or.inl (o_w hw 66 rfl)) (Or.inl (o_w hw 12 rfl)) (by decide) (t := .int) (t' := (.array (.object "java/lang/String"))) (by decide) (by decide)))
  have G14 := G14.other W154 (Or.inr (slot_ne (Or.inl (o_w hw 68 rfl)) (Or.inl (o_w hw 12 rfl)) (by decide) (t := .int) (t' := (.array (.object "java/lang/String"))) (by decide) (by decide)))
  have A148 := A148.other W154 (Ne.symm ne_ob0_b143)
  have KK := KK.wr W154 (Or.inl (List.mem_of_getElem? (i := 0) rfl))
  refine o_aloadN cx X152 d1_12 rfl rfl ?_
  refine o_iconst cx X152 (z := (4 : Int32)) d1_13 rfl ?_
  refine o_newR cx X152 d1_14 (o_w hw 9 rfl) (o_w hw 10 rfl) (by decide) 4 4 rfl (Nat.le_refl _) (by decide) (by decide) (by decide) fun T156 h158 b155 gb161 ge162 X157 E159 A160 => ?_
  have ne_ob0_b155 : ob0 ≠ b155 := by rw [gb161]; exact Nat.ne_of_lt G0.lt
  have ne_b143_b155 : b143 ≠ b155 := by rw [gb161]; exact Nat.ne_of_lt A148.lt
  have sz_b155 : h0.size ≤ b155 := by rw [gb161]; exact KK.1
  have G0 := G0.ext E159
  have G1 := G1.ext E159
  have G2 := G2.ext E159
  have G3 := G3.ext E159
  have G4 := G4.ext E159
  have G5 := G5.ext E159
  have G6 := G6.ext E159
  have G7 := G7.ext E159
  have G8 := G8.ext E159
  have G9 := G9.ext E159
  have G10 := G10.ext E159
  have G11 := G11.ext E159
  have G12 := G12.ext E159
  have G13 := G13.ext E159
  have G14 := G14.ext E159
  have A148 := A148.ext E159
  have KK := KK.ext E159
  have A160 : own_Rr Z h158 b155 "java/lang/String" [.null, .null, .null, .null] := A160
  refine o_putF cx X157 (v' := (.ref b155)) (ty := (.array (.object "java/lang/String"))) d1_17 (o_w hw 13 rfl) G2 G0 (Or.inl (o_w hw 14 rfl)) (o_w hw 1 rfl) (by decide) rfl rfl ga0 fun T163 h165 X164 W166 => ?_
  have G0 := G0.wr W166
  have G1 := G1.other W166 (Or.inr (slot_ne (Or.inl (o_w hw 12 rfl)) (Or.inl (o_w hw 14 rfl)) (by decide) (t := (.array (.object "java/lang/String"))) (t' := (.array (.object "java/lang/String"))) (by decide) (by decide)))
  have G2 := G2.same W166
  have G3 := G3.other W166 (Or.inr (slot_ne (Or.inl (o_w hw 16 rfl)) (Or.inl (o_w hw 14 rfl)) (by decide) (t := (.array (.object "java/lang/String"))) (t' := (.array (.object "java/lang/String"))) (by decide) (by decide)))
  have G4 := G4.other W166 (Or.inr (slot_ne (Or.inl (o_w hw 18 rfl)) (Or.inl (o_w hw 14 rfl)) (by decide) (t := (.array (.object "java/lang/String"))) (t' := (.array (.object "java/lang/String"))) (by decide) (by decide)))
  have G5 := G5.other W166 (Or.inr (slot_ne (Or.inl (o_w hw 20 rfl)) (Or.inl (o_w hw 14 rfl)) (by decide) (t := (.array (.object "java/lang/String"))) (t' := (.array (.object "java/lang/String"))) (by decide) (by decide)))
  have G6 := G6.other W166 (Or.inr (slot_ne (Or.inl (o_w hw 22 rfl)) (Or.inl (o_w hw 14 rfl)) (by decide) (t := (.array (.object "java/lang/String"))) (t' := (.array (.object "java/lang/String"))) (by decide) (by decide)))
  have G7 := G7.other W166 (Or.inr (slot_ne (Or.inl (o_w hw 25 rfl)) (Or.inl (o_w hw 14 rfl)) (by decide) (t := (.array .int)) (t' := (.array (.object "java/lang/String"))) (by decide) (by decide)))
  have G8 := G8.other W166 (Or.inr (slot_ne (Or.inl (o_w hw 27 rfl)) (Or.inl (o_w hw 14 rfl)) (by decide) (t := (.array .int)) (t' := (.array (.object "java/lang/String"))) (by decide) (by decide)))
  have G9 := G9.other W166 (Or.inr (slot_ne (Or.inl (o_w hw 58 rfl)) (Or.inl (o_w hw 14 rfl)) (by decide) (t := .int) (t' := (.array (.object "java/lang/String"))) (by decide) (by decide)))
  have G10 := G10.other W166 (Or.inr (slot_ne (Or.inl (o_w hw 60 rfl)) (Or.inl (o_w hw 14 rfl)) (by decide) (t := .int) (t' := (.array (.object "java/lang/String"))) (by decide) (by decide)))
  have G11 := G11.other W166 (Or.inr (slot_ne (Or.inl (o_w hw 62 rfl)) (Or.inl (o_w hw 14 rfl)) (by decide) (t := (.array .byte)) (t' := (.array (.object "java/lang/String"))) (by decide) (by decide)))
  have G12 := G12.other W166 (Or.inr (slot_ne (Or.inl (o_w hw 64 rfl)) (Or.inl (o_w hw 14 rfl)) (by decide) (t := (.object "java/lang/String")) (t' := (.array (.object "java/lang/String"))) (by decide) (by decide)))
  have G13 := G13.other W166 (Or.inr (slot_ne (Or.inl (o_w hw 66 rfl)) (Or.inl (o_w hw 14 rfl)) (by decide) (t := .int) (t' := (.array (.object "java/lang/String"))) (by decide) (by decide)))
  have G14 := G14.other W166 (Or.inr (slot_ne (Or.inl (o_w hw 68 rfl)) (Or.inl (o_w hw 14 rfl)) (by decide) (t := .int) (t' := (.array (.object "java/lang/String"))) (by decide) (by decide)))
  have A148 := A148.other W166 (Ne.symm ne_ob0_b143)
  have A160 := A160.other W166 (Ne.symm ne_ob0_b155)
  have KK := KK.wr W166 (Or.inl (List.mem_of_getElem? (i := 0) rfl))
  refine o_aloadN cx X164 d1_20 rfl rfl ?_
  refine o_bipush cx X164 (z := (16 : Int32)) d1_21 rfl ?_
  refine o_newR cx X164 d1_23 (o_w hw 9 rfl) (o_w hw 10 rfl) (by decide) 16 16 rfl (Nat.le_refl _) (by decide) (by decide) (by decide) fun T168 h170 b167 gb173 ge174 X169 E171 A172 => ?_
  have ne_ob0_b167 : ob0 ≠ b167 := by rw [gb173]; exact Nat.ne_of_lt G0.lt
  have ne_b143_b167 : b143 ≠ b167 := by rw [gb173]; exact Nat.ne_of_lt A148.lt
  have ne_b155_b167 : b155 ≠ b167 := by rw [gb173]; exact Nat.ne_of_lt A160.lt
  have sz_b167 : h0.size ≤ b167 := by rw [gb173]; exact KK.1
  have G0 := G0.ext E171
  have G1 := G1.ext E171
  have G2 := G2.ext E171
  have G3 := G3.ext E171
  have G4 := G4.ext E171
  have G5 := G5.ext E171
  have G6 := G6.ext E171
  have G7 := G7.ext E171
  have G8 := G8.ext E171
  have G9 := G9.ext E171
  have G10 := G10.ext E171
  have G11 := G11.ext E171
  have G12 := G12.ext E171
  have G13 := G13.ext E171
  have G14 := G14.ext E171
  have A148 := A148.ext E171
  have A160 := A160.ext E171
  have KK := KK.ext E171
  have A172 : own_Rr Z h170 b167 "java/lang/String" [.null, .null, .null, .null, .null, .null, .null, .null, .null, .null, .null, .null, .null, .null, .null, .null] := A172
  refine o_putF cx X169 (v' := (.ref b167)) (ty := (.array (.object "java/lang/String"))) d1_26 (o_w hw 15 rfl) G3 G0 (Or.inl (o_w hw 16 rfl)) (o_w hw 1 rfl) (by decide) rfl rfl ga0 fun T175 h177 X176 W178 => ?_
  have G0 := G0.wr W178
  have G1 := G1.other W178 (Or.inr (slot_ne (Or.inl (o_w hw 12 rfl)) (Or.inl (o_w hw 16 rfl)) (by decide) (t := (.array (.object "java/lang/String"))) (t' := (.array (.object "java/lang/String"))) (by decide) (by decide)))
  have G2 := G2.other W178 (Or.inr (slot_ne (Or.inl (o_w hw 14 rfl)) (Or.inl (o_w hw 16 rfl)) (by decide) (t := (.array (.object "java/lang/String"))) (t' := (.array (.object "java/lang/String"))) (by decide) (by decide)))
  have G3 := G3.same W178
  have G4 := G4.other W178 (Or.inr (slot_ne (Or.inl (o_w hw 18 rfl)) (Or.inl (o_w hw 16 rfl)) (by decide) (t := (.array (.object "java/lang/String"))) (t' := (.array (.object "java/lang/String"))) (by decide) (by decide)))
  have G5 := G5.other W178 (Or.inr (slot_ne (Or.inl (o_w hw 20 rfl)) (Or.inl (o_w hw 16 rfl)) (by decide) (t := (.array (.object "java/lang/String"))) (t' := (.array (.object "java/lang/String"))) (by decide) (by decide)))
  have G6 := G6.other W178 (Or.inr (slot_ne (Or.inl (o_w hw 22 rfl)) (Or.inl (o_w hw 16 rfl)) (by decide) (t := (.array (.object "java/lang/String"))) (t' := (.array (.object "java/lang/String"))) (by decide) (by decide)))
  have G7 := G7.other W178 (Or.inr (slot_ne (Or.inl (o_w hw 25 rfl)) (Or.inl (o_w hw 16 rfl)) (by decide) (t := (.array .int)) (t' := (.array (.object "java/lang/String"))) (by decide) (by decide)))
  have G8 := G8.other W178 (Or.inr (slot_ne (Or.inl (o_w hw 27 rfl)) (Or.inl (o_w hw 16 rfl)) (by decide) (t := (.array .int)) (t' := (.array (.object "java/lang/String"))) (by decide) (by decide)))
  have G9 := G9.other W178 (Or.inr (slot_ne (Or.inl (o_w hw 58 rfl)) (Or.inl (o_w hw 16 rfl)) (by decide) (t := .int) (t' := (.array (.object "java/lang/String"))) (by decide) (by decide)))
  have G10 := G10.other W178 (Or.inr (slot_ne (Or.inl (o_w hw 60 rfl)) (Or.inl (o_w hw 16 rfl)) (by decide) (t := .int) (t' := (.array (.object "java/lang/String"))) (by decide) (by decide)))
  have G11 := G11.other W178 (Or.inr (slot_ne (Or.inl (o_w hw 62 rfl)) (Or.inl (o_w hw 16 rfl)) (by decide) (t := (.array .byte)) (t' := (.array (.object "java/lang/String"))) (by decide) (by decide)))
  have G12 := G12.other W178 (Or.inr (slot_ne (Or.inl (o_w hw 64 rfl)) (Or.inl (o_w hw 16 rfl)) (by decide) (t := (.object "java/lang/String")) (t' := (.array (.object "java/lang/String"))) (by decide) (by decide)))
  have G13 := G13.other W178 (Or.inr (slot_ne (Or.inl (o_w hw 66 rfl)) (Or.inl (o_w hw 16 rfl)) (by decide) (t := .int) (t' := (.array (.object "java/lang/String"))) (by decide) (by decide)))
  have G14 := G14.other W178 (Or.inr (slot_ne (Or.inl (o_w hw 68 rfl)) (Or.inl (o_w hw 16 rfl)) (by decide) (t := .int) (t' := (.array (.object "java/lang/String"))) (by decide) (by decide)))
  have A148 := A148.other W178 (Ne.symm ne_ob0_b143)
  have A160 := A160.other W178 (Ne.symm ne_ob0_b155)
  have A172 := A172.other W178 (Ne.symm ne_ob0_b167)
  have KK := KK.wr W178 (Or.inl (List.mem_of_getElem? (i := 0) rfl))
  refine o_aloadN cx X176 d1_29 rfl rfl ?_
  refine o_bipush cx X176 (z := (16 : Int32)) d1_30 rfl ?_
  refine o_newR cx X176 d1_32 (o_w hw 9 rfl) (o_w hw 10 rfl) (by decide) 16 16 rfl (Nat.le_refl _) (by decide) (by decide) (by decide) fun T180 h182 b179 gb185 ge186 X181 E183 A184 => ?_
  have ne_ob0_b179 : ob0 ≠ b179 := by rw [gb185]; exact Nat.ne_of_lt G0.lt
  have ne_b143_b179 : b143 ≠ b179 := by rw [gb185]; exact Nat.ne_of_lt A148.lt
  have ne_b155_b179 : b155 ≠ b179 := by rw [gb185]; exact Nat.ne_of_lt A160.lt
  have ne_b167_b179 : b167 ≠ b179 := by rw [gb185]; exact Nat.ne_of_lt A172.lt
  have sz_b179 : h0.size ≤ b179 := by rw [gb185]; exact KK.1
  have G0 := G0.ext E183
  have G1 := G1.ext E183
  have G2 := G2.ext E183
  have G3 := G3.ext E183
  have G4 := G4.ext E183
  have G5 := G5.ext E183
  have G6 := G6.ext E183
  have G7 := G7.ext E183
  have G8 := G8.ext E183
  have G9 := G9.ext E183
  have G10 := G10.ext E183
  have G11 := G11.ext E183
  have G12 := G12.ext E183
  have G13 := G13.ext E183
  have G14 := G14.ext E183
  have A148 := A148.ext E183
  have A160 := A160.ext E183
  have A172 := A172.ext E183
  have KK := KK.ext E183
  have A184 : own_Rr Z h182 b179 "java/lang/String" [.null, .null, .null, .null, .null, .null, .null, .null, .null, .null, .null, .null, .null, .null, .null, .null] := A184
  refine o_putF cx X181 (v' := (.ref b179)) (ty := (.array (.object "java/lang/String"))) d1_35 (o_w hw 17 rfl) G4 G0 (Or.inl (o_w hw 18 rfl)) (o_w hw 1 rfl) (by decide) rfl rfl ga0 fun T187 h189 X188 W190 => ?_
  have G0 := G0.wr W190
  have G1 := G1.other W190 (Or.inr (slot_ne (Or.inl (o_w hw 12 rfl)) (Or.inl (o_w hw 18 rfl)) (by decide) (t := (.array (.object "java/lang/String"))) (t' := (.array (.object "java/lang/String"))) (by decide) (by decide)))
  have G2 := G2.other W190 (Or.inr (slot_ne (Or.inl (o_w hw 14 rfl)) (Or.inl (o_w hw 18 rfl)) (by decide) (t := (.array (.object "java/lang/String"))) (t' := (.array (.object "java/lang/String"))) (by decide) (by decide)))
  have G3 := G3.other W190 (Or.inr (slot_ne (Or.inl (o_w hw 16 rfl)) (Or.inl (o_w hw 18 rfl)) (by decide) (t := (.array (.object "java/lang/String"))) (t' := (.array (.object "java/lang/String"))) (by decide) (by decide)))
  have G4 := G4.same W190
  have G5 := G5.other W190 (Or.inr (slot_ne (Or.inl (o_w hw 20 rfl)) (Or.inl (o_w hw 18 rfl)) (by decide) (t := (.array (.object "java/lang/String"))) (t' := (.array (.object "java/lang/String"))) (by decide) (by decide)))
  have G6 := G6.other W190 (Or.inr (slot_ne (Or.inl (o_w hw 22 rfl)) (Or.inl (o_w hw 18 rfl)) (by decide) (t := (.array (.object "java/lang/String"))) (t' := (.array (.object "java/lang/String"))) (by decide) (by decide)))
  have G7 := G7.other W190 (Or.inr (slot_ne (Or.inl (o_w hw 25 rfl)) (Or.inl (o_w hw 18 rfl)) (by decide) (t := (.array .int)) (t' := (.array (.object "java/lang/String"))) (by decide) (by decide)))
  have G8 := G8.other W190 (Or.inr (slot_ne (Or.inl (o_w hw 27 rfl)) (Or.inl (o_w hw 18 rfl)) (by decide) (t := (.array .int)) (t' := (.array (.object "java/lang/String"))) (by decide) (by decide)))
  have G9 := G9.other W190 (Or.inr (slot_ne (Or.inl (o_w hw 58 rfl)) (Or.inl (o_w hw 18 rfl)) (by decide) (t := .int) (t' := (.array (.object "java/lang/String"))) (by decide) (by decide)))
  have G10 := G10.other W190 (Or.inr (slot_ne (Or.inl (o_w hw 60 rfl)) (Or.inl (o_w hw 18 rfl)) (by decide) (t := .int) (t' := (.array (.object "java/lang/String"))) (by decide) (by decide)))
  have G11 := G11.other W190 (Or.inr (slot_ne (Or.inl (o_w hw 62 rfl)) (Or.inl (o_w hw 18 rfl)) (by decide) (t := (.array .byte)) (t' := (.array (.object "java/lang/String"))) (by decide) (by decide)))
  have G12 := G12.other W190 (Or.inr (slot_ne (Or.inl (o_w hw 64 rfl)) (Or.inl (o_w hw 18 rfl)) (by decide) (t := (.object "java/lang/String")) (t' := (.array (.object "java/lang/String"))) (by decide) (by decide)))
  have G13 := G13.other W190 (Or.inr (slot_ne (Or.inl (o_w hw 66 rfl)) (Or.inl (o_w hw 18 rfl)) (by decide) (t := .int) (t' := (.array (.object "java/lang/String"))) (by decide) (by decide)))
  have G14 := G14.other W190 (Or.inr (slot_ne (Or.inl (o_w hw 68 rfl)) (Or.inl (o_w hw 18 rfl)) (by decide) (t := .int) (t' := (.array (.object "java/lang/String"))) (by decide) (by decide)))
  have A148 := A148.other W190 (Ne.symm ne_ob0_b143)
  have A160 := A160.other W190 (Ne.symm ne_ob0_b155)
  have A172 := A172.other W190 (Ne.symm ne_ob0_b167)
  have A184 := A184.other W190 (Ne.symm ne_ob0_b179)
  have KK := KK.wr W190 (Or.inl (List.mem_of_getElem? (i := 0) rfl))
  refine o_aloadN cx X188 d1_38 rfl rfl ?_
  refine o_bipush cx X188 (z := (16 : Int32)) d1_39 rfl ?_
  refine o_newR cx X188 d1_41 (o_w hw 9 rfl) (o_w hw 10 rfl) (by decide) 16 16 rfl (Nat.le_refl _) (by decide) (by decide) (by decide) fun T192 h194 b191 gb197 ge198 X193 E195 A196 => ?_
  have ne_ob0_b191 : ob0 ≠ b191 := by rw [gb197]; exact Nat.ne_of_lt G0.lt
  have ne_b143_b191 : b143 ≠ b191 := by rw [gb197]; exact Nat.ne_of_lt A148.lt
  have ne_b155_b191 : b155 ≠ b191 := by rw [gb197]; exact Nat.ne_of_lt A160.lt
  have ne_b167_b191 : b167 ≠ b191 := by rw [gb197]; exact Nat.ne_of_lt A172.lt
  have ne_b179_b191 : b179 ≠ b191 := by rw [gb197]; exact Nat.ne_of_lt A184.lt
  have sz_b191 : h0.size ≤ b191 := by rw [gb197]; exact KK.1
  have G0 := G0.ext E195
  have G1 := G1.ext E195
  have G2 := G2.ext E195
  have G3 := G3.ext E195
  have G4 := G4.ext E195
  have G5 := G5.ext E195
  have G6 := G6.ext E195
  have G7 := G7.ext E195
  have G8 := G8.ext E195
  have G9 := G9.ext E195
  have G10 := G10.ext E195
  have G11 := G11.ext E195
  have G12 := G12.ext E195
  have G13 := G13.ext E195
  have G14 := G14.ext E195
  have A148 := A148.ext E195
  have A160 := A160.ext E195
  have A172 := A172.ext E195
  have A184 := A184.ext E195
  have KK := KK.ext E195
  have A196 : own_Rr Z h194 b191 "java/lang/String" [.null, .null, .null, .null, .null, .null, .null, .null, .null, .null, .null, .null, .null, .null, .null, .null] := A196
  refine o_putF cx X193 (v' := (.ref b191)) (ty := (.array (.object "java/lang/String"))) d1_44 (o_w hw 19 rfl) G5 G0 (Or.inl (o_w hw 20 rfl)) (o_w hw 1 rfl) (by decide) rfl rfl ga0 fun T199 h201 X200 W202 => ?_
  have G0 := G0.wr W202
  have G1 := G1.other W202 (Or.inr (slot_ne (Or.inl (o_w hw 12 rfl)) (Or.inl (o_w hw 20 rfl)) (by decide) (t := (.array (.object "java/lang/String"))) (t' := (.array (.object "java/lang/String"))) (by decide) (by decide)))
  have G2 := G2.other W202 (Or.inr (slot_ne (Or.inl (o_w hw 14 rfl)) (Or.inl (o_w hw 20 rfl)) (by decide) (t := (.array (.object "java/lang/String"))) (t' := (.array (.object "java/lang/String"))) (by decide) (by decide)))
  have G3 := G3.other W202 (Or.inr (slot_ne (Or.inl (o_w hw 16 rfl)) (Or.inl (o_w hw 20 rfl)) (by decide) (t := (.array (.object "java/lang/String"))) (t' := (.array (.object "java/lang/String"))) (by decide) (by decide)))
  have G4 := G4.other W202 (Or.inr (slot_ne (Or.inl (o_w hw 18 rfl)) (Or.inl (o_w hw 20 rfl)) (by decide) (t := (.array (.object "java/lang/String"))) (t' := (.array (.object "java/lang/String"))) (by decide) (by decide)))
  have G5 := G5.same W202
  have G6 := G6.other W202 (Or.inr (slot_ne (Or.inl (o_w hw 22 rfl)) (Or.inl (o_w hw 20 rfl)) (by decide) (t := (.array (.object "java/lang/String"))) (t' := (.array (.object "java/lang/String"))) (by decide) (by decide)))
  have G7 := G7.other W202 (Or.inr (slot_ne (Or.inl (o_w hw 25 rfl)) (Or.inl (o_w hw 20 rfl)) (by decide) (t := (.array .int)) (t' := (.array (.object "java/lang/String"))) (by decide) (by decide)))
  have G8 := G8.other W202 (Or.inr (slot_ne (Or.inl (o_w hw 27 rfl)) (Or.inl (o_w hw 20 rfl)) (by decide) (t := (.array .int)) (t' := (.array (.object "java/lang/String"))) (by decide) (by decide)))
  have G9 := G9.other W202 (Or.inr (slot_ne (Or.inl (o_w hw 58 rfl)) (Or.inl (o_w hw 20 rfl)) (by decide) (t := .int) (t' := (.array (.object "java/lang/String"))) (by decide) (by decide)))
  have G10 := G10.other W202 (Or.inr (slot_ne (Or.inl (o_w hw 60 rfl)) (Or.inl (o_w hw 20 rfl)) (by decide) (t := .int) (t' := (.array (.object "java/lang/String"))) (by decide) (by decide)))
  have G11 := G11.other W202 (Or.inr (slot_ne (Or.inl (o_w hw 62 rfl)) (Or.inl (o_w hw 20 rfl)) (by decide) (t := (.array .byte)) (t' := (.array (.object "java/lang/String"))) (by decide) (by decide)))
  have G12 := G12.other W202 (Or.inr (slot_ne (Or.inl (o_w hw 64 rfl)) (Or.inl (o_w hw 20 rfl)) (by decide) (t := (.object "java/lang/String")) (t' := (.array (.object "java/lang/String"))) (by decide) (by decide)))
  have G13 := G13.other W202 (Or.inr (slot_ne (Or.inl (o_w hw 66 rfl)) (Or.inl (o_w hw 20 rfl)) (by decide) (t := .int) (t' := (.array (.object "java/lang/String"))) (by decide) (by decide)))
  have G14 := G14.other W202 (Or.inr (slot_ne (Or.inl (o_w hw 68 rfl)) (Or.inl (o_w hw 20 rfl)) (by decide) (t := .int) (t' := (.array (.object "java/lang/String"))) (by decide) (by decide)))
  have A148 := A148.other W202 (Ne.symm ne_ob0_b143)
  have A160 := A160.other W202 (Ne.symm ne_ob0_b155)
  have A172 := A172.other W202 (Ne.symm ne_ob0_b167)
  have A184 := A184.other W202 (Ne.symm ne_ob0_b179)
  have A196 := A196.other W202 (Ne.symm ne_ob0_b191)
  have KK := KK.wr W202 (Or.inl (List.mem_of_getElem? (i := 0) rfl))
  refine o_aloadN cx X200 d1_47 rfl rfl ?_
  refine o_bipush cx X200 (z := (16 : Int32)) d1_48 rfl ?_
  refine o_newR cx X200 d1_50 (o_w hw 9 rfl) (o_w hw 10 rfl) (by decide) 16 16 rfl (Nat.le_refl _) (by decide) (by decide) (by decide) fun T204 h206 b203 gb209 ge210 X205 E207 A208 => ?_
  have ne_ob0_b203 : ob0 ≠ b203 := by rw [gb209]; exact Nat.ne_of_lt G0.lt
  have ne_b143_b203 : b143 ≠ b203 := by rw [gb209]; exact Nat.ne_of_lt A148.lt
  have ne_b155_b203 : b155 ≠ b203 := by rw [gb209]; exact Nat.ne_of_lt A160.lt
  have ne_b167_b203 : b167 ≠ b203 := by rw [gb209]; exact Nat.ne_of_lt A172.lt
  have ne_b179_b203 : b179 ≠ b203 := by rw [gb209]; exact Nat.ne_of_lt A184.lt
  have ne_b191_b203 : b191 ≠ b203 := by rw [gb209]; exact Nat.ne_of_lt A196.lt
  have sz_b203 : h0.size ≤ b203 := by rw [gb209]; exact KK.1
  have G0 := G0.ext E207
  have G1 := G1.ext E207
  have G2 := G2.ext E207
  have G3 := G3.ext E207
  have G4 := G4.ext E207
  have G5 := G5.ext E207
  have G6 := G6.ext E207
  have G7 := G7.ext E207
  have G8 := G8.ext E207
  have G9 := G9.ext E207
  have G10 := G10.ext E207
  have G11 := G11.ext E207
  have G12 := G12.ext E207
  have G13 := G13.ext E207
  have G14 := G14.ext E207
  have A148 := A148.ext E207
  have A160 := A160.ext E207
  have A172 := A172.ext E207
  have A184 := A184.ext E207
  have A196 := A196.ext E207
  have KK := KK.ext E207
  have A208 : own_Rr Z h206 b203 "java/lang/String" [.null, .null, .null, .null, .null, .null, .null, .null, .null, .null, .null, .null, .null, .null, .null, .null] := A208
  refine o_putF cx X205 (v' := (.ref b203)) (ty := (.array (.object "java/lang/String"))) d1_53 (o_w hw 21 rfl) G6 G0 (Or.inl (o_w hw 22 rfl)) (o_w hw 1 rfl) (by decide) rfl rfl ga0 fun T211 h213 X212 W214 => ?_
  have G0 := G0.wr W214
  have G1 := G1.other W214 (Or.inr (slot_ne (Or.inl (o_w hw 12 rfl)) (Or.inl (o_w hw 22 rfl)) (by decide) (t := (.array (.object "java/lang/String"))) (t' := (.array (.object "java/lang/String"))) (by decide) (by decide)))
  have G2 := G2.other W214 (Or.inr (slot_ne (Or.inl (o_w hw 14 rfl)) (Or.inl (o_w hw 22 rfl)) (by decide) (t := (.array (.object "java/lang/String"))) (t' := (.array (.object "java/lang/String"))) (by decide) (by decide)))
  have G3 := G3.other W214 (Or.inr (slot_ne (Or.inl (o_w hw 16 rfl)) (Or.inl (o_w hw 22 rfl)) (by decide) (t := (.array (.object "java/lang/String"))) (t' := (.array (.object "java/lang/String"))) (by decide) (by decide)))
  have G4 := G4.other W214 (Or.inr (slot_ne (Or.inl (o_w hw 18 rfl)) (Or.inl (o_w hw 22 rfl)) (by decide) (t := (.array (.object "java/lang/String"))) (t' := (.array (.object "java/lang/String"))) (by decide) (by decide)))
  have G5 := G5.other W214 (Or.inr (slot_ne (Or.inl (o_w hw 20 rfl)) (Or.inl (o_w hw 22 rfl)) (by decide) (t := (.array (.object "java/lang/String"))) (t' := (.array (.object "java/lang/String"))) (by decide) (by decide)))
  have G6 := G6.same W214
  have G7 := G7.other W214 (Or.inr (slot_ne (Or.inl (o_w hw 25 rfl)) (Or.inl (o_w hw 22 rfl)) (by decide) (t := (.array .int)) (t' := (.array (.object "java/lang/String"))) (by decide) (by decide)))
  have G8 := G8.other W214 (Or.inr (slot_ne (Or.inl (o_w hw 27 rfl)) (Or.inl (o_w hw 22 rfl)) (by decide) (t := (.array .int)) (t' := (.array (.object "java/lang/String"))) (by decide) (by decide)))
  have G9 := G9.other W214 (Or.inr (slot_ne (Or.inl (o_w hw 58 rfl)) (Or.inl (o_w hw 22 rfl)) (by decide) (t := .int) (t' := (.array (.object "java/lang/String"))) (by decide) (by decide)))
  have G10 := G10.other W214 (Or.inr (slot_ne (Or.inl (o_w hw 60 rfl)) (Or.inl (o_w hw 22 rfl)) (by decide) (t := .int) (t' := (.array (.object "java/lang/String"))) (by decide) (by decide)))
  have G11 := G11.other W214 (Or.inr (slot_ne (Or.inl (o_w hw 62 rfl)) (Or.inl (o_w hw 22 rfl)) (by decide) (t := (.array .byte)) (t' := (.array (.object "java/lang/String"))) (by decide) (by decide)))
  have G12 := G12.other W214 (Or.inr (slot_ne (Or.inl (o_w hw 64 rfl)) (Or.inl (o_w hw 22 rfl)) (by decide) (t := (.object "java/lang/String")) (t' := (.array (.object "java/lang/String"))) (by decide) (by decide)))
  have G13 := G13.other W214 (Or.inr (slot_ne (Or.inl (o_w hw 66 rfl)) (Or.inl (o_w hw 22 rfl)) (by decide) (t := .int) (t' := (.array (.object "java/lang/String"))) (by decide) (by decide)))
  have G14 := G14.other W214 (Or.inr (slot_ne (Or.inl (o_w hw 68 rfl)) (Or.inl (o_w hw 22 rfl)) (by decide) (t := .int) (t' := (.array (.object "java/lang/String"))) (by decide) (by decide)))
  have A148 := A148.other W214 (Ne.symm ne_ob0_b143)
  have A160 := A160.other W214 (Ne.symm ne_ob0_b155)
  have A172 := A172.other W214 (Ne.symm ne_ob0_b167)
  have A184 := A184.other W214 (Ne.symm ne_ob0_b179)
  have A196 := A196.other W214 (Ne.symm ne_ob0_b191)
  have A208 := A208.other W214 (Ne.symm ne_ob0_b203)
  have KK := KK.wr W214 (Or.inl (List.mem_of_getElem? (i := 0) rfl))
  refine o_aloadN cx X212 d1_56 rfl rfl ?_
  refine o_bipush cx X212 (z := (16 : Int32)) d1_57 rfl ?_
  refine o_newP cx X212 d1_59 (o_w hw 23 rfl) (by decide) 16 16 rfl (Nat.le_refl _) (by decide) (by decide) (by decide) fun T216 h218 b215 gb221 ge222 X217 E219 A220 => ?_
  have ne_ob0_b215 : ob0 ≠ b215 := by rw [gb221]; exact Nat.ne_of_lt G0.lt
  have ne_b143_b215 : b143 ≠ b215 := by rw [gb221]; exact Nat.ne_of_lt A148.lt
  have ne_b155_b215 : b155 ≠ b215 := by rw [gb221]; exact Nat.ne_of_lt A160.lt
  have ne_b167_b215 : b167 ≠ b215 := by rw [gb221]; exact Nat.ne_of_lt A172.lt
  have ne_b179_b215 : b179 ≠ b215 := by rw [gb221]; exact Nat.ne_of_lt A184.lt
  have ne_b191_b215 : b191 ≠ b215 := by rw [gb221]; exact Nat.ne_of_lt A196.lt
  have ne_b203_b215 : b203 ≠ b215 := by rw [gb221]; exact Nat.ne_of_lt A208.lt
  have sz_b215 : h0.size ≤ b215 := by rw [gb221]; exact KK.1
  have G0 := G0.ext E219
  have G1 := G1.ext E219
  have G2 := G2.ext E219
  have G3 := G3.ext E219
  have G4 := G4.ext E219
  have G5 := G5.ext E219
  have G6 := G6.ext E219
  have G7 := G7.ext E219
  have G8 := G8.ext E219
  have G9 := G9.ext E219
  have G10 := G10.ext E219
  have G11 := G11.ext E219
  have G12 := G12.ext E219
  have G13 := G13.ext E219
  have G14 := G14.ext E219
  have A148 := A148.ext E219
  have A160 := A160.ext E219
  have A172 := A172.ext E219
  have A184 := A184.ext E219
  have A196 := A196.ext E219
  have A208 := A208.ext E219
  have KK := KK.ext E219
  have A220 : own_Ar Z h218 b215 .int [(.int (0 : Int32)), (.int (0 : Int32)), (.int (0 : Int32)), (.int (0 : Int32)), (.int (0 : Int32)), (.int (0 : Int32)), (.int (0 : Int32)), (.int (0 : Int32)), (.int (0 : Int32)), (.int (0 : Int32)), (.int (0 : Int32)), (.int (0 : Int32)), (.int (0 : Int32)), (.int (0 : Int32)), (.int (0 : Int32)), (.int (0 : Int32))] := A220
  refine o_putF cx X217 (v' := (.ref b215)) (ty := (.array .int)) d1_61 (o_w hw 24 rfl) G7 G0 (Or.inl (o_w hw 25 rfl)) (o_w hw 1 rfl) (by decide) rfl rfl ga0 fun T223 h225 X224 W226 => ?_
  have G0 := G0.wr W226
  have G1 := G1.other W226 (Or.inr (slot_ne (Or.inl (o_w hw 12 rfl)) (Or.inl (o_w hw 25 rfl)) (by decide) (t := (.array (.object "java/lang/String"))) (t' := (.array .int)) (by decide) (by decide)))
  have G2 := G2.other W226 (Or.inr (slot_ne (Or.inl (o_w hw 14 rfl)) (Or.inl (o_w hw 25 rfl)) (by decide) (t := (.array (.object "java/lang/String"))) (t' := (.array .int)) (by decide) (by decide)))
  have G3 := G3.other W226 (Or.inr (slot_ne (Or.inl (o_w hw 16 rfl)) (Or.inl (o_w hw 25 rfl)) (by decide) (t := (.array (.object "java/lang/String"))) (t' := (.array .int)) (by decide) (by decide)))
  have G4 := G4.other W226 (Or.inr (slot_ne (Or.inl (o_w hw 18 rfl)) (Or.inl (o_w hw 25 rfl)) (by decide) (t := (.array (.object "java/lang/String"))) (t' := (.array .int)) (by decide) (by decide)))
  have G5 := G5.other W226 (Or.inr (slot_ne (Or.inl (o_w hw 20 rfl)) (Or.inl (o_w hw 25 rfl)) (by decide) (t := (.array (.object "java/lang/String"))) (t' := (.array .int)) (by decide) (by decide)))
  have G6 := G6.other W226 (Or.inr (slot_ne (Or.inl (o_w hw 22 rfl)) (Or.inl (o_w hw 25 rfl)) (by decide) (t := (.array (.object "java/lang/String"))) (t' := (.array .int)) (by decide) (by decide)))
  have G7 := G7.same W226
  have G8 := G8.other W226 (Or.inr (slot_ne (Or.inl (o_w hw 27 rfl)) (Or.inl (o_w hw 25 rfl)) (by decide) (t := (.array .int)) (t' := (.array .int)) (by decide) (by decide)))
  have G9 := G9.other W226 (Or.inr (slot_ne (Or.inl (o_w hw 58 rfl)) (Or.inl (o_w hw 25 rfl)) (by decide) (t := .int) (t' := (.array .int)) (by decide) (by decide)))
  have G10 := G10.other W226 (Or.inr (slot_ne (Or.inl (o_w hw 60 rfl)) (Or.inl (o_w hw 25 rfl)) (by decide) (t := .int) (t' := (.array .int)) (by decide) (by decide)))
  have G11 := G11.other W226 (Or.inr (slot_ne (Or.inl (o_w hw 62 rfl)) (Or.inl (o_w hw 25 rfl)) (by decide) (t := (.array .byte)) (t' := (.array .int)) (by decide) (by decide)))
  have G12 := G12.other W226 (Or.inr (slot_ne (Or.inl (o_w hw 64 rfl)) (Or.inl (o_w hw 25 rfl)) (by decide) (t := (.object "java/lang/String")) (t' := (.array .int)) (by decide) (by decide)))
  have G13 := G13.other W226 (Or.inr (slot_ne (Or.inl (o_w hw 66 rfl)) (Or.inl (o_w hw 25 rfl)) (by decide) (t := .int) (t' := (.array .int)) (by decide) (by decide)))
  have G14 := G14.other W226 (Or.inr (slot_ne (Or.inl (o_w hw 68 rfl)) (Or.inl (o_w hw 25 rfl)) (by decide) (t := .int) (t' := (.array .int)) (by decide) (by decide)))
  have A148 := A148.other W226 (Ne.symm ne_ob0_b143)
  have A160 := A160.other W226 (Ne.symm ne_ob0_b155)
  have A172 := A172.other W226 (Ne.symm ne_ob0_b167)
  have A184 := A184.other W226 (Ne.symm ne_ob0_b179)
  have A196 := A196.other W226 (Ne.symm ne_ob0_b191)
  have A208 := A208.other W226 (Ne.symm ne_ob0_b203)
  have A220 := A220.other W226 (Ne.symm ne_ob0_b215)
  have KK := KK.wr W226 (Or.inl (List.mem_of_getElem? (i := 0) rfl))
  refine o_aloadN cx X224 d1_64 rfl rfl ?_
  refine o_bipush cx X224 (z := (16 : Int32)) d1_65 rfl ?_
  refine o_newP cx X224 d1_67 (o_w hw 23 rfl) (by decide) 16 16 rfl (Nat.le_refl _) (by decide) (by decide) (by decide) fun T228 h230 b227 gb233 ge234 X229 E231 A232 => ?_
  have ne_ob0_b227 : ob0 ≠ b227 := by rw [gb233]; exact Nat.ne_of_lt G0.lt
  have ne_b143_b227 : b143 ≠ b227 := by rw [gb233]; exact Nat.ne_of_lt A148.lt
  have ne_b155_b227 : b155 ≠ b227 := by rw [gb233]; exact Nat.ne_of_lt A160.lt
  have ne_b167_b227 : b167 ≠ b227 := by rw [gb233]; exact Nat.ne_of_lt A172.lt
  have ne_b179_b227 : b179 ≠ b227 := by rw [gb233]; exact Nat.ne_of_lt A184.lt
  have ne_b191_b227 : b191 ≠ b227 := by rw [gb233]; exact Nat.ne_of_lt A196.lt
  have ne_b203_b227 : b203 ≠ b227 := by rw [gb233]; exact Nat.ne_of_lt A208.lt
  have ne_b215_b227 : b215 ≠ b227 := by rw [gb233]; exact Nat.ne_of_lt A220.lt
  have sz_b227 : h0.size ≤ b227 := by rw [gb233]; exact KK.1
  have G0 := G0.ext E231
  have G1 := G1.ext E231
  have G2 := G2.ext E231
  have G3 := G3.ext E231
  have G4 := G4.ext E231
  have G5 := G5.ext E231
  have G6 := G6.ext E231
  have G7 := G7.ext E231
  have G8 := G8.ext E231
  have G9 := G9.ext E231
  have G10 := G10.ext E231
  have G11 := G11.ext E231
  have G12 := G12.ext E231
  have G13 := G13.ext E231
  have G14 := G14.ext E231
  have A148 := A148.ext E231
  have A160 := A160.ext E231
  have A172 := A172.ext E231
  have A184 := A184.ext E231
  have A196 := A196.ext E231
  have A208 := A208.ext E231
  have A220 := A220.ext E231
  have KK := KK.ext E231
  have A232 : own_Ar Z h230 b227 .int [(.int (0 : Int32)), (.int (0 : Int32)), (.int (0 : Int32)), (.int (0 : Int32)), (.int (0 : Int32)), (.int (0 : Int32)), (.int (0 : Int32)), (.int (0 : Int32)), (.int (0 : Int32)), (.int (0 : Int32)), (.int (0 : Int32)), (.int (0 : Int32)), (.int (0 : Int32)), (.int (0 : Int32)), (.int (0 : Int32)), (.int (0 : Int32))] := A232
  refine o_putF cx X229 (v' := (.ref b227)) (ty := (.array .int)) d1_69 (o_w hw 26 rfl) G8 G0 (Or.inl (o_w hw 27 rfl)) (o_w hw 1 rfl) (by decide) rfl rfl ga0 fun T235 h237 X236 W238 => ?_
  have G0 := G0.wr W238
  have G1 := G1.other W238 (Or.inr (slot_ne (Or.inl (o_w hw 12 rfl)) (Or.inl (o_w hw 27 rfl)) (by decide) (t := (.array (.object "java/lang/String"))) (t' := (.array .int)) (by decide) (by decide)))
  have G2 := G2.other W238 (Or.inr (slot_ne (Or.inl (o_w hw 14 rfl)) (Or.inl (o_w hw 27 rfl)) (by decide) (t := (.array (.object "java/lang/String"))) (t' := (.array .int)) (by decide) (by decide)))
  have G3 := G3.other W238 (Or.inr (slot_ne (Or.inl (o_w hw 16 rfl)) (Or.inl (o_w hw 27 rfl)) (by decide) (t := (.array (.object "java/lang/String"))) (t' := (.array .int)) (by decide) (by decide)))
  have G4 := G4.other W238 (Or.inr (slot_ne (Or.inl (o_w hw 18 rfl)) (Or.inl (o_w hw 27 rfl)) (by decide) (t := (.array (.object "java/lang/String"))) (t' := (.array .int)) (by decide) (by decide)))
  have G5 := G5.other W238 (Or.inr (slot_ne (Or.inl (o_w hw 20 rfl)) (Or.inl (o_w hw 27 rfl)) (by decide) (t := (.array (.object "java/lang/String"))) (t' := (.array .int)) (by decide) (by decide)))
  have G6 := G6.other W238 (Or.inr (slot_ne (Or.inl (o_w hw 22 rfl)) (Or.inl (o_w hw 27 rfl)) (by decide) (t := (.array (.object "java/lang/String"))) (t' := (.array .int)) (by decide) (by decide)))
  have G7 := G7.other W238 (Or.inr (slot_ne (Or.inl (o_w hw 25 rfl)) (Or.inl (o_w hw 27 rfl)) (by decide) (t := (.array .int)) (t' := (.array .int)) (by decide) (by decide)))
  have G8 := G8.same W238
  have G9 := G9.other W238 (Or.inr (slot_ne (Or.inl (o_w hw 58 rfl)) (Or.inl (o_w hw 27 rfl)) (by decide) (t := .int) (t' := (.array .int)) (by decide) (by decide)))
  have G10 := G10.other W238 (Or.inr (slot_ne (Or.inl (o_w hw 60 rfl)) (Or.inl (o_w hw 27 rfl)) (by decide) (t := .int) (t' := (.array .int)) (by decide) (by decide)))
  have G11 := G11.other W238 (Or.inr (slot_ne (Or.inl (o_w hw 62 rfl)) (Or.inl (o_w hw 27 rfl)) (by decide) (t := (.array .byte)) (t' := (.array .int)) (by decide) (by decide)))
  have G12 := G12.other W238 (Or.inr (slot_ne (Or.inl (o_w hw 64 rfl)) (Or.inl (o_w hw 27 rfl)) (by decide) (t := (.object "java/lang/String")) (t' := (.array .int)) (by decide) (by decide)))
  have G13 := G13.other W238 (Or.inr (slot_ne (Or.inl (o_w hw 66 rfl)) (Or.inl (o_w hw 27 rfl)) (by decide) (t := .int) (t' := (.array .int)) (by decide) (by decide)))
  have G14 := G14.other W238 (Or.inr (slot_ne (Or.inl (o_w hw 68 rfl)) (Or.inl (o_w hw 27 rfl)) (by decide) (t := .int) (t' := (.array .int)) (by decide) (by decide)))
  have A148 := A148.other W238 (Ne.symm ne_ob0_b143)
  have A160 := A160.other W238 (Ne.symm ne_ob0_b155)
  have A172 := A172.other W238 (Ne.symm ne_ob0_b167)
  have A184 := A184.other W238 (Ne.symm ne_ob0_b179)
  have A196 := A196.other W238 (Ne.symm ne_ob0_b191)
  have A208 := A208.other W238 (Ne.symm ne_ob0_b203)
  have A220 := A220.other W238 (Ne.symm ne_ob0_b215)
  have A232 := A232.other W238 (Ne.symm ne_ob0_b227)
  have KK := KK.wr W238 (Or.inl (List.mem_of_getElem? (i := 0) rfl))
  exact o_retV cx X236 d1_72 ⟨b143, b155, b167, b179, b191, b203, b215, b227, rfl, KK, sz_b143, ge150, sz_b155, ge162, sz_b167, ge174, sz_b179, ge186, sz_b191, ge198, sz_b203, ge210, sz_b215, ge222, sz_b227, ge234, ne_b143_b155, ne_b143_b167, ne_b143_b179, ne_b143_b191, ne_b143_b203, ne_b143_b215, ne_b143_b227, ne_b155_b167, ne_b155_b179, ne_b155_b191, ne_b155_b203, ne_b155_b215, ne_b155_b227, ne_b167_b179, ne_b167_b191, ne_b167_b203, ne_b167_b215, ne_b167_b227, ne_b179_b191, ne_b179_b203, ne_b179_b215, ne_b179_b227, ne_b191_b203, ne_b191_b215, ne_b191_b227, ne_b203_b215, ne_b203_b227, ne_b215_b227, G0, G1, G2, G3, G4, G5, G6, G7, G8, G9, G10, G11, G12, G13, G14, A148, A160, A172, A184, A196, A208, A220, A232⟩ (by decide) (by decide)
theorem pd_1 : parseMethodDescriptor "()V" = some ⟨[], none⟩ := by decide +kernel
theorem pd_3 : parseMethodDescriptor "(C)Ljava/lang/String;" = some ⟨[.char], some (.object "java/lang/String")⟩ := by decide +kernel
theorem d7_0 : decode prog_166_method_20_code 0 = .ok (.aload_n 0, 1) := by decide +kernel
theorem d7_1 : decode prog_166_method_20_code 1 = .ok (.iload_n 1, 1) := by decide +kernel
theorem d7_2 : decode prog_166_method_20_code 2 = .ok (.putfield 50, 3) := by decide +kernel
theorem d7_5 : decode prog_166_method_20_code 5 = .ok (.aload_n 0, 1) := by decide +kernel
theorem d7_6 : decode prog_166_method_20_code 6 = .ok (.iload_n 2, 1) := by decide +kernel
theorem d7_7 : decode prog_166_method_20_code 7 = .ok (.putfield 54, 3) := by decide +kernel
theorem d7_10 : decode prog_166_method_20_code 10 = .ok (.aload_n 0, 1) := by decide +kernel
theorem d7_11 : decode prog_166_method_20_code 11 = .ok (.aload_n 3, 1) := by decide +kernel
theorem d7_12 : decode prog_166_method_20_code 12 = .ok (.putfield 63, 3) := by decide +kernel
theorem d7_15 : decode prog_166_method_20_code 15 = .ok (.aload_n 0, 1) := by decide +kernel
theorem d7_16 : decode prog_166_method_20_code 16 = .ok (.aconst_null, 1) := by decide +kernel
theorem d7_17 : decode prog_166_method_20_code 17 = .ok (.putfield 47, 3) := by decide +kernel
theorem d7_20 : decode prog_166_method_20_code 20 = .ok (.aload_n 0, 1) := by decide +kernel
theorem d7_21 : decode prog_166_method_20_code 21 = .ok (.iconst 0, 1) := by decide +kernel
theorem d7_22 : decode prog_166_method_20_code 22 = .ok (.putfield 57, 3) := by decide +kernel
theorem d7_25 : decode prog_166_method_20_code 25 = .ok (.aload_n 0, 1) := by decide +kernel
theorem d7_26 : decode prog_166_method_20_code 26 = .ok (.iconst 0, 1) := by decide +kernel
theorem d7_27 : decode prog_166_method_20_code 27 = .ok (.putfield 60, 3) := by decide +kernel
theorem d7_30 : decode prog_166_method_20_code 30 = .ok (.return_, 1) := by decide +kernel
theorem ef_ra7_4 (m : MethodId) (ob0 : Addr) (q0 : Int32) (q1 : Int32) : entryFrame m #[(.ref ob0), (.int q0), (.int q1), .null] 4 = mkF m 0 #[.val (.ref ob0), .val (.int q0), .val (.int q1), .val .null] [] := by first | (simp [entryFrame, mkF, argsToLocals, Value.category]; done) | rfl
set_option maxRecDepth 65536 in
set_option maxHeartbeats 40000000 in
theorem ra7_4 (l : Launch) (Z : State) (a0 : Array Value) (hw : ∀ d ∈ tables_1, d.before a0 Z = true) (ob0 : Addr) (q0 : Int32) (q1 : Int32) (q2 : Value) (q3 : Value) (q4 : Value) (q5 : Value) (q6 : Value) (q7 : Value) (h0 : Heap) (n0 : Nat) (Z0 : n0 ≤ h0.size) (ga0 : n0 ≤ ob0) (G0 : Exa Z h0 ob0 "com/example/bulla/bulla/xml/StreamedElement") (G1 : Fld Z h0 ob0 "com/example/bulla/bulla/xml/StreamedElement" "depth" "I" q2) (G2 : Fld Z h0 ob0 "com/example/bulla/bulla/xml/StreamedElement" "ordinal" "I" q3) (G3 : Fld Z h0 ob0 "com/example/bulla/bulla/xml/StreamedElement" "values" "[B" q4) (G4 : Fld Z h0 ob0 "com/example/bulla/bulla/xml/StreamedElement" "namespace" "Ljava/lang/String;" q5) (G5 : Fld Z h0 ob0 "com/example/bulla/bulla/xml/StreamedElement" "declarationCount" "I" q6) (G6 : Fld Z h0 ob0 "com/example/bulla/bulla/xml/StreamedElement" "attributeCount" "I" q7) :
    own_Met l Z (⟨"com/example/bulla/bulla/xml/StreamedElement", "start", "(II[B)V"⟩ : MethodName) prog_166_method_20_code 4 none ({ frames := 0, cells := 0, slots := 0, locals := 0 } : Room) #[(.ref ob0), (.int q0), (.int q1), .null] h0 n0 (fun v' h' => v' = none ∧ Keep h0 h' [ob0] ∧ Exa Z h' ob0 "com/example/bulla/bulla/xml/StreamedElement" ∧ Fld Z h' ob0 "com/example/bulla/bulla/xml/StreamedElement" "depth" "I" (.int q0) ∧ Fld Z h' ob0 "com/example/bulla/bulla/xml/StreamedElement" "ordinal" "I" (.int q1) ∧ Fld Z h' ob0 "com/example/bulla/bulla/xml/StreamedElement" "values" "[B" .null ∧ Fld Z h' ob0 "com/example/bulla/bulla/xml/StreamedElement" "namespace" "Ljava/lang/String;" .null ∧ Fld Z h' ob0 "com/example/bulla/bulla/xml/StreamedElement" "declarationCount" "I" (.int (0 : Int32)) ∧ Fld Z h' ob0 "com/example/bulla/bulla/xml/StreamedElement" "attributeCount" "I" (.int (0 : Int32))) := by
  refine own_body (plainFor_of_name pn_1) (fun m => ef_ra7_4 m ob0 q0 q1) Z0 ?_
  intro p e s m below meth c T0 cx X0
  have KK := Keep.refl h0 [ob0]
  show own_Go p e below _ (T0.setTop (mkF m 0 #[.val (.ref ob0), .val (.int q0), .val (.int q1), .val .null] []))
  refine o_aloadN cx X0 d7_0 rfl rfl ?_
  refine o_iloadN cx X0 d7_1 rfl ?_
  refine o_putF cx X0 (v' := (.int q0)) (ty := .int) d7_2 (o_w hw 57 rfl) G1 G0 (Or.inl (o_w hw 58 rfl)) (o_w hw 1 rfl) (by decide) rfl rfl ga0 fun T322 h324 X323 W325 => ?_
  have G0 := G0.wr W325
  have G1 := G1.same W325
  have G2 := G2.other W325 (Or.inr (slot_ne (Or.inl (o_w hw 60 rfl)) (Or.inl (o_w hw 58 rfl)) (by decide) (t := .int) (t' := .int) (by decide) (by decide)))
  have G3 := G3.other W325 (Or.inr (slot_ne (Or.inl (o_w hw 62 rfl)) (Or.inl (o_w hw 58 rfl)) (by decide) (t := (.array .byte)) (t' := .int) (by decide) (by decide)))
  have G4 := G4.other W325 (Or.inr (slot_ne (Or.inl (o_w hw 64 rfl)) (Or.inl (o_w hw 58 rfl)) (by decide) (t := (.object "java/lang/String")) (t' := .int) (by decide) (by decide)))
  have G5 := G5.other W325 (Or.inr (slot_ne (Or.inl (o_w hw 66 rfl)) (Or.inl (o_w hw 58 rfl)) (by decide) (t := .int) (t' := .int) (by decide) (by decide)))
  have G6 := G6.other W325 (Or.inr (slot_ne (Or.inl (o_w hw 68 rfl)) (Or.inl (o_w hw 58 rfl)) (by decide) (t := .int) (t' := .int) (by decide) (by decide)))
  have KK := KK.wr W325 (Or.inl (List.mem_of_getElem? (i := 0) rfl))
  refine o_aloadN cx X323 d7_5 rfl rfl ?_
  refine o_iloadN cx X323 d7_6 rfl ?_
  refine o_putF cx X323 (v' := (.int q1)) (ty := .int) d7_7 (o_w hw 59 rfl) G2 G0 (Or.inl (o_w hw 60 rfl)) (o_w hw 1 rfl) (by decide) rfl rfl ga0 fun T326 h328 X327 W329 => ?_
  have G0 := G0.wr W329
  have G1 := G1.other W329 (Or.inr (slot_ne (Or.inl (o_w hw 58 rfl)) (Or.inl (o_w hw 60 rfl)) (by decide) (t := .int) (t' := .int) (by decide) (by decide)))
  have G2 := G2.same W329
  have G3 := G3.other W329 (Or.inr (slot_ne (Or.inl (o_w hw 62 rfl)) (Or.inl (o_w hw 60 rfl)) (by decide) (t := (.array .byte)) (t' := .int) (by decide) (by decide)))
  have G4 := G4.other W329 (Or.inr (slot_ne (Or.inl (o_w hw 64 rfl)) (Or.inl (o_w hw 60 rfl)) (by decide) (t := (.object "java/lang/String")) (t' := .int) (by decide) (by decide)))
  have G5 := G5.other W329 (Or.inr (slot_ne (Or.inl (o_w hw 66 rfl)) (Or.inl (o_w hw 60 rfl)) (by decide) (t := .int) (t' := .int) (by decide) (by decide)))
  have G6 := G6.other W329 (Or.inr (slot_ne (Or.inl (o_w hw 68 rfl)) (Or.inl (o_w hw 60 rfl)) (by decide) (t := .int) (t' := .int) (by decide) (by decide)))
  have KK := KK.wr W329 (Or.inl (List.mem_of_getElem? (i := 0) rfl))
  refine o_aloadN cx X327 d7_10 rfl rfl ?_
  refine o_aloadN cx X327 d7_11 rfl rfl ?_
  refine o_putF cx X327 (v' := .null) (ty := (.array .byte)) d7_12 (o_w hw 61 rfl) G3 G0 (Or.inl (o_w hw 62 rfl)) (o_w hw 1 rfl) (by decide) rfl rfl ga0 fun T330 h332 X331 W333 => ?_
  have G0 := G0.wr W333
  have G1 := G1.other W333 (Or.inr (slot_ne (Or.inl (o_w hw 58 rfl)) (Or.inl (o_w hw 62 rfl)) (by decide) (t := .int) (t' := (.array .byte)) (by decide) (by decide)))
  have G2 := G2.other W333 (Or.inr (slot_ne (Or.inl (o_w hw 60 rfl)) (Or.inl (o_w hw 62 rfl)) (by decide) (t := .int) (t' := (.array .byte)) (by decide) (by decide)))
  have G3 := G3.same W333
  have G4 := G4.other W333 (Or.inr (slot_ne (Or.inl (o_w hw 64 rfl)) (Or.inl (o_w hw 62 rfl)) (by decide) (t := (.object "java/lang/String")) (t' := (.array .byte)) (by decide) (by decide)))
  have G5 := G5.other W333 (Or.inr (slot_ne (Or.inl (o_w hw 66 rfl)) (Or.inl (o_w hw 62 rfl)) (by decide) (t := .int) (t' := (.array .byte)) (by decide) (by decide)))
  have G6 := G6.other W333 (Or.inr (slot_ne (Or.inl (o_w hw 68 rfl)) (Or.inl (o_w hw 62 rfl)) (by decide) (t := .int) (t' := (.array .byte)) (by decide) (by decide)))
  have KK := KK.wr W333 (Or.inl (List.mem_of_getElem? (i := 0) rfl))
  refine o_aloadN cx X331 d7_15 rfl rfl ?_
  refine o_aconst_null cx X331 d7_16 ?_
  refine o_putF cx X331 (v' := .null) (ty := (.object "java/lang/String")) d7_17 (o_w hw 63 rfl) G4 G0 (Or.inl (o_w hw 64 rfl)) (o_w hw 1 rfl) (by decide) rfl rfl ga0 fun T334 h336 X335 W337 => ?_
  have G0 := G0.wr W337
  have G1 := G1.other W337 (Or.inr (slot_ne (Or.inl (o_w hw 58 rfl)) (Or.inl (o_w hw 64 rfl)) (by decide) (t := .int) (t' := (.object "java/lang/String")) (by decide) (by decide)))
  have G2 := G2.other W337 (Or.inr (slot_ne (Or.inl (o_w hw 60 rfl)) (Or.inl (o_w hw 64 rfl)) (by decide) (t := .int) (t' := (.object "java/lang/String")) (by decide) (by decide)))
  have G3 := G3.other W337 (Or.inr (slot_ne (Or.inl (o_w hw 62 rfl)) (Or.inl (o_w hw 64 rfl)) (by decide) (t := (.array .byte)) (t' := (.object "java/lang/String")) (by decide) (by decide)))
  have G4 := G4.same W337
  have G5 := G5.other W337 (Or.inr (slot_ne (Or.inl (o_w hw 66 rfl)) (Or.inl (o_w hw 64 rfl)) (by decide) (t := .int) (t' := (.object "java/lang/String")) (by decide) (by decide)))
  have G6 := G6.other W337 (Or.inr (slot_ne (Or.inl (o_w hw 68 rfl)) (Or.inl (o_w hw 64 rfl)) (by decide) (t := .int) (t' := (.object "java/lang/String")) (by decide) (by decide)))
  have KK := KK.wr W337 (Or.inl (List.mem_of_getElem? (i := 0) rfl))
  refine o_aloadN cx X335 d7_20 rfl rfl ?_
  refine o_iconst cx X335 (z := (0 : Int32)) d7_21 rfl ?_
  refine o_putF cx X335 (v' := (.int (0 : Int32))) (ty := .int) d7_22 (o_w hw 65 rfl) G5 G0 (Or.inl (o_w hw 66 rfl)) (o_w hw 1 rfl) (by decide) rfl rfl ga0 fun T338 h340 X339 W341 => ?_
  have G0 := G0.wr W341
  have G1 := G1.other W341 (Or.inr (slot_ne (Or.inl (o_w hw 58 rfl)) (Or.inl (o_w hw 66 rfl)) (by decide) (t := .int) (t' := .int) (by decide) (by decide)))
  have G2 := G2.other W341 (Or.inr (slot_ne (Or.inl (o_w hw 60 rfl)) (Or.inl (o_w hw 66 rfl)) (by decide) (t := .int) (t' := .int) (by decide) (by decide)))
  have G3 := G3.other W341 (Or.inr (slot_ne (Or.inl (o_w hw 62 rfl)) (Or.inl (o_w hw 66 rfl)) (by decide) (t := (.array .byte)) (t' := .int) (by decide) (by decide)))
  have G4 := G4.other W341 (Or.inr (slot_ne (Or.inl (o_w hw 64 rfl)) (Or.inl (o_w hw 66 rfl)) (by decide) (t := (.object "java/lang/String")) (t' := .int) (by decide) (by decide)))
  have G5 := G5.same W341
  have G6 := G6.other W341 (Or.inr (slot_ne (Or.inl (o_w hw 68 rfl)) (Or.inl (o_w hw 66 rfl)) (by decide) (t := .int) (t' := .int) (by decide) (by decide)))
  have KK := KK.wr W341 (Or.inl (List.mem_of_getElem? (i := 0) rfl))
  refine o_aloadN cx X339 d7_25 rfl rfl ?_
  refine o_iconst cx X339 (z := (0 : Int32)) d7_26 rfl ?_
  refine o_putF cx X339 (v' := (.int (0 : Int32))) (ty := .int) d7_27 (o_w hw 67 rfl) G6 G0 (Or.inl (o_w hw 68 rfl)) (o_w hw 1 rfl) (by decide) rfl rfl ga0 fun T342 h344 X343 W345 => ?_
  have G0 := G0.wr W345
  have G1 := G1.other W345 (Or.inr (slot_ne (Or.inl (o_w hw 58 rfl)) (Or.inl (o_w hw 68 rfl)) (by decide) (t := .int) (t' := .int) (by decide) (by decide)))
  have G2 := G2.other W345 (Or.inr (slot_ne (Or.inl (o_w hw 60 rfl)) (Or.inl (o_w hw 68 rfl)) (by decide) (t := .int) (t' := .int) (by decide) (by decide)))
  have G3 := G3.other W345 (Or.inr (slot_ne (Or.inl (o_w hw 62 rfl)) (Or.inl (o_w hw 68 rfl)) (by decide) (t := (.array .byte)) (t' := .int) (by decide) (by decide)))
  have G4 := G4.other W345 (Or.inr (slot_ne (Or.inl (o_w hw 64 rfl)) (Or.inl (o_w hw 68 rfl)) (by decide) (t := (.object "java/lang/String")) (t' := .int) (by decide) (by decide)))
  have G5 := G5.other W345 (Or.inr (slot_ne (Or.inl (o_w hw 66 rfl)) (Or.inl (o_w hw 68 rfl)) (by decide) (t := .int) (t' := .int) (by decide) (by decide)))
  have G6 := G6.same W345
  have KK := KK.wr W345 (Or.inl (List.mem_of_getElem? (i := 0) rfl))
  exact o_retV cx X343 d7_30 ⟨rfl, KK, G0, G1, G2, G3, G4, G5, G6⟩ (by decide) (by decide)
theorem pd_7 : parseMethodDescriptor "(II[B)V" = some ⟨[.int, .int, (.array .byte)], none⟩ := by decide +kernel
theorem d8_0 : decode prog_166_method_6_code 0 = .ok (.aload_n 0, 1) := by decide +kernel
theorem d8_1 : decode prog_166_method_6_code 1 = .ok (.getfield 50, 3) := by decide +kernel
theorem d8_4 : decode prog_166_method_6_code 4 = .ok (.ireturn, 1) := by decide +kernel
theorem ef_ra8_5 (m : MethodId) (ob0 : Addr) : entryFrame m #[(.ref ob0)] 1 = mkF m 0 #[.val (.ref ob0)] [] := by first | (simp [entryFrame, mkF, argsToLocals, Value.category]; done) | rfl
set_option maxRecDepth 65536 in
set_option maxHeartbeats 40000000 in
theorem ra8_5 (l : Launch) (Z : State) (a0 : Array Value) (hw : ∀ d ∈ tables_1, d.before a0 Z = true) (ob0 : Addr) (q0 : Int32) (q1 : Int32) (h0 : Heap) (n0 : Nat) (Z0 : n0 ≤ h0.size) (ga0 : n0 ≤ ob0) (G0 : Exa Z h0 ob0 "com/example/bulla/bulla/xml/StreamedElement") (G1 : Fld Z h0 ob0 "com/example/bulla/bulla/xml/StreamedElement" "depth" "I" (.int q0)) (G2 : Fld Z h0 ob0 "com/example/bulla/bulla/xml/StreamedElement" "ordinal" "I" (.int q1)) (G3 : Fld Z h0 ob0 "com/example/bulla/bulla/xml/StreamedElement" "values" "[B" .null) (G4 : Fld Z h0 ob0 "com/example/bulla/bulla/xml/StreamedElement" "namespace" "Ljava/lang/String;" .null) (G5 : Fld Z h0 ob0 "com/example/bulla/bulla/xml/StreamedElement" "declarationCount" "I" (.int (0 : Int32))) (G6 : Fld Z h0 ob0 "com/example/bulla/bulla/xml/StreamedElement" "attributeCount" "I" (.int (0 : Int32))) :
    own_Met l Z (⟨"com/example/bulla/bulla/xml/StreamedElement", "depth", "()I"⟩ : MethodName) prog_166_method_6_code 1 (some .int) ({ frames := 0, cells := 0, slots := 0, locals := 0 } : Room) #[(.ref ob0)] h0 n0 (fun v' h' => v' = some (.int q0) ∧ h' = h0) := by
  refine own_body (plainFor_of_name pn_1) (fun m => ef_ra8_5 m ob0) Z0 ?_
  intro p e s m below meth c T0 cx X0
  have KK := Keep.refl h0 []
  show own_Go p e below _ (T0.setTop (mkF m 0 #[.val (.ref ob0)] []))
  refine o_aloadN cx X0 d8_0 rfl rfl ?_
  refine o_getF cx X0 d8_1 (o_w hw 57 rfl) G1 fun T361 X362 => ?_
  exact o_retI cx X362 d8_4 ⟨rfl, rfl⟩ (by decide) (by decide)
theorem pd_8 : parseMethodDescriptor "()I" = some ⟨[], some .int⟩ := by decide +kernel
theorem d9_0 : decode prog_166_method_7_code 0 = .ok (.aload_n 0, 1) := by decide +kernel
theorem d9_1 : decode prog_166_method_7_code 1 = .ok (.getfield 54, 3) := by decide +kernel
theorem d9_4 : decode prog_166_method_7_code 4 = .ok (.ireturn, 1) := by decide +kernel
theorem ef_ra9_6 (m : MethodId) (ob0 : Addr) : entryFrame m #[(.ref ob0)] 1 = mkF m 0 #[.val (.ref ob0)] [] := by first | (simp [entryFrame, mkF, argsToLocals, Value.category]; done) | rfl
set_option maxRecDepth 65536 in
set_option maxHeartbeats 40000000 in
theorem ra9_6 (l : Launch) (Z : State) (a0 : Array Value) (hw : ∀ d ∈ tables_1, d.before a0 Z = true) (ob0 : Addr) (q0 : Int32) (q1 : Int32) (h0 : Heap) (n0 : Nat) (Z0 : n0 ≤ h0.size) (ga0 : n0 ≤ ob0) (G0 : Exa Z h0 ob0 "com/example/bulla/bulla/xml/StreamedElement") (G1 : Fld Z h0 ob0 "com/example/bulla/bulla/xml/StreamedElement" "depth" "I" (.int q0)) (G2 : Fld Z h0 ob0 "com/example/bulla/bulla/xml/StreamedElement" "ordinal" "I" (.int q1)) (G3 : Fld Z h0 ob0 "com/example/bulla/bulla/xml/StreamedElement" "values" "[B" .null) (G4 : Fld Z h0 ob0 "com/example/bulla/bulla/xml/StreamedElement" "namespace" "Ljava/lang/String;" .null) (G5 : Fld Z h0 ob0 "com/example/bulla/bulla/xml/StreamedElement" "declarationCount" "I" (.int (0 : Int32))) (G6 : Fld Z h0 ob0 "com/example/bulla/bulla/xml/StreamedElement" "attributeCount" "I" (.int (0 : Int32))) :
    own_Met l Z (⟨"com/example/bulla/bulla/xml/StreamedElement", "ordinal", "()I"⟩ : MethodName) prog_166_method_7_code 1 (some .int) ({ frames := 0, cells := 0, slots := 0, locals := 0 } : Room) #[(.ref ob0)] h0 n0 (fun v' h' => v' = some (.int q1) ∧ h' = h0) := by
  refine own_body (plainFor_of_name pn_1) (fun m => ef_ra9_6 m ob0) Z0 ?_
  intro p e s m below meth c T0 cx X0
  have KK := Keep.refl h0 []
  show own_Go p e below _ (T0.setTop (mkF m 0 #[.val (.ref ob0)] []))
  refine o_aloadN cx X0 d9_0 rfl rfl ?_
  refine o_getF cx X0 d9_1 (o_w hw 59 rfl) G2 fun T370 X371 => ?_
  exact o_retI cx X371 d9_4 ⟨rfl, rfl⟩ (by decide) (by decide)
theorem pd_9 : parseMethodDescriptor "()I" = some ⟨[], some .int⟩ := by decide +kernel
theorem d10_0 : decode prog_166_method_17_code 0 = .ok (.aload_n 0, 1) := by decide +kernel
theorem d10_1 : decode prog_166_method_17_code 1 = .ok (.getfield 63, 3) := by decide +kernel
theorem d10_4 : decode prog_166_method_17_code 4 = .ok (.areturn, 1) := by decide +kernel
theorem ef_ra10_7 (m : MethodId) (ob0 : Addr) : entryFrame m #[(.ref ob0)] 1 = mkF m 0 #[.val (.ref ob0)] [] := by first | (simp [entryFrame, mkF, argsToLocals, Value.category]; done) | rfl
set_option maxRecDepth 65536 in
set_option maxHeartbeats 40000000 in
theorem ra10_7 (l : Launch) (Z : State) (a0 : Array Value) (hw : ∀ d ∈ tables_1, d.before a0 Z = true) (ob0 : Addr) (q0 : Int32) (q1 : Int32) (h0 : Heap) (n0 : Nat) (Z0 : n0 ≤ h0.size) (ga0 : n0 ≤ ob0) (G0 : Exa Z h0 ob0 "com/example/bulla/bulla/xml/StreamedElement") (G1 : Fld Z h0 ob0 "com/example/bulla/bulla/xml/StreamedElement" "depth" "I" (.int q0)) (G2 : Fld Z h0 ob0 "com/example/bulla/bulla/xml/StreamedElement" "ordinal" "I" (.int q1)) (G3 : Fld Z h0 ob0 "com/example/bulla/bulla/xml/StreamedElement" "values" "[B" .null) (G4 : Fld Z h0 ob0 "com/example/bulla/bulla/xml/StreamedElement" "namespace" "Ljava/lang/String;" .null) (G5 : Fld Z h0 ob0 "com/example/bulla/bulla/xml/StreamedElement" "declarationCount" "I" (.int (0 : Int32))) (G6 : Fld Z h0 ob0 "com/example/bulla/bulla/xml/StreamedElement" "attributeCount" "I" (.int (0 : Int32))) :
    own_Met l Z (⟨"com/example/bulla/bulla/xml/StreamedElement", "values", "()[B"⟩ : MethodName) prog_166_method_17_code 1 (some (.array .byte)) ({ frames := 0, cells := 0, slots := 0, locals := 0 } : Room) #[(.ref ob0)] h0 n0 (fun v' h' => v' = some .null ∧ h' = h0) := by
  refine own_body (plainFor_of_name pn_1) (fun m => ef_ra10_7 m ob0) Z0 ?_
  intro p e s m below meth c T0 cx X0
  have KK := Keep.refl h0 []
  show own_Go p e below _ (T0.setTop (mkF m 0 #[.val (.ref ob0)] []))
  refine o_aloadN cx X0 d10_0 rfl rfl ?_
  refine o_getF cx X0 d10_1 (o_w hw 61 rfl) G3 fun T379 X380 => ?_
  exact o_retA cx X380 d10_4 rfl rfl rfl ⟨rfl, rfl⟩ (by decide) (by decide)
theorem pd_10 : parseMethodDescriptor "()[B" = some ⟨[], some (.array .byte)⟩ := by decide +kernel
theorem d11_0 : decode prog_166_method_5_code 0 = .ok (.aload_n 0, 1) := by decide +kernel
theorem d11_1 : decode prog_166_method_5_code 1 = .ok (.getfield 47, 3) := by decide +kernel
theorem d11_4 : decode prog_166_method_5_code 4 = .ok (.areturn, 1) := by decide +kernel
theorem ef_ra11_8 (m : MethodId) (ob0 : Addr) : entryFrame m #[(.ref ob0)] 1 = mkF m 0 #[.val (.ref ob0)] [] := by first | (simp [entryFrame, mkF, argsToLocals, Value.category]; done) | rfl
set_option maxRecDepth 65536 in
set_option maxHeartbeats 40000000 in
theorem ra11_8 (l : Launch) (Z : State) (a0 : Array Value) (hw : ∀ d ∈ tables_1, d.before a0 Z = true) (ob0 : Addr) (q0 : Int32) (q1 : Int32) (h0 : Heap) (n0 : Nat) (Z0 : n0 ≤ h0.size) (ga0 : n0 ≤ ob0) (G0 : Exa Z h0 ob0 "com/example/bulla/bulla/xml/StreamedElement") (G1 : Fld Z h0 ob0 "com/example/bulla/bulla/xml/StreamedElement" "depth" "I" (.int q0)) (G2 : Fld Z h0 ob0 "com/example/bulla/bulla/xml/StreamedElement" "ordinal" "I" (.int q1)) (G3 : Fld Z h0 ob0 "com/example/bulla/bulla/xml/StreamedElement" "values" "[B" .null) (G4 : Fld Z h0 ob0 "com/example/bulla/bulla/xml/StreamedElement" "namespace" "Ljava/lang/String;" .null) (G5 : Fld Z h0 ob0 "com/example/bulla/bulla/xml/StreamedElement" "declarationCount" "I" (.int (0 : Int32))) (G6 : Fld Z h0 ob0 "com/example/bulla/bulla/xml/StreamedElement" "attributeCount" "I" (.int (0 : Int32))) :
    own_Met l Z (⟨"com/example/bulla/bulla/xml/StreamedElement", "namespace", "()Ljava/lang/String;"⟩ : MethodName) prog_166_method_5_code 1 (some (.object "java/lang/String")) ({ frames := 0, cells := 0, slots := 0, locals := 0 } : Room) #[(.ref ob0)] h0 n0 (fun v' h' => v' = some .null ∧ h' = h0) := by
  refine own_body (plainFor_of_name pn_1) (fun m => ef_ra11_8 m ob0) Z0 ?_
  intro p e s m below meth c T0 cx X0
  have KK := Keep.refl h0 []
  show own_Go p e below _ (T0.setTop (mkF m 0 #[.val (.ref ob0)] []))
  refine o_aloadN cx X0 d11_0 rfl rfl ?_
  refine o_getF cx X0 d11_1 (o_w hw 63 rfl) G4 fun T388 X389 => ?_
  exact o_retA cx X389 d11_4 rfl rfl rfl ⟨rfl, rfl⟩ (by decide) (by decide)
theorem pd_11 : parseMethodDescriptor "()Ljava/lang/String;" = some ⟨[], some (.object "java/lang/String")⟩ := by decide +kernel
theorem d12_0 : decode prog_166_method_8_code 0 = .ok (.aload_n 0, 1) := by decide +kernel
theorem d12_1 : decode prog_166_method_8_code 1 = .ok (.getfield 57, 3) := by decide +kernel
theorem d12_4 : decode prog_166_method_8_code 4 = .ok (.ireturn, 1) := by decide +kernel
theorem ef_ra12_9 (m : MethodId) (ob0 : Addr) : entryFrame m #[(.ref ob0)] 1 = mkF m 0 #[.val (.ref ob0)] [] := by first | (simp [entryFrame, mkF, argsToLocals, Value.category]; done) | rfl
set_option maxRecDepth 65536 in
set_option maxHeartbeats 40000000 in
theorem ra12_9 (l : Launch) (Z : State) (a0 : Array Value) (hw : ∀ d ∈ tables_1, d.before a0 Z = true) (ob0 : Addr) (q0 : Int32) (q1 : Int32) (h0 : Heap) (n0 : Nat) (Z0 : n0 ≤ h0.size) (ga0 : n0 ≤ ob0) (G0 : Exa Z h0 ob0 "com/example/bulla/bulla/xml/StreamedElement") (G1 : Fld Z h0 ob0 "com/example/bulla/bulla/xml/StreamedElement" "depth" "I" (.int q0)) (G2 : Fld Z h0 ob0 "com/example/bulla/bulla/xml/StreamedElement" "ordinal" "I" (.int q1)) (G3 : Fld Z h0 ob0 "com/example/bulla/bulla/xml/StreamedElement" "values" "[B" .null) (G4 : Fld Z h0 ob0 "com/example/bulla/bulla/xml/StreamedElement" "namespace" "Ljava/lang/String;" .null) (G5 : Fld Z h0 ob0 "com/example/bulla/bulla/xml/StreamedElement" "declarationCount" "I" (.int (0 : Int32))) (G6 : Fld Z h0 ob0 "com/example/bulla/bulla/xml/StreamedElement" "attributeCount" "I" (.int (0 : Int32))) :
    own_Met l Z (⟨"com/example/bulla/bulla/xml/StreamedElement", "declarationCount", "()I"⟩ : MethodName) prog_166_method_8_code 1 (some .int) ({ frames := 0, cells := 0, slots := 0, locals := 0 } : Room) #[(.ref ob0)] h0 n0 (fun v' h' => v' = some (.int (0 : Int32)) ∧ h' = h0) := by
  refine own_body (plainFor_of_name pn_1) (fun m => ef_ra12_9 m ob0) Z0 ?_
  intro p e s m below meth c T0 cx X0
  have KK := Keep.refl h0 []
  show own_Go p e below _ (T0.setTop (mkF m 0 #[.val (.ref ob0)] []))
  refine o_aloadN cx X0 d12_0 rfl rfl ?_
  refine o_getF cx X0 d12_1 (o_w hw 65 rfl) G5 fun T397 X398 => ?_
  exact o_retI cx X398 d12_4 ⟨rfl, rfl⟩ (by decide) (by decide)
theorem pd_12 : parseMethodDescriptor "()I" = some ⟨[], some .int⟩ := by decide +kernel
theorem d13_0 : decode prog_166_method_11_code 0 = .ok (.aload_n 0, 1) := by decide +kernel
theorem d13_1 : decode prog_166_method_11_code 1 = .ok (.getfield 60, 3) := by decide +kernel
theorem d13_4 : decode prog_166_method_11_code 4 = .ok (.ireturn, 1) := by decide +kernel
theorem ef_ra13_10 (m : MethodId) (ob0 : Addr) : entryFrame m #[(.ref ob0)] 1 = mkF m 0 #[.val (.ref ob0)] [] := by first | (simp [entryFrame, mkF, argsToLocals, Value.category]; done) | rfl
set_option maxRecDepth 65536 in
set_option maxHeartbeats 40000000 in
theorem ra13_10 (l : Launch) (Z : State) (a0 : Array Value) (hw : ∀ d ∈ tables_1, d.before a0 Z = true) (ob0 : Addr) (q0 : Int32) (q1 : Int32) (h0 : Heap) (n0 : Nat) (Z0 : n0 ≤ h0.size) (ga0 : n0 ≤ ob0) (G0 : Exa Z h0 ob0 "com/example/bulla/bulla/xml/StreamedElement") (G1 : Fld Z h0 ob0 "com/example/bulla/bulla/xml/StreamedElement" "depth" "I" (.int q0)) (G2 : Fld Z h0 ob0 "com/example/bulla/bulla/xml/StreamedElement" "ordinal" "I" (.int q1)) (G3 : Fld Z h0 ob0 "com/example/bulla/bulla/xml/StreamedElement" "values" "[B" .null) (G4 : Fld Z h0 ob0 "com/example/bulla/bulla/xml/StreamedElement" "namespace" "Ljava/lang/String;" .null) (G5 : Fld Z h0 ob0 "com/example/bulla/bulla/xml/StreamedElement" "declarationCount" "I" (.int (0 : Int32))) (G6 : Fld Z h0 ob0 "com/example/bulla/bulla/xml/StreamedElement" "attributeCount" "I" (.int (0 : Int32))) :
    own_Met l Z (⟨"com/example/bulla/bulla/xml/StreamedElement", "attributeCount", "()I"⟩ : MethodName) prog_166_method_11_code 1 (some .int) ({ frames := 0, cells := 0, slots := 0, locals := 0 } : Room) #[(.ref ob0)] h0 n0 (fun v' h' => v' = some (.int (0 : Int32)) ∧ h' = h0) := by
  refine own_body (plainFor_of_name pn_1) (fun m => ef_ra13_10 m ob0) Z0 ?_
  intro p e s m below meth c T0 cx X0
  have KK := Keep.refl h0 []
  show own_Go p e below _ (T0.setTop (mkF m 0 #[.val (.ref ob0)] []))
  refine o_aloadN cx X0 d13_0 rfl rfl ?_
  refine o_getF cx X0 d13_1 (o_w hw 67 rfl) G6 fun T406 X407 => ?_
  exact o_retI cx X407 d13_4 ⟨rfl, rfl⟩ (by decide) (by decide)
theorem pd_13 : parseMethodDescriptor "()I" = some ⟨[], some .int⟩ := by decide +kernel
theorem ef_ra7_11 (m : MethodId) (ob0 : Addr) (ob1 : Addr) (q0 : Int32) (q1 : Int32) : entryFrame m #[(.ref ob0), (.int q0), (.int q1), (.ref ob1)] 4 = mkF m 0 #[.val (.ref ob0), .val (.int q0), .val (.int q1), .val (.ref ob1)] [] := by first | (simp [entryFrame, mkF, argsToLocals, Value.category]; done) | rfl
set_option maxRecDepth 65536 in
set_option maxHeartbeats 40000000 in
theorem ra7_11 (l : Launch) (Z : State) (a0 : Array Value) (hw : ∀ d ∈ tables_1, d.before a0 Z = true) (ob0 : Addr) (ob1 : Addr) (q0 : Int32) (q1 : Int32) (q2 : Value) (q3 : Value) (q4 : Value) (q5 : Value) (q6 : Value) (q7 : Value) (h0 : Heap) (n0 : Nat) (Z0 : n0 ≤ h0.size) (ga0 : n0 ≤ ob0) (ga1 : n0 ≤ ob1) (ne_0_1 : ob0 ≠ ob1) (G0 : Exa Z h0 ob0 "com/example/bulla/bulla/xml/StreamedElement") (G1 : Fld Z h0 ob0 "com/example/bulla/bulla/xml/StreamedElement" "depth" "I" q2) (G2 : Fld Z h0 ob0 "com/example/bulla/bulla/xml/StreamedElement" "ordinal" "I" q3) (G3 : Fld Z h0 ob0 "com/example/bulla/bulla/xml/StreamedElement" "values" "[B" q4) (G4 : Fld Z h0 ob0 "com/example/bulla/bulla/xml/StreamedElement" "namespace" "Ljava/lang/String;" q5) (G5 : Fld Z h0 ob0 "com/example/bulla/bulla/xml/StreamedElement" "declarationCount" "I" q6) (G6 : Fld Z h0 ob0 "com/example/bulla/bulla/xml/StreamedElement" "attributeCount" "I" q7) (G7 : own_Ar Z h0 ob1 .byte [(.int (0 : Int32)), (.int (0 : Int32))]) :
    own_Met l Z (⟨"com/example/bulla/bulla/xml/StreamedElement", "start", "(II[B)V"⟩ : MethodName) prog_166_method_20_code 4 none ({ frames := 0, cells := 0, slots := 0, locals := 0 } : Room) #[(.ref ob0), (.int q0), (.int q1), (.ref ob1)] h0 n0 (fun v' h' => v' = none ∧ Keep h0 h' [ob0] ∧ Exa Z h' ob0 "com/example/bulla/bulla/xml/StreamedElement" ∧ Fld Z h' ob0 "com/example/bulla/bulla/xml/StreamedElement" "depth" "I" (.int q0) ∧ Fld Z h' ob0 "com/example/bulla/bulla/xml/StreamedElement" "ordinal" "I" (.int q1) ∧ Fld Z h' ob0 "com/example/bulla/bulla/xml/StreamedElement" "values" "[B" (.ref ob1) ∧ Fld Z h' ob0 "com/example/bulla/bulla/xml/StreamedElement" "namespace" "Ljava/lang/String;" .null ∧ Fld Z h' ob0 "com/example/bulla/bulla/xml/StreamedElement" "declarationCount" "I" (.int (0 : Int32)) ∧ Fld Z h' ob0 "com/example/bulla/bulla/xml/StreamedElement" "attributeCount" "I" (.int (0 : Int32))) := by
  refine own_body (plainFor_of_name pn_1) (fun m => ef_ra7_11 m ob0 ob1 q0 q1) Z0 ?_
  intro p e s m below meth c T0 cx X0
  have KK := Keep.refl h0 [ob0]
  show own_Go p e below _ (T0.setTop (mkF m 0 #[.val (.ref ob0), .val (.int q0), .val (.int q1), .val (.ref ob1)] []))
  refine o_aloadN cx X0 d7_0 rfl rfl ?_
  refine o_iloadN cx X0 d7_1 rfl ?_
  refine o_putF cx X0 (v' := (.int q0)) (ty := .int) d7_2 (o_w hw 57 rfl) G1 G0 (Or.inl (o_w hw 58 rfl)) (o_w hw 1 rfl) (by decide) rfl rfl ga0 fun T437 h439 X438 W440 => ?_
  have G0 := G0.wr W440
  have G1 := G1.same W440
  have G2 := G2.other W440 (Or.inr (slot_ne (Or.inl (o_w hw 60 rfl)) (Or.inl (o_w hw 58 rfl)) (by decide) (t := .int) (t' := .int) (by decide) (by decide)))
  have G3 := G3.other W440 (Or.inr (slot_ne (Or.inl (o_w hw 62 rfl)) (Or.inl (o_w hw 58 rfl)) (by decide) (t := (.array .byte)) (t' := .int) (by decide) (by decide)))
  have G4 := G4.other W440 (Or.inr (slot_ne (Or.inl (o_w hw 64 rfl)) (Or.inl (o_w hw 58 rfl)) (by decide) (t := (.object "java/lang/String")) (t' := .int) (by decide) (by decide)))
  have G5 := G5.other W440 (Or.inr (slot_ne (Or.inl (o_w hw 66 rfl)) (Or.inl (o_w hw 58 rfl)) (by decide) (t := .int) (t' := .int) (by decide) (by decide)))
  have G6 := G6.other W440 (Or.inr (slot_ne (Or.inl (o_w hw 68 rfl)) (Or.inl (o_w hw 58 rfl)) (by decide) (t := .int) (t' := .int) (by decide) (by decide)))
  have G7 := G7.other W440 (Ne.symm ne_0_1)
  have KK := KK.wr W440 (Or.inl (List.mem_of_getElem? (i := 0) rfl))
  refine o_aloadN cx X438 d7_5 rfl rfl ?_
  refine o_iloadN cx X438 d7_6 rfl ?_
  refine o_putF cx X438 (v' := (.int q1)) (ty := .int) d7_7 (o_w hw 59 rfl) G2 G0 (Or.inl (o_w hw 60 rfl)) (o_w hw 1 rfl) (by decide) rfl rfl ga0 fun T441 h443 X442 W444 => ?_
  have G0 := G0.wr W444
  have G1 := G1.other W444 (Or.inr (slot_ne (Or.inl (o_w hw 58 rfl)) (Or.inl (o_w hw 60 rfl)) (by decide) (t := .int) (t' := .int) (by decide) (by decide)))
  have G2 := G2.same W444
  have G3 := G3.other W444 (Or.inr (slot_ne (Or.inl (o_w hw 62 rfl)) (Or.inl (o_w hw 60 rfl)) (by decide) (t := (.array .byte)) (t' := .int) (by decide) (by decide)))
  have G4 := G4.other W444 (Or.inr (slot_ne (Or.inl (o_w hw 64 rfl)) (Or.inl (o_w hw 60 rfl)) (by decide) (t := (.object "java/lang/String")) (t' := .int) (by decide) (by decide)))
  have G5 := G5.other W444 (Or.inr (slot_ne (Or.inl (o_w hw 66 rfl)) (Or.inl (o_w hw 60 rfl)) (by decide) (t := .int) (t' := .int) (by decide) (by decide)))
  have G6 := G6.other W444 (Or.inr (slot_ne (Or.inl (o_w hw 68 rfl)) (Or.inl (o_w hw 60 rfl)) (by decide) (t := .int) (t' := .int) (by decide) (by decide)))
  have G7 := G7.other W444 (Ne.symm ne_0_1)
  have KK := KK.wr W444 (Or.inl (List.mem_of_getElem? (i := 0) rfl))
  refine o_aloadN cx X442 d7_10 rfl rfl ?_
  refine o_aloadN cx X442 d7_11 rfl rfl ?_
  refine o_putF cx X442 (v' := (.ref ob1)) (ty := (.array .byte)) d7_12 (o_w hw 61 rfl) G3 G0 (Or.inl (o_w hw 62 rfl)) (o_w hw 1 rfl) (by decide) rfl rfl ga0 fun T445 h447 X446 W448 => ?_
  have G0 := G0.wr W448
  have G1 := G1.other W448 (Or.inr (slot_ne (Or.inl (o_w hw 58 rfl)) (Or.inl (o_w hw 62 rfl)) (by decide) (t := .int) (t' := (.array .byte)) (by decide) (by decide)))
  have G2 := G2.other W448 (Or.inr (slot_ne (Or.inl (o_w hw 60 rfl)) (Or.inl (o_w hw 62 rfl)) (by decide) (t := .int) (t' := (.array .byte)) (by decide) (by decide)))
  have G3 := G3.same W448
  have G4 := G4.other W448 (Or.inr (slot_ne (Or.inl (o_w hw 64 rfl)) (Or.inl (o_w hw 62 rfl)) (by decide) (t := (.object "java/lang/String")) (t' := (.array .byte)) (by decide) (by decide)))
  have G5 := G5.other W448 (Or.inr (slot_ne (Or.inl (o_w hw 66 rfl)) (Or.inl (o_w hw 62 rfl)) (by decide) (t := .int) (t' := (.array .byte)) (by decide) (by decide)))
  have G6 := G6.other W448 (Or.inr (slot_ne (Or.inl (o_w hw 68 rfl)) (Or.inl (o_w hw 62 rfl)) (by decide) (t := .int) (t' := (.array .byte)) (by decide) (by decide)))
  have G7 := G7.other W448 (Ne.symm ne_0_1)
  have KK := KK.wr W448 (Or.inl (List.mem_of_getElem? (i := 0) rfl))
  refine o_aloadN cx X446 d7_15 rfl rfl ?_
  refine o_aconst_null cx X446 d7_16 ?_
  refine o_putF cx X446 (v' := .null) (ty := (.object "java/lang/String")) d7_17 (o_w hw 63 rfl) G4 G0 (Or.inl (o_w hw 64 rfl)) (o_w hw 1 rfl) (by decide) rfl rfl ga0 fun T449 h451 X450 W452 => ?_
  have G0 := G0.wr W452
  have G1 := G1.other W452 (Or.inr (slot_ne (Or.inl (o_w hw 58 rfl)) (Or.inl (o_w hw 64 rfl)) (by decide) (t := .int) (t' := (.object "java/lang/String")) (by decide) (by decide)))
  have G2 := G2.other W452 (Or.inr (slot_ne (Or.inl (o_w hw 60 rfl)) (Or.inl (o_w hw 64 rfl)) (by decide) (t := .int) (t' := (.object "java/lang/String")) (by decide) (by decide)))
  have G3 := G3.other W452 (Or.inr (slot_ne (Or.inl (o_w hw 62 rfl)) (Or.inl (o_w hw 64 rfl)) (by decide) (t := (.array .byte)) (t' := (.object "java/lang/String")) (by decide) (by decide)))
  have G4 := G4.same W452
  have G5 := G5.other W452 (Or.inr (slot_ne (Or.inl (o_w hw 66 rfl)) (Or.inl (o_w hw 64 rfl)) (by decide) (t := .int) (t' := (.object "java/lang/String")) (by decide) (by decide)))
  have G6 := G6.other W452 (Or.inr (slot_ne (Or.inl (o_w hw 68 rfl)) (Or.inl (o_w hw 64 rfl)) (by decide) (t := .int) (t' := (.object "java/lang/String")) (by decide) (by decide)))
  have G7 := G7.other W452 (Ne.symm ne_0_1)
  have KK := KK.wr W452 (Or.inl (List.mem_of_getElem? (i := 0) rfl))
  refine o_aloadN cx X450 d7_20 rfl rfl ?_
  refine o_iconst cx X450 (z := (0 : Int32)) d7_21 rfl ?_
  refine o_putF cx X450 (v' := (.int (0 : Int32))) (ty := .int) d7_22 (o_w hw 65 rfl) G5 G0 (Or.inl (o_w hw 66 rfl)) (o_w hw 1 rfl) (by decide) rfl rfl ga0 fun T453 h455 X454 W456 => ?_
  have G0 := G0.wr W456
  have G1 := G1.other W456 (Or.inr (slot_ne (Or.inl (o_w hw 58 rfl)) (Or.inl (o_w hw 66 rfl)) (by decide) (t := .int) (t' := .int) (by decide) (by decide)))
  have G2 := G2.other W456 (Or.inr (slot_ne (Or.inl (o_w hw 60 rfl)) (Or.inl (o_w hw 66 rfl)) (by decide) (t := .int) (t' := .int) (by decide) (by decide)))
  have G3 := G3.other W456 (Or.inr (slot_ne (Or.inl (o_w hw 62 rfl)) (Or.inl (o_w hw 66 rfl)) (by decide) (t := (.array .byte)) (t' := .int) (by decide) (by decide)))
  have G4 := G4.other W456 (Or.inr (slot_ne (Or.inl (o_w hw 64 rfl)) (Or.inl (o_w hw 66 rfl)) (by decide) (t := (.object "java/lang/String")) (t' := .int) (by decide) (by decide)))
  have G5 := G5.same W456
  have G6 := G6.other W456 (Or.inr (slot_ne (Or.inl (o_w hw 68 rfl)) (Or.inl (o_w hw 66 rfl)) (by decide) (t := .int) (t' := .int) (by decide) (by decide)))
  have G7 := G7.other W456 (Ne.symm ne_0_1)
  have KK := KK.wr W456 (Or.inl (List.mem_of_getElem? (i := 0) rfl))
  refine o_aloadN cx X454 d7_25 rfl rfl ?_
  refine o_iconst cx X454 (z := (0 : Int32)) d7_26 rfl ?_
  refine o_putF cx X454 (v' := (.int (0 : Int32))) (ty := .int) d7_27 (o_w hw 67 rfl) G6 G0 (Or.inl (o_w hw 68 rfl)) (o_w hw 1 rfl) (by decide) rfl rfl ga0 fun T457 h459 X458 W460 => ?_
  have G0 := G0.wr W460
  have G1 := G1.other W460 (Or.inr (slot_ne (Or.inl (o_w hw 58 rfl)) (Or.inl (o_w hw 68 rfl)) (by decide) (t := .int) (t' := .int) (by decide) (by decide)))
  have G2 := G2.other W460 (Or.inr (slot_ne (Or.inl (o_w hw 60 rfl)) (Or.inl (o_w hw 68 rfl)) (by decide) (t := .int) (t' := .int) (by decide) (by decide)))
  have G3 := G3.other W460 (Or.inr (slot_ne (Or.inl (o_w hw 62 rfl)) (Or.inl (o_w hw 68 rfl)) (by decide) (t := (.array .byte)) (t' := .int) (by decide) (by decide)))
  have G4 := G4.other W460 (Or.inr (slot_ne (Or.inl (o_w hw 64 rfl)) (Or.inl (o_w hw 68 rfl)) (by decide) (t := (.object "java/lang/String")) (t' := .int) (by decide) (by decide)))
  have G5 := G5.other W460 (Or.inr (slot_ne (Or.inl (o_w hw 66 rfl)) (Or.inl (o_w hw 68 rfl)) (by decide) (t := .int) (t' := .int) (by decide) (by decide)))
  have G6 := G6.same W460
  have G7 := G7.other W460 (Ne.symm ne_0_1)
  have KK := KK.wr W460 (Or.inl (List.mem_of_getElem? (i := 0) rfl))
  exact o_retV cx X458 d7_30 ⟨rfl, KK, G0, G1, G2, G3, G4, G5, G6⟩ (by decide) (by decide)
theorem ef_ra8_12 (m : MethodId) (ob0 : Addr) : entryFrame m #[(.ref ob0)] 1 = mkF m 0 #[.val (.ref ob0)] [] := by first | (simp [entryFrame, mkF, argsToLocals, Value.category]; done) | rfl
set_option maxRecDepth 65536 in
set_option maxHeartbeats 40000000 in
theorem ra8_12 (l : Launch) (Z : State) (a0 : Array Value) (hw : ∀ d ∈ tables_1, d.before a0 Z = true) (ob0 : Addr) (ob1 : Addr) (q0 : Int32) (q1 : Int32) (h0 : Heap) (n0 : Nat) (Z0 : n0 ≤ h0.size) (ga0 : n0 ≤ ob0) (ga1 : n0 ≤ ob1) (ne_0_1 : ob0 ≠ ob1) (G0 : Exa Z h0 ob0 "com/example/bulla/bulla/xml/StreamedElement") (G1 : Fld Z h0 ob0 "com/example/bulla/bulla/xml/StreamedElement" "depth" "I" (.int q0)) (G2 : Fld Z h0 ob0 "com/example/bulla/bulla/xml/StreamedElement" "ordinal" "I" (.int q1)) (G3 : Fld Z h0 ob0 "com/example/bulla/bulla/xml/StreamedElement" "values" "[B" (.ref ob1)) (G4 : Fld Z h0 ob0 "com/example/bulla/bulla/xml/StreamedElement" "namespace" "Ljava/lang/String;" .null) (G5 : Fld Z h0 ob0 "com/example/bulla/bulla/xml/StreamedElement" "declarationCount" "I" (.int (0 : Int32))) (G6 : Fld Z h0 ob0 "com/example/bulla/bulla/xml/StreamedElement" "attributeCount" "I" (.int (0 : Int32))) (G7 : own_Ar Z h0 ob1 .byte [(.int (0 : Int32)), (.int (0 : Int32))]) :
    own_Met l Z (⟨"com/example/bulla/bulla/xml/StreamedElement", "depth", "()I"⟩ : MethodName) prog_166_method_6_code 1 (some .int) ({ frames := 0, cells := 0, slots := 0, locals := 0 } : Room) #[(.ref ob0)] h0 n0 (fun v' h' => v' = some (.int q0) ∧ h' = h0) := by
  refine own_body (plainFor_of_name pn_1) (fun m => ef_ra8_12 m ob0) Z0 ?_
  intro p e s m below meth c T0 cx X0
  have KK := Keep.refl h0 []
  show own_Go p e below _ (T0.setTop (mkF m 0 #[.val (.ref ob0)] []))
  refine o_aloadN cx X0 d8_0 rfl rfl ?_
  refine o_getF cx X0 d8_1 (o_w hw 57 rfl) G1 fun T476 X477 => ?_
  exact o_retI cx X477 d8_4 ⟨rfl, rfl⟩ (by decide) (by decide)
theorem ef_ra9_13 (m : MethodId) (ob0 : Addr) : entryFrame m #[(.ref ob0)] 1 = mkF m 0 #[.val (.ref ob0)] [] := by first | (simp [entryFrame, mkF, argsToLocals, Value.category]; done) | rfl
set_option maxRecDepth 65536 in
set_option maxHeartbeats 40000000 in
theorem ra9_13 (l : Launch) (Z : State) (a0 : Array Value) (hw : ∀ d ∈ tables_1, d.before a0 Z = true) (ob0 : Addr) (ob1 : Addr) (q0 : Int32) (q1 : Int32) (h0 : Heap) (n0 : Nat) (Z0 : n0 ≤ h0.size) (ga0 : n0 ≤ ob0) (ga1 : n0 ≤ ob1) (ne_0_1 : ob0 ≠ ob1) (G0 : Exa Z h0 ob0 "com/example/bulla/bulla/xml/StreamedElement") (G1 : Fld Z h0 ob0 "com/example/bulla/bulla/xml/StreamedElement" "depth" "I" (.int q0)) (G2 : Fld Z h0 ob0 "com/example/bulla/bulla/xml/StreamedElement" "ordinal" "I" (.int q1)) (G3 : Fld Z h0 ob0 "com/example/bulla/bulla/xml/StreamedElement" "values" "[B" (.ref ob1)) (G4 : Fld Z h0 ob0 "com/example/bulla/bulla/xml/StreamedElement" "namespace" "Ljava/lang/String;" .null) (G5 : Fld Z h0 ob0 "com/example/bulla/bulla/xml/StreamedElement" "declarationCount" "I" (.int (0 : Int32))) (G6 : Fld Z h0 ob0 "com/example/bulla/bulla/xml/StreamedElement" "attributeCount" "I" (.int (0 : Int32))) (G7 : own_Ar Z h0 ob1 .byte [(.int (0 : Int32)), (.int (0 : Int32))]) :
    own_Met l Z (⟨"com/example/bulla/bulla/xml/StreamedElement", "ordinal", "()I"⟩ : MethodName) prog_166_method_7_code 1 (some .int) ({ frames := 0, cells := 0, slots := 0, locals := 0 } : Room) #[(.ref ob0)] h0 n0 (fun v' h' => v' = some (.int q1) ∧ h' = h0) := by
  refine own_body (plainFor_of_name pn_1) (fun m => ef_ra9_13 m ob0) Z0 ?_
  intro p e s m below meth c T0 cx X0
  have KK := Keep.refl h0 []
  show own_Go p e below _ (T0.setTop (mkF m 0 #[.val (.ref ob0)] []))
  refine o_aloadN cx X0 d9_0 rfl rfl ?_
  refine o_getF cx X0 d9_1 (o_w hw 59 rfl) G2 fun T485 X486 => ?_
  exact o_retI cx X486 d9_4 ⟨rfl, rfl⟩ (by decide) (by decide)
theorem ef_ra10_14 (m : MethodId) (ob0 : Addr) : entryFrame m #[(.ref ob0)] 1 = mkF m 0 #[.val (.ref ob0)] [] := by first | (simp [entryFrame, mkF, argsToLocals, Value.category]; done) | rfl
set_option maxRecDepth 65536 in
set_option maxHeartbeats 40000000 in
theorem ra10_14 (l : Launch) (Z : State) (a0 : Array Value) (hw : ∀ d ∈ tables_1, d.before a0 Z = true) (ob0 : Addr) (ob1 : Addr) (q0 : Int32) (q1 : Int32) (h0 : Heap) (n0 : Nat) (Z0 : n0 ≤ h0.size) (ga0 : n0 ≤ ob0) (ga1 : n0 ≤ ob1) (ne_0_1 : ob0 ≠ ob1) (G0 : Exa Z h0 ob0 "com/example/bulla/bulla/xml/StreamedElement") (G1 : Fld Z h0 ob0 "com/example/bulla/bulla/xml/StreamedElement" "depth" "I" (.int q0)) (G2 : Fld Z h0 ob0 "com/example/bulla/bulla/xml/StreamedElement" "ordinal" "I" (.int q1)) (G3 : Fld Z h0 ob0 "com/example/bulla/bulla/xml/StreamedElement" "values" "[B" (.ref ob1)) (G4 : Fld Z h0 ob0 "com/example/bulla/bulla/xml/StreamedElement" "namespace" "Ljava/lang/String;" .null) (G5 : Fld Z h0 ob0 "com/example/bulla/bulla/xml/StreamedElement" "declarationCount" "I" (.int (0 : Int32))) (G6 : Fld Z h0 ob0 "com/example/bulla/bulla/xml/StreamedElement" "attributeCount" "I" (.int (0 : Int32))) (G7 : own_Ar Z h0 ob1 .byte [(.int (0 : Int32)), (.int (0 : Int32))]) :
    own_Met l Z (⟨"com/example/bulla/bulla/xml/StreamedElement", "values", "()[B"⟩ : MethodName) prog_166_method_17_code 1 (some (.array .byte)) ({ frames := 0, cells := 0, slots := 0, locals := 0 } : Room) #[(.ref ob0)] h0 n0 (fun v' h' => v' = some (.ref ob1) ∧ h' = h0) := by
  refine own_body (plainFor_of_name pn_1) (fun m => ef_ra10_14 m ob0) Z0 ?_
  intro p e s m below meth c T0 cx X0
  have KK := Keep.refl h0 []
  show own_Go p e below _ (T0.setTop (mkF m 0 #[.val (.ref ob0)] []))
  refine o_aloadN cx X0 d10_0 rfl rfl ?_
  refine o_getF cx X0 d10_1 (o_w hw 61 rfl) G3 fun T494 X495 => ?_
  exact o_retA cx X495 d10_4 rfl rfl rfl ⟨rfl, rfl⟩ (by decide) (by decide)
theorem ef_ra11_15 (m : MethodId) (ob0 : Addr) : entryFrame m #[(.ref ob0)] 1 = mkF m 0 #[.val (.ref ob0)] [] := by first | (simp [entryFrame, mkF, argsToLocals, Value.category]; done) | rfl
set_option maxRecDepth 65536 in
set_option maxHeartbeats 40000000 in
theorem ra11_15 (l : Launch) (Z : State) (a0 : Array Value) (hw : ∀ d ∈ tables_1, d.before a0 Z = true) (ob0 : Addr) (ob1 : Addr) (q0 : Int32) (q1 : Int32) (h0 : Heap) (n0 : Nat) (Z0 : n0 ≤ h0.size) (ga0 : n0 ≤ ob0) (ga1 : n0 ≤ ob1) (ne_0_1 : ob0 ≠ ob1) (G0 : Exa Z h0 ob0 "com/example/bulla/bulla/xml/StreamedElement") (G1 : Fld Z h0 ob0 "com/example/bulla/bulla/xml/StreamedElement" "depth" "I" (.int q0)) (G2 : Fld Z h0 ob0 "com/example/bulla/bulla/xml/StreamedElement" "ordinal" "I" (.int q1)) (G3 : Fld Z h0 ob0 "com/example/bulla/bulla/xml/StreamedElement" "values" "[B" (.ref ob1)) (G4 : Fld Z h0 ob0 "com/example/bulla/bulla/xml/StreamedElement" "namespace" "Ljava/lang/String;" .null) (G5 : Fld Z h0 ob0 "com/example/bulla/bulla/xml/StreamedElement" "declarationCount" "I" (.int (0 : Int32))) (G6 : Fld Z h0 ob0 "com/example/bulla/bulla/xml/StreamedElement" "attributeCount" "I" (.int (0 : Int32))) (G7 : own_Ar Z h0 ob1 .byte [(.int (0 : Int32)), (.int (0 : Int32))]) :
    own_Met l Z (⟨"com/example/bulla/bulla/xml/StreamedElement", "namespace", "()Ljava/lang/String;"⟩ : MethodName) prog_166_method_5_code 1 (some (.object "java/lang/String")) ({ frames := 0, cells := 0, slots := 0, locals := 0 } : Room) #[(.ref ob0)] h0 n0 (fun v' h' => v' = some .null ∧ h' = h0) := by
  refine own_body (plainFor_of_name pn_1) (fun m => ef_ra11_15 m ob0) Z0 ?_
  intro p e s m below meth c T0 cx X0
  have KK := Keep.refl h0 []
  show own_Go p e below _ (T0.setTop (mkF m 0 #[.val (.ref ob0)] []))
  refine o_aloadN cx X0 d11_0 rfl rfl ?_
  refine o_getF cx X0 d11_1 (o_w hw 63 rfl) G4 fun T503 X504 => ?_
  exact o_retA cx X504 d11_4 rfl rfl rfl ⟨rfl, rfl⟩ (by decide) (by decide)
theorem ef_ra12_16 (m : MethodId) (ob0 : Addr) : entryFrame m #[(.ref ob0)] 1 = mkF m 0 #[.val (.ref ob0)] [] := by first | (simp [entryFrame, mkF, argsToLocals, Value.category]; done) | rfl
set_option maxRecDepth 65536 in
set_option maxHeartbeats 40000000 in
theorem ra12_16 (l : Launch) (Z : State) (a0 : Array Value) (hw : ∀ d ∈ tables_1, d.before a0 Z = true) (ob0 : Addr) (ob1 : Addr) (q0 : Int32) (q1 : Int32) (h0 : Heap) (n0 : Nat) (Z0 : n0 ≤ h0.size) (ga0 : n0 ≤ ob0) (ga1 : n0 ≤ ob1) (ne_0_1 : ob0 ≠ ob1) (G0 : Exa Z h0 ob0 "com/example/bulla/bulla/xml/StreamedElement") (G1 : Fld Z h0 ob0 "com/example/bulla/bulla/xml/StreamedElement" "depth" "I" (.int q0)) (G2 : Fld Z h0 ob0 "com/example/bulla/bulla/xml/StreamedElement" "ordinal" "I" (.int q1)) (G3 : Fld Z h0 ob0 "com/example/bulla/bulla/xml/StreamedElement" "values" "[B" (.ref ob1)) (G4 : Fld Z h0 ob0 "com/example/bulla/bulla/xml/StreamedElement" "namespace" "Ljava/lang/String;" .null) (G5 : Fld Z h0 ob0 "com/example/bulla/bulla/xml/StreamedElement" "declarationCount" "I" (.int (0 : Int32))) (G6 : Fld Z h0 ob0 "com/example/bulla/bulla/xml/StreamedElement" "attributeCount" "I" (.int (0 : Int32))) (G7 : own_Ar Z h0 ob1 .byte [(.int (0 : Int32)), (.int (0 : Int32))]) :
    own_Met l Z (⟨"com/example/bulla/bulla/xml/StreamedElement", "declarationCount", "()I"⟩ : MethodName) prog_166_method_8_code 1 (some .int) ({ frames := 0, cells := 0, slots := 0, locals := 0 } : Room) #[(.ref ob0)] h0 n0 (fun v' h' => v' = some (.int (0 : Int32)) ∧ h' = h0) := by
  refine own_body (plainFor_of_name pn_1) (fun m => ef_ra12_16 m ob0) Z0 ?_
  intro p e s m below meth c T0 cx X0
  have KK := Keep.refl h0 []
  show own_Go p e below _ (T0.setTop (mkF m 0 #[.val (.ref ob0)] []))
  refine o_aloadN cx X0 d12_0 rfl rfl ?_
  refine o_getF cx X0 d12_1 (o_w hw 65 rfl) G5 fun T512 X513 => ?_
  exact o_retI cx X513 d12_4 ⟨rfl, rfl⟩ (by decide) (by decide)
theorem ef_ra13_17 (m : MethodId) (ob0 : Addr) : entryFrame m #[(.ref ob0)] 1 = mkF m 0 #[.val (.ref ob0)] [] := by first | (simp [entryFrame, mkF, argsToLocals, Value.category]; done) | rfl
set_option maxRecDepth 65536 in
set_option maxHeartbeats 40000000 in
theorem ra13_17 (l : Launch) (Z : State) (a0 : Array Value) (hw : ∀ d ∈ tables_1, d.before a0 Z = true) (ob0 : Addr) (ob1 : Addr) (q0 : Int32) (q1 : Int32) (h0 : Heap) (n0 : Nat) (Z0 : n0 ≤ h0.size) (ga0 : n0 ≤ ob0) (ga1 : n0 ≤ ob1) (ne_0_1 : ob0 ≠ ob1) (G0 : Exa Z h0 ob0 "com/example/bulla/bulla/xml/StreamedElement") (G1 : Fld Z h0 ob0 "com/example/bulla/bulla/xml/StreamedElement" "depth" "I" (.int q0)) (G2 : Fld Z h0 ob0 "com/example/bulla/bulla/xml/StreamedElement" "ordinal" "I" (.int q1)) (G3 : Fld Z h0 ob0 "com/example/bulla/bulla/xml/StreamedElement" "values" "[B" (.ref ob1)) (G4 : Fld Z h0 ob0 "com/example/bulla/bulla/xml/StreamedElement" "namespace" "Ljava/lang/String;" .null) (G5 : Fld Z h0 ob0 "com/example/bulla/bulla/xml/StreamedElement" "declarationCount" "I" (.int (0 : Int32))) (G6 : Fld Z h0 ob0 "com/example/bulla/bulla/xml/StreamedElement" "attributeCount" "I" (.int (0 : Int32))) (G7 : own_Ar Z h0 ob1 .byte [(.int (0 : Int32)), (.int (0 : Int32))]) :
    own_Met l Z (⟨"com/example/bulla/bulla/xml/StreamedElement", "attributeCount", "()I"⟩ : MethodName) prog_166_method_11_code 1 (some .int) ({ frames := 0, cells := 0, slots := 0, locals := 0 } : Room) #[(.ref ob0)] h0 n0 (fun v' h' => v' = some (.int (0 : Int32)) ∧ h' = h0) := by
  refine own_body (plainFor_of_name pn_1) (fun m => ef_ra13_17 m ob0) Z0 ?_
  intro p e s m below meth c T0 cx X0
  have KK := Keep.refl h0 []
  show own_Go p e below _ (T0.setTop (mkF m 0 #[.val (.ref ob0)] []))
  refine o_aloadN cx X0 d13_0 rfl rfl ?_
  refine o_getF cx X0 d13_1 (o_w hw 67 rfl) G6 fun T521 X522 => ?_
  exact o_retI cx X522 d13_4 ⟨rfl, rfl⟩ (by decide) (by decide)
theorem d16_0 : decode prog_166_method_24_code 0 = .ok (.aload_n 0, 1) := by decide +kernel
theorem d16_1 : decode prog_166_method_24_code 1 = .ok (.getfield 60, 3) := by decide +kernel
theorem d16_4 : decode prog_166_method_24_code 4 = .ok (.aload_n 0, 1) := by decide +kernel
theorem d16_5 : decode prog_166_method_24_code 5 = .ok (.getfield 18, 3) := by decide +kernel
theorem d16_8 : decode prog_166_method_24_code 8 = .ok (.arraylength, 1) := by decide +kernel
theorem d16_9 : decode prog_166_method_24_code 9 = .ok (.if_icmp .ne 101, 3) := by decide +kernel
theorem d16_110 : decode prog_166_method_24_code 110 = .ok (.aload_n 0, 1) := by decide +kernel
theorem d16_111 : decode prog_166_method_24_code 111 = .ok (.getfield 18, 3) := by decide +kernel
theorem d16_114 : decode prog_166_method_24_code 114 = .ok (.aload_n 0, 1) := by decide +kernel
theorem d16_115 : decode prog_166_method_24_code 115 = .ok (.getfield 60, 3) := by decide +kernel
theorem d16_118 : decode prog_166_method_24_code 118 = .ok (.aload_n 1, 1) := by decide +kernel
theorem d16_119 : decode prog_166_method_24_code 119 = .ok (.aastore, 1) := by decide +kernel
theorem d16_120 : decode prog_166_method_24_code 120 = .ok (.aload_n 0, 1) := by decide +kernel
theorem d16_121 : decode prog_166_method_24_code 121 = .ok (.getfield 21, 3) := by decide +kernel
theorem d16_124 : decode prog_166_method_24_code 124 = .ok (.aload_n 0, 1) := by decide +kernel
theorem d16_125 : decode prog_166_method_24_code 125 = .ok (.getfield 60, 3) := by decide +kernel
theorem d16_128 : decode prog_166_method_24_code 128 = .ok (.aload_n 2, 1) := by decide +kernel
theorem d16_129 : decode prog_166_method_24_code 129 = .ok (.aastore, 1) := by decide +kernel
theorem d16_130 : decode prog_166_method_24_code 130 = .ok (.aload_n 0, 1) := by decide +kernel
theorem d16_131 : decode prog_166_method_24_code 131 = .ok (.getfield 24, 3) := by decide +kernel
theorem d16_134 : decode prog_166_method_24_code 134 = .ok (.aload_n 0, 1) := by decide +kernel
theorem d16_135 : decode prog_166_method_24_code 135 = .ok (.getfield 60, 3) := by decide +kernel
theorem d16_138 : decode prog_166_method_24_code 138 = .ok (.aload_n 3, 1) := by decide +kernel
theorem d16_139 : decode prog_166_method_24_code 139 = .ok (.aastore, 1) := by decide +kernel
theorem d16_140 : decode prog_166_method_24_code 140 = .ok (.aload_n 0, 1) := by decide +kernel
theorem d16_141 : decode prog_166_method_24_code 141 = .ok (.getfield 27, 3) := by decide +kernel
theorem d16_144 : decode prog_166_method_24_code 144 = .ok (.aload_n 0, 1) := by decide +kernel
theorem d16_145 : decode prog_166_method_24_code 145 = .ok (.getfield 60, 3) := by decide +kernel
theorem d16_148 : decode prog_166_method_24_code 148 = .ok (.aconst_null, 1) := by decide +kernel
theorem d16_149 : decode prog_166_method_24_code 149 = .ok (.aastore, 1) := by decide +kernel
theorem d16_150 : decode prog_166_method_24_code 150 = .ok (.aload_n 0, 1) := by decide +kernel
theorem d16_151 : decode prog_166_method_24_code 151 = .ok (.getfield 30, 3) := by decide +kernel
theorem d16_154 : decode prog_166_method_24_code 154 = .ok (.aload_n 0, 1) := by decide +kernel
theorem d16_155 : decode prog_166_method_24_code 155 = .ok (.getfield 60, 3) := by decide +kernel
theorem d16_158 : decode prog_166_method_24_code 158 = .ok (.iload 4, 2) := by decide +kernel
theorem d16_160 : decode prog_166_method_24_code 160 = .ok (.iastore, 1) := by decide +kernel
theorem d16_161 : decode prog_166_method_24_code 161 = .ok (.aload_n 0, 1) := by decide +kernel
theorem d16_162 : decode prog_166_method_24_code 162 = .ok (.getfield 34, 3) := by decide +kernel
theorem d16_165 : decode prog_166_method_24_code 165 = .ok (.aload_n 0, 1) := by decide +kernel
theorem d16_166 : decode prog_166_method_24_code 166 = .ok (.dup, 1) := by decide +kernel
theorem d16_167 : decode prog_166_method_24_code 167 = .ok (.getfield 60, 3) := by decide +kernel
theorem d16_170 : decode prog_166_method_24_code 170 = .ok (.dup_x1, 1) := by decide +kernel
theorem d16_171 : decode prog_166_method_24_code 171 = .ok (.iconst 1, 1) := by decide +kernel
theorem d16_172 : decode prog_166_method_24_code 172 = .ok (.iadd, 1) := by decide +kernel
theorem d16_173 : decode prog_166_method_24_code 173 = .ok (.putfield 60, 3) := by decide +kernel
theorem d16_176 : decode prog_166_method_24_code 176 = .ok (.iload 5, 2) := by decide +kernel
theorem d16_178 : decode prog_166_method_24_code 178 = .ok (.iastore, 1) := by decide +kernel
theorem d16_179 : decode prog_166_method_24_code 179 = .ok (.return_, 1) := by decide +kernel
theorem ef_ra16_18 (m : MethodId) (ob0 : Addr) (ob7 : Addr) : entryFrame m #[(.ref ob0), (.ref ob7), (.ref ob7), (.ref ob7), (.int (0 : Int32)), (.int (1 : Int32))] 7 = mkF m 0 #[.val (.ref ob0), .val (.ref ob7), .val (.ref ob7), .val (.ref ob7), .val (.int (0 : Int32)), .val (.int (1 : Int32)), .unset] [] := by first | (simp [entryFrame, mkF, argsToLocals, Value.category]; done) | rfl
set_option maxRecDepth 65536 in
set_option maxHeartbeats 40000000 in
theorem ra16_18 (l : Launch) (Z : State) (a0 : Array Value) (hw : ∀ d ∈ tables_1, d.before a0 Z = true) (ob0 : Addr) (ob1 : Addr) (ob2 : Addr) (ob3 : Addr) (ob4 : Addr) (ob5 : Addr) (ob6 : Addr) (ob7 : Addr) (q0 : Value) (q1 : Value) (q2 : Value) (q3 : Value) (q4 : Value) (h0 : Heap) (n0 : Nat) (Z0 : n0 ≤ h0.size) (ga0 : n0 ≤ ob0) (ga1 : n0 ≤ ob1) (ga2 : n0 ≤ ob2) (ga3 : n0 ≤ ob3) (ga4 : n0 ≤ ob4) (ga5 : n0 ≤ ob5) (ga6 : n0 ≤ ob6) (ga7 : n0 ≤ ob7) (ne_0_1 : ob0 ≠ ob1) (ne_0_2 : ob0 ≠ ob2) (ne_0_3 : ob0 ≠ ob3) (ne_0_4 : ob0 ≠ ob4) (ne_0_5 : ob0 ≠ ob5) (ne_0_6 : ob0 ≠ ob6) (ne_0_7 : ob0 ≠ ob7) (ne_1_2 : ob1 ≠ ob2) (ne_1_3 : ob1 ≠ ob3) (ne_1_4 : ob1 ≠ ob4) (ne_1_5 : ob1 ≠ ob5) (ne_1_6 : ob1 ≠ ob6) (ne_1_7 : ob1 ≠ ob7) (ne_2_3 : ob2 ≠ ob3) (ne_2_4 : ob2 ≠ ob4) (ne_2_5 : ob2 ≠ ob5) (ne_2_6 : ob2 ≠ ob6) (ne_2_7 : ob2 ≠ ob7) (ne_3_4 : ob3 ≠ ob4) (ne_3_5 : ob3 ≠ ob5) (ne_3_6 : ob3 ≠ ob6) (ne_3_7 : ob3 ≠ ob7) (ne_4_5 : ob4 ≠ ob5) (ne_4_6 : ob4 ≠ ob6) (ne_4_7 : ob4 ≠ ob7) (ne_5_6 : ob5 ≠ ob6) (ne_5_7 : ob5 ≠ ob7) (ne_6_7 : ob6 ≠ ob7) (G0 : Exa Z h0 ob0 "com/example/bulla/bulla/xml/StreamedElement") (G1 : Fld Z h0 ob0 "com/example/bulla/bulla/xml/StreamedElement" "attributeNames" "[Ljava/lang/String;" (.ref ob1)) (G2 : Fld Z h0 ob0 "com/example/bulla/bulla/xml/StreamedElement" "attributePrefixes" "[Ljava/lang/String;" (.ref ob2)) (G3 : Fld Z h0 ob0 "com/example/bulla/bulla/xml/StreamedElement" "attributeLocalNames" "[Ljava/lang/String;" (.ref ob3)) (G4 : Fld Z h0 ob0 "com/example/bulla/bulla/xml/StreamedElement" "attributeNamespaces" "[Ljava/lang/String;" (.ref ob4)) (G5 : Fld Z h0 ob0 "com/example/bulla/bulla/xml/StreamedElement" "valueStarts" "[I" (.ref ob5)) (G6 : Fld Z h0 ob0 "com/example/bulla/bulla/xml/StreamedElement" "valueEnds" "[I" (.ref ob6)) (G7 : Fld Z h0 ob0 "com/example/bulla/bulla/xml/StreamedElement" "depth" "I" q0) (G8 : Fld Z h0 ob0 "com/example/bulla/bulla/xml/StreamedElement" "ordinal" "I" q1) (G9 : Fld Z h0 ob0 "com/example/bulla/bulla/xml/StreamedElement" "values" "[B" q2) (G10 : Fld Z h0 ob0 "com/example/bulla/bulla/xml/StreamedElement" "namespace" "Ljava/lang/String;" q3) (G11 : Fld Z h0 ob0 "com/example/bulla/bulla/xml/StreamedElement" "declarationCount" "I" q4) (G12 : Fld Z h0 ob0 "com/example/bulla/bulla/xml/StreamedElement" "attributeCount" "I" (.int (0 : Int32))) (G13 : own_Rr Z h0 ob1 "java/lang/String" [.null, .null, .null, .null, .null, .null, .null, .null, .null, .null, .null, .null, .null, .null, .null, .null]) (G14 : own_Rr Z h0 ob2 "java/lang/String" [.null, .null, .null, .null, .null, .null, .null, .null, .null, .null, .null, .null, .null, .null, .null, .null]) (G15 : own_Rr Z h0 ob3 "java/lang/String" [.null, .null, .null, .null, .null, .null, .null, .null, .null, .null, .null, .null, .null, .null, .null, .null]) (G16 : own_Rr Z h0 ob4 "java/lang/String" [.null, .null, .null, .null, .null, .null, .null, .null, .null, .null, .null, .null, .null, .null, .null, .null]) (G17 : own_Ar Z h0 ob5 .int [(.int (0 : Int32)), (.int (0 : Int32)), (.int (0 : Int32)), (.int (0 : Int32)), (.int (0 : Int32)), (.int (0 : Int32)), (.int (0 : Int32)), (.int (0 : Int32)), (.int (0 : Int32)), (.int (0 : Int32)), (.int (0 : Int32)), (.int (0 : Int32)), (.int (0 : Int32)), (.int (0 : Int32)), (.int (0 : Int32)), (.int (0 : Int32))]) (G18 : own_Ar Z h0 ob6 .int [(.int (0 : Int32)), (.int (0 : Int32)), (.int (0 : Int32)), (.int (0 : Int32)), (.int (0 : Int32)), (.int (0 : Int32)), (.int (0 : Int32)), (.int (0 : Int32)), (.int (0 : Int32)), (.int (0 : Int32)), (.int (0 : Int32)), (.int (0 : Int32)), (.int (0 : Int32)), (.int (0 : Int32)), (.int (0 : Int32)), (.int (0 : Int32))]) (G19 : Exa Z h0 ob7 "java/lang/String") :
    own_Met l Z (⟨"com/example/bulla/bulla/xml/StreamedElement", "addAttribute", "(Ljava/lang/String;Ljava/lang/String;Ljava/lang/String;II)V"⟩ : MethodName) prog_166_method_24_code 7 none ({ frames := 0, cells := 0, slots := 0, locals := 0 } : Room) #[(.ref ob0), (.ref ob7), (.ref ob7), (.ref ob7), (.int (0 : Int32)), (.int (1 : Int32))] h0 n0 (fun v' h' => v' = none ∧ Keep h0 h' [ob1, ob2, ob3, ob4, ob5, ob0, ob6] ∧ Exa Z h' ob0 "com/example/bulla/bulla/xml/StreamedElement" ∧ Fld Z h' ob0 "com/example/bulla/bulla/xml/StreamedElement" "attributeNames" "[Ljava/lang/String;" (.ref ob1) ∧ Fld Z h' ob0 "com/example/bulla/bulla/xml/StreamedElement" "attributePrefixes" "[Ljava/lang/String;" (.ref ob2) ∧ Fld Z h' ob0 "com/example/bulla/bulla/xml/StreamedElement" "attributeLocalNames" "[Ljava/lang/String;" (.ref ob3) ∧ Fld Z h' ob0 "com/example/bulla/bulla/xml/StreamedElement" "attributeNamespaces" "[Ljava/lang/String;" (.ref ob4) ∧ Fld Z h' ob0 "com/example/bulla/bulla/xml/StreamedElement" "valueStarts" "[I" (.ref ob5) ∧ Fld Z h' ob0 "com/example/bulla/bulla/xml/StreamedElement" "valueEnds" "[I" (.ref ob6) ∧ Fld Z h' ob0 "com/example/bulla/bulla/xml/StreamedElement" "depth" "I" q0 ∧ Fld Z h' ob0 "com/example/bulla/bulla/xml/StreamedElement" "ordinal" "I" q1 ∧ Fld Z h' ob0 "com/example/bulla/bulla/xml/StreamedElement" "values" "[B" q2 ∧ Fld Z h' ob0 "com/example/bulla/bulla/xml/StreamedElement" "namespace" "Ljava/lang/String;" q3 ∧ Fld Z h' ob0 "com/example/bulla/bulla/xml/StreamedElement" "declarationCount" "I" q4 ∧ Fld Z h' ob0 "com/example/bulla/bulla/xml/StreamedElement" "attributeCount" "I" (.int (1 : Int32)) ∧ own_Rr Z h' ob1 "java/lang/String" [(.ref ob7), .null, .null, .null, .null, .null, .null, .null, .null, .null, .null, .null, .null, .null, .null, .null] ∧ own_Rr Z h' ob2 "java/lang/String" [(.ref ob7), .null, .null, .null, .null, .null, .null, .null, .null, .null, .null, .null, .null, .null, .null, .null] ∧ own_Rr Z h' ob3 "java/lang/String" [(.ref ob7), .null, .null, .null, .null, .null, .null, .null, .null, .null, .null, .null, .null, .null, .null, .null] ∧ own_Rr Z h' ob4 "java/lang/String" [.null, .null, .null, .null, .null, .null, .null, .null, .null, .null, .null, .null, .null, .null, .null, .null] ∧ own_Ar Z h' ob5 .int [(.int (0 : Int32)), (.int (0 : Int32)), (.int (0 : Int32)), (.int (0 : Int32)), (.int (0 : Int32)), (.int (0 : Int32)), (.int (0 : Int32)), (.int (0 : Int32)), (.int (0 : Int32)), (.int (0 : Int32)), (.int (0 : Int32)), (.int (0 : Int32)), (.int (0 : Int32)), (.int (0 : Int32)), (.int (0 : Int32)), (.int (0 : Int32))] ∧ own_Ar Z h' ob6 .int [(.int (1 : Int32)), (.int (0 : Int32)), (.int (0 : Int32)), (.int (0 : Int32)), (.int (0 : Int32)), (.int (0 : Int32)), (.int (0 : Int32)), (.int (0 : Int32)), (.int (0 : Int32)), (.int (0 : Int32)), (.int (0 : Int32)), (.int (0 : Int32)), (.int (0 : Int32)), (.int (0 : Int32)), (.int (0 : Int32)), (.int (0 : Int32))]) := by
  refine own_body (plainFor_of_name pn_1) (fun m => ef_ra16_18 m ob0 ob7) Z0 ?_
  intro p e s m below meth c T0 cx X0
  have KK := Keep.refl h0 [ob1, ob2, ob3, ob4, ob5, ob0, ob6]
  show own_Go p e below _ (T0.setTop (mkF m 0 #[.val (.ref ob0), .val (.ref ob7), .val (.ref ob7), .val (.ref ob7), .val (.int (0 : Int32)), .val (.int (1 : Int32)), .unset] []))
  refine o_aloadN cx X0 d16_0 rfl rfl ?_
  refine o_getF cx X0 d16_1 (o_w hw 67 rfl) G12 fun T585 X586 => ?_
  refine o_aloadN cx X586 d16_4 rfl rfl ?_
  refine o_getF cx X586 d16_5 (o_w hw 15 rfl) G1 fun T587 X588 => ?_
  refine o_lenR cx X588 (z := (16 : Int32)) d16_8 G13 rfl ?_
  refine o_icmpYes cx X588 110 d16_9 (by decide) (by decide) (by decide) ?_
  refine o_aloadN cx X588 d16_110 rfl rfl ?_
  refine o_getF cx X588 d16_111 (o_w hw 15 rfl) G1 fun T589 X590 => ?_
  refine o_aloadN cx X590 d16_114 rfl rfl ?_
  refine o_getF cx X590 d16_115 (o_w hw 67 rfl) G12 fun T591 X592 => ?_
  refine o_aloadN cx X592 d16_118 rfl rfl ?_
  refine o_stR cx X592 d16_119 G13 0 (by decide) rfl (Nat.le_of_ble_eq_true rfl) (G13.sto G19) ga1 fun T593 h595 X594 W596 G13 => ?_
  have G0 := G0.wr W596
  have G1 := G1.other W596 (Or.inl ne_0_1)
  have G2 := G2.other W596 (Or.inl ne_0_1)
  have G3 := G3.other W596 (Or.inl ne_0_1)
  have G4 := G4.other W596 (Or.inl ne_0_1)
  have G5 := G5.other W596 (Or.inl ne_0_1)
  have G6 := G6.other W596 (Or.inl ne_0_1)
  have G7 := G7.other W596 (Or.inl ne_0_1)
  have G8 := G8.other W596 (Or.inl ne_0_1)
  have G9 := G9.other W596 (Or.inl ne_0_1)
  have G10 := G10.other W596 (Or.inl ne_0_1)
  have G11 := G11.other W596 (Or.inl ne_0_1)
  have G12 := G12.other W596 (Or.inl ne_0_1)
  have G14 := G14.other W596 (Ne.symm ne_1_2)
  have G15 := G15.other W596 (Ne.symm ne_1_3)
  have G16 := G16.other W596 (Ne.symm ne_1_4)
  have G17 := G17.other W596 (Ne.symm ne_1_5)
  have G18 := G18.other W596 (Ne.symm ne_1_6)
  have G19 := G19.wr W596
  have KK := KK.wr W596 (Or.inl (List.mem_of_getElem? (i := 0) rfl))
  have G13 : own_Rr Z h595 ob1 "java/lang/String" [(.ref ob7), .null, .null, .null, .null, .null, .null, .null, .null, .null, .null, .null, .null, .null, .null, .null] := G13
  refine o_aloadN cx X594 d16_120 rfl rfl ?_
  refine o_getF cx X594 d16_121 (o_w hw 17 rfl) G2 fun T597 X598 => ?_
  refine o_aloadN cx X598 d16_124 rfl rfl ?_
  refine o_getF cx X598 d16_125 (o_w hw 67 rfl) G12 fun T599 X600 => ?_
  refine o_aloadN cx X600 d16_128 rfl rfl ?_
  refine o_stR cx X600 d16_129 G14 0 (by decide) rfl (Nat.le_of_ble_eq_true rfl) (G14.sto G19) ga2 fun T601 h603 X602 W604 G14 => ?_
  have G0 := G0.wr W604
  have G1 := G1.other W604 (Or.inl ne_0_2)
  have G2 := G2.other W604 (Or.inl ne_0_2)
  have G3 := G3.other W604 (Or.inl ne_0_2)
  have G4 := G4.other W604 (Or.inl ne_0_2)
  have G5 := G5.other W604 (Or.inl ne_0_2)
  have G6 := G6.other W604 (Or.inl ne_0_2)
  have G7 := G7.other W604 (Or.inl ne_0_2)
  have G8 := G8.other W604 (Or.inl ne_0_2)
  have G9 := G9.other W604 (Or.inl ne_0_2)
  have G10 := G10.other W604 (Or.inl ne_0_2)
  have G11 := G11.other W604 (Or.inl ne_0_2)
  have G12 := G12.other W604 (Or.inl ne_0_2)
  have G13 := G13.other W604 ne_1_2
  have G15 := G15.other W604 (Ne.symm ne_2_3)
  have G16 := G16.other W604 (Ne.symm ne_2_4)
  have G17 := G17.other W604 (Ne.symm ne_2_5)
  have G18 := G18.other W604 (Ne.symm ne_2_6)
  have G19 := G19.wr W604
  have KK := KK.wr W604 (Or.inl (List.mem_of_getElem? (i := 1) rfl))
  have G14 : own_Rr Z h603 ob2 "java/lang/String" [(.ref ob7), .null, .null, .null, .null, .null, .null, .null, .null, .null, .null, .null, .null, .null, .null, .null] := G14
  refine o_aloadN cx X602 d16_130 rfl rfl ?_
  refine o_getF cx X602 d16_131 (o_w hw 19 rfl) G3 fun T605 X606 => ?_
  refine o_aloadN cx X606 d16_134 rfl rfl ?_
  refine o_getF cx X606 d16_135 (o_w hw 67 rfl) G12 fun T607 X608 => ?_
  refine o_aloadN cx X608 d16_138 rfl rfl ?_
  refine o_stR cx X608 d16_139 G15 0 (by decide) rfl (Nat.le_of_ble_eq_true rfl) (G15.sto G19) ga3 fun T609 h611 X610 W612 G15 => ?_
  have G0 := G0.wr W612
  have G1 := G1.other W612 (Or.inl ne_0_3)
  have G2 := G2.other W612 (Or.inl ne_0_3)
  have G3 := G3.other W612 (Or.inl ne_0_3)
  have G4 := G4.other W612 (Or.inl ne_0_3)
  have G5 := G5.other W612 (Or.inl ne_0_3)
  have G6 := G6.other W612 (Or.inl ne_0_3)
  have G7 := G7.other W612 (Or.inl ne_0_3)
  have G8 := G8.other W612 (Or.inl ne_0_3)
  have G9 := G9.other W612 (Or.inl ne_0_3)
  have G10 := G10.other W612 (Or.inl ne_0_3)
  have G11 := G11.other W612 (Or.inl ne_0_3)
  have G12 := G12.other W612 (Or.inl ne_0_3)
  have G13 := G13.other W612 ne_1_3
  have G14 := G14.other W612 ne_2_3
  have G16 := G16.other W612 (Ne.symm ne_3_4)
  have G17 := G17.other W612 (Ne.symm ne_3_5)
  have G18 := G18.other W612 (Ne.symm ne_3_6)
  have G19 := G19.wr W612
  have KK := KK.wr W612 (Or.inl (List.mem_of_getElem? (i := 2) rfl))
  have G15 : own_Rr Z h611 ob3 "java/lang/String" [(.ref ob7), .null, .null, .null, .null, .null, .null, .null, .null, .null, .null, .null, .null, .null, .null, .null] := G15
  refine o_aloadN cx X610 d16_140 rfl rfl ?_
  refine o_getF cx X610 d16_141 (o_w hw 21 rfl) G4 fun T613 X614 => ?_
  refine o_aloadN cx X614 d16_144 rfl rfl ?_
  refine o_getF cx X614 d16_145 (o_w hw 67 rfl) G12 fun T615 X616 => ?_
  refine o_aconst_null cx X616 d16_148 ?_
  refine o_stR cx X616 d16_149 G16 0 (by decide) rfl (Nat.le_of_ble_eq_true rfl) (Or.inl rfl) ga4 fun T617 h619 X618 W620 G16 => ?_
  have G0 := G0.wr W620
  have G1 := G1.other W620 (Or.inl ne_0_4)
  have G2 := G2.other W620 (Or.inl ne_0_4)
  have G3 := G3.other W620 (Or.inl ne_0_4)
  have G4 := G4.other W620 (Or.inl ne_0_4)
  have G5 := G5.other W620 (Or.inl ne_0_4)
  have G6 := G6.other W620 (Or.inl ne_0_4)
  have G7 := G7.other W620 (Or.inl ne_0_4)
  have G8 := G8.other W620 (Or.inl ne_0_4)
  have G9 := G9.other W620 (Or.inl ne_0_4)
  have G10 := G10.other W620 (Or.inl ne_0_4)
  have G11 := G11.other W620 (Or.inl ne_0_4)
  have G12 := G12.other W620 (Or.inl ne_0_4)
  have G13 := G13.other W620 ne_1_4
  have G14 := G14.other W620 ne_2_4
  have G15 := G15.other W620 ne_3_4
  have G17 := G17.other W620 (Ne.symm ne_4_5)
  have G18 := G18.other W620 (Ne.symm ne_4_6)
  have G19 := G19.wr W620
  have KK := KK.wr W620 (Or.inl (List.mem_of_getElem? (i := 3) rfl))
  have G16 : own_Rr Z h619 ob4 "java/lang/String" [.null, .null, .null, .null, .null, .null, .null, .null, .null, .null, .null, .null, .null, .null, .null, .null] := G16
  refine o_aloadN cx X618 d16_150 rfl rfl ?_
  refine o_getF cx X618 d16_151 (o_w hw 24 rfl) G5 fun T621 X622 => ?_
  refine o_aloadN cx X622 d16_154 rfl rfl ?_
  refine o_getF cx X622 d16_155 (o_w hw 67 rfl) G12 fun T623 X624 => ?_
  refine o_iload cx X624 d16_158 rfl ?_
  refine o_stI cx X624 d16_160 G17 0 (by decide) rfl (Nat.le_of_ble_eq_true rfl) ga5 fun T625 h627 X626 W628 G17 => ?_
  have G0 := G0.wr W628
  have G1 := G1.other W628 (Or.inl ne_0_5)
  have G2 := G2.other W628 (Or.inl ne_0_5)
  have G3 := G3.other W628 (Or.inl ne_0_5)
  have G4 := G4.other W628 (Or.inl ne_0_5)
  have G5 := G5.other W628 (Or.inl ne_0_5)
  have G6 := G6.other W628 (Or.inl ne_0_5)
  have G7 := G7.other W628 (Or.inl ne_0_5)
  have G8 := G8.other W628 (Or.inl ne_0_5)
  have G9 := G9.other W628 (Or.inl ne_0_5)
  have G10 := G10.other W628 (Or.inl ne_0_5)
  have G11 := G11.other W628 (Or.inl ne_0_5)
  have G12 := G12.other W628 (Or.inl ne_0_5)
  have G13 := G13.other W628 ne_1_5
  have G14 := G14.other W628 ne_2_5
  have G15 := G15.other W628 ne_3_5
  have G16 := G16.other W628 ne_4_5
  have G18 := G18.other W628 (Ne.symm ne_5_6)
  have G19 := G19.wr W628
  have KK := KK.wr W628 (Or.inl (List.mem_of_getElem? (i := 4) rfl))
  have G17 : own_Ar Z h627 ob5 .int [(.int (0 : Int32)), (.int (0 : Int32)), (.int (0 : Int32)), (.int (0 : Int32)), (.int (0 : Int32)), (.int (0 : Int32)), (.int (0 : Int32)), (.int (0 : Int32)), (.int (0 : Int32)), (.int (0 : Int32)), (.int (0 : Int32)), (.int (0 : Int32)), (.int (0 : Int32)), (.int (0 : Int32)), (.int (0 : Int32)), (.int (0 : Int32))] := G17
  refine o_aloadN cx X626 d16_161 rfl rfl ?_
  refine o_getF cx X626 d16_162 (o_w hw 26 rfl) G6 fun T629 X630 => ?_
  refine o_aloadN cx X630 d16_165 rfl rfl ?_
  refine o_dup cx X630 d16_166 rfl ?_
  refine o_getF cx X630 d16_167 (o_w hw 67 rfl) G12 fun T631 X632 => ?_
  refine o_dup_x1 cx X632 d16_170 rfl rfl ?_
  refine o_iconst cx X632 (z := (1 : Int32)) d16_171 rfl ?_
  refine o_iadd cx X632 (z := (1 : Int32)) d16_172 rfl ?_
  refine o_putF cx X632 (v' := (.int (1 : Int32))) (ty := .int) d16_173 (o_w hw 67 rfl) G12 G0 (Or.inl (o_w hw 68 rfl)) (o_w hw 1 rfl) (by decide) rfl rfl ga0 fun T633 h635 X634 W636 => ?_
  have G0 := G0.wr W636
  have G1 := G1.other W636 (Or.inr (slot_ne (Or.inl (o_w hw 16 rfl)) (Or.inl (o_w hw 68 rfl)) (by decide) (t := (.array (.object "java/lang/String"))) (t' := .int) (by decide) (by decide)))
  have G2 := G2.other W636 (Or.inr (slot_ne (Or.inl (o_w hw 18 rfl)) (Or.inl (o_w hw 68 rfl)) (by decide) (t := (.array (.object "java/lang/String"))) (t' := .int) (by decide) (by decide)))
  have G3 := G3.other W636 (Or.inr (slot_ne (Or.inl (o_w hw 20 rfl)) (Or.inl (o_w hw 68 rfl)) (by decide) (t := (.array (.object "java/lang/String"))) (t' := .int) (by decide) (by decide)))
  have G4 := G4.other W636 (Or.inr (slot_ne (Or.inl (o_w hw 22 rfl)) (Or.inl (o_w hw 68 rfl)) (by decide) (t := (.array (.object "java/lang/String"))) (t' := .int) (by decide) (by decide)))
  have G5 := G5.other W636 (Or.inr (slot_ne (Or.inl (o_w hw 25 rfl)) (Or.inl (o_w hw 68 rfl)) (by decide) (t := (.array .int)) (t' := .int) (by decide) (by decide)))
  have G6 := G6.other W636 (Or.inr (slot_ne (Or.inl (o_w hw 27 rfl)) (Or.inl (o_w hw 68 rfl)) (by decide) (t := (.array .int)) (t' := .int) (by decide) (by decide)))
  have G7 := G7.other W636 (Or.inr (slot_ne (Or.inl (o_w hw 58 rfl)) (Or.inl (o_w hw 68 rfl)) (by decide) (t := .int) (t' := .int) (by decide) (by decide)))
  have G8 := G8.other W636 (Or.inr (slot_ne (Or.inl (o_w hw 60 rfl)) (Or.inl (o_w hw 68 rfl)) (by decide) (t := .int) (t' := .int) (by decide) (by decide)))
  have G9 := G9.other W636 (Or.inr (slot_ne (Or.inl (o_w hw 62 rfl)) (Or.inl (o_w hw 68 rfl)) (by decide) (t := (.array .byte)) (t' := .int) (by decide) (by decide)))
  have G10 := G10.other W636 (Or.inr (slot_ne (Or.inl (o_w hw 64 rfl)) (Or.inl (o_w hw 68 rfl)) (by decide) (t := (.object "java/lang/String")) (t' := .int) (by decide) (by decide)))
  have G11 := G11.other W636 (Or.inr (slot_ne (Or.inl (o_w hw 66 rfl)) (Or.inl (o_w hw 68 rfl)) (by decide) (t := .int) (t' := .int) (by decide) (by decide)))
  have G12 := G12.same W636
  have G13 := G13.other W636 (Ne.symm ne_0_1)
  have G14 := G14.other W636 (Ne.symm ne_0_2)
  have G15 := G15.other W636 (Ne.symm ne_0_3)
  have G16 := G16.other W636 (Ne.symm ne_0_4)
  have G17 := G17.other W636 (Ne.symm ne_0_5)
  have G18 := G18.other W636 (Ne.symm ne_0_6)
  have G19 := G19.wr W636
  have KK := KK.wr W636 (Or.inl (List.mem_of_getElem? (i := 5) rfl))
  refine o_iload cx X634 d16_176 rfl ?_
  refine o_stI cx X634 d16_178 G18 0 (by decide) rfl (Nat.le_of_ble_eq_true rfl) ga6 fun T637 h639 X638 W640 G18 => ?_
  have G0 := G0.wr W640
  have G1 := G1.other W640 (Or.inl ne_0_6)
  have G2 := G2.other W640 (Or.inl ne_0_6)
  have G3 := G3.other W640 (Or.inl ne_0_6)
  have G4 := G4.other W640 (Or.inl ne_0_6)
  have G5 := G5.other W640 (Or.inl ne_0_6)
  have G6 := G6.other W640 (Or.inl ne_0_6)
  have G7 := G7.other W640 (Or.inl ne_0_6)
  have G8 := G8.other W640 (Or.inl ne_0_6)
  have G9 := G9.other W640 (Or.inl ne_0_6)
  have G10 := G10.other W640 (Or.inl ne_0_6)
  have G11 := G11.other W640 (Or.inl ne_0_6)
  have G12 := G12.other W640 (Or.inl ne_0_6)
  have G13 := G13.other W640 ne_1_6
  have G14 := G14.other W640 ne_2_6
  have G15 := G15.other W640 ne_3_6
  have G16 := G16.other W640 ne_4_6
  have G17 := G17.other W640 ne_5_6
  have G19 := G19.wr W640
  have KK := KK.wr W640 (Or.inl (List.mem_of_getElem? (i := 6) rfl))
  have G18 : own_Ar Z h639 ob6 .int [(.int (1 : Int32)), (.int (0 : Int32)), (.int (0 : Int32)), (.int (0 : Int32)), (.int (0 : Int32)), (.int (0 : Int32)), (.int (0 : Int32)), (.int (0 : Int32)), (.int (0 : Int32)), (.int (0 : Int32)), (.int (0 : Int32)), (.int (0 : Int32)), (.int (0 : Int32)), (.int (0 : Int32)), (.int (0 : Int32)), (.int (0 : Int32))] := G18
  exact o_retV cx X638 d16_179 ⟨rfl, KK, G0, G1, G2, G3, G4, G5, G6, G7, G8, G9, G10, G11, G12, G13, G14, G15, G16, G17, G18⟩ (by decide) (by decide)
theorem pd_16 : parseMethodDescriptor "(Ljava/lang/String;Ljava/lang/String;Ljava/lang/String;II)V" = some ⟨[(.object "java/lang/String"), (.object "java/lang/String"), (.object "java/lang/String"), .int, .int], none⟩ := by decide +kernel
theorem d15_0 : decode prog_166_method_23_code 0 = .ok (.aload_n 0, 1) := by decide +kernel
theorem d15_1 : decode prog_166_method_23_code 1 = .ok (.getfield 57, 3) := by decide +kernel
theorem d15_4 : decode prog_166_method_23_code 4 = .ok (.aload_n 0, 1) := by decide +kernel
theorem d15_5 : decode prog_166_method_23_code 5 = .ok (.getfield 9, 3) := by decide +kernel
theorem d15_8 : decode prog_166_method_23_code 8 = .ok (.arraylength, 1) := by decide +kernel
theorem d15_9 : decode prog_166_method_23_code 9 = .ok (.if_icmp .ne 43, 3) := by decide +kernel
theorem d15_52 : decode prog_166_method_23_code 52 = .ok (.aload_n 0, 1) := by decide +kernel
theorem d15_53 : decode prog_166_method_23_code 53 = .ok (.getfield 9, 3) := by decide +kernel
theorem d15_56 : decode prog_166_method_23_code 56 = .ok (.aload_n 0, 1) := by decide +kernel
theorem d15_57 : decode prog_166_method_23_code 57 = .ok (.getfield 57, 3) := by decide +kernel
theorem d15_60 : decode prog_166_method_23_code 60 = .ok (.aload_n 1, 1) := by decide +kernel
theorem d15_61 : decode prog_166_method_23_code 61 = .ok (.aastore, 1) := by decide +kernel
theorem d15_62 : decode prog_166_method_23_code 62 = .ok (.aload_n 0, 1) := by decide +kernel
theorem d15_63 : decode prog_166_method_23_code 63 = .ok (.getfield 15, 3) := by decide +kernel
theorem d15_66 : decode prog_166_method_23_code 66 = .ok (.aload_n 0, 1) := by decide +kernel
theorem d15_67 : decode prog_166_method_23_code 67 = .ok (.dup, 1) := by decide +kernel
theorem d15_68 : decode prog_166_method_23_code 68 = .ok (.getfield 57, 3) := by decide +kernel
theorem d15_71 : decode prog_166_method_23_code 71 = .ok (.dup_x1, 1) := by decide +kernel
theorem d15_72 : decode prog_166_method_23_code 72 = .ok (.iconst 1, 1) := by decide +kernel
theorem d15_73 : decode prog_166_method_23_code 73 = .ok (.iadd, 1) := by decide +kernel
theorem d15_74 : decode prog_166_method_23_code 74 = .ok (.putfield 57, 3) := by decide +kernel
theorem d15_77 : decode prog_166_method_23_code 77 = .ok (.aload_n 2, 1) := by decide +kernel
theorem d15_78 : decode prog_166_method_23_code 78 = .ok (.aastore, 1) := by decide +kernel
theorem d15_79 : decode prog_166_method_23_code 79 = .ok (.return_, 1) := by decide +kernel
theorem ef_ra15_19 (m : MethodId) (ob0 : Addr) (ob9 : Addr) : entryFrame m #[(.ref ob0), (.ref ob9), (.ref ob9)] 3 = mkF m 0 #[.val (.ref ob0), .val (.ref ob9), .val (.ref ob9)] [] := by first | (simp [entryFrame, mkF, argsToLocals, Value.category]; done) | rfl
set_option maxRecDepth 65536 in
set_option maxHeartbeats 40000000 in
theorem ra15_19 (l : Launch) (Z : State) (a0 : Array Value) (hw : ∀ d ∈ tables_1, d.before a0 Z = true) (ob0 : Addr) (ob1 : Addr) (ob2 : Addr) (ob3 : Addr) (ob4 : Addr) (ob5 : Addr) (ob6 : Addr) (ob7 : Addr) (ob8 : Addr) (ob9 : Addr) (q0 : Value) (q1 : Value) (q2 : Value) (q3 : Value) (h0 : Heap) (n0 : Nat) (Z0 : n0 ≤ h0.size) (ga0 : n0 ≤ ob0) (ga1 : n0 ≤ ob1) (ga2 : n0 ≤ ob2) (ga3 : n0 ≤ ob3) (ga4 : n0 ≤ ob4) (ga5 : n0 ≤ ob5) (ga6 : n0 ≤ ob6) (ga7 : n0 ≤ ob7) (ga8 : n0 ≤ ob8) (ga9 : n0 ≤ ob9) (ne_0_1 : ob0 ≠ ob1) (ne_0_2 : ob0 ≠ ob2) (ne_0_3 : ob0 ≠ ob3) (ne_0_4 : ob0 ≠ ob4) (ne_0_5 : ob0 ≠ ob5) (ne_0_6 : ob0 ≠ ob6) (ne_0_7 : ob0 ≠ ob7) (ne_0_8 : ob0 ≠ ob8) (ne_0_9 : ob0 ≠ ob9) (ne_1_2 : ob1 ≠ ob2) (ne_1_3 : ob1 ≠ ob3) (ne_1_4 : ob1 ≠ ob4) (ne_1_5 : ob1 ≠ ob5) (ne_1_6 : ob1 ≠ ob6) (ne_1_7 : ob1 ≠ ob7) (ne_1_8 : ob1 ≠ ob8) (ne_1_9 : ob1 ≠ ob9) (ne_2_3 : ob2 ≠ ob3) (ne_2_4 : ob2 ≠ ob4) (ne_2_5 : ob2 ≠ ob5) (ne_2_6 : ob2 ≠ ob6) (ne_2_7 : ob2 ≠ ob7) (ne_2_8 : ob2 ≠ ob8) (ne_2_9 : ob2 ≠ ob9) (ne_3_4 : ob3 ≠ ob4) (ne_3_5 : ob3 ≠ ob5) (ne_3_6 : ob3 ≠ ob6) (ne_3_7 : ob3 ≠ ob7) (ne_3_8 : ob3 ≠ ob8) (ne_3_9 : ob3 ≠ ob9) (ne_4_5 : ob4 ≠ ob5) (ne_4_6 : ob4 ≠ ob6) (ne_4_7 : ob4 ≠ ob7) (ne_4_8 : ob4 ≠ ob8) (ne_4_9 : ob4 ≠ ob9) (ne_5_6 : ob5 ≠ ob6) (ne_5_7 : ob5 ≠ ob7) (ne_5_8 : ob5 ≠ ob8) (ne_5_9 : ob5 ≠ ob9) (ne_6_7 : ob6 ≠ ob7) (ne_6_8 : ob6 ≠ ob8) (ne_6_9 : ob6 ≠ ob9) (ne_7_8 : ob7 ≠ ob8) (ne_7_9 : ob7 ≠ ob9) (ne_8_9 : ob8 ≠ ob9) (G0 : Exa Z h0 ob0 "com/example/bulla/bulla/xml/StreamedElement") (G1 : Fld Z h0 ob0 "com/example/bulla/bulla/xml/StreamedElement" "declaredPrefixes" "[Ljava/lang/String;" (.ref ob1)) (G2 : Fld Z h0 ob0 "com/example/bulla/bulla/xml/StreamedElement" "declaredNamespaces" "[Ljava/lang/String;" (.ref ob2)) (G3 : Fld Z h0 ob0 "com/example/bulla/bulla/xml/StreamedElement" "attributeNames" "[Ljava/lang/String;" (.ref ob3)) (G4 : Fld Z h0 ob0 "com/example/bulla/bulla/xml/StreamedElement" "attributePrefixes" "[Ljava/lang/String;" (.ref ob4)) (G5 : Fld Z h0 ob0 "com/example/bulla/bulla/xml/StreamedElement" "attributeLocalNames" "[Ljava/lang/String;" (.ref ob5)) (G6 : Fld Z h0 ob0 "com/example/bulla/bulla/xml/StreamedElement" "attributeNamespaces" "[Ljava/lang/String;" (.ref ob6)) (G7 : Fld Z h0 ob0 "com/example/bulla/bulla/xml/StreamedElement" "valueStarts" "[I" (.ref ob7)) (G8 : Fld Z h0 ob0 "com/example/bulla/bulla/xml/StreamedElement" "valueEnds" "[I" (.ref ob8)) (G9 : Fld Z h0 ob0 "com/example/bulla/bulla/xml/StreamedElement" "depth" "I" q0) (G10 : Fld Z h0 ob0 "com/example/bulla/bulla/xml/StreamedElement" "ordinal" "I" q1) (G11 : Fld Z h0 ob0 "com/example/bulla/bulla/xml/StreamedElement" "values" "[B" q2) (G12 : Fld Z h0 ob0 "com/example/bulla/bulla/xml/StreamedElement" "namespace" "Ljava/lang/String;" q3) (G13 : Fld Z h0 ob0 "com/example/bulla/bulla/xml/StreamedElement" "declarationCount" "I" (.int (0 : Int32))) (G14 : Fld Z h0 ob0 "com/example/bulla/bulla/xml/StreamedElement" "attributeCount" "I" (.int (0 : Int32))) (G15 : own_Rr Z h0 ob1 "java/lang/String" [.null, .null, .null, .null]) (G16 : own_Rr Z h0 ob2 "java/lang/String" [.null, .null, .null, .null]) (G17 : own_Rr Z h0 ob3 "java/lang/String" [.null, .null, .null, .null, .null, .null, .null, .null, .null, .null, .null, .null, .null, .null, .null, .null]) (G18 : own_Rr Z h0 ob4 "java/lang/String" [.null, .null, .null, .null, .null, .null, .null, .null, .null, .null, .null, .null, .null, .null, .null, .null]) (G19 : own_Rr Z h0 ob5 "java/lang/String" [.null, .null, .null, .null, .null, .null, .null, .null, .null, .null, .null, .null, .null, .null, .null, .null]) (G20 : own_Rr Z h0 ob6 "java/lang/String" [.null, .null, .null, .null, .null, .null, .null, .null, .null, .null, .null, .null, .null, .null, .null, .null]) (G21 : own_Ar Z h0 ob7 .int [(.int (0 : Int32)), (.int (0 : Int32)), (.int (0 : Int32)), (.int (0 : Int32)), (.int (0 : Int32)), (.int (0 : Int32)), (.int (0 : Int32)), (.int (0 : Int32)), (.int (0 : Int32)), (.int (0 : Int32)), (.int (0 : Int32)), (.int (0 : Int32)), (.int (0 : Int32)), (.int (0 : Int32)), (.int (0 : Int32)), (.int (0 : Int32))]) (G22 : own_Ar Z h0 ob8 .int [(.int (0 : Int32)), (.int (0 : Int32)), (.int (0 : Int32)), (.int (0 : Int32)), (.int (0 : Int32)), (.int (0 : Int32)), (.int (0 : Int32)), (.int (0 : Int32)), (.int (0 : Int32)), (.int (0 : Int32)), (.int (0 : Int32)), (.int (0 : Int32)), (.int (0 : Int32)), (.int (0 : Int32)), (.int (0 : Int32)), (.int (0 : Int32))]) (G23 : Exa Z h0 ob9 "java/lang/String") :
    own_Met l Z (⟨"com/example/bulla/bulla/xml/StreamedElement", "addDeclaration", "(Ljava/lang/String;Ljava/lang/String;)V"⟩ : MethodName) prog_166_method_23_code 3 none ({ frames := 0, cells := 0, slots := 0, locals := 0 } : Room) #[(.ref ob0), (.ref ob9), (.ref ob9)] h0 n0 (fun v' h' => v' = none ∧ Keep h0 h' [ob1, ob0, ob2] ∧ Exa Z h' ob0 "com/example/bulla/bulla/xml/StreamedElement" ∧ Fld Z h' ob0 "com/example/bulla/bulla/xml/StreamedElement" "declaredPrefixes" "[Ljava/lang/String;" (.ref ob1) ∧ Fld Z h' ob0 "com/example/bulla/bulla/xml/StreamedElement" "declaredNamespaces" "[Ljava/lang/String;" (.ref ob2) ∧ Fld Z h' ob0 "com/example/bulla/bulla/xml/StreamedElement" "attributeNames" "[Ljava/lang/String;" (.ref ob3) ∧ Fld Z h' ob0 "com/example/bulla/bulla/xml/StreamedElement" "attributePrefixes" "[Ljava/lang/String;" (.ref ob4) ∧ Fld Z h' ob0 "com/example/bulla/bulla/xml/StreamedElement" "attributeLocalNames" "[Ljava/lang/String;" (.ref ob5) ∧ Fld Z h' ob0 "com/example/bulla/bulla/xml/StreamedElement" "attributeNamespaces" "[Ljava/lang/String;" (.ref ob6) ∧ Fld Z h' ob0 "com/example/bulla/bulla/xml/StreamedElement" "valueStarts" "[I" (.ref ob7) ∧ Fld Z h' ob0 "com/example/bulla/bulla/xml/StreamedElement" "valueEnds" "[I" (.ref ob8) ∧ Fld Z h' ob0 "com/example/bulla/bulla/xml/StreamedElement" "depth" "I" q0 ∧ Fld Z h' ob0 "com/example/bulla/bulla/xml/StreamedElement" "ordinal" "I" q1 ∧ Fld Z h' ob0 "com/example/bulla/bulla/xml/StreamedElement" "values" "[B" q2 ∧ Fld Z h' ob0 "com/example/bulla/bulla/xml/StreamedElement" "namespace" "Ljava/lang/String;" q3 ∧ Fld Z h' ob0 "com/example/bulla/bulla/xml/StreamedElement" "declarationCount" "I" (.int (1 : Int32)) ∧ Fld Z h' ob0 "com/example/bulla/bulla/xml/StreamedElement" "attributeCount" "I" (.int (0 : Int32)) ∧ own_Rr Z h' ob1 "java/lang/String" [(.ref ob9), .null, .null, .null] ∧ own_Rr Z h' ob2 "java/lang/String" [(.ref ob9), .null, .null, .null]) := by
  refine own_body (plainFor_of_name pn_1) (fun m => ef_ra15_19 m ob0 ob9) Z0 ?_
  intro p e s m below meth c T0 cx X0
  have KK := Keep.refl h0 [ob1, ob0, ob2]
  show own_Go p e below _ (T0.setTop (mkF m 0 #[.val (.ref ob0), .val (.ref ob9), .val (.ref ob9)] []))
  refine o_aloadN cx X0 d15_0 rfl rfl ?_
  refine o_getF cx X0 d15_1 (o_w hw 65 rfl) G13 fun T691 X692 => ?_
  refine o_aloadN cx X692 d15_4 rfl rfl ?_
  refine o_getF cx X692 d15_5 (o_w hw 11 rfl) G1 fun T693 X694 => ?_
  refine o_lenR cx X694 (z := (4 : Int32)) d15_8 G15 rfl ?_
  refine o_icmpYes cx X694 52 d15_9 (by decide) (by decide) (by decide) ?_
  refine o_aloadN cx X694 d15_52 rfl rfl ?_
  refine o_getF cx X694 d15_53 (o_w hw 11 rfl) G1 fun T695 X696 => ?_
  refine o_aloadN cx X696 d15_56 rfl rfl ?_
  refine o_getF cx X696 d15_57 (o_w hw 65 rfl) G13 fun T697 X698 => ?_
  refine o_aloadN cx X698 d15_60 rfl rfl ?_
  refine o_stR cx X698 d15_61 G15 0 (by decide) rfl (Nat.le_of_ble_eq_true rfl) (G15.sto G23) ga1 fun T699 h701 X700 W702 G15 => ?_
  have G0 := G0.wr W702
  have G1 := G1.other W702 (Or.inl ne_0_1)
  have G2 := G2.other W702 (Or.inl ne_0_1)
  have G3 := G3.other W702 (Or.inl ne_0_1)
  have G4 := G4.other W702 (Or.inl ne_0_1)
  have G5 := G5.other W702 (Or.inl ne_0_1)
  have G6 := G6.other W702 (Or.inl ne_0_1)
  have G7 := G7.other W702 (Or.inl ne_0_1)
  have G8 := G8.other W702 (Or.inl ne_0_1)
  have G9 := G9.other W702 (Or.inl ne_0_1)
  have G10 := G10.other W702 (Or.inl ne_0_1)
  have G11 := G11.other W702 (Or.inl ne_0_1)
  have G12 := G12.other W702 (Or.inl ne_0_1)
  have G13 := G13.other W702 (Or.inl ne_0_1)
  have G14 := G14.other W702 (Or.inl ne_0_1)
  have G16 := G16.other W702 (Ne.symm ne_1_2)
  have G17 := G17.other W702 (Ne.symm ne_1_3)
  have G18 := G18.other W702 (Ne.symm ne_1_4)
  have G19 := G19.other W702 (Ne.symm ne_1_5)
  have G20 := G20.other W702 (Ne.symm ne_1_6)
  have G21 := G21.other W702 (Ne.symm ne_1_7)
  have G22 := G22.other W702 (Ne.symm ne_1_8)
  have G23 := G23.wr W702
  have KK := KK.wr W702 (Or.inl (List.mem_of_getElem? (i := 0) rfl))
  have G15 : own_Rr Z h701 ob1 "java/lang/String" [(.ref ob9), .null, .null, .null] := G15
  refine o_aloadN cx X700 d15_62 rfl rfl ?_
  refine o_getF cx X700 d15_63 (o_w hw 13 rfl) G2 fun T703 X704 => ?_
  refine o_aloadN cx X704 d15_66 rfl rfl ?_
  refine o_dup cx X704 d15_67 rfl ?_
  refine o_getF cx X704 d15_68 (o_w hw 65 rfl) G13 fun T705 X706 => ?_
  refine o_dup_x1 cx X706 d15_71 rfl rfl ?_
  refine o_iconst cx X706 (z := (1 : Int32)) d15_72 rfl ?_
  refine o_iadd cx X706 (z := (1 : Int32)) d15_73 rfl ?_
  refine o_putF cx X706 (v' := (.int (1 : Int32))) (ty := .int) d15_74 (o_w hw 65 rfl) G13 G0 (Or.inl (o_w hw 66 rfl)) (o_w hw 1 rfl) (by decide) rfl rfl ga0 fun T707 h709 X708 W710 => ?_
  have G0 := G0.wr W710
  have G1 := G1.other W710 (Or.inr (slot_ne (Or.inl (o_w hw 12 rfl)) (Or.inl (o_w hw 66 rfl)) (by decide) (t := (.array (.object "java/lang/String"))) (t' := .int) (by decide) (by decide)))
  have G2 := G2.other W710 (Or.inr (slot_ne (Or.inl (o_w hw 14 rfl)) (Or.inl (o_w hw 66 rfl)) (by decide) (t := (.array (.object "java/lang/String"))) (t' := .int) (by decide) (by decide)))
  have G3 := G3.other W710 (Or.inr (slot_ne (Or.inl (o_w hw 16 rfl)) (Or.inl (o_w hw 66 rfl)) (by decide) (t := (.array (.object "java/lang/String"))) (t' := .int) (by decide) (by decide)))
  have G4 := G4.other W710 (Or.inr (slot_ne (Or.inl (o_w hw 18 rfl)) (Or.inl (o_w hw 66 rfl)) (by decide) (t := (.array (.object "java/lang/String"))) (t' := .int) (by decide) (by decide)))
  have G5 := G5.other W710 (Or.inr (slot_ne (Or.inl (o_w hw 20 rfl)) (Or.inl (o_w hw 66 rfl)) (by decide) (t := (.array (.object "java/lang/String"))) (t' := .int) (by decide) (by decide)))
  have G6 := G6.other W710 (Or.inr (slot_ne (Or.inl (o_w hw 22 rfl)) (Or.inl (o_w hw 66 rfl)) (by decide) (t := (.array (.object "java/lang/String"))) (t' := .int) (by decide) (by decide)))
  have G7 := G7.other W710 (Or.inr (slot_ne (Or.inl (o_w hw 25 rfl)) (Or.inl (o_w hw 66 rfl)) (by decide) (t := (.array .int)) (t' := .int) (by decide) (by decide)))
  have G8 := G8.other W710 (Or.inr (slot_ne (Or.inl (o_w hw 27 rfl)) (Or.inl (o_w hw 66 rfl)) (by decide) (t := (.array .int)) (t' := .int) (by decide) (by decide)))
  have G9 := G9.other W710 (Or.inr (slot_ne (Or.inl (o_w hw 58 rfl)) (Or.inl (o_w hw 66 rfl)) (by decide) (t := .int) (t' := .int) (by decide) (by decide)))
  have G10 := G10.other W710 (Or.inr (slot_ne (Or.inl (o_w hw 60 rfl)) (Or.inl (o_w hw 66 rfl)) (by decide) (t := .int) (t' := .int) (by decide) (by decide)))
  have G11 := G11.other W710 (Or.inr (slot_ne (Or.inl (o_w hw 62 rfl)) (Or.inl (o_w hw 66 rfl)) (by decide) (t := (.array .byte)) (t' := .int) (by decide) (by decide)))
  have G12 := G12.other W710 (Or.inr (slot_ne (Or.inl (o_w hw 64 rfl)) (Or.inl (o_w hw 66 rfl)) (by decide) (t := (.object "java/lang/String")) (t' := .int) (by decide) (by decide)))
  have G13 := G13.same W710
  have G14 := G14.other W710 (Or.inr (slot_ne (Or.inl (o_w hw 68 rfl)) (Or.inl (o_w hw 66 rfl)) (by decide) (t := .int) (t' := .int) (by decide) (by decide)))
  have G15 := G15.other W710 (Ne.symm ne_0_1)
  have G16 := G16.other W710 (Ne.symm ne_0_2)
  have G17 := G17.other W710 (Ne.symm ne_0_3)
  have G18 := G18.other W710 (Ne.symm ne_0_4)
  have G19 := G19.other W710 (Ne.symm ne_0_5)
  have G20 := G20.other W710 (Ne.symm ne_0_6)
  have G21 := G21.other W710 (Ne.symm ne_0_7)
  have G22 := G22.other W710 (Ne.symm ne_0_8)
  have G23 := G23.wr W710
  have KK := KK.wr W710 (Or.inl (List.mem_of_getElem? (i := 1) rfl))
  refine o_aloadN cx X708 d15_77 rfl rfl ?_
  refine o_stR cx X708 d15_78 G16 0 (by decide) rfl (Nat.le_of_ble_eq_true rfl) (G16.sto G23) ga2 fun T711 h713 X712 W714 G16 => ?_
  have G0 := G0.wr W714
  have G1 := G1.other W714 (Or.inl ne_0_2)
  have G2 := G2.other W714 (Or.inl ne_0_2)
  have G3 := G3.other W714 (Or.inl ne_0_2)
  have G4 := G4.other W714 (Or.inl ne_0_2)
  have G5 := G5.other W714 (Or.inl ne_0_2)
  have G6 := G6.other W714 (Or.inl ne_0_2)
  have G7 := G7.other W714 (Or.inl ne_0_2)
  have G8 := G8.other W714 (Or.inl ne_0_2)
  have G9 := G9.other W714 (Or.inl ne_0_2)
  have G10 := G10.other W714 (Or.inl ne_0_2)
  have G11 := G11.other W714 (Or.inl ne_0_2)
  have G12 := G12.other W714 (Or.inl ne_0_2)
  have G13 := G13.other W714 (Or.inl ne_0_2)
  have G14 := G14.other W714 (Or.inl ne_0_2)
  have G15 := G15.other W714 ne_1_2
  have G17 := G17.other W714 (Ne.symm ne_2_3)
  have G18 := G18.other W714 (Ne.symm ne_2_4)
  have G19 := G19.other W714 (Ne.symm ne_2_5)
  have G20 := G20.other W714 (Ne.symm ne_2_6)
  have G21 := G21.other W714 (Ne.symm ne_2_7)
  have G22 := G22.other W714 (Ne.symm ne_2_8)
  have G23 := G23.wr W714
  have KK := KK.wr W714 (Or.inl (List.mem_of_getElem? (i := 2) rfl))
  have G16 : own_Rr Z h713 ob2 "java/lang/String" [(.ref ob9), .null, .null, .null] := G16
  exact o_retV cx X712 d15_79 ⟨rfl, KK, G0, G1, G2, G3, G4, G5, G6, G7, G8, G9, G10, G11, G12, G13, G14, G15, G16⟩ (by decide) (by decide)
theorem pd_15 : parseMethodDescriptor "(Ljava/lang/String;Ljava/lang/String;)V" = some ⟨[(.object "java/lang/String"), (.object "java/lang/String")], none⟩ := by decide +kernel
theorem d14_0 : decode prog_166_method_22_code 0 = .ok (.aload_n 0, 1) := by decide +kernel
theorem d14_1 : decode prog_166_method_22_code 1 = .ok (.aload_n 1, 1) := by decide +kernel
theorem d14_2 : decode prog_166_method_22_code 2 = .ok (.putfield 47, 3) := by decide +kernel
theorem d14_5 : decode prog_166_method_22_code 5 = .ok (.return_, 1) := by decide +kernel
theorem ef_ra14_20 (m : MethodId) (ob0 : Addr) (ob9 : Addr) : entryFrame m #[(.ref ob0), (.ref ob9)] 2 = mkF m 0 #[.val (.ref ob0), .val (.ref ob9)] [] := by first | (simp [entryFrame, mkF, argsToLocals, Value.category]; done) | rfl
set_option maxRecDepth 65536 in
set_option maxHeartbeats 40000000 in
theorem ra14_20 (l : Launch) (Z : State) (a0 : Array Value) (hw : ∀ d ∈ tables_1, d.before a0 Z = true) (ob0 : Addr) (ob1 : Addr) (ob2 : Addr) (ob3 : Addr) (ob4 : Addr) (ob5 : Addr) (ob6 : Addr) (ob7 : Addr) (ob8 : Addr) (ob9 : Addr) (q0 : Value) (q1 : Value) (q2 : Value) (q3 : Value) (h0 : Heap) (n0 : Nat) (Z0 : n0 ≤ h0.size) (ga0 : n0 ≤ ob0) (ga1 : n0 ≤ ob1) (ga2 : n0 ≤ ob2) (ga3 : n0 ≤ ob3) (ga4 : n0 ≤ ob4) (ga5 : n0 ≤ ob5) (ga6 : n0 ≤ ob6) (ga7 : n0 ≤ ob7) (ga8 : n0 ≤ ob8) (ga9 : n0 ≤ ob9) (ne_0_1 : ob0 ≠ ob1) (ne_0_2 : ob0 ≠ ob2) (ne_0_3 : ob0 ≠ ob3) (ne_0_4 : ob0 ≠ ob4) (ne_0_5 : ob0 ≠ ob5) (ne_0_6 : ob0 ≠ ob6) (ne_0_7 : ob0 ≠ ob7) (ne_0_8 : ob0 ≠ ob8) (ne_0_9 : ob0 ≠ ob9) (ne_1_2 : ob1 ≠ ob2) (ne_1_3 : ob1 ≠ ob3) (ne_1_4 : ob1 ≠ ob4) (ne_1_5 : ob1 ≠ ob5) (ne_1_6 : ob1 ≠ ob6) (ne_1_7 : ob1 ≠ ob7) (ne_1_8 : ob1 ≠ ob8) (ne_1_9 : ob1 ≠ ob9) (ne_2_3 : ob2 ≠ ob3) (ne_2_4 : ob2 ≠ ob4) (ne_2_5 : ob2 ≠ ob5) (ne_2_6 : ob2 ≠ ob6) (ne_2_7 : ob2 ≠ ob7) (ne_2_8 : ob2 ≠ ob8) (ne_2_9 : ob2 ≠ ob9) (ne_3_4 : ob3 ≠ ob4) (ne_3_5 : ob3 ≠ ob5) (ne_3_6 : ob3 ≠ ob6) (ne_3_7 : ob3 ≠ ob7) (ne_3_8 : ob3 ≠ ob8) (ne_3_9 : ob3 ≠ ob9) (ne_4_5 : ob4 ≠ ob5) (ne_4_6 : ob4 ≠ ob6) (ne_4_7 : ob4 ≠ ob7) (ne_4_8 : ob4 ≠ ob8) (ne_4_9 : ob4 ≠ ob9) (ne_5_6 : ob5 ≠ ob6) (ne_5_7 : ob5 ≠ ob7) (ne_5_8 : ob5 ≠ ob8) (ne_5_9 : ob5 ≠ ob9) (ne_6_7 : ob6 ≠ ob7) (ne_6_8 : ob6 ≠ ob8) (ne_6_9 : ob6 ≠ ob9) (ne_7_8 : ob7 ≠ ob8) (ne_7_9 : ob7 ≠ ob9) (ne_8_9 : ob8 ≠ ob9) (G0 : Exa Z h0 ob0 "com/example/bulla/bulla/xml/StreamedElement") (G1 : Fld Z h0 ob0 "com/example/bulla/bulla/xml/StreamedElement" "declaredPrefixes" "[Ljava/lang/String;" (.ref ob1)) (G2 : Fld Z h0 ob0 "com/example/bulla/bulla/xml/StreamedElement" "declaredNamespaces" "[Ljava/lang/String;" (.ref ob2)) (G3 : Fld Z h0 ob0 "com/example/bulla/bulla/xml/StreamedElement" "attributeNames" "[Ljava/lang/String;" (.ref ob3)) (G4 : Fld Z h0 ob0 "com/example/bulla/bulla/xml/StreamedElement" "attributePrefixes" "[Ljava/lang/String;" (.ref ob4)) (G5 : Fld Z h0 ob0 "com/example/bulla/bulla/xml/StreamedElement" "attributeLocalNames" "[Ljava/lang/String;" (.ref ob5)) (G6 : Fld Z h0 ob0 "com/example/bulla/bulla/xml/StreamedElement" "attributeNamespaces" "[Ljava/lang/String;" (.ref ob6)) (G7 : Fld Z h0 ob0 "com/example/bulla/bulla/xml/StreamedElement" "valueStarts" "[I" (.ref ob7)) (G8 : Fld Z h0 ob0 "com/example/bulla/bulla/xml/StreamedElement" "valueEnds" "[I" (.ref ob8)) (G9 : Fld Z h0 ob0 "com/example/bulla/bulla/xml/StreamedElement" "depth" "I" q0) (G10 : Fld Z h0 ob0 "com/example/bulla/bulla/xml/StreamedElement" "ordinal" "I" q1) (G11 : Fld Z h0 ob0 "com/example/bulla/bulla/xml/StreamedElement" "values" "[B" q2) (G12 : Fld Z h0 ob0 "com/example/bulla/bulla/xml/StreamedElement" "namespace" "Ljava/lang/String;" q3) (G13 : Fld Z h0 ob0 "com/example/bulla/bulla/xml/StreamedElement" "declarationCount" "I" (.int (0 : Int32))) (G14 : Fld Z h0 ob0 "com/example/bulla/bulla/xml/StreamedElement" "attributeCount" "I" (.int (0 : Int32))) (G15 : own_Rr Z h0 ob1 "java/lang/String" [.null, .null, .null, .null]) (G16 : own_Rr Z h0 ob2 "java/lang/String" [.null, .null, .null, .null]) (G17 : own_Rr Z h0 ob3 "java/lang/String" [.null, .null, .null, .null, .null, .null, .null, .null, .null, .null, .null, .null, .null, .null, .null, .null]) (G18 : own_Rr Z h0 ob4 "java/lang/String" [.null, .null, .null, .null, .null, .null, .null, .null, .null, .null, .null, .null, .null, .null, .null, .null]) (G19 : own_Rr Z h0 ob5 "java/lang/String" [.null, .null, .null, .null, .null, .null, .null, .null, .null, .null, .null, .null, .null, .null, .null, .null]) (G20 : own_Rr Z h0 ob6 "java/lang/String" [.null, .null, .null, .null, .null, .null, .null, .null, .null, .null, .null, .null, .null, .null, .null, .null]) (G21 : own_Ar Z h0 ob7 .int [(.int (0 : Int32)), (.int (0 : Int32)), (.int (0 : Int32)), (.int (0 : Int32)), (.int (0 : Int32)), (.int (0 : Int32)), (.int (0 : Int32)), (.int (0 : Int32)), (.int (0 : Int32)), (.int (0 : Int32)), (.int (0 : Int32)), (.int (0 : Int32)), (.int (0 : Int32)), (.int (0 : Int32)), (.int (0 : Int32)), (.int (0 : Int32))]) (G22 : own_Ar Z h0 ob8 .int [(.int (0 : Int32)), (.int (0 : Int32)), (.int (0 : Int32)), (.int (0 : Int32)), (.int (0 : Int32)), (.int (0 : Int32)), (.int (0 : Int32)), (.int (0 : Int32)), (.int (0 : Int32)), (.int (0 : Int32)), (.int (0 : Int32)), (.int (0 : Int32)), (.int (0 : Int32)), (.int (0 : Int32)), (.int (0 : Int32)), (.int (0 : Int32))]) (G23 : Exa Z h0 ob9 "java/lang/String") :
    own_Met l Z (⟨"com/example/bulla/bulla/xml/StreamedElement", "setNamespace", "(Ljava/lang/String;)V"⟩ : MethodName) prog_166_method_22_code 2 none ({ frames := 0, cells := 0, slots := 0, locals := 0 } : Room) #[(.ref ob0), (.ref ob9)] h0 n0 (fun v' h' => v' = none ∧ Keep h0 h' [ob0] ∧ Exa Z h' ob0 "com/example/bulla/bulla/xml/StreamedElement" ∧ Fld Z h' ob0 "com/example/bulla/bulla/xml/StreamedElement" "declaredPrefixes" "[Ljava/lang/String;" (.ref ob1) ∧ Fld Z h' ob0 "com/example/bulla/bulla/xml/StreamedElement" "declaredNamespaces" "[Ljava/lang/String;" (.ref ob2) ∧ Fld Z h' ob0 "com/example/bulla/bulla/xml/StreamedElement" "attributeNames" "[Ljava/lang/String;" (.ref ob3) ∧ Fld Z h' ob0 "com/example/bulla/bulla/xml/StreamedElement" "attributePrefixes" "[Ljava/lang/String;" (.ref ob4) ∧ Fld Z h' ob0 "com/example/bulla/bulla/xml/StreamedElement" "attributeLocalNames" "[Ljava/lang/String;" (.ref ob5) ∧ Fld Z h' ob0 "com/example/bulla/bulla/xml/StreamedElement" "attributeNamespaces" "[Ljava/lang/String;" (.ref ob6) ∧ Fld Z h' ob0 "com/example/bulla/bulla/xml/StreamedElement" "valueStarts" "[I" (.ref ob7) ∧ Fld Z h' ob0 "com/example/bulla/bulla/xml/StreamedElement" "valueEnds" "[I" (.ref ob8) ∧ Fld Z h' ob0 "com/example/bulla/bulla/xml/StreamedElement" "depth" "I" q0 ∧ Fld Z h' ob0 "com/example/bulla/bulla/xml/StreamedElement" "ordinal" "I" q1 ∧ Fld Z h' ob0 "com/example/bulla/bulla/xml/StreamedElement" "values" "[B" q2 ∧ Fld Z h' ob0 "com/example/bulla/bulla/xml/StreamedElement" "namespace" "Ljava/lang/String;" (.ref ob9) ∧ Fld Z h' ob0 "com/example/bulla/bulla/xml/StreamedElement" "declarationCount" "I" (.int (0 : Int32)) ∧ Fld Z h' ob0 "com/example/bulla/bulla/xml/StreamedElement" "attributeCount" "I" (.int (0 : Int32))) := by
  refine own_body (plainFor_of_name pn_1) (fun m => ef_ra14_20 m ob0 ob9) Z0 ?_
  intro p e s m below meth c T0 cx X0
  have KK := Keep.refl h0 [ob0]
  show own_Go p e below _ (T0.setTop (mkF m 0 #[.val (.ref ob0), .val (.ref ob9)] []))
  refine o_aloadN cx X0 d14_0 rfl rfl ?_
  refine o_aloadN cx X0 d14_1 rfl rfl ?_
  refine o_putF cx X0 (v' := (.ref ob9)) (ty := (.object "java/lang/String")) d14_2 (o_w hw 63 rfl) G12 G0 (Or.inl (o_w hw 64 rfl)) (o_w hw 1 rfl) (by decide) rfl rfl ga0 fun T743 h745 X744 W746 => ?_
  have G0 := G0.wr W746
  have G1 := G1.other W746 (Or.inr (slot_ne (Or.inl (o_w hw 12 rfl)) (Or.inl (o_w hw 64 rfl)) (by decide) (t := (.array (.object "java/lang/String"))) (t' := (.object "java/lang/String")) (by decide) (by decide)))
  have G2 := G2.other W746 (Or.inr (slot_ne (Or.inl (o_w hw 14 rfl)) (Or.inl (o_w hw 64 rfl)) (by decide) (t := (.array (.object "java/lang/String"))) (t' := (.object "java/lang/String")) (by decide) (by decide)))
  have G3 := G3.other W746 (Or.inr (slot_ne (Or.inl (o_w hw 16 rfl)) (Or.inl (o_w hw 64 rfl)) (by decide) (t := (.array (.object "java/lang/String"))) (t' := (.object "java/lang/String")) (by decide) (by decide)))
  have G4 := G4.other W746 (Or.inr (slot_ne (Or.inl (o_w hw 18 rfl)) (Or.inl (o_w hw 64 rfl)) (by decide) (t := (.array (.object "java/lang/String"))) (t' := (.object "java/lang/String")) (by decide) (by decide)))
  have G5 := G5.other W746 (Or.inr (slot_ne (Or.inl (o_w hw 20 rfl)) (Or.inl (o_w hw 64 rfl)) (by decide) (t := (.array (.object "java/lang/String"))) (t' := (.object "java/lang/String")) (by decide) (by decide)))
  have G6 := G6.other W746 (Or.inr (slot_ne (Or.inl (o_w hw 22 rfl)) (Or.inl (o_w hw 64 rfl)) (by decide) (t := (.array (.object "java/lang/String"))) (t' := (.object "java/lang/String")) (by decide) (by decide)))
  have G7 := G7.other W746 (Or.inr (slot_ne (Or.inl (o_w hw 25 rfl)) (Or.inl (o_w hw 64 rfl)) (by decide) (t := (.array .int)) (t' := (.object "java/lang/String")) (by decide) (by decide)))
  have G8 := G8.other W746 (Or.inr (slot_ne (Or.inl (o_w hw 27 rfl)) (Or.inl (o_w hw 64 rfl)) (by decide) (t := (.array .int)) (t' := (.object "java/lang/String")) (by decide) (by decide)))
  have G9 := G9.other W746 (Or.inr (slot_ne (Or.inl (o_w hw 58 rfl)) (Or.inl (o_w hw 64 rfl)) (by decide) (t := .int) (t' := (.object "java/lang/String")) (by decide) (by decide)))
  have G10 := G10.other W746 (Or.inr (slot_ne (Or.inl (o_w hw 60 rfl)) (Or.inl (o_w hw 64 rfl)) (by decide) (t := .int) (t' := (.object "java/lang/String")) (by decide) (by decide)))
  have G11 := G11.other W746 (Or.inr (slot_ne (Or.inl (o_w hw 62 rfl)) (Or.inl (o_w hw 64 rfl)) (by decide) (t := (.array .byte)) (t' := (.object "java/lang/String")) (by decide) (by decide)))
  have G12 := G12.same W746
  have G13 := G13.other W746 (Or.inr (slot_ne (Or.inl (o_w hw 66 rfl)) (Or.inl (o_w hw 64 rfl)) (by decide) (t := .int) (t' := (.object "java/lang/String")) (by decide) (by decide)))
  have G14 := G14.other W746 (Or.inr (slot_ne (Or.inl (o_w hw 68 rfl)) (Or.inl (o_w hw 64 rfl)) (by decide) (t := .int) (t' := (.object "java/lang/String")) (by decide) (by decide)))
  have G15 := G15.other W746 (Ne.symm ne_0_1)
  have G16 := G16.other W746 (Ne.symm ne_0_2)
  have G17 := G17.other W746 (Ne.symm ne_0_3)
  have G18 := G18.other W746 (Ne.symm ne_0_4)
  have G19 := G19.other W746 (Ne.symm ne_0_5)
  have G20 := G20.other W746 (Ne.symm ne_0_6)
  have G21 := G21.other W746 (Ne.symm ne_0_7)
  have G22 := G22.other W746 (Ne.symm ne_0_8)
  have G23 := G23.wr W746
  have KK := KK.wr W746 (Or.inl (List.mem_of_getElem? (i := 0) rfl))
  exact o_retV cx X744 d14_5 ⟨rfl, KK, G0, G1, G2, G3, G4, G5, G6, G7, G8, G9, G10, G11, G12, G13, G14⟩ (by decide) (by decide)
theorem pd_14 : parseMethodDescriptor "(Ljava/lang/String;)V" = some ⟨[(.object "java/lang/String")], none⟩ := by decide +kernel
theorem ef_ra7_21 (m : MethodId) (ob0 : Addr) (ob9 : Addr) (q0 : Int32) (q1 : Int32) : entryFrame m #[(.ref ob0), (.int q0), (.int q1), (.ref ob9)] 4 = mkF m 0 #[.val (.ref ob0), .val (.int q0), .val (.int q1), .val (.ref ob9)] [] := by first | (simp [entryFrame, mkF, argsToLocals, Value.category]; done) | rfl
set_option maxRecDepth 65536 in
set_option maxHeartbeats 40000000 in
theorem ra7_21 (l : Launch) (Z : State) (a0 : Array Value) (hw : ∀ d ∈ tables_1, d.before a0 Z = true) (ob0 : Addr) (ob1 : Addr) (ob2 : Addr) (ob3 : Addr) (ob4 : Addr) (ob5 : Addr) (ob6 : Addr) (ob7 : Addr) (ob8 : Addr) (ob9 : Addr) (q0 : Int32) (q1 : Int32) (h0 : Heap) (n0 : Nat) (Z0 : n0 ≤ h0.size) (ga0 : n0 ≤ ob0) (ga1 : n0 ≤ ob1) (ga2 : n0 ≤ ob2) (ga3 : n0 ≤ ob3) (ga4 : n0 ≤ ob4) (ga5 : n0 ≤ ob5) (ga6 : n0 ≤ ob6) (ga7 : n0 ≤ ob7) (ga8 : n0 ≤ ob8) (ga9 : n0 ≤ ob9) (ne_0_1 : ob0 ≠ ob1) (ne_0_2 : ob0 ≠ ob2) (ne_0_3 : ob0 ≠ ob3) (ne_0_4 : ob0 ≠ ob4) (ne_0_5 : ob0 ≠ ob5) (ne_0_6 : ob0 ≠ ob6) (ne_0_7 : ob0 ≠ ob7) (ne_0_8 : ob0 ≠ ob8) (ne_0_9 : ob0 ≠ ob9) (ne_1_2 : ob1 ≠ ob2) (ne_1_3 : ob1 ≠ ob3) (ne_1_4 : ob1 ≠ ob4) (ne_1_5 : ob1 ≠ ob5) (ne_1_6 : ob1 ≠ ob6) (ne_1_7 : ob1 ≠ ob7) (ne_1_8 : ob1 ≠ ob8) (ne_1_9 : ob1 ≠ ob9) (ne_2_3 : ob2 ≠ ob3) (ne_2_4 : ob2 ≠ ob4) (ne_2_5 : ob2 ≠ ob5) (ne_2_6 : ob2 ≠ ob6) (ne_2_7 : ob2 ≠ ob7) (ne_2_8 : ob2 ≠ ob8) (ne_2_9 : ob2 ≠ ob9) (ne_3_4 : ob3 ≠ ob4) (ne_3_5 : ob3 ≠ ob5) (ne_3_6 : ob3 ≠ ob6) (ne_3_7 : ob3 ≠ ob7) (ne_3_8 : ob3 ≠ ob8) (ne_3_9 : ob3 ≠ ob9) (ne_4_5 : ob4 ≠ ob5) (ne_4_6 : ob4 ≠ ob6) (ne_4_7 : ob4 ≠ ob7) (ne_4_8 : ob4 ≠ ob8) (ne_4_9 : ob4 ≠ ob9) (ne_5_6 : ob5 ≠ ob6) (ne_5_7 : ob5 ≠ ob7) (ne_5_8 : ob5 ≠ ob8) (ne_5_9 : ob5 ≠ ob9) (ne_6_7 : ob6 ≠ ob7) (ne_6_8 : ob6 ≠ ob8) (ne_6_9 : ob6 ≠ ob9) (ne_7_8 : ob7 ≠ ob8) (ne_7_9 : ob7 ≠ ob9) (ne_8_9 : ob8 ≠ ob9) (G0 : Exa Z h0 ob0 "com/example/bulla/bulla/xml/StreamedElement") (G1 : Fld Z h0 ob0 "com/example/bulla/bulla/xml/StreamedElement" "declaredPrefixes" "[Ljava/lang/String;" (.ref ob1)) (G2 : Fld Z h0 ob0 "com/example/bulla/bulla/xml/StreamedElement" "declaredNamespaces" "[Ljava/lang/String;" (.ref ob2)) (G3 : Fld Z h0 ob0 "com/example/bulla/bulla/xml/StreamedElement" "attributeNames" "[Ljava/lang/String;" (.ref ob3)) (G4 : Fld Z h0 ob0 "com/example/bulla/bulla/xml/StreamedElement" "attributePrefixes" "[Ljava/lang/String;" (.ref ob4)) (G5 : Fld Z h0 ob0 "com/example/bulla/bulla/xml/StreamedElement" "attributeLocalNames" "[Ljava/lang/String;" (.ref ob5)) (G6 : Fld Z h0 ob0 "com/example/bulla/bulla/xml/StreamedElement" "attributeNamespaces" "[Ljava/lang/String;" (.ref ob6)) (G7 : Fld Z h0 ob0 "com/example/bulla/bulla/xml/StreamedElement" "valueStarts" "[I" (.ref ob7)) (G8 : Fld Z h0 ob0 "com/example/bulla/bulla/xml/StreamedElement" "valueEnds" "[I" (.ref ob8)) (G9 : Fld Z h0 ob0 "com/example/bulla/bulla/xml/StreamedElement" "depth" "I" (.int (0 : Int32))) (G10 : Fld Z h0 ob0 "com/example/bulla/bulla/xml/StreamedElement" "ordinal" "I" (.int (0 : Int32))) (G11 : Fld Z h0 ob0 "com/example/bulla/bulla/xml/StreamedElement" "values" "[B" .null) (G12 : Fld Z h0 ob0 "com/example/bulla/bulla/xml/StreamedElement" "namespace" "Ljava/lang/String;" .null) (G13 : Fld Z h0 ob0 "com/example/bulla/bulla/xml/StreamedElement" "declarationCount" "I" (.int (0 : Int32))) (G14 : Fld Z h0 ob0 "com/example/bulla/bulla/xml/StreamedElement" "attributeCount" "I" (.int (0 : Int32))) (G15 : own_Rr Z h0 ob1 "java/lang/String" [.null, .null, .null, .null]) (G16 : own_Rr Z h0 ob2 "java/lang/String" [.null, .null, .null, .null]) (G17 : own_Rr Z h0 ob3 "java/lang/String" [.null, .null, .null, .null, .null, .null, .null, .null, .null, .null, .null, .null, .null, .null, .null, .null]) (G18 : own_Rr Z h0 ob4 "java/lang/String" [.null, .null, .null, .null, .null, .null, .null, .null, .null, .null, .null, .null, .null, .null, .null, .null]) (G19 : own_Rr Z h0 ob5 "java/lang/String" [.null, .null, .null, .null, .null, .null, .null, .null, .null, .null, .null, .null, .null, .null, .null, .null]) (G20 : own_Rr Z h0 ob6 "java/lang/String" [.null, .null, .null, .null, .null, .null, .null, .null, .null, .null, .null, .null, .null, .null, .null, .null]) (G21 : own_Ar Z h0 ob7 .int [(.int (0 : Int32)), (.int (0 : Int32)), (.int (0 : Int32)), (.int (0 : Int32)), (.int (0 : Int32)), (.int (0 : Int32)), (.int (0 : Int32)), (.int (0 : Int32)), (.int (0 : Int32)), (.int (0 : Int32)), (.int (0 : Int32)), (.int (0 : Int32)), (.int (0 : Int32)), (.int (0 : Int32)), (.int (0 : Int32)), (.int (0 : Int32))]) (G22 : own_Ar Z h0 ob8 .int [(.int (0 : Int32)), (.int (0 : Int32)), (.int (0 : Int32)), (.int (0 : Int32)), (.int (0 : Int32)), (.int (0 : Int32)), (.int (0 : Int32)), (.int (0 : Int32)), (.int (0 : Int32)), (.int (0 : Int32)), (.int (0 : Int32)), (.int (0 : Int32)), (.int (0 : Int32)), (.int (0 : Int32)), (.int (0 : Int32)), (.int (0 : Int32))]) (G23 : own_Ar Z h0 ob9 .byte [(.int (0 : Int32))]) :
    own_Met l Z (⟨"com/example/bulla/bulla/xml/StreamedElement", "start", "(II[B)V"⟩ : MethodName) prog_166_method_20_code 4 none ({ frames := 0, cells := 0, slots := 0, locals := 0 } : Room) #[(.ref ob0), (.int q0), (.int q1), (.ref ob9)] h0 n0 (fun v' h' => v' = none ∧ Keep h0 h' [ob0] ∧ Exa Z h' ob0 "com/example/bulla/bulla/xml/StreamedElement" ∧ Fld Z h' ob0 "com/example/bulla/bulla/xml/StreamedElement" "declaredPrefixes" "[Ljava/lang/String;" (.ref ob1) ∧ Fld Z h' ob0 "com/example/bulla/bulla/xml/StreamedElement" "declaredNamespaces" "[Ljava/lang/String;" (.ref ob2) ∧ Fld Z h' ob0 "com/example/bulla/bulla/xml/StreamedElement" "attributeNames" "[Ljava/lang/String;" (.ref ob3) ∧ Fld Z h' ob0 "com/example/bulla/bulla/xml/StreamedElement" "attributePrefixes" "[Ljava/lang/String;" (.ref ob4) ∧ Fld Z h' ob0 "com/example/bulla/bulla/xml/StreamedElement" "attributeLocalNames" "[Ljava/lang/String;" (.ref ob5) ∧ Fld Z h' ob0 "com/example/bulla/bulla/xml/StreamedElement" "attributeNamespaces" "[Ljava/lang/String;" (.ref ob6) ∧ Fld Z h' ob0 "com/example/bulla/bulla/xml/StreamedElement" "valueStarts" "[I" (.ref ob7) ∧ Fld Z h' ob0 "com/example/bulla/bulla/xml/StreamedElement" "valueEnds" "[I" (.ref ob8) ∧ Fld Z h' ob0 "com/example/bulla/bulla/xml/StreamedElement" "depth" "I" (.int q0) ∧ Fld Z h' ob0 "com/example/bulla/bulla/xml/StreamedElement" "ordinal" "I" (.int q1) ∧ Fld Z h' ob0 "com/example/bulla/bulla/xml/StreamedElement" "values" "[B" (.ref ob9) ∧ Fld Z h' ob0 "com/example/bulla/bulla/xml/StreamedElement" "namespace" "Ljava/lang/String;" .null ∧ Fld Z h' ob0 "com/example/bulla/bulla/xml/StreamedElement" "declarationCount" "I" (.int (0 : Int32)) ∧ Fld Z h' ob0 "com/example/bulla/bulla/xml/StreamedElement" "attributeCount" "I" (.int (0 : Int32))) := by
  refine own_body (plainFor_of_name pn_1) (fun m => ef_ra7_21 m ob0 ob9 q0 q1) Z0 ?_
  intro p e s m below meth c T0 cx X0
  have KK := Keep.refl h0 [ob0]
  show own_Go p e below _ (T0.setTop (mkF m 0 #[.val (.ref ob0), .val (.int q0), .val (.int q1), .val (.ref ob9)] []))
  refine o_aloadN cx X0 d7_0 rfl rfl ?_
  refine o_iloadN cx X0 d7_1 rfl ?_
  refine o_putF cx X0 (v' := (.int q0)) (ty := .int) d7_2 (o_w hw 57 rfl) G9 G0 (Or.inl (o_w hw 58 rfl)) (o_w hw 1 rfl) (by decide) rfl rfl ga0 fun T793 h795 X794 W796 => ?_
  have G0 := G0.wr W796
  have G1 := G1.other W796 (Or.inr (slot_ne (Or.inl (o_w hw 12 rfl)) (Or.inl (o_w hw 58 rfl)) (by decide) (t := (.array (.object "java/lang/String"))) (t' := .int) (by decide) (by decide)))
  have G2 := G2.other W796 (Or.inr (slot_ne (Or.inl (o_w hw 14 rfl)) (Or.inl (o_w hw 58 rfl)) (by decide) (t := (.array (.object "java/lang/String"))) (t' := .int) (by decide) (by decide)))
  have G3 := G3.other W796 (Or.inr (slot_ne (Or.inl (o_w hw 16 rfl)) (Or.inl (o_w hw 58 rfl)) (by decide) (t := (.array (.object "java/lang/String"))) (t' := .int) (by decide) (by decide)))
  have G4 := G4.other W796 (Or.inr (slot_ne (Or.inl (o_w hw 18 rfl)) (Or.inl (o_w hw 58 rfl)) (by decide) (t := (.array (.object "java/lang/String"))) (t' := .int) (by decide) (by decide)))
  have G5 := G5.other W796 (Or.inr (slot_ne (Or.inl (o_w hw 20 rfl)) (Or.inl (o_w hw 58 rfl)) (by decide) (t := (.array (.object "java/lang/String"))) (t' := .int) (by decide) (by decide)))
  have G6 := G6.other W796 (Or.inr (slot_ne (Or.inl (o_w hw 22 rfl)) (Or.inl (o_w hw 58 rfl)) (by decide) (t := (.array (.object "java/lang/String"))) (t' := .int) (by decide) (by decide)))
  have G7 := G7.other W796 (Or.inr (slot_ne (Or.inl (o_w hw 25 rfl)) (Or.inl (o_w hw 58 rfl)) (by decide) (t := (.array .int)) (t' := .int) (by decide) (by decide)))
  have G8 := G8.other W796 (Or.inr (slot_ne (Or.inl (o_w hw 27 rfl)) (Or.inl (o_w hw 58 rfl)) (by decide) (t := (.array .int)) (t' := .int) (by decide) (by decide)))
  have G9 := G9.same W796
  have G10 := G10.other W796 (Or.inr (slot_ne (Or.inl (o_w hw 60 rfl)) (Or.inl (o_w hw 58 rfl)) (by decide) (t := .int) (t' := .int) (by decide) (by decide)))
  have G11 := G11.other W796 (Or.inr (slot_ne (Or.inl (o_w hw 62 rfl)) (Or.inl (o_w hw 58 rfl)) (by decide) (t := (.array .byte)) (t' := .int) (by decide) (by decide)))
  have G12 := G12.other W796 (Or.inr (slot_ne (Or.inl (o_w hw 64 rfl)) (Or.inl (o_w hw 58 rfl)) (by decide) (t := (.object "java/lang/String")) (t' := .int) (by decide) (by decide)))
  have G13 := G13.other W796 (Or.inr (slot_ne (Or.inl (o_w hw 66 rfl)) (Or.inl (o_w hw 58 rfl)) (by decide) (t := .int) (t' := .int) (by decide) (by decide)))
  have G14 := G14.other W796 (Or.inr (slot_ne (Or.inl (o_w hw 68 rfl)) (Or.inl (o_w hw 58 rfl)) (by decide) (t := .int) (t' := .int) (by decide) (by decide)))
  have G15 := G15.other W796 (Ne.symm ne_0_1)
  have G16 := G16.other W796 (Ne.symm ne_0_2)
  have G17 := G17.other W796 (Ne.symm ne_0_3)
  have G18 := G18.other W796 (Ne.symm ne_0_4)
  have G19 := G19.other W796 (Ne.symm ne_0_5)
  have G20 := G20.other W796 (Ne.symm ne_0_6)
  have G21 := G21.other W796 (Ne.symm ne_0_7)
  have G22 := G22.other W796 (Ne.symm ne_0_8)
  have G23 := G23.other W796 (Ne.symm ne_0_9)
  have KK := KK.wr W796 (Or.inl (List.mem_of_getElem? (i := 0) rfl))
  refine o_aloadN cx X794 d7_5 rfl rfl ?_
  refine o_iloadN cx X794 d7_6 rfl ?_
  refine o_putF cx X794 (v' := (.int q1)) (ty := .int) d7_7 (o_w hw 59 rfl) G10 G0 (Or.inl (o_w hw 60 rfl)) (o_w hw 1 rfl) (by decide) rfl rfl ga0 fun T797 h799 X798 W800 => ?_
  have G0 := G0.wr W800
  have G1 := G1.other W800 (Or.inr (slot_ne (Or.inl (o_w hw 12 rfl)) (Or.inl (o_w hw 60 rfl)) (by decide) (t := (.array (.object "java/lang/String"))) (t' := .int) (by decide) (by decide)))
  have G2 := G2.other W800 (Or.inr (slot_ne (Or.inl (o_w hw 14 rfl)) (Or.inl (o_w hw 60 rfl)) (by decide) (t := (.array (.object "java/lang/String"))) (t' := .int) (by decide) (by decide)))
  have G3 := G3.other W800 (Or.inr (slot_ne (Or.inl (o_w hw 16 rfl)) (Or.inl (o_w hw 60 rfl)) (by decide) (t := (.array (.object "java/lang/String"))) (t' := .int) (by decide) (by decide)))
  have G4 := G4.other W800 (Or.inr (slot_ne (Or.inl (o_w hw 18 rfl)) (Or.inl (o_w hw 60 rfl)) (by decide) (t := (.array (.object "java/lang/String"))) (t' := .int) (by decide) (by decide)))
  have G5 := G5.other W800 (Or.inr (slot_ne (Or.inl (o_w hw 20 rfl)) (Or.inl (o_w hw 60 rfl)) (by decide) (t := (.array (.object "java/lang/String"))) (t' := .int) (by decide) (by decide)))
  have G6 := G6.other W800 (Or.inr (slot_ne (Or.inl (o_w hw 22 rfl)) (Or.inl (o_w hw 60 rfl)) (by decide) (t := (.array (.object "java/lang/String"))) (t' := .int) (by decide) (by decide)))
  have G7 := G7.other W800 (Or.inr (slot_ne (Or.inl (o_w hw 25 rfl)) (Or.inl (o_w hw 60 rfl)) (by decide) (t := (.array .int)) (t' := .int) (by decide) (by decide)))
  have G8 := G8.other W800 (Or.inr (slot_ne (Or.inl (o_w hw 27 rfl)) (Or.inl (o_w hw 60 rfl)) (by decide) (t := (.array .int)) (t' := .int) (by decide) (by decide)))
  have G9 := G9.other W800 (Or.inr (slot_ne (Or.inl (o_w hw 58 rfl)) (Or.inl (o_w hw 60 rfl)) (by decide) (t := .int) (t' := .int) (by decide) (by decide)))
  have G10 := G10.same W800
  have G11 := G11.other W800 (Or.inr (slot_ne (Or.inl (o_w hw 62 rfl)) (Or.inl (o_w hw 60 rfl)) (by decide) (t := (.array .byte)) (t' := .int) (by decide) (by decide)))
  have G12 := G12.other W800 (Or.inr (slot_ne (Or.inl (o_w hw 64 rfl)) (Or.inl (o_w hw 60 rfl)) (by decide) (t := (.object "java/lang/String")) (t' := .int) (by decide) (by decide)))
  have G13 := G13.other W800 (Or.inr (slot_ne (Or.inl (o_w hw 66 rfl)) (Or.inl (o_w hw 60 rfl)) (by decide) (t := .int) (t' := .int) (by decide) (by decide)))
  have G14 := G14.other W800 (Or.inr (slot_ne (Or.inl (o_w hw 68 rfl)) (Or.inl (o_w hw 60 rfl)) (by decide) (t := .int) (t' := .int) (by decide) (by decide)))
  have G15 := G15.other W800 (Ne.symm ne_0_1)
  have G16 := G16.other W800 (Ne.symm ne_0_2)
  have G17 := G17.other W800 (Ne.symm ne_0_3)
  have G18 := G18.other W800 (Ne.symm ne_0_4)
  have G19 := G19.other W800 (Ne.symm ne_0_5)
  have G20 := G20.other W800 (Ne.symm ne_0_6)
  have G21 := G21.other W800 (Ne.symm ne_0_7)
  have G22 := G22.other W800 (Ne.symm ne_0_8)
  have G23 := G23.other W800 (Ne.symm ne_0_9)
  have KK := KK.wr W800 (Or.inl (List.mem_of_getElem? (i := 0) rfl))
  refine o_aloadN cx X798 d7_10 rfl rfl ?_
  refine o_aloadN cx X798 d7_11 rfl rfl ?_
  refine o_putF cx X798 (v' := (.ref ob9)) (ty := (.array .byte)) d7_12 (o_w hw 61 rfl) G11 G0 (Or.inl (o_w hw 62 rfl)) (o_w hw 1 rfl) (by decide) rfl rfl ga0 fun T801 h803 X802 W804 => ?_
  have G0 := G0.wr W804
  have G1 := G1.other W804 (Or.inr (slot_ne (Or.inl (o_w hw 12 rfl)) (Or.inl (o_w hw 62 rfl)) (by decide) (t := (.array (.object "java/lang/String"))) (t' := (.array .byte)) (by decide) (by decide)))
  have G2 := G2.other W804 (Or.inr (slot_ne (Or.inl (o_w hw 14 rfl)) (Or.inl (o_w hw 62 rfl)) (by decide) (t := (.array (.object "java/lang/String"))) (t' := (.array .byte)) (by decide) (by decide)))
  have G3 := G3.other W804 (Or.inr (slot_ne (Or.inl (o_w hw 16 rfl)) (Or.inl (o_w hw 62 rfl)) (by decide) (t := (.array (.object "java/lang/String"))) (t' := (.array .byte)) (by decide) (by decide)))
  have G4 := G4.other W804 (Or.inr (slot_ne (Or.inl (o_w hw 18 rfl)) (Or.inl (o_w hw 62 rfl)) (by decide) (t := (.array (.object "java/lang/String"))) (t' := (.array .byte)) (by decide) (by decide)))
  have G5 := G5.other W804 (Or.inr (slot_ne (Or.inl (o_w hw 20 rfl)) (Or.inl (o_w hw 62 rfl)) (by decide) (t := (.array (.object "java/lang/String"))) (t' := (.array .byte)) (by decide) (by decide)))
  have G6 := G6.other W804 (Or.inr (slot_ne (Or.inl (o_w hw 22 rfl)) (Or.inl (o_w hw 62 rfl)) (by decide) (t := (.array (.object "java/lang/String"))) (t' := (.array .byte)) (by decide) (by decide)))
  have G7 := G7.other W804 (Or.inr (slot_ne (Or.inl (o_w hw 25 rfl)) (Or.inl (o_w hw 62 rfl)) (by decide) (t := (.array .int)) (t' := (.array .byte)) (by decide) (by decide)))
  have G8 := G8.other W804 (Or.inr (slot_ne (Or.inl (o_w hw 27 rfl)) (Or.inl (o_w hw 62 rfl)) (by decide) (t := (.array .int)) (t' := (.array .byte)) (by decide) (by decide)))
  have G9 := G9.other W804 (Or.inr (slot_ne (Or.inl (o_w hw 58 rfl)) (Or.inl (o_w hw 62 rfl)) (by decide) (t := .int) (t' := (.array .byte)) (by decide) (by decide)))
  have G10 := G10.other W804 (Or.inr (slot_ne (Or.inl (o_w hw 60 rfl)) (Or.inl (o_w hw 62 rfl)) (by decide) (t := .int) (t' := (.array .byte)) (by decide) (by decide)))
  have G11 := G11.same W804
  have G12 := G12.other W804 (Or.inr (slot_ne (Or.inl (o_w hw 64 rfl)) (Or.inl (o_w hw 62 rfl)) (by decide) (t := (.object "java/lang/String")) (t' := (.array .byte)) (by decide) (by decide)))
  have G13 := G13.other W804 (Or.inr (slot_ne (Or.inl (o_w hw 66 rfl)) (Or.inl (o_w hw 62 rfl)) (by decide) (t := .int) (t' := (.array .byte)) (by decide) (by decide)))
  have G14 := G14.other W804 (Or.inr (slot_ne (Or.inl (o_w hw 68 rfl)) (Or.inl (o_w hw 62 rfl)) (by decide) (t := .int) (t' := (.array .byte)) (by decide) (by decide)))
  have G15 := G15.other W804 (Ne.symm ne_0_1)
  have G16 := G16.other W804 (Ne.symm ne_0_2)
  have G17 := G17.other W804 (Ne.symm ne_0_3)
  have G18 := G18.other W804 (Ne.symm ne_0_4)
  have G19 := G19.other W804 (Ne.symm ne_0_5)
  have G20 := G20.other W804 (Ne.symm ne_0_6)
  have G21 := G21.other W804 (Ne.symm ne_0_7)
  have G22 := G22.other W804 (Ne.symm ne_0_8)
  have G23 := G23.other W804 (Ne.symm ne_0_9)
  have KK := KK.wr W804 (Or.inl (List.mem_of_getElem? (i := 0) rfl))
  refine o_aloadN cx X802 d7_15 rfl rfl ?_
  refine o_aconst_null cx X802 d7_16 ?_
  refine o_putF cx X802 (v' := .null) (ty := (.object "java/lang/String")) d7_17 (o_w hw 63 rfl) G12 G0 (Or.inl (o_w hw 64 rfl)) (o_w hw 1 rfl) (by decide) rfl rfl ga0 fun T805 h807 X806 W808 => ?_
  have G0 := G0.wr W808
  have G1 := G1.other W808 (Or.inr (slot_ne (Or.inl (o_w hw 12 rfl)) (Or.inl (o_w hw 64 rfl)) (by decide) (t := (.array (.object "java/lang/String"))) (t' := (.object "java/lang/String")) (by decide) (by decide)))
  have G2 := G2.other W808 (Or.inr (slot_ne (Or.inl (o_w hw 14 rfl)) (Or.inl (o_w hw 64 rfl)) (by decide) (t := (.array (.object "java/lang/String"))) (t' := (.object "java/lang/String")) (by decide) (by decide)))
  have G3 := G3.other W808 (Or.inr (slot_ne (Or.inl (o_w hw 16 rfl)) (Or.inl (o_w hw 64 rfl)) (by decide) (t := (.array (.object "java/lang/String"))) (t' := (.object "java/lang/String")) (by decide) (by decide)))
  have G4 := G4.other W808 (Or.inr (slot_ne (Or.inl (o_w hw 18 rfl)) (Or.inl (o_w hw 64 rfl)) (by decide) (t := (.array (.object "java/lang/String"))) (t' := (.object "java/lang/String")) (by decide) (by decide)))
  have G5 := G5.other W808 (Or.inr (slot_ne (Or.inl (o_w hw 20 rfl)) (Or.inl (o_w hw 64 rfl)) (by decide) (t := (.array (.object "java/lang/String"))) (t' := (.object "java/lang/String")) (by decide) (by decide)))
  have G6 := G6.other W808 (Or.inr (slot_ne (Or.inl (o_w hw 22 rfl)) (Or.inl (o_w hw 64 rfl)) (by decide) (t := (.array (.object "java/lang/String"))) (t' := (.object "java/lang/String")) (by decide) (by decide)))
  have G7 := G7.other W808 (Or.inr (slot_ne (Or.inl (o_w hw 25 rfl)) (Or.inl (o_w hw 64 rfl)) (by decide) (t := (.array .int)) (t' := (.object "java/lang/String")) (by decide) (by decide)))
  have G8 := G8.other W808 (Or.inr (slot_ne (Or.inl (o_w hw 27 rfl)) (Or.inl (o_w hw 64 rfl)) (by decide) (t := (.array .int)) (t' := (.object "java/lang/String")) (by decide) (by decide)))
  have G9 := G9.other W808 (Or.inr (slot_ne (Or.inl (o_w hw 58 rfl)) (Or.inl (o_w hw 64 rfl)) (by decide) (t := .int) (t' := (.object "java/lang/String")) (by decide) (by decide)))
  have G10 := G10.other W808 (Or.inr (slot_ne (Or.inl (o_w hw 60 rfl)) (Or.inl (o_w hw 64 rfl)) (by decide) (t := .int) (t' := (.object "java/lang/String")) (by decide) (by decide)))
  have G11 := G11.other W808 (Or.inr (slot_ne (Or.inl (o_w hw 62 rfl)) (Or.inl (o_w hw 64 rfl)) (by decide) (t := (.array .byte)) (t' := (.object "java/lang/String")) (by decide) (by decide)))
  have G12 := G12.same W808
  have G13 := G13.other W808 (Or.inr (slot_ne (Or.inl (o_w hw 66 rfl)) (Or.inl (o_w hw 64 rfl)) (by decide) (t := .int) (t' := (.object "java/lang/String")) (by decide) (by decide)))
  have G14 := G14.other W808 (Or.inr (slot_ne (Or.inl (o_w hw 68 rfl)) (Or.inl (o_w hw 64 rfl)) (by decide) (t := .int) (t' := (.object "java/lang/String")) (by decide) (by decide)))
  have G15 := G15.other W808 (Ne.symm ne_0_1)
  have G16 := G16.other W808 (Ne.symm ne_0_2)
  have G17 := G17.other W808 (Ne.symm ne_0_3)
  have G18 := G18.other W808 (Ne.symm ne_0_4)
  have G19 := G19.other W808 (Ne.symm ne_0_5)
  have G20 := G20.other W808 (Ne.symm ne_0_6)
  have G21 := G21.other W808 (Ne.symm ne_0_7)
  have G22 := G22.other W808 (Ne.symm ne_0_8)
  have G23 := G23.other W808 (Ne.symm ne_0_9)
  have KK := KK.wr W808 (Or.inl (List.mem_of_getElem? (i := 0) rfl))
  refine o_aloadN cx X806 d7_20 rfl rfl ?_
  refine o_iconst cx X806 (z := (0 : Int32)) d7_21 rfl ?_
  refine o_putF cx X806 (v' := (.int (0 : Int32))) (ty := .int) d7_22 (o_w hw 65 rfl) G13 G0 (Or.inl (o_w hw 66 rfl)) (o_w hw 1 rfl) (by decide) rfl rfl ga0 fun T809 h811 X810 W812 => ?_
  have G0 := G0.wr W812
  have G1 := G1.other W812 (Or.inr (slot_ne (Or.inl (o_w hw 12 rfl)) (Or.inl (o_w hw 66 rfl)) (by decide) (t := (.array (.object "java/lang/String"))) (t' := .int) (by decide) (by decide)))
  have G2 := G2.other W812 (Or.inr (slot_ne (Or.inl (o_w hw 14 rfl)) (Or.inl (o_w hw 66 rfl)) (by decide) (t := (.array (.object "java/lang/String"))) (t' := .int) (by decide) (by decide)))
  have G3 := G3.other W812 (Or.inr (slot_ne (Or.inl (o_w hw 16 rfl)) (Or.inl (o_w hw 66 rfl)) (by decide) (t := (.array (.object "java/lang/String"))) (t' := .int) (by decide) (by decide)))
  have G4 := G4.other W812 (Or.inr (slot_ne (Or.inl (o_w hw 18 rfl)) (Or.inl (o_w hw 66 rfl)) (by decide) (t := (.array (.object "java/lang/String"))) (t' := .int) (by decide) (by decide)))
  have G5 := G5.other W812 (Or.inr (slot_ne (Or.inl (o_w hw 20 rfl)) (Or.inl (o_w hw 66 rfl)) (by decide) (t := (.array (.object "java/lang/String"))) (t' := .int) (by decide) (by decide)))
  have G6 := G6.other W812 (Or.inr (slot_ne (Or.inl (o_w hw 22 rfl)) (Or.inl (o_w hw 66 rfl)) (by decide) (t := (.array (.object "java/lang/String"))) (t' := .int) (by decide) (by decide)))
  have G7 := G7.other W812 (Or.inr (slot_ne (Or.inl (o_w hw 25 rfl)) (Or.inl (o_w hw 66 rfl)) (by decide) (t := (.array .int)) (t' := .int) (by decide) (by decide)))
  have G8 := G8.other W812 (Or.inr (slot_ne (Or.inl (o_w hw 27 rfl)) (Or.inl (o_w hw 66 rfl)) (by decide) (t := (.array .int)) (t' := .int) (by decide) (by decide)))
  have G9 := G9.other W812 (Or.inr (slot_ne (Or.inl (o_w hw 58 rfl)) (Or.inl (o_w hw 66 rfl)) (by decide) (t := .int) (t' := .int) (by decide) (by decide)))
  have G10 := G10.other W812 (Or.inr (slot_ne (Or.inl (o_w hw 60 rfl)) (Or.inl (o_w hw 66 rfl)) (by decide) (t := .int) (t' := .int) (by decide) (by decide)))
  have G11 := G11.other W812 (Or.inr (slot_ne (Or.inl (o_w hw 62 rfl)) (Or.inl (o_w hw 66 rfl)) (by decide) (t := (.array .byte)) (t' := .int) (by decide) (by decide)))
  have G12 := G12.other W812 (Or.inr (slot_ne (Or.inl (o_w hw 64 rfl)) (Or.inl (o_w hw 66 rfl)) (by decide) (t := (.object "java/lang/String")) (t' := .int) (by decide) (by decide)))
  have G13 := G13.same W812
  have G14 := G14.other W812 (Or.inr (slot_ne (Or.inl (o_w hw 68 rfl)) (Or.inl (o_w hw 66 rfl)) (by decide) (t := .int) (t' := .int) (by decide) (by decide)))
  have G15 := G15.other W812 (Ne.symm ne_0_1)
  have G16 := G16.other W812 (Ne.symm ne_0_2)
  have G17 := G17.other W812 (Ne.symm ne_0_3)
  have G18 := G18.other W812 (Ne.symm ne_0_4)
  have G19 := G19.other W812 (Ne.symm ne_0_5)
  have G20 := G20.other W812 (Ne.symm ne_0_6)
  have G21 := G21.other W812 (Ne.symm ne_0_7)
  have G22 := G22.other W812 (Ne.symm ne_0_8)
  have G23 := G23.other W812 (Ne.symm ne_0_9)
  have KK := KK.wr W812 (Or.inl (List.mem_of_getElem? (i := 0) rfl))
  refine o_aloadN cx X810 d7_25 rfl rfl ?_
  refine o_iconst cx X810 (z := (0 : Int32)) d7_26 rfl ?_
  refine o_putF cx X810 (v' := (.int (0 : Int32))) (ty := .int) d7_27 (o_w hw 67 rfl) G14 G0 (Or.inl (o_w hw 68 rfl)) (o_w hw 1 rfl) (by decide) rfl rfl ga0 fun T813 h815 X814 W816 => ?_
  have G0 := G0.wr W816
  have G1 := G1.other W816 (Or.inr (slot_ne (Or.inl (o_w hw 12 rfl)) (Or.inl (o_w hw 68 rfl)) (by decide) (t := (.array (.object "java/lang/String"))) (t' := .int) (by decide) (by decide)))
  have G2 := G2.other W816 (Or.inr (slot_ne (Or.inl (o_w hw 14 rfl)) (Or.inl (o_w hw 68 rfl)) (by decide) (t := (.array (.object "java/lang/String"))) (t' := .int) (by decide) (by decide)))
  have G3 := G3.other W816 (Or.inr (slot_ne (Or.inl (o_w hw 16 rfl)) (Or.inl (o_w hw 68 rfl)) (by decide) (t := (.array (.object "java/lang/String"))) (t' := .int) (by decide) (by decide)))
  have G4 := G4.other W816 (Or.inr (slot_ne (Or.inl (o_w hw 18 rfl)) (Or.inl (o_w hw 68 rfl)) (by decide) (t := (.array (.object "java/lang/String"))) (t' := .int) (by decide) (by decide)))
  have G5 := G5.other W816 (Or.inr (slot_ne (Or.inl (o_w hw 20 rfl)) (Or.inl (o_w hw 68 rfl)) (by decide) (t := (.array (.object "java/lang/String"))) (t' := .int) (by decide) (by decide)))
  have G6 := G6.other W816 (Or.inr (slot_ne (Or.inl (o_w hw 22 rfl)) (Or.inl (o_w hw 68 rfl)) (by decide) (t := (.array (.object "java/lang/String"))) (t' := .int) (by decide) (by decide)))
  have G7 := G7.other W816 (Or.inr (slot_ne (Or.inl (o_w hw 25 rfl)) (Or.inl (o_w hw 68 rfl)) (by decide) (t := (.array .int)) (t' := .int) (by decide) (by decide)))
  have G8 := G8.other W816 (Or.inr (slot_ne (Or.inl (o_w hw 27 rfl)) (Or.inl (o_w hw 68 rfl)) (by decide) (t := (.array .int)) (t' := .int) (by decide) (by decide)))
  have G9 := G9.other W816 (Or.inr (slot_ne (Or.inl (o_w hw 58 rfl)) (Or.inl (o_w hw 68 rfl)) (by decide) (t := .int) (t' := .int) (by decide) (by decide)))
  have G10 := G10.other W816 (Or.inr (slot_ne (Or.inl (o_w hw 60 rfl)) (Or.inl (o_w hw 68 rfl)) (by decide) (t := .int) (t' := .int) (by decide) (by decide)))
  have G11 := G11.other W816 (Or.inr (slot_ne (Or.inl (o_w hw 62 rfl)) (Or.inl (o_w hw 68 rfl)) (by decide) (t := (.array .byte)) (t' := .int) (by decide) (by decide)))
  have G12 := G12.other W816 (Or.inr (slot_ne (Or.inl (o_w hw 64 rfl)) (Or.inl (o_w hw 68 rfl)) (by decide) (t := (.object "java/lang/String")) (t' := .int) (by decide) (by decide)))
  have G13 := G13.other W816 (Or.inr (slot_ne (Or.inl (o_w hw 66 rfl)) (Or.inl (o_w hw 68 rfl)) (by decide) (t := .int) (t' := .int) (by decide) (by decide)))
  have G14 := G14.same W816
  have G15 := G15.other W816 (Ne.symm ne_0_1)
  have G16 := G16.other W816 (Ne.symm ne_0_2)
  have G17 := G17.other W816 (Ne.symm ne_0_3)
  have G18 := G18.other W816 (Ne.symm ne_0_4)
  have G19 := G19.other W816 (Ne.symm ne_0_5)
  have G20 := G20.other W816 (Ne.symm ne_0_6)
  have G21 := G21.other W816 (Ne.symm ne_0_7)
  have G22 := G22.other W816 (Ne.symm ne_0_8)
  have G23 := G23.other W816 (Ne.symm ne_0_9)
  have KK := KK.wr W816 (Or.inl (List.mem_of_getElem? (i := 0) rfl))
  exact o_retV cx X814 d7_30 ⟨rfl, KK, G0, G1, G2, G3, G4, G5, G6, G7, G8, G9, G10, G11, G12, G13, G14⟩ (by decide) (by decide)
theorem pn_0 : plainName "com/example/bulla/bulla/xml/StreamedElementStartPinLaw" = true := by first | (simp [plainName, overriddenIn]; done) | decide +kernel
theorem ef_rm0 (m : MethodId) (p0 : Int32) (p1 : Int32) (p2 : Int32) (p3 : Int32) (p4 : Int32) : entryFrame m #[(.int p0), (.int p1), (.int p2), (.int p3), (.int p4)] maxLocals = mkF m 0 #[.val (.int p0), .val (.int p1), .val (.int p2), .val (.int p3), .val (.int p4), .unset, .unset, .unset, .unset, .unset] [] := by first | (simp [entryFrame, mkF, argsToLocals, Value.category, maxLocals]; done) | rfl
set_option maxRecDepth 65536 in
set_option maxHeartbeats 40000000 in
theorem rm0 (l : Launch) (Z : State) (a0 : Array Value) (hw : ∀ d ∈ tables_1, d.before a0 Z = true) (p0 : Int32) (p1 : Int32) (p2 : Int32) (p3 : Int32) (p4 : Int32) (cs : Int32) (h0 : Heap) (n0 : Nat) (Z0 : n0 ≤ h0.size) (hs : ¬ cs = (0 : Int32)) (S0 : own_St Z n0 h0 "java/lang/String" "COMPACT_STRINGS" "Z" (.int cs)) :
    own_Met l Z x code maxLocals ret room_1 #[(.int p0), (.int p1), (.int p2), (.int p3), (.int p4)] h0 n0 (fun v' _ => v' = some (.int 1)) := by
  refine own_body (plainFor_of_name pn_0) (fun m => ef_rm0 m p0 p1 p2 p3 p4) Z0 ?_
  intro p e s m below meth c T0 cx X0
  show own_Go p e below _ (T0.setTop (mkF m 0 #[.val (.int p0), .val (.int p1), .val (.int p2), .val (.int p3), .val (.int p4), .unset, .unset, .unset, .unset, .unset] []))
  refine o_newO cx X0 at_0 (o_w hw 0 rfl) (o_w hw 1 rfl) (o_w hw 2 rfl) (by decide) (by decide) fun T35 h37 b34 gb41 ge42 X36 E38 A39 D40 => ?_
  have S0 := S0.ext E38
  have F_b34_declaredPrefixes : Fld Z h37 b34 "com/example/bulla/bulla/xml/StreamedElement" "declaredPrefixes" "[Ljava/lang/String;" .null := D40 (Or.inl (o_w hw 12 rfl)) (ty := (.array (.object "java/lang/String"))) (by decide)
  have F_b34_declaredNamespaces : Fld Z h37 b34 "com/example/bulla/bulla/xml/StreamedElement" "declaredNamespaces" "[Ljava/lang/String;" .null := D40 (Or.inl (o_w hw 14 rfl)) (ty := (.array (.object "java/lang/String"))) (by decide)
  have F_b34_attributeNames : Fld Z h37 b34 "com/example/bulla/bulla/xml/StreamedElement" "attributeNames" "[Ljava/lang/String;" .null := D40 (Or.inl (o_w hw 16 rfl)) (ty := (.array (.object "java/lang/String"))) (by decide)
  have F_b34_attributePrefixes : Fld Z h37 b34 "com/example/bulla/bulla/xml/StreamedElement" "attributePrefixes" "[Ljava/lang/String;" .null := D40 (Or.inl (o_w hw 18 rfl)) (ty := (.array (.object "java/lang/String"))) (by decide)
  have F_b34_attributeLocalNames : Fld Z h37 b34 "com/example/bulla/bulla/xml/StreamedElement" "attributeLocalNames" "[Ljava/lang/String;" .null := D40 (Or.inl (o_w hw 20 rfl)) (ty := (.array (.object "java/lang/String"))) (by decide)
  have F_b34_attributeNamespaces : Fld Z h37 b34 "com/example/bulla/bulla/xml/StreamedElement" "attributeNamespaces" "[Ljava/lang/String;" .null := D40 (Or.inl (o_w hw 22 rfl)) (ty := (.array (.object "java/lang/String"))) (by decide)
  have F_b34_valueStarts : Fld Z h37 b34 "com/example/bulla/bulla/xml/StreamedElement" "valueStarts" "[I" .null := D40 (Or.inl (o_w hw 25 rfl)) (ty := (.array .int)) (by decide)
  have F_b34_valueEnds : Fld Z h37 b34 "com/example/bulla/bulla/xml/StreamedElement" "valueEnds" "[I" .null := D40 (Or.inl (o_w hw 27 rfl)) (ty := (.array .int)) (by decide)
  have F_b34_depth : Fld Z h37 b34 "com/example/bulla/bulla/xml/StreamedElement" "depth" "I" (.int (0 : Int32)) := D40 (Or.inl (o_w hw 58 rfl)) (ty := .int) (by decide)
  have F_b34_ordinal : Fld Z h37 b34 "com/example/bulla/bulla/xml/StreamedElement" "ordinal" "I" (.int (0 : Int32)) := D40 (Or.inl (o_w hw 60 rfl)) (ty := .int) (by decide)
  have F_b34_values : Fld Z h37 b34 "com/example/bulla/bulla/xml/StreamedElement" "values" "[B" .null := D40 (Or.inl (o_w hw 62 rfl)) (ty := (.array .byte)) (by decide)
  have F_b34_namespace : Fld Z h37 b34 "com/example/bulla/bulla/xml/StreamedElement" "namespace" "Ljava/lang/String;" .null := D40 (Or.inl (o_w hw 64 rfl)) (ty := (.object "java/lang/String")) (by decide)
  have F_b34_declarationCount : Fld Z h37 b34 "com/example/bulla/bulla/xml/StreamedElement" "declarationCount" "I" (.int (0 : Int32)) := D40 (Or.inl (o_w hw 66 rfl)) (ty := .int) (by decide)
  have F_b34_attributeCount : Fld Z h37 b34 "com/example/bulla/bulla/xml/StreamedElement" "attributeCount" "I" (.int (0 : Int32)) := D40 (Or.inl (o_w hw 68 rfl)) (ty := .int) (by decide)
  refine o_dup cx X36 at_3 rfl ?_
  refine o_callC cx X36 (y' := (⟨"com/example/bulla/bulla/xml/StreamedElement", "<init>", "()V"⟩ : MethodName)) (argsL := []) (st := [(.ref b34)]) (a := b34) at_4 (o_w hw 3 rfl) (o_w hw 4 rfl) (o_w hw 2 rfl) (o_w hw 5 rfl) (by decide) rfl (ra1_3 l Z a0 hw b34 h37 n0 X36.ge0 ge42 A39 F_b34_declaredPrefixes F_b34_declaredNamespaces F_b34_attributeNames F_b34_attributePrefixes F_b34_attributeLocalNames F_b34_attributeNamespaces F_b34_valueStarts F_b34_valueEnds F_b34_depth F_b34_ordinal F_b34_values F_b34_namespace F_b34_declarationCount F_b34_attributeCount) (by decide) 1 rfl (by decide) rfl (lenOf pd_1 rfl) rfl rfl (by decide) (by decide) fun v46 T43 h45 X44 Q47 => ?_
  obtain ⟨b48, b49, b50, b51, b52, b53, b54, b55, rfl, K56, sz_b48, ge_b48, sz_b49, ge_b49, sz_b50, ge_b50, sz_b51, ge_b51, sz_b52, ge_b52, sz_b53, ge_b53, sz_b54, ge_b54, sz_b55, ge_b55, ne_b48_b49, ne_b48_b50, ne_b48_b51, ne_b48_b52, ne_b48_b53, ne_b48_b54, ne_b48_b55, ne_b49_b50, ne_b49_b51, ne_b49_b52, ne_b49_b53, ne_b49_b54, ne_b49_b55, ne_b50_b51, ne_b50_b52, ne_b50_b53, ne_b50_b54, ne_b50_b55, ne_b51_b52, ne_b51_b53, ne_b51_b54, ne_b51_b55, ne_b52_b53, ne_b52_b54, ne_b52_b55, ne_b53_b54, ne_b53_b55, ne_b54_b55, E57, F58, F59, F60, F61, F62, F63, F64, F65, F66, F67, F68, F69, F70, F71, A72, A73, A74, A75, A76, A77, A78, A79⟩ := Q47
  have ne_b34_b48 : b34 ≠ b48 := Nat.ne_of_lt (Nat.lt_of_lt_of_le A39.lt sz_b48)
  have ne_b34_b49 : b34 ≠ b49 := Nat.ne_of_lt (Nat.lt_of_lt_of_le A39.lt sz_b49)
  have ne_b34_b50 : b34 ≠ b50 := Nat.ne_of_lt (Nat.lt_of_lt_of_le A39.lt sz_b50)
  have ne_b34_b51 : b34 ≠ b51 := Nat.ne_of_lt (Nat.lt_of_lt_of_le A39.lt sz_b51)
  have ne_b34_b52 : b34 ≠ b52 := Nat.ne_of_lt (Nat.lt_of_lt_of_le A39.lt sz_b52)
  have ne_b34_b53 : b34 ≠ b53 := Nat.ne_of_lt (Nat.lt_of_lt_of_le A39.lt sz_b53)
  have ne_b34_b54 : b34 ≠ b54 := Nat.ne_of_lt (Nat.lt_of_lt_of_le A39.lt sz_b54)
  have ne_b34_b55 : b34 ≠ b55 := Nat.ne_of_lt (Nat.lt_of_lt_of_le A39.lt sz_b55)
  have S0 := S0.keep K56 (allS ge42 all0)
  show own_Go p e below _ (T43.setTop (mkF m 7 #[.val (.int p0), .val (.int p1), .val (.int p2), .val (.int p3), .val (.int p4), .unset, .unset, .unset, .unset, .unset] [(.ref b34)]))
  refine o_astore cx X44 (Ls' := #[.val (.int p0), .val (.int p1), .val (.int p2), .val (.int p3), .val (.int p4), .val (.ref b34), .unset, .unset, .unset, .unset]) at_7 rfl rfl ?_
  refine o_iconst cx X44 (z := (1 : Int32)) at_9 rfl ?_
  refine o_newP cx X44 at_10 (o_w hw 28 rfl) (by decide) 1 1 rfl (Nat.le_refl _) (by decide) (by decide) (by decide) fun T81 h83 b80 gb86 ge87 X82 E84 A85 => ?_
  have ne_b34_b80 : b34 ≠ b80 := by rw [gb86]; exact Nat.ne_of_lt E57.lt
  have ne_b48_b80 : b48 ≠ b80 := by rw [gb86]; exact Nat.ne_of_lt A72.lt
  have ne_b49_b80 : b49 ≠ b80 := by rw [gb86]; exact Nat.ne_of_lt A73.lt
  have ne_b50_b80 : b50 ≠ b80 := by rw [gb86]; exact Nat.ne_of_lt A74.lt
  have ne_b51_b80 : b51 ≠ b80 := by rw [gb86]; exact Nat.ne_of_lt A75.lt
  have ne_b52_b80 : b52 ≠ b80 := by rw [gb86]; exact Nat.ne_of_lt A76.lt
  have ne_b53_b80 : b53 ≠ b80 := by rw [gb86]; exact Nat.ne_of_lt A77.lt
  have ne_b54_b80 : b54 ≠ b80 := by rw [gb86]; exact Nat.ne_of_lt A78.lt
  have ne_b55_b80 : b55 ≠ b80 := by rw [gb86]; exact Nat.ne_of_lt A79.lt
  have S0 := S0.ext E84
  have E57 := E57.ext E84
  have F58 := F58.ext E84
  have F59 := F59.ext E84
  have F60 := F60.ext E84
  have F61 := F61.ext E84
  have F62 := F62.ext E84
  have F63 := F63.ext E84
  have F64 := F64.ext E84
  have F65 := F65.ext E84
  have F66 := F66.ext E84
  have F67 := F67.ext E84
  have F68 := F68.ext E84
  have F69 := F69.ext E84
  have F70 := F70.ext E84
  have F71 := F71.ext E84
  have A72 := A72.ext E84
  have A73 := A73.ext E84
  have A74 := A74.ext E84
  have A75 := A75.ext E84
  have A76 := A76.ext E84
  have A77 := A77.ext E84
  have A78 := A78.ext E84
  have A79 := A79.ext E84
  have A85 : own_Ar Z h83 b80 .byte [(.int (0 : Int32))] := A85
  refine o_astore cx X82 (Ls' := #[.val (.int p0), .val (.int p1), .val (.int p2), .val (.int p3), .val (.int p4), .val (.ref b34), .val (.ref b80), .unset, .unset, .unset]) at_12 rfl rfl ?_
  refine o_iconst cx X82 (z := (2 : Int32)) at_14 rfl ?_
  refine o_newP cx X82 at_15 (o_w hw 28 rfl) (by decide) 2 2 rfl (Nat.le_refl _) (by decide) (by decide) (by decide) fun T89 h91 b88 gb94 ge95 X90 E92 A93 => ?_
  have ne_b34_b88 : b34 ≠ b88 := by rw [gb94]; exact Nat.ne_of_lt E57.lt
  have ne_b48_b88 : b48 ≠ b88 := by rw [gb94]; exact Nat.ne_of_lt A72.lt
  have ne_b49_b88 : b49 ≠ b88 := by rw [gb94]; exact Nat.ne_of_lt A73.lt
  have ne_b50_b88 : b50 ≠ b88 := by rw [gb94]; exact Nat.ne_of_lt A74.lt
  have ne_b51_b88 : b51 ≠ b88 := by rw [gb94]; exact Nat.ne_of_lt A75.lt
  have ne_b52_b88 : b52 ≠ b88 := by rw [gb94]; exact Nat.ne_of_lt A76.lt
  have ne_b53_b88 : b53 ≠ b88 := by rw [gb94]; exact Nat.ne_of_lt A77.lt
  have ne_b54_b88 : b54 ≠ b88 := by rw [gb94]; exact Nat.ne_of_lt A78.lt
  have ne_b55_b88 : b55 ≠ b88 := by rw [gb94]; exact Nat.ne_of_lt A79.lt
  have ne_b80_b88 : b80 ≠ b88 := by rw [gb94]; exact Nat.ne_of_lt A85.lt
  have S0 := S0.ext E92
  have E57 := E57.ext E92
  have F58 := F58.ext E92
  have F59 := F59.ext E92
  have F60 := F60.ext E92
  have F61 := F61.ext E92
  have F62 := F62.ext E92
  have F63 := F63.ext E92
  have F64 := F64.ext E92
  have F65 := F65.ext E92
  have F66 := F66.ext E92
  have F67 := F67.ext E92
  have F68 := F68.ext E92
  have F69 := F69.ext E92
  have F70 := F70.ext E92
  have F71 := F71.ext E92
  have A72 := A72.ext E92
  have A73 := A73.ext E92
  have A74 := A74.ext E92
  have A75 := A75.ext E92
  have A76 := A76.ext E92
  have A77 := A77.ext E92
  have A78 := A78.ext E92
  have A79 := A79.ext E92
  have A85 := A85.ext E92
  have A93 : own_Ar Z h91 b88 .byte [(.int (0 : Int32)), (.int (0 : Int32))] := A93
  refine o_astore cx X90 (Ls' := #[.val (.int p0), .val (.int p1), .val (.int p2), .val (.int p3), .val (.int p4), .val (.ref b34), .val (.ref b80), .val (.ref b88), .unset, .unset]) at_17 rfl rfl ?_
  refine o_iload cx X90 at_19 rfl ?_
  refine o_bipush cx X90 (z := (8 : Int32)) at_21 rfl ?_
  refine o_iushr cx X90 at_23 rfl ?_
  refine o_sipush cx X90 (z := (255 : Int32)) at_24 rfl ?_
  refine o_iand cx X90 at_27 rfl ?_
  refine o_i2c cx X90 at_28 rfl ?_
  refine o_callS cx X90 (y' := (⟨"java/lang/String", "valueOf", "(C)Ljava/lang/String;"⟩ : MethodName)) (argsL := [(.int ((((p4.toUInt32 >>> ((8 : Int32) &&& 31).toUInt32).toInt32) &&& (255 : Int32)).toUInt32.toUInt16.toUInt32.toInt32))]) (st := []) at_29 (o_w hw 29 rfl) (o_w hw 30 rfl) (o_w hw 31 rfl) (o_w hw 32 rfl) (by decide) (rm2 l Z a0 hw ((((p4.toUInt32 >>> ((8 : Int32) &&& 31).toUInt32).toInt32) &&& (255 : Int32)).toUInt32.toUInt16.toUInt32.toInt32) cs h91 n0 X90.ge0 (own_c8 _) hs S0) (by decide) 0 rfl (by decide) rfl (lenOf pd_3 rfl) rfl rfl (by decide) (by decide) fun v99 T96 h98 X97 Q100 => ?_
  obtain ⟨bs, rfl, Ks, szs, ges, Es⟩ := Q100
  have ne_b34_bs : b34 ≠ bs := Nat.ne_of_lt (Nat.lt_of_lt_of_le E57.lt szs)
  have ne_b48_bs : b48 ≠ bs := Nat.ne_of_lt (Nat.lt_of_lt_of_le A72.lt szs)
  have ne_b49_bs : b49 ≠ bs := Nat.ne_of_lt (Nat.lt_of_lt_of_le A73.lt szs)
  have ne_b50_bs : b50 ≠ bs := Nat.ne_of_lt (Nat.lt_of_lt_of_le A74.lt szs)
  have ne_b51_bs : b51 ≠ bs := Nat.ne_of_lt (Nat.lt_of_lt_of_le A75.lt szs)
  have ne_b52_bs : b52 ≠ bs := Nat.ne_of_lt (Nat.lt_of_lt_of_le A76.lt szs)
  have ne_b53_bs : b53 ≠ bs := Nat.ne_of_lt (Nat.lt_of_lt_of_le A77.lt szs)
  have ne_b54_bs : b54 ≠ bs := Nat.ne_of_lt (Nat.lt_of_lt_of_le A78.lt szs)
  have ne_b55_bs : b55 ≠ bs := Nat.ne_of_lt (Nat.lt_of_lt_of_le A79.lt szs)
  have ne_b80_bs : b80 ≠ bs := Nat.ne_of_lt (Nat.lt_of_lt_of_le A85.lt szs)
  have ne_b88_bs : b88 ≠ bs := Nat.ne_of_lt (Nat.lt_of_lt_of_le A93.lt szs)
  have E57 := E57.keep Ks
  have F58 := F58.keep Ks nin0
  have F59 := F59.keep Ks nin0
  have F60 := F60.keep Ks nin0
  have F61 := F61.keep Ks nin0
  have F62 := F62.keep Ks nin0
  have F63 := F63.keep Ks nin0
  have F64 := F64.keep Ks nin0
  have F65 := F65.keep Ks nin0
  have F66 := F66.keep Ks nin0
  have F67 := F67.keep Ks nin0
  have F68 := F68.keep Ks nin0
  have F69 := F69.keep Ks nin0
  have F70 := F70.keep Ks nin0
  have F71 := F71.keep Ks nin0
  have A72 := A72.keep Ks nin0
  have A73 := A73.keep Ks nin0
  have A74 := A74.keep Ks nin0
  have A75 := A75.keep Ks nin0
  have A76 := A76.keep Ks nin0
  have A77 := A77.keep Ks nin0
  have A78 := A78.keep Ks nin0
  have A79 := A79.keep Ks nin0
  have A85 := A85.keep Ks nin0
  have A93 := A93.keep Ks nin0
  show own_Go p e below _ (T96.setTop (mkF m 32 #[.val (.int p0), .val (.int p1), .val (.int p2), .val (.int p3), .val (.int p4), .val (.ref b34), .val (.ref b80), .val (.ref b88), .unset, .unset] [(.ref bs)]))
  refine o_astore cx X97 (Ls' := #[.val (.int p0), .val (.int p1), .val (.int p2), .val (.int p3), .val (.int p4), .val (.ref b34), .val (.ref b80), .val (.ref b88), .val (.ref bs), .unset]) at_32 rfl rfl ?_
  have J101 : ∀ (TJ101 : State) (hJ101 : Heap) (u0J101 u1J101 u2J101 u3J101 u4J101 u5J101 : Value), own_Sd p l e room_1 s m #[(.int p0), (.int p1), (.int p2), (.int p3), (.int p4)] below meth c n0 TJ101 hJ101 13 129 → Exa Z hJ101 b34 "com/example/bulla/bulla/xml/StreamedElement" → Fld Z hJ101 b34 "com/example/bulla/bulla/xml/StreamedElement" "depth" "I" u0J101 → Fld Z hJ101 b34 "com/example/bulla/bulla/xml/StreamedElement" "ordinal" "I" u1J101 → Fld Z hJ101 b34 "com/example/bulla/bulla/xml/StreamedElement" "values" "[B" u2J101 → Fld Z hJ101 b34 "com/example/bulla/bulla/xml/StreamedElement" "namespace" "Ljava/lang/String;" u3J101 → Fld Z hJ101 b34 "com/example/bulla/bulla/xml/StreamedElement" "declarationCount" "I" u4J101 → Fld Z hJ101 b34 "com/example/bulla/bulla/xml/StreamedElement" "attributeCount" "I" u5J101 → own_Ar Z hJ101 b80 .byte [(.int (0 : Int32))] → own_Ar Z hJ101 b88 .byte [(.int (0 : Int32)), (.int (0 : Int32))] → Exa Z hJ101 bs "java/lang/String" → own_Go p e below (own_End below s room_1 n0 (fun v' _ => v' = some (.int 1))) (TJ101.setTop (mkF m 101 #[.val (.int p0), .val (.int p1), .val (.int p2), .val (.int p3), .val (.int p4), .val (.ref b34), .val (.ref b80), .val (.ref b88), .val (.ref bs), .unset] [])) := by
    intro TJ101 hJ101 u0J101 u1J101 u2J101 u3J101 u4J101 u5J101 XJ101 G0J101 G1J101 G2J101 G3J101 G4J101 G5J101 G6J101 G7J101 G8J101 G9J101
    refine o_iload cx XJ101 at_101 rfl ?_
    refine o_bipush cx XJ101 (z := (16 : Int32)) at_103 rfl ?_
    refine o_iand cx XJ101 at_105 rfl ?_
    by_cases hc101 : (p4 &&& (16 : Int32)) = (0 : Int32)
    · refine o_ifYes cx XJ101 114 at_106 ((if0 _ _).trans (teq hc101).1) (by decide) (by decide) ?_
      refine o_aconst_null cx XJ101 at_114 ?_
      refine o_astore cx XJ101 (Ls' := #[.val (.int p0), .val (.int p1), .val (.int p2), .val (.int p3), .val (.int p4), .val (.ref b34), .val (.ref b80), .val (.ref b88), .val (.ref bs), .val .null]) at_115 rfl rfl ?_
      refine o_aload cx XJ101 at_117 rfl rfl ?_
      refine o_iloadN cx XJ101 at_119 rfl ?_
      refine o_iloadN cx XJ101 at_120 rfl ?_
      refine o_aload cx XJ101 at_121 rfl rfl ?_
      refine o_callV cx XJ101 (y' := (⟨"com/example/bulla/bulla/xml/StreamedElement", "start", "(II[B)V"⟩ : MethodName)) (argsL := [(.int p0), (.int p1), .null]) (st := []) (a := b34) at_123 (o_w hw 52 rfl) (o_w hw 53 rfl) (o_w hw 55 rfl) (o_w hw 54 rfl) (o_w hw 2 rfl) (o_w hw 56 rfl) (by decide) G0J101 (ra7_4 l Z a0 hw b34 p0 p1 u0J101 u1J101 u2J101 u3J101 u4J101 u5J101 hJ101 n0 XJ101.ge0 ge42 G0J101 G1J101 G2J101 G3J101 G4J101 G5J101 G6J101) (by decide) 0 rfl (by decide) rfl (lenOf pd_7 rfl) rfl rfl (by decide) (by decide) fun v105 T102 h104 X103 Q106 => ?_
      obtain ⟨rfl, K107, E108, F109, F110, F111, F112, F113, F114⟩ := Q106
      have G7J101 := G7J101.keep K107 (ninS (Ne.symm ne_b34_b80) nin0)
      have G8J101 := G8J101.keep K107 (ninS (Ne.symm ne_b34_b88) nin0)
      have G9J101 := G9J101.keep K107
      show own_Go p e below _ (T102.setTop (mkF m 126 #[.val (.int p0), .val (.int p1), .val (.int p2), .val (.int p3), .val (.int p4), .val (.ref b34), .val (.ref b80), .val (.ref b88), .val (.ref bs), .val .null] []))
      refine o_aload cx X103 at_126 rfl rfl ?_
      refine o_callVp cx X103 (y' := (⟨"com/example/bulla/bulla/xml/StreamedElement", "depth", "()I"⟩ : MethodName)) (argsL := []) (st := []) (a := b34) at_128 (o_w hw 69 rfl) (o_w hw 70 rfl) (o_w hw 72 rfl) (o_w hw 71 rfl) (o_w hw 2 rfl) (o_w hw 73 rfl) (by decide) E108 (ra8_5 l Z a0 hw b34 p0 p1 h104 n0 X103.ge0 ge42 E108 F109 F110 F111 F112 F113 F114) (by decide) 0 rfl (by decide) rfl (lenOf pd_8 rfl) rfl rfl (by decide) (by decide) fun T115 X116 => ?_
      show own_Go p e below _ (T115.setTop (mkF m 131 #[.val (.int p0), .val (.int p1), .val (.int p2), .val (.int p3), .val (.int p4), .val (.ref b34), .val (.ref b80), .val (.ref b88), .val (.ref bs), .val .null] [(.int p0)]))
      refine o_iloadN cx X116 at_131 rfl ?_
      refine o_icmpNo cx X116 at_132 (teq rfl).2 ?_
      refine o_aload cx X116 at_135 rfl rfl ?_
      refine o_callVp cx X116 (y' := (⟨"com/example/bulla/bulla/xml/StreamedElement", "ordinal", "()I"⟩ : MethodName)) (argsL := []) (st := []) (a := b34) at_137 (o_w hw 74 rfl) (o_w hw 75 rfl) (o_w hw 77 rfl) (o_w hw 76 rfl) (o_w hw 2 rfl) (o_w hw 78 rfl) (by decide) E108 (ra9_6 l Z a0 hw b34 p0 p1 h104 n0 X116.ge0 ge42 E108 F109 F110 F111 F112 F113 F114) (by decide) 0 rfl (by decide) rfl (lenOf pd_9 rfl) rfl rfl (by decide) (by decide) fun T120 X121 => ?_
      show own_Go p e below _ (T120.setTop (mkF m 140 #[.val (.int p0), .val (.int p1), .val (.int p2), .val (.int p3), .val (.int p4), .val (.ref b34), .val (.ref b80), .val (.ref b88), .val (.ref bs), .val .null] [(.int p1)]))
      refine o_iloadN cx X121 at_140 rfl ?_
      refine o_icmpNo cx X121 at_141 (teq rfl).2 ?_
      refine o_aload cx X121 at_144 rfl rfl ?_
      refine o_callVp cx X121 (y' := (⟨"com/example/bulla/bulla/xml/StreamedElement", "values", "()[B"⟩ : MethodName)) (argsL := []) (st := []) (a := b34) at_146 (o_w hw 79 rfl) (o_w hw 80 rfl) (o_w hw 82 rfl) (o_w hw 81 rfl) (o_w hw 2 rfl) (o_w hw 83 rfl) (by decide) E108 (ra10_7 l Z a0 hw b34 p0 p1 h104 n0 X121.ge0 ge42 E108 F109 F110 F111 F112 F113 F114) (by decide) 0 rfl (by decide) rfl (lenOf pd_10 rfl) rfl rfl (by decide) (by decide) fun T125 X126 => ?_
      show own_Go p e below _ (T125.setTop (mkF m 149 #[.val (.int p0), .val (.int p1), .val (.int p2), .val (.int p3), .val (.int p4), .val (.ref b34), .val (.ref b80), .val (.ref b88), .val (.ref bs), .val .null] [.null]))
      refine o_aload cx X126 at_149 rfl rfl ?_
      refine o_acmp cx X126 154 true at_151 rfl rfl (decide_eq_true rfl) (by decide) (by decide) ?_
      refine o_aload cx X126 at_154 rfl rfl ?_
      refine o_callVp cx X126 (y' := (⟨"com/example/bulla/bulla/xml/StreamedElement", "namespace", "()Ljava/lang/String;"⟩ : MethodName)) (argsL := []) (st := []) (a := b34) at_156 (o_w hw 84 rfl) (o_w hw 85 rfl) (o_w hw 87 rfl) (o_w hw 86 rfl) (o_w hw 2 rfl) (o_w hw 88 rfl) (by decide) E108 (ra11_8 l Z a0 hw b34 p0 p1 h104 n0 X126.ge0 ge42 E108 F109 F110 F111 F112 F113 F114) (by decide) 0 rfl (by decide) rfl (lenOf pd_11 rfl) rfl rfl (by decide) (by decide) fun T130 X131 => ?_
      show own_Go p e below _ (T130.setTop (mkF m 159 #[.val (.int p0), .val (.int p1), .val (.int p2), .val (.int p3), .val (.int p4), .val (.ref b34), .val (.ref b80), .val (.ref b88), .val (.ref bs), .val .null] [.null]))
      refine o_ifnonnullNo cx X131 at_159 ?_
      refine o_aload cx X131 at_162 rfl rfl ?_
      refine o_callVp cx X131 (y' := (⟨"com/example/bulla/bulla/xml/StreamedElement", "declarationCount", "()I"⟩ : MethodName)) (argsL := []) (st := []) (a := b34) at_164 (o_w hw 89 rfl) (o_w hw 90 rfl) (o_w hw 92 rfl) (o_w hw 91 rfl) (o_w hw 2 rfl) (o_w hw 93 rfl) (by decide) E108 (ra12_9 l Z a0 hw b34 p0 p1 h104 n0 X131.ge0 ge42 E108 F109 F110 F111 F112 F113 F114) (by decide) 0 rfl (by decide) rfl (lenOf pd_12 rfl) rfl rfl (by decide) (by decide) fun T135 X136 => ?_
      show own_Go p e below _ (T135.setTop (mkF m 167 #[.val (.int p0), .val (.int p1), .val (.int p2), .val (.int p3), .val (.int p4), .val (.ref b34), .val (.ref b80), .val (.ref b88), .val (.ref bs), .val .null] [(.int (0 : Int32))]))
      refine o_ifNo cx X136 at_167 (by decide) ?_
      refine o_aload cx X136 at_170 rfl rfl ?_
      refine o_callVp cx X136 (y' := (⟨"com/example/bulla/bulla/xml/StreamedElement", "attributeCount", "()I"⟩ : MethodName)) (argsL := []) (st := []) (a := b34) at_172 (o_w hw 94 rfl) (o_w hw 95 rfl) (o_w hw 97 rfl) (o_w hw 96 rfl) (o_w hw 2 rfl) (o_w hw 98 rfl) (by decide) E108 (ra13_10 l Z a0 hw b34 p0 p1 h104 n0 X136.ge0 ge42 E108 F109 F110 F111 F112 F113 F114) (by decide) 0 rfl (by decide) rfl (lenOf pd_13 rfl) rfl rfl (by decide) (by decide) fun T140 X141 => ?_
      show own_Go p e below _ (T140.setTop (mkF m 175 #[.val (.int p0), .val (.int p1), .val (.int p2), .val (.int p3), .val (.int p4), .val (.ref b34), .val (.ref b80), .val (.ref b88), .val (.ref bs), .val .null] [(.int (0 : Int32))]))
      refine o_ifNo cx X141 at_175 (by decide) ?_
      refine o_iconst cx X141 (z := (1 : Int32)) at_178 rfl ?_
      refine o_goto cx X141 183 at_179 (by decide) (by decide) ?_
      exact o_retN cx X141 (z' := (1 : Int32)) at_183 (by simp) rfl rfl (by decide) (by decide)
    · refine o_ifNo cx XJ101 at_106 ((if0 _ _).trans (feq hc101).1) ?_
      refine o_aload cx XJ101 at_109 rfl rfl ?_
      refine o_goto cx XJ101 115 at_111 (by decide) (by decide) ?_
      refine o_astore cx XJ101 (Ls' := #[.val (.int p0), .val (.int p1), .val (.int p2), .val (.int p3), .val (.int p4), .val (.ref b34), .val (.ref b80), .val (.ref b88), .val (.ref bs), .val (.ref b88)]) at_115 rfl rfl ?_
      refine o_aload cx XJ101 at_117 rfl rfl ?_
      refine o_iloadN cx XJ101 at_119 rfl ?_
      refine o_iloadN cx XJ101 at_120 rfl ?_
      refine o_aload cx XJ101 at_121 rfl rfl ?_
      refine o_callV cx XJ101 (y' := (⟨"com/example/bulla/bulla/xml/StreamedElement", "start", "(II[B)V"⟩ : MethodName)) (argsL := [(.int p0), (.int p1), (.ref b88)]) (st := []) (a := b34) at_123 (o_w hw 52 rfl) (o_w hw 53 rfl) (o_w hw 55 rfl) (o_w hw 54 rfl) (o_w hw 2 rfl) (o_w hw 56 rfl) (by decide) G0J101 (ra7_11 l Z a0 hw b34 b88 p0 p1 u0J101 u1J101 u2J101 u3J101 u4J101 u5J101 hJ101 n0 XJ101.ge0 ge42 ge95 ne_b34_b88 G0J101 G1J101 G2J101 G3J101 G4J101 G5J101 G6J101 G8J101) (by decide) 0 rfl (by decide) rfl (lenOf pd_7 rfl) rfl rfl (by decide) (by decide) fun v148 T145 h147 X146 Q149 => ?_
      obtain ⟨rfl, K150, E151, F152, F153, F154, F155, F156, F157⟩ := Q149
      have G7J101 := G7J101.keep K150 (ninS (Ne.symm ne_b34_b80) nin0)
      have G8J101 := G8J101.keep K150 (ninS (Ne.symm ne_b34_b88) nin0)
      have G9J101 := G9J101.keep K150
      show own_Go p e below _ (T145.setTop (mkF m 126 #[.val (.int p0), .val (.int p1), .val (.int p2), .val (.int p3), .val (.int p4), .val (.ref b34), .val (.ref b80), .val (.ref b88), .val (.ref bs), .val (.ref b88)] []))
      refine o_aload cx X146 at_126 rfl rfl ?_
      refine o_callVp cx X146 (y' := (⟨"com/example/bulla/bulla/xml/StreamedElement", "depth", "()I"⟩ : MethodName)) (argsL := []) (st := []) (a := b34) at_128 (o_w hw 69 rfl) (o_w hw 70 rfl) (o_w hw 72 rfl) (o_w hw 71 rfl) (o_w hw 2 rfl) (o_w hw 73 rfl) (by decide) E151 (ra8_12 l Z a0 hw b34 b88 p0 p1 h147 n0 X146.ge0 ge42 ge95 ne_b34_b88 E151 F152 F153 F154 F155 F156 F157 G8J101) (by decide) 0 rfl (by decide) rfl (lenOf pd_8 rfl) rfl rfl (by decide) (by decide) fun T158 X159 => ?_
      show own_Go p e below _ (T158.setTop (mkF m 131 #[.val (.int p0), .val (.int p1), .val (.int p2), .val (.int p3), .val (.int p4), .val (.ref b34), .val (.ref b80), .val (.ref b88), .val (.ref bs), .val (.ref b88)] [(.int p0)]))
      refine o_iloadN cx X159 at_131 rfl ?_
      refine o_icmpNo cx X159 at_132 (teq rfl).2 ?_
      refine o_aload cx X159 at_135 rfl rfl ?_
      refine o_callVp cx X159 (y' := (⟨"com/example/bulla/bulla/xml/StreamedElement", "ordinal", "()I"⟩ : MethodName)) (argsL := []) (st := []) (a := b34) at_137 (o_w hw 74 rfl) (o_w hw 75 rfl) (o_w hw 77 rfl) (o_w hw 76 rfl) (o_w hw 2 rfl) (o_w hw 78 rfl) (by decide) E151 (ra9_13 l Z a0 hw b34 b88 p0 p1 h147 n0 X159.ge0 ge42 ge95 ne_b34_b88 E151 F152 F153 F154 F155 F156 F157 G8J101) (by decide) 0 rfl (by decide) rfl (lenOf pd_9 rfl) rfl rfl (by decide) (by decide) fun T163 X164 => ?_
      show own_Go p e below _ (T163.setTop (mkF m 140 #[.val (.int p0), .val (.int p1), .val (.int p2), .val (.int p3), .val (.int p4), .val (.ref b34), .val (.ref b80), .val (.ref b88), .val (.ref bs), .val (.ref b88)] [(.int p1)]))
      refine o_iloadN cx X164 at_140 rfl ?_
      refine o_icmpNo cx X164 at_141 (teq rfl).2 ?_
      refine o_aload cx X164 at_144 rfl rfl ?_
      refine o_callVp cx X164 (y' := (⟨"com/example/bulla/bulla/xml/StreamedElement", "values", "()[B"⟩ : MethodName)) (argsL := []) (st := []) (a := b34) at_146 (o_w hw 79 rfl) (o_w hw 80 rfl) (o_w hw 82 rfl) (o_w hw 81 rfl) (o_w hw 2 rfl) (o_w hw 83 rfl) (by decide) E151 (ra10_14 l Z a0 hw b34 b88 p0 p1 h147 n0 X164.ge0 ge42 ge95 ne_b34_b88 E151 F152 F153 F154 F155 F156 F157 G8J101) (by decide) 0 rfl (by decide) rfl (lenOf pd_10 rfl) rfl rfl (by decide) (by decide) fun T168 X169 => ?_
      show own_Go p e below _ (T168.setTop (mkF m 149 #[.val (.int p0), .val (.int p1), .val (.int p2), .val (.int p3), .val (.int p4), .val (.ref b34), .val (.ref b80), .val (.ref b88), .val (.ref bs), .val (.ref b88)] [(.ref b88)]))
      refine o_aload cx X169 at_149 rfl rfl ?_
      refine o_acmp cx X169 154 true at_151 rfl rfl (decide_eq_true rfl) (by decide) (by decide) ?_
      refine o_aload cx X169 at_154 rfl rfl ?_
      refine o_callVp cx X169 (y' := (⟨"com/example/bulla/bulla/xml/StreamedElement", "namespace", "()Ljava/lang/String;"⟩ : MethodName)) (argsL := []) (st := []) (a := b34) at_156 (o_w hw 84 rfl) (o_w hw 85 rfl) (o_w hw 87 rfl) (o_w hw 86 rfl) (o_w hw 2 rfl) (o_w hw 88 rfl) (by decide) E151 (ra11_15 l Z a0 hw b34 b88 p0 p1 h147 n0 X169.ge0 ge42 ge95 ne_b34_b88 E151 F152 F153 F154 F155 F156 F157 G8J101) (by decide) 0 rfl (by decide) rfl (lenOf pd_11 rfl) rfl rfl (by decide) (by decide) fun T173 X174 => ?_
      show own_Go p e below _ (T173.setTop (mkF m 159 #[.val (.int p0), .val (.int p1), .val (.int p2), .val (.int p3), .val (.int p4), .val (.ref b34), .val (.ref b80), .val (.ref b88), .val (.ref bs), .val (.ref b88)] [.null]))
      refine o_ifnonnullNo cx X174 at_159 ?_
      refine o_aload cx X174 at_162 rfl rfl ?_
      refine o_callVp cx X174 (y' := (⟨"com/example/bulla/bulla/xml/StreamedElement", "declarationCount", "()I"⟩ : MethodName)) (argsL := []) (st := []) (a := b34) at_164 (o_w hw 89 rfl) (o_w hw 90 rfl) (o_w hw 92 rfl) (o_w hw 91 rfl) (o_w hw 2 rfl) (o_w hw 93 rfl) (by decide) E151 (ra12_16 l Z a0 hw b34 b88 p0 p1 h147 n0 X174.ge0 ge42 ge95 ne_b34_b88 E151 F152 F153 F154 F155 F156 F157 G8J101) (by decide) 0 rfl (by decide) rfl (lenOf pd_12 rfl) rfl rfl (by decide) (by decide) fun T178 X179 => ?_
      show own_Go p e below _ (T178.setTop (mkF m 167 #[.val (.int p0), .val (.int p1), .val (.int p2), .val (.int p3), .val (.int p4), .val (.ref b34), .val (.ref b80), .val (.ref b88), .val (.ref bs), .val (.ref b88)] [(.int (0 : Int32))]))
      refine o_ifNo cx X179 at_167 (by decide) ?_
      refine o_aload cx X179 at_170 rfl rfl ?_
      refine o_callVp cx X179 (y' := (⟨"com/example/bulla/bulla/xml/StreamedElement", "attributeCount", "()I"⟩ : MethodName)) (argsL := []) (st := []) (a := b34) at_172 (o_w hw 94 rfl) (o_w hw 95 rfl) (o_w hw 97 rfl) (o_w hw 96 rfl) (o_w hw 2 rfl) (o_w hw 98 rfl) (by decide) E151 (ra13_17 l Z a0 hw b34 b88 p0 p1 h147 n0 X179.ge0 ge42 ge95 ne_b34_b88 E151 F152 F153 F154 F155 F156 F157 G8J101) (by decide) 0 rfl (by decide) rfl (lenOf pd_13 rfl) rfl rfl (by decide) (by decide) fun T183 X184 => ?_
      show own_Go p e below _ (T183.setTop (mkF m 175 #[.val (.int p0), .val (.int p1), .val (.int p2), .val (.int p3), .val (.int p4), .val (.ref b34), .val (.ref b80), .val (.ref b88), .val (.ref bs), .val (.ref b88)] [(.int (0 : Int32))]))
      refine o_ifNo cx X184 at_175 (by decide) ?_
      refine o_iconst cx X184 (z := (1 : Int32)) at_178 rfl ?_
      refine o_goto cx X184 183 at_179 (by decide) (by decide) ?_
      exact o_retN cx X184 (z' := (1 : Int32)) at_183 (by simp) rfl rfl (by decide) (by decide)
  have J80 : ∀ (TJ80 : State) (hJ80 : Heap) (u0J80 u1J80 u2J80 u3J80 u4J80 : Value), own_Sd p l e room_1 s m #[(.int p0), (.int p1), (.int p2), (.int p3), (.int p4)] below meth c n0 TJ80 hJ80 13 129 → Exa Z hJ80 b34 "com/example/bulla/bulla/xml/StreamedElement" → Fld Z hJ80 b34 "com/example/bulla/bulla/xml/StreamedElement" "attributeNames" "[Ljava/lang/String;" (.ref b50) → Fld Z hJ80 b34 "com/example/bulla/bulla/xml/StreamedElement" "attributePrefixes" "[Ljava/lang/String;" (.ref b51) → Fld Z hJ80 b34 "com/example/bulla/bulla/xml/StreamedElement" "attributeLocalNames" "[Ljava/lang/String;" (.ref b52) → Fld Z hJ80 b34 "com/example/bulla/bulla/xml/StreamedElement" "attributeNamespaces" "[Ljava/lang/String;" (.ref b53) → Fld Z hJ80 b34 "com/example/bulla/bulla/xml/StreamedElement" "valueStarts" "[I" (.ref b54) → Fld Z hJ80 b34 "com/example/bulla/bulla/xml/StreamedElement" "valueEnds" "[I" (.ref b55) → Fld Z hJ80 b34 "com/example/bulla/bulla/xml/StreamedElement" "depth" "I" u0J80 → Fld Z hJ80 b34 "com/example/bulla/bulla/xml/StreamedElement" "ordinal" "I" u1J80 → Fld Z hJ80 b34 "com/example/bulla/bulla/xml/StreamedElement" "values" "[B" u2J80 → Fld Z hJ80 b34 "com/example/bulla/bulla/xml/StreamedElement" "namespace" "Ljava/lang/String;" u3J80 → Fld Z hJ80 b34 "com/example/bulla/bulla/xml/StreamedElement" "declarationCount" "I" u4J80 → Fld Z hJ80 b34 "com/example/bulla/bulla/xml/StreamedElement" "attributeCount" "I" (.int (0 : Int32)) → own_Rr Z hJ80 b50 "java/lang/String" [.null, .null, .null, .null, .null, .null, .null, .null, .null, .null, .null, .null, .null, .null, .null, .null] → own_Rr Z hJ80 b51 "java/lang/String" [.null, .null, .null, .null, .null, .null, .null, .null, .null, .null, .null, .null, .null, .null, .null, .null] → own_Rr Z hJ80 b52 "java/lang/String" [.null, .null, .null, .null, .null, .null, .null, .null, .null, .null, .null, .null, .null, .null, .null, .null] → own_Rr Z hJ80 b53 "java/lang/String" [.null, .null, .null, .null, .null, .null, .null, .null, .null, .null, .null, .null, .null, .null, .null, .null] → own_Ar Z hJ80 b54 .int [(.int (0 : Int32)), (.int (0 : Int32)), (.int (0 : Int32)), (.int (0 : Int32)), (.int (0 : Int32)), (.int (0 : Int32)), (.int (0 : Int32)), (.int (0 : Int32)), (.int (0 : Int32)), (.int (0 : Int32)), (.int (0 : Int32)), (.int (0 : Int32)), (.int (0 : Int32)), (.int (0 : Int32)), (.int (0 : Int32)), (.int (0 : Int32))] → own_Ar Z hJ80 b55 .int [(.int (0 : Int32)), (.int (0 : Int32)), (.int (0 : Int32)), (.int (0 : Int32)), (.int (0 : Int32)), (.int (0 : Int32)), (.int (0 : Int32)), (.int (0 : Int32)), (.int (0 : Int32)), (.int (0 : Int32)), (.int (0 : Int32)), (.int (0 : Int32)), (.int (0 : Int32)), (.int (0 : Int32)), (.int (0 : Int32)), (.int (0 : Int32))] → own_Ar Z hJ80 b80 .byte [(.int (0 : Int32))] → own_Ar Z hJ80 b88 .byte [(.int (0 : Int32)), (.int (0 : Int32))] → Exa Z hJ80 bs "java/lang/String" → own_Go p e below (own_End below s room_1 n0 (fun v' _ => v' = some (.int 1))) (TJ80.setTop (mkF m 80 #[.val (.int p0), .val (.int p1), .val (.int p2), .val (.int p3), .val (.int p4), .val (.ref b34), .val (.ref b80), .val (.ref b88), .val (.ref bs), .unset] [])) := by
    intro TJ80 hJ80 u0J80 u1J80 u2J80 u3J80 u4J80 XJ80 G0J80 G1J80 G2J80 G3J80 G4J80 G5J80 G6J80 G7J80 G8J80 G9J80 G10J80 G11J80 G12J80 G13J80 G14J80 G15J80 G16J80 G17J80 G18J80 G19J80 G20J80 G21J80
    refine o_iload cx XJ80 at_80 rfl ?_
    refine o_bipush cx XJ80 (z := (8 : Int32)) at_82 rfl ?_
    refine o_iand cx XJ80 at_84 rfl ?_
    by_cases hc188 : (p4 &&& (8 : Int32)) = (0 : Int32)
    · refine o_ifYes cx XJ80 101 at_85 ((if0 _ _).trans (teq hc188).1) (by decide) (by decide) ?_
      exact J101 _ _ _ _ _ _ _ _ (XJ80.more (by decide) (by decide)) G0J80 G7J80 G8J80 G9J80 G10J80 G11J80 G12J80 G19J80 G20J80 G21J80
    · refine o_ifNo cx XJ80 at_85 ((if0 _ _).trans (feq hc188).1) ?_
      refine o_aload cx XJ80 at_88 rfl rfl ?_
      refine o_aload cx XJ80 at_90 rfl rfl ?_
      refine o_aload cx XJ80 at_92 rfl rfl ?_
      refine o_aload cx XJ80 at_94 rfl rfl ?_
      refine o_iconst cx XJ80 (z := (0 : Int32)) at_96 rfl ?_
      refine o_iconst cx XJ80 (z := (1 : Int32)) at_97 rfl ?_
      refine o_callV cx XJ80 (y' := (⟨"com/example/bulla/bulla/xml/StreamedElement", "addAttribute", "(Ljava/lang/String;Ljava/lang/String;Ljava/lang/String;II)V"⟩ : MethodName)) (argsL := [(.ref bs), (.ref bs), (.ref bs), (.int (0 : Int32)), (.int (1 : Int32))]) (st := []) (a := b34) at_98 (o_w hw 109 rfl) (o_w hw 110 rfl) (o_w hw 112 rfl) (o_w hw 111 rfl) (o_w hw 2 rfl) (o_w hw 113 rfl) (by decide) G0J80 (ra16_18 l Z a0 hw b34 b50 b51 b52 b53 b54 b55 bs u0J80 u1J80 u2J80 u3J80 u4J80 hJ80 n0 XJ80.ge0 ge42 ge_b50 ge_b51 ge_b52 ge_b53 ge_b54 ge_b55 ges ne_b34_b50 ne_b34_b51 ne_b34_b52 ne_b34_b53 ne_b34_b54 ne_b34_b55 ne_b34_bs ne_b50_b51 ne_b50_b52 ne_b50_b53 ne_b50_b54 ne_b50_b55 ne_b50_bs ne_b51_b52 ne_b51_b53 ne_b51_b54 ne_b51_b55 ne_b51_bs ne_b52_b53 ne_b52_b54 ne_b52_b55 ne_b52_bs ne_b53_b54 ne_b53_b55 ne_b53_bs ne_b54_b55 ne_b54_bs ne_b55_bs G0J80 G1J80 G2J80 G3J80 G4J80 G5J80 G6J80 G7J80 G8J80 G9J80 G10J80 G11J80 G12J80 G13J80 G14J80 G15J80 G16J80 G17J80 G18J80 G21J80) (by decide) 0 rfl (by decide) rfl (lenOf pd_16 rfl) rfl rfl (by decide) (by decide) fun v192 T189 h191 X190 Q193 => ?_
      obtain ⟨rfl, K194, E195, F196, F197, F198, F199, F200, F201, F202, F203, F204, F205, F206, F207, A208, A209, A210, A211, A212, A213⟩ := Q193
      have G19J80 := G19J80.keep K194 (ninS (Ne.symm ne_b50_b80) (ninS (Ne.symm ne_b51_b80) (ninS (Ne.symm ne_b52_b80) (ninS (Ne.symm ne_b53_b80) (ninS (Ne.symm ne_b54_b80) (ninS (Ne.symm ne_b34_b80) (ninS (Ne.symm ne_b55_b80) nin0)))))))
      have G20J80 := G20J80.keep K194 (ninS (Ne.symm ne_b50_b88) (ninS (Ne.symm ne_b51_b88) (ninS (Ne.symm ne_b52_b88) (ninS (Ne.symm ne_b53_b88) (ninS (Ne.symm ne_b54_b88) (ninS (Ne.symm ne_b34_b88) (ninS (Ne.symm ne_b55_b88) nin0)))))))
      have G21J80 := G21J80.keep K194
      show own_Go p e below _ (T189.setTop (mkF m 101 #[.val (.int p0), .val (.int p1), .val (.int p2), .val (.int p3), .val (.int p4), .val (.ref b34), .val (.ref b80), .val (.ref b88), .val (.ref bs), .unset] []))
      exact J101 _ _ _ _ _ _ _ _ (X190.more (by decide) (by decide)) E195 F202 F203 F204 F205 F206 F207 G19J80 G20J80 G21J80
  have J64 : ∀ (TJ64 : State) (hJ64 : Heap) (u0J64 u1J64 u2J64 u3J64 : Value), own_Sd p l e room_1 s m #[(.int p0), (.int p1), (.int p2), (.int p3), (.int p4)] below meth c n0 TJ64 hJ64 13 129 → Exa Z hJ64 b34 "com/example/bulla/bulla/xml/StreamedElement" → Fld Z hJ64 b34 "com/example/bulla/bulla/xml/StreamedElement" "declaredPrefixes" "[Ljava/lang/String;" (.ref b48) → Fld Z hJ64 b34 "com/example/bulla/bulla/xml/StreamedElement" "declaredNamespaces" "[Ljava/lang/String;" (.ref b49) → Fld Z hJ64 b34 "com/example/bulla/bulla/xml/StreamedElement" "attributeNames" "[Ljava/lang/String;" (.ref b50) → Fld Z hJ64 b34 "com/example/bulla/bulla/xml/StreamedElement" "attributePrefixes" "[Ljava/lang/String;" (.ref b51) → Fld Z hJ64 b34 "com/example/bulla/bulla/xml/StreamedElement" "attributeLocalNames" "[Ljava/lang/String;" (.ref b52) → Fld Z hJ64 b34 "com/example/bulla/bulla/xml/StreamedElement" "attributeNamespaces" "[Ljava/lang/String;" (.ref b53) → Fld Z hJ64 b34 "com/example/bulla/bulla/xml/StreamedElement" "valueStarts" "[I" (.ref b54) → Fld Z hJ64 b34 "com/example/bulla/bulla/xml/StreamedElement" "valueEnds" "[I" (.ref b55) → Fld Z hJ64 b34 "com/example/bulla/bulla/xml/StreamedElement" "depth" "I" u0J64 → Fld Z hJ64 b34 "com/example/bulla/bulla/xml/StreamedElement" "ordinal" "I" u1J64 → Fld Z hJ64 b34 "com/example/bulla/bulla/xml/StreamedElement" "values" "[B" u2J64 → Fld Z hJ64 b34 "com/example/bulla/bulla/xml/StreamedElement" "namespace" "Ljava/lang/String;" u3J64 → Fld Z hJ64 b34 "com/example/bulla/bulla/xml/StreamedElement" "declarationCount" "I" (.int (0 : Int32)) → Fld Z hJ64 b34 "com/example/bulla/bulla/xml/StreamedElement" "attributeCount" "I" (.int (0 : Int32)) → own_Rr Z hJ64 b48 "java/lang/String" [.null, .null, .null, .null] → own_Rr Z hJ64 b49 "java/lang/String" [.null, .null, .null, .null] → own_Rr Z hJ64 b50 "java/lang/String" [.null, .null, .null, .null, .null, .null, .null, .null, .null, .null, .null, .null, .null, .null, .null, .null] → own_Rr Z hJ64 b51 "java/lang/String" [.null, .null, .null, .null, .null, .null, .null, .null, .null, .null, .null, .null, .null, .null, .null, .null] → own_Rr Z hJ64 b52 "java/lang/String" [.null, .null, .null, .null, .null, .null, .null, .null, .null, .null, .null, .null, .null, .null, .null, .null] → own_Rr Z hJ64 b53 "java/lang/String" [.null, .null, .null, .null, .null, .null, .null, .null, .null, .null, .null, .null, .null, .null, .null, .null] → own_Ar Z hJ64 b54 .int [(.int (0 : Int32)), (.int (0 : Int32)), (.int (0 : Int32)), (.int (0 : Int32)), (.int (0 : Int32)), (.int (0 : Int32)), (.int (0 : Int32)), (.int (0 : Int32)), (.int (0 : Int32)), (.int (0 : Int32)), (.int (0 : Int32)), (.int (0 : Int32)), (.int (0 : Int32)), (.int (0 : Int32)), (.int (0 : Int32)), (.int (0 : Int32))] → own_Ar Z hJ64 b55 .int [(.int (0 : Int32)), (.int (0 : Int32)), (.int (0 : Int32)), (.int (0 : Int32)), (.int (0 : Int32)), (.int (0 : Int32)), (.int (0 : Int32)), (.int (0 : Int32)), (.int (0 : Int32)), (.int (0 : Int32)), (.int (0 : Int32)), (.int (0 : Int32)), (.int (0 : Int32)), (.int (0 : Int32)), (.int (0 : Int32)), (.int (0 : Int32))] → own_Ar Z hJ64 b80 .byte [(.int (0 : Int32))] → own_Ar Z hJ64 b88 .byte [(.int (0 : Int32)), (.int (0 : Int32))] → Exa Z hJ64 bs "java/lang/String" → own_Go p e below (own_End below s room_1 n0 (fun v' _ => v' = some (.int 1))) (TJ64.setTop (mkF m 64 #[.val (.int p0), .val (.int p1), .val (.int p2), .val (.int p3), .val (.int p4), .val (.ref b34), .val (.ref b80), .val (.ref b88), .val (.ref bs), .unset] [])) := by
    intro TJ64 hJ64 u0J64 u1J64 u2J64 u3J64 XJ64 G0J64 G1J64 G2J64 G3J64 G4J64 G5J64 G6J64 G7J64 G8J64 G9J64 G10J64 G11J64 G12J64 G13J64 G14J64 G15J64 G16J64 G17J64 G18J64 G19J64 G20J64 G21J64 G22J64 G23J64 G24J64 G25J64
    refine o_iload cx XJ64 at_64 rfl ?_
    refine o_iconst cx XJ64 (z := (4 : Int32)) at_66 rfl ?_
    refine o_iand cx XJ64 at_67 rfl ?_
    by_cases hc214 : (p4 &&& (4 : Int32)) = (0 : Int32)
    · refine o_ifYes cx XJ64 80 at_68 ((if0 _ _).trans (teq hc214).1) (by decide) (by decide) ?_
      exact J80 _ _ _ _ _ _ _ (XJ64.more (by decide) (by decide)) G0J64 G3J64 G4J64 G5J64 G6J64 G7J64 G8J64 G9J64 G10J64 G11J64 G12J64 G13J64 G14J64 G17J64 G18J64 G19J64 G20J64 G21J64 G22J64 G23J64 G24J64 G25J64
    · refine o_ifNo cx XJ64 at_68 ((if0 _ _).trans (feq hc214).1) ?_
      refine o_aload cx XJ64 at_71 rfl rfl ?_
      refine o_aload cx XJ64 at_73 rfl rfl ?_
      refine o_aload cx XJ64 at_75 rfl rfl ?_
      refine o_callV cx XJ64 (y' := (⟨"com/example/bulla/bulla/xml/StreamedElement", "addDeclaration", "(Ljava/lang/String;Ljava/lang/String;)V"⟩ : MethodName)) (argsL := [(.ref bs), (.ref bs)]) (st := []) (a := b34) at_77 (o_w hw 104 rfl) (o_w hw 105 rfl) (o_w hw 107 rfl) (o_w hw 106 rfl) (o_w hw 2 rfl) (o_w hw 108 rfl) (by decide) G0J64 (ra15_19 l Z a0 hw b34 b48 b49 b50 b51 b52 b53 b54 b55 bs u0J64 u1J64 u2J64 u3J64 hJ64 n0 XJ64.ge0 ge42 ge_b48 ge_b49 ge_b50 ge_b51 ge_b52 ge_b53 ge_b54 ge_b55 ges ne_b34_b48 ne_b34_b49 ne_b34_b50 ne_b34_b51 ne_b34_b52 ne_b34_b53 ne_b34_b54 ne_b34_b55 ne_b34_bs ne_b48_b49 ne_b48_b50 ne_b48_b51 ne_b48_b52 ne_b48_b53 ne_b48_b54 ne_b48_b55 ne_b48_bs ne_b49_b50 ne_b49_b51 ne_b49_b52 ne_b49_b53 ne_b49_b54 ne_b49_b55 ne_b49_bs ne_b50_b51 ne_b50_b52 ne_b50_b53 ne_b50_b54 ne_b50_b55 ne_b50_bs ne_b51_b52 ne_b51_b53 ne_b51_b54 ne_b51_b55 ne_b51_bs ne_b52_b53 ne_b52_b54 ne_b52_b55 ne_b52_bs ne_b53_b54 ne_b53_b55 ne_b53_bs ne_b54_b55 ne_b54_bs ne_b55_bs G0J64 G1J64 G2J64 G3J64 G4J64 G5J64 G6J64 G7J64 G8J64 G9J64 G10J64 G11J64 G12J64 G13J64 G14J64 G15J64 G16J64 G17J64 G18J64 G19J64 G20J64 G21J64 G22J64 G25J64) (by decide) 0 rfl (by decide) rfl (lenOf pd_15 rfl) rfl rfl (by decide) (by decide) fun v218 T215 h217 X216 Q219 => ?_
      obtain ⟨rfl, K220, E221, F222, F223, F224, F225, F226, F227, F228, F229, F230, F231, F232, F233, F234, F235, A236, A237⟩ := Q219
      have G17J64 := G17J64.keep K220 (ninS (Ne.symm ne_b48_b50) (ninS (Ne.symm ne_b34_b50) (ninS (Ne.symm ne_b49_b50) nin0)))
      have G18J64 := G18J64.keep K220 (ninS (Ne.symm ne_b48_b51) (ninS (Ne.symm ne_b34_b51) (ninS (Ne.symm ne_b49_b51) nin0)))
      have G19J64 := G19J64.keep K220 (ninS (Ne.symm ne_b48_b52) (ninS (Ne.symm ne_b34_b52) (ninS (Ne.symm ne_b49_b52) nin0)))
      have G20J64 := G20J64.keep K220 (ninS (Ne.symm ne_b48_b53) (ninS (Ne.symm ne_b34_b53) (ninS (Ne.symm ne_b49_b53) nin0)))
      have G21J64 := G21J64.keep K220 (ninS (Ne.symm ne_b48_b54) (ninS (Ne.symm ne_b34_b54) (ninS (Ne.symm ne_b49_b54) nin0)))
      have G22J64 := G22J64.keep K220 (ninS (Ne.symm ne_b48_b55) (ninS (Ne.symm ne_b34_b55) (ninS (Ne.symm ne_b49_b55) nin0)))
      have G23J64 := G23J64.keep K220 (ninS (Ne.symm ne_b48_b80) (ninS (Ne.symm ne_b34_b80) (ninS (Ne.symm ne_b49_b80) nin0)))
      have G24J64 := G24J64.keep K220 (ninS (Ne.symm ne_b48_b88) (ninS (Ne.symm ne_b34_b88) (ninS (Ne.symm ne_b49_b88) nin0)))
      have G25J64 := G25J64.keep K220
      show own_Go p e below _ (T215.setTop (mkF m 80 #[.val (.int p0), .val (.int p1), .val (.int p2), .val (.int p3), .val (.int p4), .val (.ref b34), .val (.ref b80), .val (.ref b88), .val (.ref bs), .unset] []))
      exact J80 _ _ _ _ _ _ _ (X216.more (by decide) (by decide)) E221 F224 F225 F226 F227 F228 F229 F230 F231 F232 F233 F234 F235 G17J64 G18J64 G19J64 G20J64 G21J64 G22J64 G23J64 G24J64 G25J64
  have J50 : ∀ (TJ50 : State) (hJ50 : Heap) (u0J50 u1J50 u2J50 u3J50 : Value), own_Sd p l e room_1 s m #[(.int p0), (.int p1), (.int p2), (.int p3), (.int p4)] below meth c n0 TJ50 hJ50 13 129 → Exa Z hJ50 b34 "com/example/bulla/bulla/xml/StreamedElement" → Fld Z hJ50 b34 "com/example/bulla/bulla/xml/StreamedElement" "declaredPrefixes" "[Ljava/lang/String;" (.ref b48) → Fld Z hJ50 b34 "com/example/bulla/bulla/xml/StreamedElement" "declaredNamespaces" "[Ljava/lang/String;" (.ref b49) → Fld Z hJ50 b34 "com/example/bulla/bulla/xml/StreamedElement" "attributeNames" "[Ljava/lang/String;" (.ref b50) → Fld Z hJ50 b34 "com/example/bulla/bulla/xml/StreamedElement" "attributePrefixes" "[Ljava/lang/String;" (.ref b51) → Fld Z hJ50 b34 "com/example/bulla/bulla/xml/StreamedElement" "attributeLocalNames" "[Ljava/lang/String;" (.ref b52) → Fld Z hJ50 b34 "com/example/bulla/bulla/xml/StreamedElement" "attributeNamespaces" "[Ljava/lang/String;" (.ref b53) → Fld Z hJ50 b34 "com/example/bulla/bulla/xml/StreamedElement" "valueStarts" "[I" (.ref b54) → Fld Z hJ50 b34 "com/example/bulla/bulla/xml/StreamedElement" "valueEnds" "[I" (.ref b55) → Fld Z hJ50 b34 "com/example/bulla/bulla/xml/StreamedElement" "depth" "I" u0J50 → Fld Z hJ50 b34 "com/example/bulla/bulla/xml/StreamedElement" "ordinal" "I" u1J50 → Fld Z hJ50 b34 "com/example/bulla/bulla/xml/StreamedElement" "values" "[B" u2J50 → Fld Z hJ50 b34 "com/example/bulla/bulla/xml/StreamedElement" "namespace" "Ljava/lang/String;" u3J50 → Fld Z hJ50 b34 "com/example/bulla/bulla/xml/StreamedElement" "declarationCount" "I" (.int (0 : Int32)) → Fld Z hJ50 b34 "com/example/bulla/bulla/xml/StreamedElement" "attributeCount" "I" (.int (0 : Int32)) → own_Rr Z hJ50 b48 "java/lang/String" [.null, .null, .null, .null] → own_Rr Z hJ50 b49 "java/lang/String" [.null, .null, .null, .null] → own_Rr Z hJ50 b50 "java/lang/String" [.null, .null, .null, .null, .null, .null, .null, .null, .null, .null, .null, .null, .null, .null, .null, .null] → own_Rr Z hJ50 b51 "java/lang/String" [.null, .null, .null, .null, .null, .null, .null, .null, .null, .null, .null, .null, .null, .null, .null, .null] → own_Rr Z hJ50 b52 "java/lang/String" [.null, .null, .null, .null, .null, .null, .null, .null, .null, .null, .null, .null, .null, .null, .null, .null] → own_Rr Z hJ50 b53 "java/lang/String" [.null, .null, .null, .null, .null, .null, .null, .null, .null, .null, .null, .null, .null, .null, .null, .null] → own_Ar Z hJ50 b54 .int [(.int (0 : Int32)), (.int (0 : Int32)), (.int (0 : Int32)), (.int (0 : Int32)), (.int (0 : Int32)), (.int (0 : Int32)), (.int (0 : Int32)), (.int (0 : Int32)), (.int (0 : Int32)), (.int (0 : Int32)), (.int (0 : Int32)), (.int (0 : Int32)), (.int (0 : Int32)), (.int (0 : Int32)), (.int (0 : Int32)), (.int (0 : Int32))] → own_Ar Z hJ50 b55 .int [(.int (0 : Int32)), (.int (0 : Int32)), (.int (0 : Int32)), (.int (0 : Int32)), (.int (0 : Int32)), (.int (0 : Int32)), (.int (0 : Int32)), (.int (0 : Int32)), (.int (0 : Int32)), (.int (0 : Int32)), (.int (0 : Int32)), (.int (0 : Int32)), (.int (0 : Int32)), (.int (0 : Int32)), (.int (0 : Int32)), (.int (0 : Int32))] → own_Ar Z hJ50 b80 .byte [(.int (0 : Int32))] → own_Ar Z hJ50 b88 .byte [(.int (0 : Int32)), (.int (0 : Int32))] → Exa Z hJ50 bs "java/lang/String" → own_Go p e below (own_End below s room_1 n0 (fun v' _ => v' = some (.int 1))) (TJ50.setTop (mkF m 50 #[.val (.int p0), .val (.int p1), .val (.int p2), .val (.int p3), .val (.int p4), .val (.ref b34), .val (.ref b80), .val (.ref b88), .val (.ref bs), .unset] [])) := by
    intro TJ50 hJ50 u0J50 u1J50 u2J50 u3J50 XJ50 G0J50 G1J50 G2J50 G3J50 G4J50 G5J50 G6J50 G7J50 G8J50 G9J50 G10J50 G11J50 G12J50 G13J50 G14J50 G15J50 G16J50 G17J50 G18J50 G19J50 G20J50 G21J50 G22J50 G23J50 G24J50 G25J50
    refine o_iload cx XJ50 at_50 rfl ?_
    refine o_iconst cx XJ50 (z := (2 : Int32)) at_52 rfl ?_
    refine o_iand cx XJ50 at_53 rfl ?_
    by_cases hc238 : (p4 &&& (2 : Int32)) = (0 : Int32)
    · refine o_ifYes cx XJ50 64 at_54 ((if0 _ _).trans (teq hc238).1) (by decide) (by decide) ?_
      exact J64 _ _ _ _ _ _ (XJ50.more (by decide) (by decide)) G0J50 G1J50 G2J50 G3J50 G4J50 G5J50 G6J50 G7J50 G8J50 G9J50 G10J50 G11J50 G12J50 G13J50 G14J50 G15J50 G16J50 G17J50 G18J50 G19J50 G20J50 G21J50 G22J50 G23J50 G24J50 G25J50
    · refine o_ifNo cx XJ50 at_54 ((if0 _ _).trans (feq hc238).1) ?_
      refine o_aload cx XJ50 at_57 rfl rfl ?_
      refine o_aload cx XJ50 at_59 rfl rfl ?_
      refine o_callV cx XJ50 (y' := (⟨"com/example/bulla/bulla/xml/StreamedElement", "setNamespace", "(Ljava/lang/String;)V"⟩ : MethodName)) (argsL := [(.ref bs)]) (st := []) (a := b34) at_61 (o_w hw 99 rfl) (o_w hw 100 rfl) (o_w hw 102 rfl) (o_w hw 101 rfl) (o_w hw 2 rfl) (o_w hw 103 rfl) (by decide) G0J50 (ra14_20 l Z a0 hw b34 b48 b49 b50 b51 b52 b53 b54 b55 bs u0J50 u1J50 u2J50 u3J50 hJ50 n0 XJ50.ge0 ge42 ge_b48 ge_b49 ge_b50 ge_b51 ge_b52 ge_b53 ge_b54 ge_b55 ges ne_b34_b48 ne_b34_b49 ne_b34_b50 ne_b34_b51 ne_b34_b52 ne_b34_b53 ne_b34_b54 ne_b34_b55 ne_b34_bs ne_b48_b49 ne_b48_b50 ne_b48_b51 ne_b48_b52 ne_b48_b53 ne_b48_b54 ne_b48_b55 ne_b48_bs ne_b49_b50 ne_b49_b51 ne_b49_b52 ne_b49_b53 ne_b49_b54 ne_b49_b55 ne_b49_bs ne_b50_b51 ne_b50_b52 ne_b50_b53 ne_b50_b54 ne_b50_b55 ne_b50_bs ne_b51_b52 ne_b51_b53 ne_b51_b54 ne_b51_b55 ne_b51_bs ne_b52_b53 ne_b52_b54 ne_b52_b55 ne_b52_bs ne_b53_b54 ne_b53_b55 ne_b53_bs ne_b54_b55 ne_b54_bs ne_b55_bs G0J50 G1J50 G2J50 G3J50 G4J50 G5J50 G6J50 G7J50 G8J50 G9J50 G10J50 G11J50 G12J50 G13J50 G14J50 G15J50 G16J50 G17J50 G18J50 G19J50 G20J50 G21J50 G22J50 G25J50) (by decide) 0 rfl (by decide) rfl (lenOf pd_14 rfl) rfl rfl (by decide) (by decide) fun v242 T239 h241 X240 Q243 => ?_
      obtain ⟨rfl, K244, E245, F246, F247, F248, F249, F250, F251, F252, F253, F254, F255, F256, F257, F258, F259⟩ := Q243
      have G15J50 := G15J50.keep K244 (ninS (Ne.symm ne_b34_b48) nin0)
      have G16J50 := G16J50.keep K244 (ninS (Ne.symm ne_b34_b49) nin0)
      have G17J50 := G17J50.keep K244 (ninS (Ne.symm ne_b34_b50) nin0)
      have G18J50 := G18J50.keep K244 (ninS (Ne.symm ne_b34_b51) nin0)
      have G19J50 := G19J50.keep K244 (ninS (Ne.symm ne_b34_b52) nin0)
      have G20J50 := G20J50.keep K244 (ninS (Ne.symm ne_b34_b53) nin0)
      have G21J50 := G21J50.keep K244 (ninS (Ne.symm ne_b34_b54) nin0)
      have G22J50 := G22J50.keep K244 (ninS (Ne.symm ne_b34_b55) nin0)
      have G23J50 := G23J50.keep K244 (ninS (Ne.symm ne_b34_b80) nin0)
      have G24J50 := G24J50.keep K244 (ninS (Ne.symm ne_b34_b88) nin0)
      have G25J50 := G25J50.keep K244
      show own_Go p e below _ (T239.setTop (mkF m 64 #[.val (.int p0), .val (.int p1), .val (.int p2), .val (.int p3), .val (.int p4), .val (.ref b34), .val (.ref b80), .val (.ref b88), .val (.ref bs), .unset] []))
      exact J64 _ _ _ _ _ _ (X240.more (by decide) (by decide)) E245 F246 F247 F248 F249 F250 F251 F252 F253 F254 F255 F256 F257 F258 F259 G15J50 G16J50 G17J50 G18J50 G19J50 G20J50 G21J50 G22J50 G23J50 G24J50 G25J50
  refine o_iload cx X97 at_34 rfl ?_
  refine o_iconst cx X97 (z := (1 : Int32)) at_36 rfl ?_
  refine o_iand cx X97 at_37 rfl ?_
  by_cases hc260 : (p4 &&& (1 : Int32)) = (0 : Int32)
  · refine o_ifYes cx X97 50 at_38 ((if0 _ _).trans (teq hc260).1) (by decide) (by decide) ?_
    exact J50 _ _ _ _ _ _ (X97.more (by decide) (by decide)) E57 F58 F59 F60 F61 F62 F63 F64 F65 F66 F67 F68 F69 F70 F71 A72 A73 A74 A75 A76 A77 A78 A79 A85 A93 Es
  · refine o_ifNo cx X97 at_38 ((if0 _ _).trans (feq hc260).1) ?_
    refine o_aload cx X97 at_41 rfl rfl ?_
    refine o_iloadN cx X97 at_43 rfl ?_
    refine o_iloadN cx X97 at_44 rfl ?_
    refine o_aload cx X97 at_45 rfl rfl ?_
    refine o_callV cx X97 (y' := (⟨"com/example/bulla/bulla/xml/StreamedElement", "start", "(II[B)V"⟩ : MethodName)) (argsL := [(.int p2), (.int p3), (.ref b80)]) (st := []) (a := b34) at_47 (o_w hw 52 rfl) (o_w hw 53 rfl) (o_w hw 55 rfl) (o_w hw 54 rfl) (o_w hw 2 rfl) (o_w hw 56 rfl) (by decide) E57 (ra7_21 l Z a0 hw b34 b48 b49 b50 b51 b52 b53 b54 b55 b80 p2 p3 h98 n0 X97.ge0 ge42 ge_b48 ge_b49 ge_b50 ge_b51 ge_b52 ge_b53 ge_b54 ge_b55 ge87 ne_b34_b48 ne_b34_b49 ne_b34_b50 ne_b34_b51 ne_b34_b52 ne_b34_b53 ne_b34_b54 ne_b34_b55 ne_b34_b80 ne_b48_b49 ne_b48_b50 ne_b48_b51 ne_b48_b52 ne_b48_b53 ne_b48_b54 ne_b48_b55 ne_b48_b80 ne_b49_b50 ne_b49_b51 ne_b49_b52 ne_b49_b53 ne_b49_b54 ne_b49_b55 ne_b49_b80 ne_b50_b51 ne_b50_b52 ne_b50_b53 ne_b50_b54 ne_b50_b55 ne_b50_b80 ne_b51_b52 ne_b51_b53 ne_b51_b54 ne_b51_b55 ne_b51_b80 ne_b52_b53 ne_b52_b54 ne_b52_b55 ne_b52_b80 ne_b53_b54 ne_b53_b55 ne_b53_b80 ne_b54_b55 ne_b54_b80 ne_b55_b80 E57 F58 F59 F60 F61 F62 F63 F64 F65 F66 F67 F68 F69 F70 F71 A72 A73 A74 A75 A76 A77 A78 A79 A85) (by decide) 0 rfl (by decide) rfl (lenOf pd_7 rfl) rfl rfl (by decide) (by decide) fun v264 T261 h263 X262 Q265 => ?_
    obtain ⟨rfl, K266, E267, F268, F269, F270, F271, F272, F273, F274, F275, F276, F277, F278, F279, F280, F281⟩ := Q265
    have A72 := A72.keep K266 (ninS (Ne.symm ne_b34_b48) nin0)
    have A73 := A73.keep K266 (ninS (Ne.symm ne_b34_b49) nin0)
    have A74 := A74.keep K266 (ninS (Ne.symm ne_b34_b50) nin0)
    have A75 := A75.keep K266 (ninS (Ne.symm ne_b34_b51) nin0)
    have A76 := A76.keep K266 (ninS (Ne.symm ne_b34_b52) nin0)
    have A77 := A77.keep K266 (ninS (Ne.symm ne_b34_b53) nin0)
    have A78 := A78.keep K266 (ninS (Ne.symm ne_b34_b54) nin0)
    have A79 := A79.keep K266 (ninS (Ne.symm ne_b34_b55) nin0)
    have A85 := A85.keep K266 (ninS (Ne.symm ne_b34_b80) nin0)
    have A93 := A93.keep K266 (ninS (Ne.symm ne_b34_b88) nin0)
    have Es := Es.keep K266
    show own_Go p e below _ (T261.setTop (mkF m 50 #[.val (.int p0), .val (.int p1), .val (.int p2), .val (.int p3), .val (.int p4), .val (.ref b34), .val (.ref b80), .val (.ref b88), .val (.ref bs), .unset] []))
    exact J50 _ _ _ _ _ _ (X262.more (by decide) (by decide)) E267 F268 F269 F270 F271 F272 F273 F274 F275 F276 F277 F278 F279 F280 F281 A72 A73 A74 A75 A76 A77 A78 A79 A85 A93 Es
set_option maxRecDepth 65536 in
set_option maxHeartbeats 40000000 in
theorem comes_1 {Post : Tables → Env → Array Value → State → Outcome → State → Prop} (hpost : ∀ tb e args s v u, (limb_1_1.after args s (.returned v) u = true ∧ limb_1_2.after args s (.returned v) u = true ∧ True) → FrameEnd s (.returned v) u (Jvm.fieldLocs frame_1_writes args s ++ Jvm.arrayLocs frame_1_arrays args s ++ Jvm.staticLocs frame_1_statics s) 40 384 → Post tb e args s (.returned v) u) :
    ArmFor flags0 classFile x code maxLocals ret World_1 tables_1 room_1 Calls_1 rest_1 Pre_1 Post := by
  intro l hfl _ _ p e ha hc hk s m args below hf hA hF happ hP
  obtain ⟨hcalls, hrest, hpre⟩ := hP
  obtain ⟨-, -, -, hnamed, -, -, -, hat⟩ := (Spec.applies_iff hf).mp happ
  obtain ⟨hg, hn⟩ := and_e (Cond.before_iff.mp (show (Jvm.Cond.and given_1 narrow_1).before args s = true from hpre))
  obtain ⟨q0, g0⟩ := and_e hg
  obtain ⟨q1, g1⟩ := and_e g0
  obtain ⟨q2, g2⟩ := and_e g1
  obtain ⟨q3, g3⟩ := and_e g2
  obtain ⟨q4, g4⟩ := and_e g3
  obtain ⟨w0, w1, w2, w3, w4, rfl⟩ : ∃ w0 w1 w2 w3 w4 : Value, args = #[w0, w1, w2, w3, w4] := by
    have hs : args.size = 5 := by simpa [Cond.value, given_1] using q0
    obtain ⟨L⟩ := args
    match L, hs with
    | [w0, w1, w2, w3, w4], _ => exact ⟨w0, w1, w2, w3, w4, rfl⟩
  have hw := fun d (hd : d ∈ tables_1) => atoms_spec (ws := Jvm.Cond.code x code maxLocals ret :: tables_1) hat d (List.mem_cons_of_mem _ hd)
  obtain ⟨i0, ei0⟩ := is_v q1
  obtain rfl : w0 = (.int i0) := Option.some.inj ei0
  obtain ⟨i1, ei1⟩ := is_v q2
  obtain rfl : w1 = (.int i1) := Option.some.inj ei1
  obtain ⟨i2, ei2⟩ := is_v q3
  obtain rfl : w2 = (.int i2) := Option.some.inj ei2
  obtain ⟨i3, ei3⟩ := is_v q4
  obtain rfl : w3 = (.int i3) := Option.some.inj ei3
  obtain ⟨i4, ei4⟩ := is_v g4
  obtain rfl : w4 = (.int i4) := Option.some.inj ei4
  obtain ⟨hsets, hown0⟩ := atoms_of _ (rest_1_c_eq ▸ (show rest_1_c.before _ s = true from hrest))
  obtain ⟨cs, ecs⟩ := is_v (Cond.before_iff.mp (hsets _ (List.mem_of_getElem? (i := 1) rfl)))
  have hsta : Sta s s.heap "java/lang/String" "COMPACT_STRINGS" "Z" (.int cs) := Sta.start ecs (Or.inl (hsets _ (List.mem_of_getElem? (i := 0) rfl)))
  have hcs : ¬ cs = (0 : Int32) := fun q => by
    have h2 := not_v (Cond.before_iff.mp (hsets _ (List.mem_of_getElem? (i := 2) rfl)))
    rw [q] at ecs
    have h3 := eq_i ecs (Term.int_eval (0)) rfl
    rw [h3] at h2; cases h2
  obtain ⟨n, o, h1, h2, h3, v, L, rfl, ⟨hv, _, N⟩, hq⟩ := rm0 l s _ hw i0 i1 i2 i3 i4 cs s.heap s.heap.size (Nat.le_refl _) hcs (own_St.of hsta) tables_1 p e ha hc hk s m _ below hf ((Spec.applies_iff_loose hf).mp happ).1 ⟨rfl, State.Warmed39.refl s, rfl⟩ trivial
  obtain rfl : v = some (.int 1) := hv
  refine ⟨n, _, h1, h2, h3, hpost _ _ _ _ _ _ ⟨Cond.after_iff.mpr rfl, Cond.after_iff.mpr (eq_i res_at (Term.int_eval (1)) rfl), trivial⟩ ⟨hq.1, hq.2.1, (hq.2.2.sift fun y hy => Or.inr (N y hy)).mono (by decide) (by decide)⟩⟩
theorem main_1_1 : Claimed_1_1 := comes_1 fun _ _ _ _ _ _ h hF => ⟨h.1, hF⟩
theorem main_1_2 : Claimed_1_2 := comes_1 fun _ _ _ _ _ _ h hF => ⟨h.2.1, hF⟩
end Jvm.Pilot.@@N@@
namespace Jvm.Pilot.@@N@@
open Jvm Jvm.ClassFile Sem Op Lib Jvm.Free Jvm.Stand Jvm.Pilot.@@N@@.Jvm.D
/-! MADE BY PROGRAM (witnessworld.py) out of the Statement's table words and the real class files: 18 classes; the members and pool entries that the words name. The judged class is class 1, her method 1. -/
namespace start1
open Jvm.ClassFile
def u (s : String) : CpInfo := .utf8 (stringToUtf16 s)
/-- a pool by its gaps: so many unusable entries, then the entry; so many at the end -/
def gap : Nat → List CpInfo → List CpInfo
  | 0, r => r
  | n + 1, r => .unusable :: gap n r
def poolList (es : List (Nat × CpInfo)) (last : Nat) : List CpInfo := es.foldr (fun e r => gap e.1 (e.2 :: r)) (gap last [])
def pool (es : List (Nat × CpInfo)) (last : Nat) : Array CpInfo := ⟨poolList es last⟩
def fileOf (pool : Array CpInfo) (this : Nat) (attrs : Array Attribute := #[]) (ms : Array MethodInfo := #[]) (fl : Nat := 33) (sup : Nat := 0) (ifs : Array Nat := #[]) (fds : Array FieldInfo := #[]) : ClassFile where
  minorVersion := 0
  majorVersion := 65
  constantPool := pool
  accessFlags := fl
  thisClass := this
  superClass := sup
  interfaces := ifs
  fields := fds
  methods := ms
  attributes := attrs
def plain (name : String) (sup : Option ClassId) : Class where
  name := name
  kind := .ordinary
  loader := none
  accessFlags := 33
  super := sup
  interfaces := #[]
  cf := none
  fields := #[]
  methods := #[]
  instanceTypes := #[]
  staticTypes := #[]
  resolved := #[]
  callSites := []
  init := .initialized
  statics := none
  mirror := none

def pool0 : Array CpInfo := pool [(5, u "<init>"), (0, u "()V"), (1, .class_ 10), (1, u "java/lang/Object")] 113

def k0c0 : Code := { maxStack := 0, maxLocals := 1, code := object_method_1_code, exceptionTable := #[], attributes := #[] }
def k0m0 : Method := { name := "<init>", desc := "()V", sig := { parameters := [], returnType := none }, accessFlags := 1, code := some k0c0 }
/-- java/lang/Object -/
def k0 : Class := { plain "java/lang/Object" none with
  accessFlags := 33
  interfaces := #[]
  cf := some (fileOf pool0 8 #[] #[{ accessFlags := 1, nameIndex := 5, descriptorIndex := 6, attributes := #[] }] 33 0 #[] #[])
  fields := #[]
  methods := #[k0m0]
  instanceTypes := #[]
  staticTypes := #[]
  resolved := Array.replicate 124 none
  statics := none }

def pool1 : Array CpInfo := pool [(2, .class_ 4), (0, .nameAndType 5 6), (0, u "java/lang/Object"), (0, u "<init>"), (0, u "()V"), (0, .class_ 8), (0, u "com/example/bulla/bulla/xml/StreamedElement"), (0, .methodref 7 3), (0, .methodref 11 12), (0, .class_ 13), (0, .nameAndType 14 15), (0, u "java/lang/String"), (0, u "valueOf"), (0, u "(C)Ljava/lang/String;"), (0, .methodref 7 17), (0, .nameAndType 18 19), (0, u "start"), (0, u "(II[B)V"), (0, .methodref 7 21), (0, .nameAndType 22 23), (0, u "setNamespace"), (0, u "(Ljava/lang/String;)V"), (0, .methodref 7 25), (0, .nameAndType 26 27), (0, u "addDeclaration"), (0, u "(Ljava/lang/String;Ljava/lang/String;)V"), (0, .methodref 7 29), (0, .nameAndType 30 31), (0, u "addAttribute"), (0, u "(Ljava/lang/String;Ljava/lang/String;Ljava/lang/String;II)V"), (0, .methodref 7 33), (0, .nameAndType 34 35), (0, u "depth"), (0, u "()I"), (0, .methodref 7 37), (0, .nameAndType 38 35), (0, u "ordinal"), (0, .methodref 7 40), (0, .nameAndType 41 42), (0, u "values"), (0, u "()[B"), (0, .methodref 7 44), (0, .nameAndType 45 46), (0, u "namespace"), (0, u "()Ljava/lang/String;"), (0, .methodref 7 48), (0, .nameAndType 49 35), (0, u "declarationCount"), (0, .methodref 7 51), (0, .nameAndType 52 35), (0, u "attributeCount"), (0, .class_ 54), (0, u "com/example/bulla/bulla/xml/StreamedElementStartPinLaw"), (2, u "law"), (0, u "(IIIII)Z")] 5

def k1m0 : Method := { name := "<init>", desc := "()V", sig := { parameters := [], returnType := none }, accessFlags := 1, code := none }
def k1c1 : Code := { maxStack := 6, maxLocals := 10, code := code, exceptionTable := #[], attributes := #[] }
def k1m1 : Method := { name := "law", desc := "(IIIII)Z", sig := { parameters := [.int, .int, .int, .int, .int], returnType := some .boolean }, accessFlags := 9, code := some k1c1 }
/-- com/example/bulla/bulla/xml/StreamedElementStartPinLaw -/
def k1 : Class := { plain "com/example/bulla/bulla/xml/StreamedElementStartPinLaw" (some 0) with
  accessFlags := 49
  interfaces := #[]
  cf := some (fileOf pool1 53 #[] #[{ accessFlags := 1, nameIndex := 5, descriptorIndex := 6, attributes := #[] }, { accessFlags := 9, nameIndex := 57, descriptorIndex := 58, attributes := #[] }] 49 2 #[] #[])
  fields := #[]
  methods := #[k1m0, k1m1]
  instanceTypes := #[]
  staticTypes := #[]
  resolved := Array.replicate 64 none
  statics := none }

def pool2 : Array CpInfo := pool [(1, .methodref 2 3), (0, .class_ 4), (0, .nameAndType 5 6), (0, u "java/lang/Object"), (0, u "<init>"), (0, u "()V"), (0, .class_ 8), (0, u "java/lang/String"), (0, .fieldref 10 11), (0, .class_ 12), (0, .nameAndType 13 14), (0, u "com/example/bulla/bulla/xml/StreamedElement"), (0, u "declaredPrefixes"), (0, u "[Ljava/lang/String;"), (0, .fieldref 10 16), (0, .nameAndType 17 14), (0, u "declaredNamespaces"), (0, .fieldref 10 19), (0, .nameAndType 20 14), (0, u "attributeNames"), (0, .fieldref 10 22), (0, .nameAndType 23 14), (0, u "attributePrefixes"), (0, .fieldref 10 25), (0, .nameAndType 26 14), (0, u "attributeLocalNames"), (0, .fieldref 10 28), (0, .nameAndType 29 14), (0, u "attributeNamespaces"), (0, .fieldref 10 31), (0, .nameAndType 32 33), (0, u "valueStarts"), (0, u "[I"), (0, .fieldref 10 35), (0, .nameAndType 36 33), (0, u "valueEnds"), (2, u "qualifiedName"), (0, u "Ljava/lang/String;"), (2, u "prefix"), (2, u "localName"), (0, .fieldref 10 48), (0, .nameAndType 49 40), (0, u "namespace"), (0, .fieldref 10 51), (0, .nameAndType 52 53), (0, u "depth"), (0, u "I"), (0, .fieldref 10 55), (0, .nameAndType 56 53), (0, u "ordinal"), (0, .fieldref 10 58), (0, .nameAndType 59 53), (0, u "declarationCount"), (0, .fieldref 10 61), (0, .nameAndType 62 53), (0, u "attributeCount"), (0, .fieldref 10 64), (0, .nameAndType 65 66), (0, u "values"), (0, u "[B"), (21, u "()Ljava/lang/String;"), (0, u "()I"), (8, u "()[B"), (3, u "start"), (0, u "(II[B)V"), (2, u "setNamespace"), (0, u "(Ljava/lang/String;)V"), (0, u "addDeclaration"), (0, u "(Ljava/lang/String;Ljava/lang/String;)V"), (1, u "addAttribute"), (0, u "(Ljava/lang/String;Ljava/lang/String;Ljava/lang/String;II)V")] 4

def k2c0 : Code := { maxStack := 2, maxLocals := 1, code := prog_166_method_1_code, exceptionTable := #[], attributes := #[] }
def k2m0 : Method := { name := "<init>", desc := "()V", sig := { parameters := [], returnType := none }, accessFlags := 0, code := some k2c0 }
def k2c1 : Code := { maxStack := 1, maxLocals := 1, code := prog_166_method_5_code, exceptionTable := #[], attributes := #[] }
def k2m1 : Method := { name := "namespace", desc := "()Ljava/lang/String;", sig := { parameters := [], returnType := some (.object "java/lang/String") }, accessFlags := 1, code := some k2c1 }
def k2c2 : Code := { maxStack := 1, maxLocals := 1, code := prog_166_method_6_code, exceptionTable := #[], attributes := #[] }
def k2m2 : Method := { name := "depth", desc := "()I", sig := { parameters := [], returnType := some .int }, accessFlags := 1, code := some k2c2 }
def k2c3 : Code := { maxStack := 1, maxLocals := 1, code := prog_166_method_7_code, exceptionTable := #[], attributes := #[] }
def k2m3 : Method := { name := "ordinal", desc := "()I", sig := { parameters := [], returnType := some .int }, accessFlags := 1, code := some k2c3 }
def k2c4 : Code := { maxStack := 1, maxLocals := 1, code := prog_166_method_8_code, exceptionTable := #[], attributes := #[] }
def k2m4 : Method := { name := "declarationCount", desc := "()I", sig := { parameters := [], returnType := some .int }, accessFlags := 1, code := some k2c4 }
def k2c5 : Code := { maxStack := 1, maxLocals := 1, code := prog_166_method_11_code, exceptionTable := #[], attributes := #[] }
def k2m5 : Method := { name := "attributeCount", desc := "()I", sig := { parameters := [], returnType := some .int }, accessFlags := 1, code := some k2c5 }
def k2c6 : Code := { maxStack := 1, maxLocals := 1, code := prog_166_method_17_code, exceptionTable := #[], attributes := #[] }
def k2m6 : Method := { name := "values", desc := "()[B", sig := { parameters := [], returnType := some (.array .byte) }, accessFlags := 1, code := some k2c6 }
def k2c7 : Code := { maxStack := 2, maxLocals := 4, code := prog_166_method_20_code, exceptionTable := #[], attributes := #[] }
def k2m7 : Method := { name := "start", desc := "(II[B)V", sig := { parameters := [.int, .int, (.array .byte)], returnType := none }, accessFlags := 0, code := some k2c7 }
def k2c8 : Code := { maxStack := 2, maxLocals := 2, code := prog_166_method_22_code, exceptionTable := #[], attributes := #[] }
def k2m8 : Method := { name := "setNamespace", desc := "(Ljava/lang/String;)V", sig := { parameters := [(.object "java/lang/String")], returnType := none }, accessFlags := 0, code := some k2c8 }
def k2c9 : Code := { maxStack := 5, maxLocals := 3, code := prog_166_method_23_code, exceptionTable := #[], attributes := #[] }
def k2m9 : Method := { name := "addDeclaration", desc := "(Ljava/lang/String;Ljava/lang/String;)V", sig := { parameters := [(.object "java/lang/String"), (.object "java/lang/String")], returnType := none }, accessFlags := 0, code := some k2c9 }
def k2c10 : Code := { maxStack := 5, maxLocals := 7, code := prog_166_method_24_code, exceptionTable := #[], attributes := #[] }
def k2m10 : Method := { name := "addAttribute", desc := "(Ljava/lang/String;Ljava/lang/String;Ljava/lang/String;II)V", sig := { parameters := [(.object "java/lang/String"), (.object "java/lang/String"), (.object "java/lang/String"), .int, .int], returnType := none }, accessFlags := 0, code := some k2c10 }
/-- com/example/bulla/bulla/xml/StreamedElement -/
def k2 : Class := { plain "com/example/bulla/bulla/xml/StreamedElement" (some 0) with
  accessFlags := 49
  interfaces := #[]
  cf := some (fileOf pool2 10 #[] #[{ accessFlags := 0, nameIndex := 5, descriptorIndex := 6, attributes := #[] }, { accessFlags := 1, nameIndex := 49, descriptorIndex := 88, attributes := #[] }, { accessFlags := 1, nameIndex := 52, descriptorIndex := 89, attributes := #[] }, { accessFlags := 1, nameIndex := 56, descriptorIndex := 89, attributes := #[] }, { accessFlags := 1, nameIndex := 59, descriptorIndex := 89, attributes := #[] }, { accessFlags := 1, nameIndex := 62, descriptorIndex := 89, attributes := #[] }, { accessFlags := 1, nameIndex := 65, descriptorIndex := 98, attributes := #[] }, { accessFlags := 0, nameIndex := 102, descriptorIndex := 103, attributes := #[] }, { accessFlags := 0, nameIndex := 106, descriptorIndex := 107, attributes := #[] }, { accessFlags := 0, nameIndex := 108, descriptorIndex := 109, attributes := #[] }, { accessFlags := 0, nameIndex := 111, descriptorIndex := 112, attributes := #[] }] 49 2 #[] #[{ accessFlags := 2, nameIndex := 39, descriptorIndex := 40, attributes := #[] }, { accessFlags := 2, nameIndex := 43, descriptorIndex := 40, attributes := #[] }, { accessFlags := 2, nameIndex := 46, descriptorIndex := 40, attributes := #[] }, { accessFlags := 2, nameIndex := 49, descriptorIndex := 40, attributes := #[] }, { accessFlags := 2, nameIndex := 52, descriptorIndex := 53, attributes := #[] }, { accessFlags := 2, nameIndex := 56, descriptorIndex := 53, attributes := #[] }, { accessFlags := 2, nameIndex := 59, descriptorIndex := 53, attributes := #[] }, { accessFlags := 2, nameIndex := 13, descriptorIndex := 14, attributes := #[] }, { accessFlags := 2, nameIndex := 17, descriptorIndex := 14, attributes := #[] }, { accessFlags := 2, nameIndex := 62, descriptorIndex := 53, attributes := #[] }, { accessFlags := 2, nameIndex := 20, descriptorIndex := 14, attributes := #[] }, { accessFlags := 2, nameIndex := 23, descriptorIndex := 14, attributes := #[] }, { accessFlags := 2, nameIndex := 26, descriptorIndex := 14, attributes := #[] }, { accessFlags := 2, nameIndex := 29, descriptorIndex := 14, attributes := #[] }, { accessFlags := 2, nameIndex := 32, descriptorIndex := 33, attributes := #[] }, { accessFlags := 2, nameIndex := 36, descriptorIndex := 33, attributes := #[] }, { accessFlags := 2, nameIndex := 65, descriptorIndex := 66, attributes := #[] }])
  fields := #[{ name := "qualifiedName", type := (.object "java/lang/String"), accessFlags := 2, slot := 0, constantValue := 0 }, { name := "prefix", type := (.object "java/lang/String"), accessFlags := 2, slot := 1, constantValue := 0 }, { name := "localName", type := (.object "java/lang/String"), accessFlags := 2, slot := 2, constantValue := 0 }, { name := "namespace", type := (.object "java/lang/String"), accessFlags := 2, slot := 3, constantValue := 0 }, { name := "depth", type := .int, accessFlags := 2, slot := 4, constantValue := 0 }, { name := "ordinal", type := .int, accessFlags := 2, slot := 5, constantValue := 0 }, { name := "declarationCount", type := .int, accessFlags := 2, slot := 6, constantValue := 0 }, { name := "declaredPrefixes", type := (.array (.object "java/lang/String")), accessFlags := 2, slot := 7, constantValue := 0 }, { name := "declaredNamespaces", type := (.array (.object "java/lang/String")), accessFlags := 2, slot := 8, constantValue := 0 }, { name := "attributeCount", type := .int, accessFlags := 2, slot := 9, constantValue := 0 }, { name := "attributeNames", type := (.array (.object "java/lang/String")), accessFlags := 2, slot := 10, constantValue := 0 }, { name := "attributePrefixes", type := (.array (.object "java/lang/String")), accessFlags := 2, slot := 11, constantValue := 0 }, { name := "attributeLocalNames", type := (.array (.object "java/lang/String")), accessFlags := 2, slot := 12, constantValue := 0 }, { name := "attributeNamespaces", type := (.array (.object "java/lang/String")), accessFlags := 2, slot := 13, constantValue := 0 }, { name := "valueStarts", type := (.array .int), accessFlags := 2, slot := 14, constantValue := 0 }, { name := "valueEnds", type := (.array .int), accessFlags := 2, slot := 15, constantValue := 0 }, { name := "values", type := (.array .byte), accessFlags := 2, slot := 16, constantValue := 0 }]
  methods := #[k2m0, k2m1, k2m2, k2m3, k2m4, k2m5, k2m6, k2m7, k2m8, k2m9, k2m10]
  instanceTypes := #[(.object "java/lang/String"), (.object "java/lang/String"), (.object "java/lang/String"), (.object "java/lang/String"), .int, .int, .int, (.array (.object "java/lang/String")), (.array (.object "java/lang/String")), .int, (.array (.object "java/lang/String")), (.array (.object "java/lang/String")), (.array (.object "java/lang/String")), (.array (.object "java/lang/String")), (.array .int), (.array .int), (.array .byte)]
  staticTypes := #[]
  resolved := Array.replicate 117 none
  statics := none }

def pool3 : Array CpInfo := pool [(1, .class_ 2), (0, u "java/io/Serializable"), (0, .class_ 4), (0, u "java/lang/Object")] 2

/-- java/io/Serializable -/
def k3 : Class := { plain "java/io/Serializable" (some 0) with
  accessFlags := 1537
  interfaces := #[]
  cf := some (fileOf pool3 1 #[] #[] 1537 3 #[] #[])
  fields := #[]
  methods := #[]
  instanceTypes := #[]
  staticTypes := #[]
  resolved := Array.replicate 7 none
  statics := none }

def pool4 : Array CpInfo := pool [(1, .class_ 2), (0, u "java/lang/Comparable"), (0, .class_ 4), (0, u "java/lang/Object")] 7

/-- java/lang/Comparable -/
def k4 : Class := { plain "java/lang/Comparable" (some 0) with
  accessFlags := 1537
  interfaces := #[]
  cf := some (fileOf pool4 1 #[] #[] 1537 3 #[] #[])
  fields := #[]
  methods := #[]
  instanceTypes := #[]
  staticTypes := #[]
  resolved := Array.replicate 12 none
  statics := none }

def pool5 : Array CpInfo := pool [(2, .class_ 4), (1, u "java/lang/CharSequence"), (42, .class_ 48), (0, u "java/lang/CharSequence$1CodePointIterator"), (10, .class_ 60), (0, u "java/lang/CharSequence$1CharIterator"), (5, .class_ 67), (0, u "java/lang/Object")] 63

/-- java/lang/CharSequence -/
def k5 : Class := { plain "java/lang/CharSequence" (some 0) with
  accessFlags := 1537
  interfaces := #[]
  cf := some (fileOf pool5 2 #[.nestMembers #[47, 59]] #[] 1537 66 #[] #[])
  fields := #[]
  methods := #[]
  instanceTypes := #[]
  staticTypes := #[]
  resolved := Array.replicate 131 none
  statics := none }

def pool6 : Array CpInfo := pool [(1, .class_ 2), (0, u "java/lang/constant/Constable"), (0, .class_ 4), (0, u "java/lang/Object")] 6

/-- java/lang/constant/Constable -/
def k6 : Class := { plain "java/lang/constant/Constable" (some 0) with
  accessFlags := 1537
  interfaces := #[]
  cf := some (fileOf pool6 1 #[] #[] 1537 3 #[] #[])
  fields := #[]
  methods := #[]
  instanceTypes := #[]
  staticTypes := #[]
  resolved := Array.replicate 11 none
  statics := none }

def pool7 : Array CpInfo := pool [(1, .class_ 2), (0, u "java/lang/constant/ConstantDesc"), (0, .class_ 4), (0, u "java/lang/Object")] 32

/-- java/lang/constant/ConstantDesc -/
def k7 : Class := { plain "java/lang/constant/ConstantDesc" (some 0) with
  accessFlags := 1537
  interfaces := #[]
  cf := some (fileOf pool7 1 #[] #[] 1537 3 #[] #[])
  fields := #[]
  methods := #[]
  instanceTypes := #[]
  staticTypes := #[]
  resolved := Array.replicate 37 none
  statics := none }

def pool8 : Array CpInfo := pool [(1, .methodref 2 3), (0, .class_ 4), (0, .nameAndType 5 6), (0, u "java/lang/Object"), (0, u "<init>"), (0, u "()V"), (2, .fieldref 10 11), (0, .class_ 12), (0, .nameAndType 13 14), (0, u "java/lang/String"), (0, u "value"), (0, u "[B"), (0, .fieldref 10 16), (0, .nameAndType 17 18), (0, u "coder"), (0, u "B"), (2, u "hash"), (0, u "I"), (2, u "hashIsZero"), (0, u "Z"), (11, .fieldref 10 39), (0, .nameAndType 40 26), (0, u "COMPACT_STRINGS"), (12, u "toBytes"), (53, .class_ 109), (1, u "java/lang/StringLatin1"), (99, .methodref 10 210), (0, .nameAndType 5 211), (0, u "([BB)V"), (157, u "(C)Z"), (205, .class_ 576), (0, u "java/lang/CharSequence"), (22, u "CASE_INSENSITIVE_ORDER"), (0, u "Ljava/util/Comparator;"), (181, u "valueOf"), (0, u "(C)Ljava/lang/String;"), (231, .methodref 107 1016), (0, .nameAndType 1017 369), (0, u "canEncode"), (0, .methodref 107 1019), (0, .nameAndType 53 1020), (0, u "(C)[B"), (80, u "serialPersistentFields"), (0, u "[Ljava/io/ObjectStreamField;"), (0, .class_ 1104), (0, u "java/lang/String$CaseInsensitiveComparator"), (1, .class_ 1107), (0, u "java/io/Serializable"), (0, .class_ 1109), (0, u "java/lang/Comparable"), (0, .class_ 1111), (0, u "java/lang/constant/Constable"), (0, .class_ 1113), (0, u "java/lang/constant/ConstantDesc"), (2, u "serialVersionUID"), (0, u "J"), (3, u "REPL"), (0, u "C"), (2, u "LATIN1"), (1, u "UTF16")] 323

def k8m0 : Method := { name := "<init>", desc := "()V", sig := { parameters := [], returnType := none }, accessFlags := 1, code := none }
def k8c1 : Code := { maxStack := 4, maxLocals := 1, code := jdk_42_method_139_code, exceptionTable := #[], attributes := #[] }
def k8m1 : Method := { name := "valueOf", desc := "(C)Ljava/lang/String;", sig := { parameters := [.char], returnType := some (.object "java/lang/String") }, accessFlags := 9, code := some k8c1 }
def k8c2 : Code := { maxStack := 2, maxLocals := 3, code := jdk_42_method_151_code, exceptionTable := #[], attributes := #[] }
def k8m2 : Method := { name := "<init>", desc := "([BB)V", sig := { parameters := [(.array .byte), .byte], returnType := none }, accessFlags := 0, code := some k8c2 }
/-- java/lang/String -/
def k8 : Class := { plain "java/lang/String" (some 0) with
  accessFlags := 49
  interfaces := #[3, 4, 5, 6, 7]
  cf := some (fileOf pool8 10 #[.nestMembers #[1103]] #[{ accessFlags := 1, nameIndex := 5, descriptorIndex := 6, attributes := #[] }, { accessFlags := 9, nameIndex := 782, descriptorIndex := 783, attributes := #[] }, { accessFlags := 0, nameIndex := 5, descriptorIndex := 211, attributes := #[] }] 49 2 #[1106, 1108, 575, 1110, 1112] #[{ accessFlags := 18, nameIndex := 13, descriptorIndex := 14, attributes := #[] }, { accessFlags := 18, nameIndex := 17, descriptorIndex := 18, attributes := #[] }, { accessFlags := 2, nameIndex := 21, descriptorIndex := 22, attributes := #[] }, { accessFlags := 2, nameIndex := 25, descriptorIndex := 26, attributes := #[] }, { accessFlags := 26, nameIndex := 1116, descriptorIndex := 1117, attributes := #[] }, { accessFlags := 24, nameIndex := 40, descriptorIndex := 26, attributes := #[] }, { accessFlags := 26, nameIndex := 1101, descriptorIndex := 1102, attributes := #[] }, { accessFlags := 26, nameIndex := 1121, descriptorIndex := 1122, attributes := #[] }, { accessFlags := 25, nameIndex := 599, descriptorIndex := 600, attributes := #[] }, { accessFlags := 24, nameIndex := 1125, descriptorIndex := 18, attributes := #[] }, { accessFlags := 24, nameIndex := 1127, descriptorIndex := 18, attributes := #[] }])
  fields := #[{ name := "value", type := (.array .byte), accessFlags := 18, slot := 0, constantValue := 0 }, { name := "coder", type := .byte, accessFlags := 18, slot := 1, constantValue := 0 }, { name := "hash", type := .int, accessFlags := 2, slot := 2, constantValue := 0 }, { name := "hashIsZero", type := .boolean, accessFlags := 2, slot := 3, constantValue := 0 }, { name := "serialVersionUID", type := .long, accessFlags := 26, slot := 0, constantValue := 0 }, { name := "COMPACT_STRINGS", type := .boolean, accessFlags := 24, slot := 1, constantValue := 0 }, { name := "serialPersistentFields", type := (.array (.object "java/io/ObjectStreamField")), accessFlags := 26, slot := 2, constantValue := 0 }, { name := "REPL", type := .char, accessFlags := 26, slot := 3, constantValue := 0 }, { name := "CASE_INSENSITIVE_ORDER", type := (.object "java/util/Comparator"), accessFlags := 25, slot := 4, constantValue := 0 }, { name := "LATIN1", type := .byte, accessFlags := 24, slot := 5, constantValue := 0 }, { name := "UTF16", type := .byte, accessFlags := 24, slot := 6, constantValue := 0 }]
  methods := #[k8m0, k8m1, k8m2]
  instanceTypes := #[(.array .byte), .byte, .int, .boolean]
  staticTypes := #[.long, .boolean, (.array (.object "java/io/ObjectStreamField")), .char, (.object "java/util/Comparator"), .byte, .byte]
  resolved := Array.replicate 1451 none
  statics := some 0 }

def pool9 : Array CpInfo := pool [(4, .class_ 6), (1, u "java/lang/Object"), (0, u "<init>"), (0, u "()V"), (5, .class_ 16), (1, u "java/lang/StringLatin1"), (73, u "canEncode"), (14, u "(C)Z"), (15, u "$assertionsDisabled"), (0, u "Z"), (98, .class_ 223), (1, u "java/lang/StringLatin1$LinesSpliterator"), (156, u "toBytes"), (1, u "(C)[B"), (7, .class_ 391), (0, u "java/lang/StringLatin1$CharsSpliterator")] 3

def k9m0 : Method := { name := "<init>", desc := "()V", sig := { parameters := [], returnType := none }, accessFlags := 0, code := none }
def k9c1 : Code := { maxStack := 2, maxLocals := 1, code := jdk_43_method_3_code, exceptionTable := #[], attributes := #[] }
def k9m1 : Method := { name := "canEncode", desc := "(C)Z", sig := { parameters := [.char], returnType := some .boolean }, accessFlags := 9, code := some k9c1 }
def k9c2 : Code := { maxStack := 4, maxLocals := 1, code := jdk_43_method_46_code, exceptionTable := #[], attributes := #[] }
def k9m2 : Method := { name := "toBytes", desc := "(C)[B", sig := { parameters := [.char], returnType := some (.array .byte) }, accessFlags := 9, code := some k9c2 }
/-- java/lang/StringLatin1 -/
def k9 : Class := { plain "java/lang/StringLatin1" (some 0) with
  accessFlags := 48
  interfaces := #[]
  cf := some (fileOf pool9 14 #[.nestMembers #[390, 221]] #[{ accessFlags := 0, nameIndex := 7, descriptorIndex := 8, attributes := #[] }, { accessFlags := 9, nameIndex := 90, descriptorIndex := 105, attributes := #[] }, { accessFlags := 9, nameIndex := 380, descriptorIndex := 382, attributes := #[] }] 48 4 #[] #[{ accessFlags := 4120, nameIndex := 121, descriptorIndex := 122, attributes := #[] }])
  fields := #[{ name := "$assertionsDisabled", type := .boolean, accessFlags := 4120, slot := 0, constantValue := 0 }]
  methods := #[k9m0, k9m1, k9m2]
  instanceTypes := #[]
  staticTypes := #[.boolean]
  resolved := Array.replicate 395 none
  statics := none }

def pool10 : Array CpInfo := pool [(2, .class_ 4), (1, u "java/lang/Object"), (0, u "<init>"), (0, u "()V"), (17, .class_ 26), (1, u "jdk/internal/util/Preconditions"), (28, .class_ 56), (0, u "jdk/internal/util/Preconditions$4"), (57, .class_ 115), (0, u "jdk/internal/util/Preconditions$1"), (7, u "SIOOBE_FORMATTER"), (0, u "Ljava/util/function/BiFunction;"), (0, .class_ 126), (0, u "jdk/internal/util/Preconditions$2"), (3, u "AIOOBE_FORMATTER"), (0, .class_ 132), (0, u "jdk/internal/util/Preconditions$3"), (3, u "IOOBE_FORMATTER")] 57

def k10m0 : Method := { name := "<init>", desc := "()V", sig := { parameters := [], returnType := none }, accessFlags := 1, code := none }
/-- jdk/internal/util/Preconditions -/
def k10 : Class := { plain "jdk/internal/util/Preconditions" (some 0) with
  accessFlags := 33
  interfaces := #[]
  cf := some (fileOf pool10 24 #[.nestMembers #[55, 131, 125, 114]] #[{ accessFlags := 1, nameIndex := 5, descriptorIndex := 6, attributes := #[] }] 33 2 #[] #[{ accessFlags := 25, nameIndex := 123, descriptorIndex := 124, attributes := #[] }, { accessFlags := 25, nameIndex := 130, descriptorIndex := 124, attributes := #[] }, { accessFlags := 25, nameIndex := 136, descriptorIndex := 124, attributes := #[] }])
  fields := #[{ name := "SIOOBE_FORMATTER", type := (.object "java/util/function/BiFunction"), accessFlags := 25, slot := 0, constantValue := 0 }, { name := "AIOOBE_FORMATTER", type := (.object "java/util/function/BiFunction"), accessFlags := 25, slot := 1, constantValue := 0 }, { name := "IOOBE_FORMATTER", type := (.object "java/util/function/BiFunction"), accessFlags := 25, slot := 2, constantValue := 0 }]
  methods := #[k10m0]
  instanceTypes := #[]
  staticTypes := #[(.object "java/util/function/BiFunction"), (.object "java/util/function/BiFunction"), (.object "java/util/function/BiFunction")]
  resolved := Array.replicate 194 none
  statics := some 1 }

def pool11 : Array CpInfo := pool [(9, u "<init>"), (6, .class_ 18), (1, u "java/lang/Object"), (0, u "()V"), (1, .class_ 23), (1, u "jdk/internal/util/ArraysSupport"), (0, u "LOG2_ARRAY_LONG_INDEX_SCALE"), (0, u "I"), (2, u "U"), (0, u "Ljdk/internal/misc/Unsafe;"), (8, u "BIG_ENDIAN"), (0, u "Z"), (8, u "LOG2_BYTE_BIT_SIZE"), (4, u "LOG2_ARRAY_INT_INDEX_SCALE"), (54, u "JLA"), (0, u "Ljdk/internal/access/JavaLangAccess;"), (11, u "LOG2_ARRAY_BOOLEAN_INDEX_SCALE"), (9, u "LOG2_ARRAY_BYTE_INDEX_SCALE"), (5, u "LOG2_ARRAY_CHAR_INDEX_SCALE"), (5, u "LOG2_ARRAY_SHORT_INDEX_SCALE"), (18, u "LOG2_ARRAY_FLOAT_INDEX_SCALE"), (24, u "LOG2_ARRAY_DOUBLE_INDEX_SCALE"), (89, u "T_BOOLEAN"), (2, u "T_CHAR"), (1, u "T_FLOAT"), (1, u "T_DOUBLE"), (1, u "T_BYTE"), (1, u "T_SHORT"), (1, u "T_INT"), (1, u "T_LONG"), (1, u "SOFT_MAX_ARRAY_LENGTH")] 83

def k11m0 : Method := { name := "<init>", desc := "()V", sig := { parameters := [], returnType := none }, accessFlags := 2, code := none }
/-- jdk/internal/util/ArraysSupport -/
def k11 : Class := { plain "jdk/internal/util/ArraysSupport" (some 0) with
  accessFlags := 33
  interfaces := #[]
  cf := some (fileOf pool11 21 #[] #[{ accessFlags := 2, nameIndex := 9, descriptorIndex := 19, attributes := #[] }] 33 16 #[] #[{ accessFlags := 24, nameIndex := 28, descriptorIndex := 29, attributes := #[] }, { accessFlags := 26, nameIndex := 38, descriptorIndex := 39, attributes := #[] }, { accessFlags := 25, nameIndex := 121, descriptorIndex := 25, attributes := #[] }, { accessFlags := 25, nameIndex := 131, descriptorIndex := 25, attributes := #[] }, { accessFlags := 25, nameIndex := 137, descriptorIndex := 25, attributes := #[] }, { accessFlags := 25, nameIndex := 143, descriptorIndex := 25, attributes := #[] }, { accessFlags := 25, nameIndex := 53, descriptorIndex := 25, attributes := #[] }, { accessFlags := 25, nameIndex := 24, descriptorIndex := 25, attributes := #[] }, { accessFlags := 25, nameIndex := 162, descriptorIndex := 25, attributes := #[] }, { accessFlags := 25, nameIndex := 187, descriptorIndex := 25, attributes := #[] }, { accessFlags := 26, nameIndex := 48, descriptorIndex := 25, attributes := #[] }, { accessFlags := 25, nameIndex := 277, descriptorIndex := 25, attributes := #[] }, { accessFlags := 25, nameIndex := 280, descriptorIndex := 25, attributes := #[] }, { accessFlags := 25, nameIndex := 282, descriptorIndex := 25, attributes := #[] }, { accessFlags := 25, nameIndex := 284, descriptorIndex := 25, attributes := #[] }, { accessFlags := 25, nameIndex := 286, descriptorIndex := 25, attributes := #[] }, { accessFlags := 25, nameIndex := 288, descriptorIndex := 25, attributes := #[] }, { accessFlags := 25, nameIndex := 290, descriptorIndex := 25, attributes := #[] }, { accessFlags := 25, nameIndex := 292, descriptorIndex := 25, attributes := #[] }, { accessFlags := 26, nameIndex := 108, descriptorIndex := 109, attributes := #[] }, { accessFlags := 25, nameIndex := 294, descriptorIndex := 25, attributes := #[] }])
  fields := #[{ name := "U", type := (.object "jdk/internal/misc/Unsafe"), accessFlags := 24, slot := 0, constantValue := 0 }, { name := "BIG_ENDIAN", type := .boolean, accessFlags := 26, slot := 1, constantValue := 0 }, { name := "LOG2_ARRAY_BOOLEAN_INDEX_SCALE", type := .int, accessFlags := 25, slot := 2, constantValue := 0 }, { name := "LOG2_ARRAY_BYTE_INDEX_SCALE", type := .int, accessFlags := 25, slot := 3, constantValue := 0 }, { name := "LOG2_ARRAY_CHAR_INDEX_SCALE", type := .int, accessFlags := 25, slot := 4, constantValue := 0 }, { name := "LOG2_ARRAY_SHORT_INDEX_SCALE", type := .int, accessFlags := 25, slot := 5, constantValue := 0 }, { name := "LOG2_ARRAY_INT_INDEX_SCALE", type := .int, accessFlags := 25, slot := 6, constantValue := 0 }, { name := "LOG2_ARRAY_LONG_INDEX_SCALE", type := .int, accessFlags := 25, slot := 7, constantValue := 0 }, { name := "LOG2_ARRAY_FLOAT_INDEX_SCALE", type := .int, accessFlags := 25, slot := 8, constantValue := 0 }, { name := "LOG2_ARRAY_DOUBLE_INDEX_SCALE", type := .int, accessFlags := 25, slot := 9, constantValue := 0 }, { name := "LOG2_BYTE_BIT_SIZE", type := .int, accessFlags := 26, slot := 10, constantValue := 0 }, { name := "T_BOOLEAN", type := .int, accessFlags := 25, slot := 11, constantValue := 0 }, { name := "T_CHAR", type := .int, accessFlags := 25, slot := 12, constantValue := 0 }, { name := "T_FLOAT", type := .int, accessFlags := 25, slot := 13, constantValue := 0 }, { name := "T_DOUBLE", type := .int, accessFlags := 25, slot := 14, constantValue := 0 }, { name := "T_BYTE", type := .int, accessFlags := 25, slot := 15, constantValue := 0 }, { name := "T_SHORT", type := .int, accessFlags := 25, slot := 16, constantValue := 0 }, { name := "T_INT", type := .int, accessFlags := 25, slot := 17, constantValue := 0 }, { name := "T_LONG", type := .int, accessFlags := 25, slot := 18, constantValue := 0 }, { name := "JLA", type := (.object "jdk/internal/access/JavaLangAccess"), accessFlags := 26, slot := 19, constantValue := 0 }, { name := "SOFT_MAX_ARRAY_LENGTH", type := .int, accessFlags := 25, slot := 20, constantValue := 0 }]
  methods := #[k11m0]
  instanceTypes := #[]
  staticTypes := #[(.object "jdk/internal/misc/Unsafe"), .boolean, .int, .int, .int, .int, .int, .int, .int, .int, .int, .int, .int, .int, .int, .int, .int, .int, .int, (.object "jdk/internal/access/JavaLangAccess"), .int]
  resolved := Array.replicate 378 none
  statics := none }

def pool12 : Array CpInfo := pool [(1, u "java/lang/Cloneable"), (0, .class_ 1), (0, u "java/lang/Object"), (0, .class_ 3)] 3

/-- java/lang/Cloneable -/
def k12 : Class := { plain "java/lang/Cloneable" (some 0) with
  accessFlags := 1537
  interfaces := #[]
  cf := some (fileOf pool12 2 #[] #[] 1537 4 #[] #[])
  fields := #[]
  methods := #[]
  instanceTypes := #[]
  staticTypes := #[]
  resolved := Array.replicate 8 none
  statics := none }

/-- the primitive byte -/
def k13 : Class := { plain "byte" none with kind := .primitive 'B', accessFlags := 0x411 }
/-- [B -/
def k14 : Class := { plain "[B" (some 0) with kind := .array 13 .byte, interfaces := #[12, 3], accessFlags := 1041 }

/-- the primitive int -/
def k15 : Class := { plain "int" none with kind := .primitive 'I', accessFlags := 0x411 }
/-- [I -/
def k16 : Class := { plain "[I" (some 0) with kind := .array 15 .int, interfaces := #[12, 3], accessFlags := 1041 }

/-- [Ljava/lang/String; -/
def k17 : Class := { plain "[Ljava/lang/String;" (some 0) with kind := .array 8 (.object "java/lang/String"), interfaces := #[12, 3], accessFlags := 1041 }

def heap : Heap := #[{ cls := 8, slots := #[.long 0, .int 1, .null, .int 0, .null, .int 0, .int 0], vm := .statics 8 },
  { cls := 10, slots := #[.null, .null, .null], vm := .statics 10 }]
def classes : Array Class := #[k0, k1, k2, k3, k4, k5, k6, k7, k8, k9, k10, k11, k12, k13, k14, k15, k16, k17]
def interned : List (Array UInt16 × Addr) := []
def slotsUsed : Nat := 10
def theMethod : MethodId := ⟨1, 1⟩
def args0 : Array Value := #[.int 5, .int 3, .int 4, .int 2, .int 1]
def aboutOver (below : List Frame) : State where
  vm := { classes := classes, interned := interned.toArray }
  heap := heap
  slotsUsed := slotsUsed
  threads := #[{ frames := .invoking theMethod args0 :: below }]
def below0 : List Frame := [.native { method := ⟨0, 0⟩, args := #[] }]
def about1 : State := aboutOver below0
def p0 : Program := .bare "" "" ""
def e0 : Env := launch0.env 0 0 0
theorem w_frames : about1.frames = Frame.invoking theMethod args0 :: below0 := rfl
set_option maxRecDepth 65536 in
theorem w_args : argsFit about1.vm theMethod args0 = true := by decide +kernel
set_option maxRecDepth 65536 in
theorem w_heap : heapFits about1 = true := by decide +kernel
set_option maxRecDepth 65536 in
theorem w_runnable : about1.curStatus? = some .runnable := by decide +kernel
set_option maxRecDepth 65536 in
theorem w_alone : about1.alone = true := by decide +kernel
set_option maxRecDepth 65536 in
theorem w_named : about1.methodNamed? x = some theMethod := by decide +kernel
set_option maxRecDepth 65536 in
theorem w_hears : about1.hears theMethod below0 = true := by decide +kernel
set_option maxRecDepth 65536 in
theorem w_ripe : about1.ripe theMethod args0 below0 = true := by decide +kernel
theorem w_running : about1.status = .running := rfl
set_option maxRecDepth 65536 in
theorem w_room : about1.hasRoom e0.platform room_1 = true :=
  launch0.hasRoom_least _ room_1 (by decide +kernel) (by decide +kernel) (by decide +kernel) (by decide +kernel) (by decide +kernel) (by decide +kernel)
theorem allAtoms_all (ts : List Jvm.Cond) (a : Array Jvm.Value) (st : Jvm.State) : (allAtoms ts).before a st = ts.all (fun c => c.before a st) := by
  induction ts with
  | nil => rfl
  | cons c t ih =>
    show (Jvm.Cond.and c (allAtoms t)).before a st = _
    rw [Jvm.Cond.before_and, ih, List.all_cons]
def words1 : List Jvm.Cond := Jvm.Cond.code x code maxLocals ret :: tables_1
/-- a 'code' word, met by the world's own term for the bytes: nothing is compared byte by byte -/
theorem code_word {y : MethodName} {bytes : ByteArray} {mx : Nat} {rt : Option FieldType} {a : Array Value} {s : State} {m : MethodId} {meth : Method} {c : Code} (h1 : s.methodNamed? y = some m) (h2 : s.vm.method? m = some meth) (h3 : meth.code = some c) (h4 : c.code = bytes)
    (h5 : (c.maxLocals == mx && c.exceptionTable.isEmpty && decide (c.maxStack ≤ mostOperands) && decide (meth.sig.returnType = rt) && !meth.locks && decide (parseMethodDescriptor y.desc = some meth.sig)) = true) : (Jvm.Cond.code y bytes mx rt).before a s = true := by
  simp only [Bool.and_eq_true, beq_iff_eq, Bool.not_eq_true', decide_eq_true_eq] at h5
  obtain ⟨⟨⟨⟨⟨g1, g2⟩, g3⟩, g4⟩, g5⟩, g6⟩ := h5
  simp [Cond.before, Cond.holds, Cond.value, h1, h2, h3, h4, g1, g2, g3, g4, g5, g6]
def isCode : Jvm.Cond → Bool
  | .code _ _ _ _ => true
  | _ => false
theorem all_split {L : List Jvm.Cond} {P : Jvm.Cond → Bool} (h1 : L.all (fun c => isCode c || P c) = true) (h2 : ∀ c ∈ L.filter isCode, P c = true) : L.all P = true := by
  refine List.all_eq_true.mpr fun c hc => ?_
  have h := List.all_eq_true.mp h1 c hc
  rcases Bool.eq_false_or_eq_true (isCode c) with hi | hi
  · exact h2 c (List.mem_filter.mpr ⟨hc, hi⟩)
  · simpa [hi] using h
set_option maxRecDepth 65536 in
theorem w_c0 : (Jvm.Cond.code x code maxLocals ret).before args0 about1 = true := code_word (m := ⟨1, 1⟩) (meth := k1m1) (c := k1c1) (by decide +kernel) rfl rfl rfl (by decide +kernel)
set_option maxRecDepth 65536 in
theorem w_c1 : (Jvm.Cond.code ({ cls := "com/example/bulla/bulla/xml/StreamedElement", name := "<init>", desc := "()V" } : Jvm.MethodName) prog_166_method_1_code (1 : Nat) (Option.none : Option Jvm.ClassFile.FieldType)).before args0 about1 = true := code_word (m := ⟨2, 0⟩) (meth := k2m0) (c := k2c0) (by decide +kernel) rfl rfl rfl (by decide +kernel)
set_option maxRecDepth 65536 in
theorem w_c2 : (Jvm.Cond.code ({ cls := "java/lang/Object", name := "<init>", desc := "()V" } : Jvm.MethodName) object_method_1_code (1 : Nat) (Option.none : Option Jvm.ClassFile.FieldType)).before args0 about1 = true := code_word (m := ⟨0, 0⟩) (meth := k0m0) (c := k0c0) (by decide +kernel) rfl rfl rfl (by decide +kernel)
set_option maxRecDepth 65536 in
theorem w_c3 : (Jvm.Cond.code ({ cls := "java/lang/String", name := "valueOf", desc := "(C)Ljava/lang/String;" } : Jvm.MethodName) jdk_42_method_139_code (1 : Nat) (Option.some (Jvm.ClassFile.FieldType.object "java/lang/String"))).before args0 about1 = true := code_word (m := ⟨8, 1⟩) (meth := k8m1) (c := k8c1) (by decide +kernel) rfl rfl rfl (by decide +kernel)
set_option maxRecDepth 65536 in
theorem w_c4 : (Jvm.Cond.code ({ cls := "java/lang/StringLatin1", name := "canEncode", desc := "(C)Z" } : Jvm.MethodName) jdk_43_method_3_code (1 : Nat) (Option.some Jvm.ClassFile.FieldType.boolean)).before args0 about1 = true := code_word (m := ⟨9, 1⟩) (meth := k9m1) (c := k9c1) (by decide +kernel) rfl rfl rfl (by decide +kernel)
set_option maxRecDepth 65536 in
theorem w_c5 : (Jvm.Cond.code ({ cls := "java/lang/StringLatin1", name := "toBytes", desc := "(C)[B" } : Jvm.MethodName) jdk_43_method_46_code (1 : Nat) (Option.some (Jvm.ClassFile.FieldType.array Jvm.ClassFile.FieldType.byte))).before args0 about1 = true := code_word (m := ⟨9, 2⟩) (meth := k9m2) (c := k9c2) (by decide +kernel) rfl rfl rfl (by decide +kernel)
set_option maxRecDepth 65536 in
theorem w_c6 : (Jvm.Cond.code ({ cls := "java/lang/String", name := "<init>", desc := "([BB)V" } : Jvm.MethodName) jdk_42_method_151_code (3 : Nat) (Option.none : Option Jvm.ClassFile.FieldType)).before args0 about1 = true := code_word (m := ⟨8, 2⟩) (meth := k8m2) (c := k8c2) (by decide +kernel) rfl rfl rfl (by decide +kernel)
set_option maxRecDepth 65536 in
theorem w_c7 : (Jvm.Cond.code ({ cls := "com/example/bulla/bulla/xml/StreamedElement", name := "start", desc := "(II[B)V" } : Jvm.MethodName) prog_166_method_20_code (4 : Nat) (Option.none : Option Jvm.ClassFile.FieldType)).before args0 about1 = true := code_word (m := ⟨2, 7⟩) (meth := k2m7) (c := k2c7) (by decide +kernel) rfl rfl rfl (by decide +kernel)
set_option maxRecDepth 65536 in
theorem w_c8 : (Jvm.Cond.code ({ cls := "com/example/bulla/bulla/xml/StreamedElement", name := "depth", desc := "()I" } : Jvm.MethodName) prog_166_method_6_code (1 : Nat) (Option.some Jvm.ClassFile.FieldType.int)).before args0 about1 = true := code_word (m := ⟨2, 2⟩) (meth := k2m2) (c := k2c2) (by decide +kernel) rfl rfl rfl (by decide +kernel)
set_option maxRecDepth 65536 in
theorem w_c9 : (Jvm.Cond.code ({ cls := "com/example/bulla/bulla/xml/StreamedElement", name := "ordinal", desc := "()I" } : Jvm.MethodName) prog_166_method_7_code (1 : Nat) (Option.some Jvm.ClassFile.FieldType.int)).before args0 about1 = true := code_word (m := ⟨2, 3⟩) (meth := k2m3) (c := k2c3) (by decide +kernel) rfl rfl rfl (by decide +kernel)
set_option maxRecDepth 65536 in
theorem w_c10 : (Jvm.Cond.code ({ cls := "com/example/bulla/bulla/xml/StreamedElement", name := "values", desc := "()[B" } : Jvm.MethodName) prog_166_method_17_code (1 : Nat) (Option.some (Jvm.ClassFile.FieldType.array Jvm.ClassFile.FieldType.byte))).before args0 about1 = true := code_word (m := ⟨2, 6⟩) (meth := k2m6) (c := k2c6) (by decide +kernel) rfl rfl rfl (by decide +kernel)
set_option maxRecDepth 65536 in
theorem w_c11 : (Jvm.Cond.code ({ cls := "com/example/bulla/bulla/xml/StreamedElement", name := "namespace", desc := "()Ljava/lang/String;" } : Jvm.MethodName) prog_166_method_5_code (1 : Nat) (Option.some (Jvm.ClassFile.FieldType.object "java/lang/String"))).before args0 about1 = true := code_word (m := ⟨2, 1⟩) (meth := k2m1) (c := k2c1) (by decide +kernel) rfl rfl rfl (by decide +kernel)
set_option maxRecDepth 65536 in
theorem w_c12 : (Jvm.Cond.code ({ cls := "com/example/bulla/bulla/xml/StreamedElement", name := "declarationCount", desc := "()I" } : Jvm.MethodName) prog_166_method_8_code (1 : Nat) (Option.some Jvm.ClassFile.FieldType.int)).before args0 about1 = true := code_word (m := ⟨2, 4⟩) (meth := k2m4) (c := k2c4) (by decide +kernel) rfl rfl rfl (by decide +kernel)
set_option maxRecDepth 65536 in
theorem w_c13 : (Jvm.Cond.code ({ cls := "com/example/bulla/bulla/xml/StreamedElement", name := "attributeCount", desc := "()I" } : Jvm.MethodName) prog_166_method_11_code (1 : Nat) (Option.some Jvm.ClassFile.FieldType.int)).before args0 about1 = true := code_word (m := ⟨2, 5⟩) (meth := k2m5) (c := k2c5) (by decide +kernel) rfl rfl rfl (by decide +kernel)
set_option maxRecDepth 65536 in
theorem w_c14 : (Jvm.Cond.code ({ cls := "com/example/bulla/bulla/xml/StreamedElement", name := "setNamespace", desc := "(Ljava/lang/String;)V" } : Jvm.MethodName) prog_166_method_22_code (2 : Nat) (Option.none : Option Jvm.ClassFile.FieldType)).before args0 about1 = true := code_word (m := ⟨2, 8⟩) (meth := k2m8) (c := k2c8) (by decide +kernel) rfl rfl rfl (by decide +kernel)
set_option maxRecDepth 65536 in
theorem w_c15 : (Jvm.Cond.code ({ cls := "com/example/bulla/bulla/xml/StreamedElement", name := "addDeclaration", desc := "(Ljava/lang/String;Ljava/lang/String;)V" } : Jvm.MethodName) prog_166_method_23_code (3 : Nat) (Option.none : Option Jvm.ClassFile.FieldType)).before args0 about1 = true := code_word (m := ⟨2, 9⟩) (meth := k2m9) (c := k2c9) (by decide +kernel) rfl rfl rfl (by decide +kernel)
set_option maxRecDepth 65536 in
theorem w_c16 : (Jvm.Cond.code ({ cls := "com/example/bulla/bulla/xml/StreamedElement", name := "addAttribute", desc := "(Ljava/lang/String;Ljava/lang/String;Ljava/lang/String;II)V" } : Jvm.MethodName) prog_166_method_24_code (7 : Nat) (Option.none : Option Jvm.ClassFile.FieldType)).before args0 about1 = true := code_word (m := ⟨2, 10⟩) (meth := k2m10) (c := k2c10) (by decide +kernel) rfl rfl rfl (by decide +kernel)
def codes1 : List Jvm.Cond := [Jvm.Cond.code x code maxLocals ret, Jvm.Cond.code ({ cls := "com/example/bulla/bulla/xml/StreamedElement", name := "<init>", desc := "()V" } : Jvm.MethodName) prog_166_method_1_code (1 : Nat) (Option.none : Option Jvm.ClassFile.FieldType), Jvm.Cond.code ({ cls := "java/lang/Object", name := "<init>", desc := "()V" } : Jvm.MethodName) object_method_1_code (1 : Nat) (Option.none : Option Jvm.ClassFile.FieldType), Jvm.Cond.code ({ cls := "java/lang/String", name := "valueOf", desc := "(C)Ljava/lang/String;" } : Jvm.MethodName) jdk_42_method_139_code (1 : Nat) (Option.some (Jvm.ClassFile.FieldType.object "java/lang/String")), Jvm.Cond.code ({ cls := "java/lang/StringLatin1", name := "canEncode", desc := "(C)Z" } : Jvm.MethodName) jdk_43_method_3_code (1 : Nat) (Option.some Jvm.ClassFile.FieldType.boolean), Jvm.Cond.code ({ cls := "java/lang/StringLatin1", name := "toBytes", desc := "(C)[B" } : Jvm.MethodName) jdk_43_method_46_code (1 : Nat) (Option.some (Jvm.ClassFile.FieldType.array Jvm.ClassFile.FieldType.byte)), Jvm.Cond.code ({ cls := "java/lang/String", name := "<init>", desc := "([BB)V" } : Jvm.MethodName) jdk_42_method_151_code (3 : Nat) (Option.none : Option Jvm.ClassFile.FieldType), Jvm.Cond.code ({ cls := "com/example/bulla/bulla/xml/StreamedElement", name := "start", desc := "(II[B)V" } : Jvm.MethodName) prog_166_method_20_code (4 : Nat) (Option.none : Option Jvm.ClassFile.FieldType), Jvm.Cond.code ({ cls := "com/example/bulla/bulla/xml/StreamedElement", name := "depth", desc := "()I" } : Jvm.MethodName) prog_166_method_6_code (1 : Nat) (Option.some Jvm.ClassFile.FieldType.int), Jvm.Cond.code ({ cls := "com/example/bulla/bulla/xml/StreamedElement", name := "ordinal", desc := "()I" } : Jvm.MethodName) prog_166_method_7_code (1 : Nat) (Option.some Jvm.ClassFile.FieldType.int), Jvm.Cond.code ({ cls := "com/example/bulla/bulla/xml/StreamedElement", name := "values", desc := "()[B" } : Jvm.MethodName) prog_166_method_17_code (1 : Nat) (Option.some (Jvm.ClassFile.FieldType.array Jvm.ClassFile.FieldType.byte)), Jvm.Cond.code ({ cls := "com/example/bulla/bulla/xml/StreamedElement", name := "namespace", desc := "()Ljava/lang/String;" } : Jvm.MethodName) prog_166_method_5_code (1 : Nat) (Option.some (Jvm.ClassFile.FieldType.object "java/lang/String")), Jvm.Cond.code ({ cls := "com/example/bulla/bulla/xml/StreamedElement", name := "declarationCount", desc := "()I" } : Jvm.MethodName) prog_166_method_8_code (1 : Nat) (Option.some Jvm.ClassFile.FieldType.int), Jvm.Cond.code ({ cls := "com/example/bulla/bulla/xml/StreamedElement", name := "attributeCount", desc := "()I" } : Jvm.MethodName) prog_166_method_11_code (1 : Nat) (Option.some Jvm.ClassFile.FieldType.int), Jvm.Cond.code ({ cls := "com/example/bulla/bulla/xml/StreamedElement", name := "setNamespace", desc := "(Ljava/lang/String;)V" } : Jvm.MethodName) prog_166_method_22_code (2 : Nat) (Option.none : Option Jvm.ClassFile.FieldType), Jvm.Cond.code ({ cls := "com/example/bulla/bulla/xml/StreamedElement", name := "addDeclaration", desc := "(Ljava/lang/String;Ljava/lang/String;)V" } : Jvm.MethodName) prog_166_method_23_code (3 : Nat) (Option.none : Option Jvm.ClassFile.FieldType), Jvm.Cond.code ({ cls := "com/example/bulla/bulla/xml/StreamedElement", name := "addAttribute", desc := "(Ljava/lang/String;Ljava/lang/String;Ljava/lang/String;II)V" } : Jvm.MethodName) prog_166_method_24_code (7 : Nat) (Option.none : Option Jvm.ClassFile.FieldType)]
set_option maxRecDepth 65536 in
theorem codes_eq : words1.filter isCode = codes1 := rfl
theorem w_codes : ∀ c ∈ words1.filter isCode, c.before args0 about1 = true := by
  rw [codes_eq]
  intro c hc
  simp only [codes1, List.mem_cons, List.not_mem_nil, or_false] at hc
  rcases hc with rfl | rfl | rfl | rfl | rfl | rfl | rfl | rfl | rfl | rfl | rfl | rfl | rfl | rfl | rfl | rfl | rfl
  · exact w_c0
  · exact w_c1
  · exact w_c2
  · exact w_c3
  · exact w_c4
  · exact w_c5
  · exact w_c6
  · exact w_c7
  · exact w_c8
  · exact w_c9
  · exact w_c10
  · exact w_c11
  · exact w_c12
  · exact w_c13
  · exact w_c14
  · exact w_c15
  · exact w_c16
set_option maxRecDepth 65536 in
theorem w_t1 : (words1.take 24).all (fun c => isCode c || c.before args0 about1) = true := by decide +kernel
set_option maxRecDepth 65536 in
theorem w_t2 : ((words1.drop 24).take 24).all (fun c => isCode c || c.before args0 about1) = true := by decide +kernel
set_option maxRecDepth 65536 in
theorem w_t3 : (((words1.drop 24).drop 24).take 24).all (fun c => isCode c || c.before args0 about1) = true := by decide +kernel
set_option maxRecDepth 65536 in
theorem w_t4 : ((((words1.drop 24).drop 24).drop 24).take 24).all (fun c => isCode c || c.before args0 about1) = true := by decide +kernel
set_option maxRecDepth 65536 in
theorem w_t5 : ((((words1.drop 24).drop 24).drop 24).drop 24).all (fun c => isCode c || c.before args0 about1) = true := by decide +kernel
theorem w_tables : (allAtoms (Jvm.Cond.code x code maxLocals ret :: tables_1)).before args0 about1 = true := by
  rw [allAtoms_all]
  show words1.all (fun c => c.before args0 about1) = true
  refine all_split ?_ w_codes
  rw [← List.take_append_drop 24 words1, List.all_append, w_t1, ← List.take_append_drop 24 (words1.drop 24), List.all_append, w_t2, ← List.take_append_drop 24 ((words1.drop 24).drop 24), List.all_append, w_t3, ← List.take_append_drop 24 (((words1.drop 24).drop 24).drop 24), List.all_append, w_t4, w_t5]
  rfl
set_option maxRecDepth 65536 in
theorem w_rest : rest_1_c.before args0 about1 = true := by decide +kernel
set_option maxRecDepth 65536 in
theorem w_case : (Jvm.Cond.and given_1 narrow_1).before args0 about1 = true := by decide +kernel
theorem w_applies : (headSpec (Jvm.Cond.code x code maxLocals ret :: tables_1) room_1).applies x e0.platform about1 = true :=
  (Spec.applies_iff w_frames).mpr ⟨w_running, w_runnable, w_alone, w_named, w_hears, w_ripe, w_room, w_tables⟩
theorem atStart : AtStart classFile x code maxLocals ret World_1 tables_1 room_1 Calls_1 rest_1 Pre_1 launch0 p0 e0 about1 theMethod args0 below0 :=
  ⟨lists_1, trivial, launch0.admits_env _ _ _, launch0.least_env, fairChoices_fair.cas, fairChoices_fair.clock, w_frames, w_args, w_heap, w_applies, trivial, w_rest, w_case⟩
end start1
theorem witness_1 : WitnessClaimed_1 := ⟨start1.p0, start1.e0, start1.about1, start1.theMethod, start1.args0, start1.below0, start1.atStart⟩
end Jvm.Pilot.@@N@@
