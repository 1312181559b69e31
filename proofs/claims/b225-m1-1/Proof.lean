import JvmDerived
import JvmDerived.Pilot.@@N@@Statement
import JvmDerived.Pilot.@@N@@Code
set_option linter.unusedVariables false
set_option linter.unusedSimpArgs false
namespace Jvm.RoadKit
open Sem ClassFile Op Lib Jvm.Stand Jvm.Free Jvm.LawKit
section New
variable {p : Program} {l : Launch} {e : Env} {R : Room} {s : State} {m : MethodId} {args : Array Value} {below : List Frame} {meth : Method} {c : Code} {T : State} {locs : List Loc} {cells slots : Nat}
theorem retI (X : Stand p l e R s m args below meth c T locs cells slots) (hx : p.tables.exec = Jvm.exec) {pc : Nat} {Ls : Array Slot} {z : Int32} {rest : List Value} (hret : meth.sig.returnType = some .int) (hd : decode c.code pc = .ok (.ireturn, 1)) {fs : List Frame}
    (hl : ∀ (f : JFrame) (acts : List Action), f.method = m → f.locked = none → f.entered = [] → (doReturn e (T.setTop f) acts (some (.int z))).1 = T.setFrames fs) : Steps p.tables e below (T.setTop (mkF m pc Ls (.int z :: rest))) (T.setFrames fs) := by
  have hm' : T.vm.method? m = some meth := X.method'
  have hn : narrow .int (.int z) = .int z := rfl
  show Steps p.tables e below (T.setTop { method := m, pc := pc, locals := Ls, stack := _ :: rest, locked := none }) _
  jvm_step X.here [X.here.top, hx, hd, hm', hret, hn]
  first | (intro acts; rw [hl _ acts rfl rfl rfl]) | rw [hl _ _ rfl rfl rfl]
  exact Steps.refl _
end New
end Jvm.RoadKit
namespace Jvm.Pilot.@@N@@
open Jvm Jvm.ClassFile Sem Op Lib Jvm.Free Jvm.Stand Jvm.LawKit Jvm.RoadKit Bundle Jvm.Pilot.@@N@@.Jvm.D
section Own
variable {p : Program} {l : Launch} {e : Env} {R : Room} {s : State} {m : MethodId} {args : Array Value} {below : List Frame} {meth : Method} {c : Code} {T : State} {n0 C S : Nat} {Z : State} {a0 : Array Value} {h h' : Heap} {P : State → Outcome → Prop} {Q : Option Value → Heap → Prop}
/-- from U the run comes to an end at which P holds -/
def own_Go (p : Program) (e : Env) (below : List Frame) (P : State → Outcome → Prop) (U : State) : Prop := ∃ t o, Steps p.tables e below U t ∧ P t o
theorem own_st {U U' : State} (k : ∀ t, Steps p.tables e below U' t → Steps p.tables e below U t) (g : own_Go p e below P U') : own_Go p e below P U := by
  obtain ⟨t, o, a, b⟩ := g; exact ⟨t, o, k t a, b⟩
/-- where the run stands: its state, its heap, how many cells and slots are spent; nothing below n0 was written -/
def own_Sd (p : Program) (l : Launch) (e : Env) (R : Room) (s : State) (m : MethodId) (args : Array Value) (below : List Frame) (meth : Method) (c : Code) (n0 : Nat) (T : State) (h : Heap) (C S : Nat) : Prop :=
  ∃ locs, Stand p l e R s m args below meth c T locs C S ∧ Fr n0 locs ∧ T.heap = h ∧ n0 ≤ s.heap.size ∧ s.heap.size ≤ h.size
theorem own_Sd.here (X : own_Sd p l e R s m args below meth c n0 T h C S) : At T m c below := by obtain ⟨_, X, _⟩ := X; exact X.here
theorem own_Sd.ge0 (X : own_Sd p l e R s m args below meth c n0 T h C S) : n0 ≤ h.size := by obtain ⟨_, _, _, _, h1, h2⟩ := X; exact Nat.le_trans h1 h2
theorem own_Sd.more (X : own_Sd p l e R s m args below meth c n0 T h C S) {C' S' : Nat} (hc : C ≤ C') (hs : S ≤ S') : own_Sd p l e R s m args below meth c n0 T h C' S' := by
  obtain ⟨L, X, r⟩ := X; exact ⟨L, X.more hc hs, r⟩
/-- what the body of one method knows of itself -/
def own_Cx (p : Program) (s : State) (m : MethodId) (meth : Method) (c : Code) (Z : State) (bytes : ByteArray) (maxL : Nat) (y : MethodName) (ret : Option FieldType) : Prop :=
  p.tables.exec = Jvm.exec ∧ c.code = bytes ∧ c.maxLocals = maxL ∧ s.vm.findClass y.cls = some m.cls ∧ meth.name = y.name ∧ meth.sig.returnType = ret ∧ meth.locks = false ∧ Z.Warmed39 s.vm
def own_End (below : List Frame) (s : State) (R : Room) (n0 : Nat) (Q : Option Value → Heap → Prop) (t : State) (o : Outcome) : Prop :=
  t.status = .running ∧ Ended t below o ∧ ∃ v L, o = .returned v ∧ (Q v t.heap ∧ s.heap.size ≤ t.heap.size ∧ Fr n0 L) ∧ FrameEnd s o t L R.cells R.slots
/-- a method's contract: on these arguments, at this heap, it returns so that Q -/
def own_Met (l : Launch) (Z : State) (y : MethodName) (bytes : ByteArray) (maxL : Nat) (ret : Option FieldType) (rm : Room) (as' : Array Value) (h0 : Heap) (n0 : Nat) (Q : Option Value → Heap → Prop) : Prop :=
  ∀ ws, MetFree l y (head1 (Jvm.Cond.code y bytes maxL ret :: ws) rm) (fun a U => a = as' ∧ Z.Warmed39 U.vm ∧ U.heap = h0) (fun _ _ _ _ _ => True)
    (fun _ U o U' => ∃ v L, o = .returned v ∧ (Q v U'.heap ∧ h0.size ≤ U'.heap.size ∧ Fr n0 L) ∧ FrameEnd U o U' L rm.cells rm.slots)
theorem own_body {y : MethodName} {bytes : ByteArray} {maxL : Nat} {ret : Option FieldType} {rm : Room} {as' : Array Value} {h0 : Heap} {Ls : Array Slot} (hpl : plainFor y = true) (hfr : ∀ m, entryFrame m as' maxL = mkF m 0 Ls []) (hn : n0 ≤ h0.size)
    (B : ∀ (p : Program) (e : Env) (s : State) (m : MethodId) (below : List Frame) (meth : Method) (c : Code) (T : State), own_Cx p s m meth c Z bytes maxL y ret → own_Sd p l e rm s m as' below meth c n0 T h0 0 0 → own_Go p e below (own_End below s rm n0 Q) (T.setTop (mkF m 0 Ls []))) :
    own_Met l Z y bytes maxL ret rm as' h0 n0 Q := by
  intro ws
  refine MetFree.of_bodySF hpl hisR ?_
  intro p e s m args below meth c s₁ Bd hml0 hP hK
  obtain ⟨rfl, hZ, hh⟩ := hP
  have X0 : Stand p l e rm s m args below meth c s₁ [] 0 0 := Stand.of_body Bd
  have e0 : s₁.heap = h0 := by rw [← hh, Bd.state]; rfl
  have hs : s.heap.size = h0.size := by rw [hh]
  obtain ⟨t, o, st, h1, h2, v, L, h3, h4, h5⟩ := B p e s m below meth c s₁ ⟨Bd.exec, Bd.bytes, hml0, findClass_of_methodNamed Bd.named, (name_of_methodNamed Bd.named Bd.method).1, Bd.returns, Bd.notSynchronized, hZ⟩ ⟨[], X0, Fr.nil n0, e0, by rw [hs]; exact hn, by rw [hs]; exact Nat.le_refl _⟩
  rw [hs] at h4
  exact ⟨t, o, castTop (hfr m) st, h1, h2, v, L, h3, h4, h5⟩
theorem own_fin (X : own_Sd p l e R s m args below meth c n0 T h C S) (hlk : meth.locks = false) {v : Option Value} (hv : meth.sig.returnType = none → v = none) (hC : C ≤ R.cells) (hS : S ≤ R.slots) (q : Q v h) {U : State}
    (k : ∀ (T' : State) (locs : List Loc) (fs : List Frame), T' = T → Stand p l e R s m args below meth c T locs C S → (∀ (f : JFrame) (acts : List Action), f.method = m → f.locked = none → f.entered = [] → (doReturn e (T.setTop f) acts v).1 = T.setFrames fs) → Steps p.tables e below U (T.setFrames fs)) : own_Go p e below (own_End below s R n0 Q) U := by
  obtain ⟨L, X, N, eT, hn, hs⟩ := X
  obtain ⟨fs, hr, hrun, hended, hW, hsame⟩ := X.leave (v := v) hv hlk
  have e1 : (T.setFrames fs).heap = h := eT
  refine ⟨_, _, k T L fs rfl X hr, hrun, hended, v, L, rfl, ⟨?_, ?_, N⟩, ⟨_, rfl⟩, hW, hsame.mono hC hS⟩
  · rw [e1]; exact q
  · rw [e1]; exact hs
theorem own_retI (X : own_Sd p l e R s m args below meth c n0 T h C S) (hx : p.tables.exec = Jvm.exec) (hret : meth.sig.returnType = some .int) (hlk : meth.locks = false) {pc : Nat} {Ls : Array Slot} {z : Int32} {rest : List Value} (hd : decode c.code pc = .ok (.ireturn, 1)) (hC : C ≤ R.cells) (hS : S ≤ R.slots) (q : Q (some (.int z)) h) :
    own_Go p e below (own_End below s R n0 Q) (T.setTop (mkF m pc Ls (.int z :: rest))) :=
  own_fin X hlk (fun h => by rw [hret] at h; cases h) hC hS q fun _ _ _ _ X hr => retI X hx hret hd hr
theorem own_retN (X : own_Sd p l e R s m args below meth c n0 T h C S) (hx : p.tables.exec = Jvm.exec) {t : FieldType} (hret : meth.sig.returnType = some t) (ht : t = .boolean ∨ t = .byte ∨ t = .char ∨ t = .short) (hlk : meth.locks = false) {pc : Nat} {Ls : Array Slot} {z : Int32} {rest : List Value} (hd : decode c.code pc = .ok (.ireturn, 1)) (hC : C ≤ R.cells) (hS : S ≤ R.slots) (q : Q (some (.int (nar t z))) h) :
    own_Go p e below (own_End below s R n0 Q) (T.setTop (mkF m pc Ls (.int z :: rest))) :=
  own_fin X hlk (fun h => by rw [hret] at h; cases h) hC hS q fun _ _ _ _ X hr => retN X hx hret ht hd hr
theorem own_retJ (X : own_Sd p l e R s m args below meth c n0 T h C S) (hx : p.tables.exec = Jvm.exec) (hret : meth.sig.returnType = some .long) (hlk : meth.locks = false) {pc : Nat} {Ls : Array Slot} {z : Int64} {rest : List Value} (hd : decode c.code pc = .ok (.lreturn, 1)) (hC : C ≤ R.cells) (hS : S ≤ R.slots) (q : Q (some (.long z)) h) :
    own_Go p e below (own_End below s R n0 Q) (T.setTop (mkF m pc Ls (.long z :: rest))) :=
  own_fin X hlk (fun h => by rw [hret] at h; cases h) hC hS q fun _ _ _ _ X hr => retOut X hx hret rfl (Or.inr (Or.inl ⟨rfl, rfl, z, rfl⟩)) hd hr
theorem own_retA (X : own_Sd p l e R s m args below meth c n0 T h C S) (hx : p.tables.exec = Jvm.exec) {t : FieldType} (hret : meth.sig.returnType = some t) (ht : t.isReference = true) (hlk : meth.locks = false) {pc : Nat} {Ls : Array Slot} {w : Value} (hw : w.isRef = true) (hn : narrow t w = w) {rest : List Value} (hd : decode c.code pc = .ok (.areturn, 1)) (hC : C ≤ R.cells) (hS : S ≤ R.slots) (q : Q (some w) h) :
    own_Go p e below (own_End below s R n0 Q) (T.setTop (mkF m pc Ls (w :: rest))) :=
  own_fin X hlk (fun h => by rw [hret] at h; cases h) hC hS q fun _ _ _ _ X hr => retOut X hx hret hn (Or.inr (Or.inr (Or.inr (Or.inr ⟨rfl, ht, hw⟩)))) hd hr
theorem own_retV (X : own_Sd p l e R s m args below meth c n0 T h C S) (hx : p.tables.exec = Jvm.exec) (hret : meth.sig.returnType = none) (hlk : meth.locks = false) {pc : Nat} {Ls : Array Slot} (hd : decode c.code pc = .ok (.return_, 1)) (hC : C ≤ R.cells) (hS : S ≤ R.slots) (q : Q none h) :
    own_Go p e below (own_End below s R n0 Q) (T.setTop (mkF m pc Ls [])) :=
  own_fin X hlk (fun _ => rfl) hC hS q fun _ _ _ _ X hr => X.returnOut hx hret hd hr
/-! single steps that want a Stand -/
theorem own_irem (X : own_Sd p l e R s m args below meth c n0 T h C S) (hx : p.tables.exec = Jvm.exec) {g : JFrame} {x y : Int32} {rest : List Value} (hd : decode c.code g.pc = .ok (.irem, 1)) (hs : g.stack = .int y :: .int x :: rest) (hy : y ≠ 0) (hg : g.method = m)
    (k : own_Go p e below P (T.setTop { g with pc := g.pc + 1, stack := .int (x % y) :: rest })) : own_Go p e below P (T.setTop g) := by
  obtain ⟨_, X, _⟩ := X; exact own_st (fun _ q => iremM X hx hg hd hs hy q) k
theorem own_ldc (X : own_Sd p l e R s m args below meth c n0 T h C S) (hx : p.tables.exec = Jvm.exec) (hZ : Z.Warmed39 s.vm) {own : String} {index : Nat} {v : Int32} (hown : s.vm.findClass own = some m.cls) (w : (Cond.constant own index v).before a0 Z = true) {g : JFrame} (hg : g.method = m) (hd : decode c.code g.pc = .ok (.ldc index, 2))
    (k : own_Go p e below P (T.setTop { g with pc := g.pc + 2, stack := .int v :: g.stack })) : own_Go p e below P (T.setTop g) := by
  obtain ⟨_, X, _⟩ := X; exact own_st (fun _ q => X.ldcInt hx hown (mvT hZ w) hg hd _ q) k
theorem own_ldc2 (X : own_Sd p l e R s m args below meth c n0 T h C S) (hx : p.tables.exec = Jvm.exec) (hZ : Z.Warmed39 s.vm) {own : String} {index : Nat} {v : Int64} (hown : s.vm.findClass own = some m.cls) (w : (Cond.constantLong own index v).before a0 Z = true) {g : JFrame} (hg : g.method = m) (hd : decode c.code g.pc = .ok (.ldc2_w index, 3))
    (k : own_Go p e below P (T.setTop { g with pc := g.pc + 3, stack := .long v :: g.stack })) : own_Go p e below P (T.setTop g) := by
  obtain ⟨_, X, _⟩ := X; exact own_st (fun _ q => X.ldc2Long hx hown (mvT hZ w) hg hd _ q) k
theorem own_acmp (X : own_Sd p l e R s m args below meth c n0 T h C S) (hx : p.tables.exec = Jvm.exec) {g : JFrame} (hg : g.method = m) {cd : ACond} {x y : Value} (h1 : x.isRef = true) (h2 : y.isRef = true) {rest : List Value} {o : Int} {pc0 pc' : Nat} {same : Bool} (hpc : g.pc = pc0) (hd : decode c.code g.pc = .ok (.if_acmp cd o, 3)) (hs : g.stack = y :: x :: rest) (hsame : decide (x = y) = same) (ho : 0 ≤ (pc0 : Int) + o) (hp : pc' = if acV cd same then ((pc0 : Int) + o).toNat else pc0 + 3)
    (k : own_Go p e below P (T.setTop { g with pc := pc', stack := rest })) : own_Go p e below P (T.setTop g) := by
  obtain ⟨_, X, _⟩ := X; exact own_st (fun _ q => Jvm.RoadKit.acmp X hx hg h1 h2 hpc hd hs hsame ho hp q) k
theorem own_lrem (X : own_Sd p l e R s m args below meth c n0 T h C S) (hx : p.tables.exec = Jvm.exec) {g : JFrame} {x y : Int64} {rest : List Value} (hd : decode c.code g.pc = .ok (.lrem, 1)) (hs : g.stack = .long y :: .long x :: rest) (hy : y ≠ 0) (hg : g.method = m)
    (k : own_Go p e below P (T.setTop { g with pc := g.pc + 1, stack := .long (x % y) :: rest })) : own_Go p e below P (T.setTop g) :=
  own_st (fun _ q => XS.lrem X.here hx hg hd hs hy (by rw [lrem_mod]; exact q)) k
theorem own_dupX2 (X : own_Sd p l e R s m args below meth c n0 T h C S) (hx : p.tables.exec = Jvm.exec) {g : JFrame} {x y z : Value} {rest : List Value} (hd : decode c.code g.pc = .ok (.dup_x2, 1)) (hs : g.stack = x :: y :: z :: rest) (h1 : x.category = 1) (h2 : y.category = 1) (h3 : z.category = 1) (hg : g.method = m)
    (k : own_Go p e below P (T.setTop { g with pc := g.pc + 1, stack := x :: y :: z :: x :: rest })) : own_Go p e below P (T.setTop g) := by
  refine own_st (fun t q => ?_) k
  subst hg
  have h := X.here
  jvm_step h [h.top, hx, hd, hs, h1, h2, h3]
  exact q
/-! fields, objects -/
theorem own_getF (X : own_Sd p l e R s m args below meth c n0 T h C S) (hx : p.tables.exec = Jvm.exec) (hZ : Z.Warmed39 s.vm) {own O n d : String} {index : Nat} (hown : s.vm.findClass own = some m.cls) (w : (Cond.fieldLink own index O n d).before a0 Z = true) {a : Addr} {v : Value} (F : Fld Z h a O n d v) {g : JFrame} (hg : g.method = m) {rest : List Value} (hs : g.stack = .ref a :: rest) (hd : decode c.code g.pc = .ok (.getfield index, 3))
    (k : ∀ T', own_Sd p l e R s m args below meth c n0 T' h C S → own_Go p e below P (T'.setTop { g with pc := g.pc + 3, stack := v :: rest })) : own_Go p e below P (T.setTop g) := by
  obtain ⟨L, X, N, eT, r⟩ := X
  obtain ⟨T', X', e', st⟩ := getF X hx hZ hown (host := "") (Or.inl w) Via.refl eT F hg hs hd
  exact own_st st (k T' ⟨L, X', N, e', r⟩)
theorem own_putF (X : own_Sd p l e R s m args below meth c n0 T h C S) (hx : p.tables.exec = Jvm.exec) (hZ : Z.Warmed39 s.vm) {own O n d K : String} {index kk : Nat} {ty : FieldType} (hown : s.vm.findClass own = some m.cls) (w : (Cond.fieldLink own index O n d).before a0 Z = true) {a : Addr} {v v' old : Value} (F : Fld Z h a O n d old) (E : Exa Z h a K) (L : (Cond.lays K O n d).before a0 Z = true ∨ ((Cond.laysFinal K O n d).before a0 Z = true ∧ own = O ∧ meth.name = "<init>")) (wi : (Cond.instantiable K kk).before a0 Z = true)
    (hty : parseFieldDescriptor d = some ty) (hn : narrow ty v = v') (hf : fits ty v' = true) (ga : n0 ≤ a) {g : JFrame} (hg : g.method = m) {rest : List Value} (hs : g.stack = v :: .ref a :: rest) (hd : decode c.code g.pc = .ok (.putfield index, 3))
    (k : ∀ T' h', own_Sd p l e R s m args below meth c n0 T' h' C S → Wr h h' a (Jvm.RoadKit.slotOf Z O n d) v' → own_Go p e below P (T'.setTop { g with pc := g.pc + 3, stack := rest })) : own_Go p e below P (T.setTop g) := by
  obtain ⟨L0, X, N, eT, r1, r2⟩ := X
  obtain ⟨T', h', X', e', W, st⟩ := putFN X hx hZ hown w Via.refl eT F E L wi hty hn hf hg hs hd
  exact own_st st (k T' h' ⟨_, X', Fr.snoc X' N ga, e', r1, by rw [W.size]; exact r2⟩ W)
theorem own_newO (X : own_Sd p l e R s m args below meth c n0 T h C S) (hx : p.tables.exec = Jvm.exec) (hZ : Z.Warmed39 s.vm) {own K : String} {index n : Nat} (hown : s.vm.findClass own = some m.cls) (w : (Cond.classLink own index K).before a0 Z = true) (wi : (Cond.instantiable K n).before a0 Z = true) (wz : (Cond.initialized K).before a0 Z = true)
    {g : JFrame} (hg : g.method = m) (hd : decode c.code g.pc = .ok (.new index, 3)) (hc : C + 1 ≤ R.cells) (hl : S + n ≤ R.slots)
    (k : ∀ T' h' b, b = h.size → n0 ≤ b → own_Sd p l e R s m args below meth c n0 T' h' (C + 1) (S + n) → Ext h h' → Exa Z h' b K → (∀ {O nm d : String} {ty : FieldType}, Laid Z a0 K O nm d → parseFieldDescriptor d = some ty → Fld Z h' b O nm d (defaultValue ty)) → own_Go p e below P (T'.setTop { g with pc := g.pc + 3, stack := .ref b :: g.stack })) : own_Go p e below P (T.setTop g) := by
  have hn := X.ge0
  obtain ⟨L, X, N, eT, r1, r2⟩ := X
  obtain ⟨T', h', X', e', E, A, D, -, st⟩ := newO X hx hZ hown w wi wz eT hg hd hc hl
  exact own_st st (k T' h' h.size rfl hn ⟨L, X', N, e', r1, Nat.le_trans r2 E.1⟩ E A D)
theorem own_initO (X : own_Sd p l e R s m args below meth c n0 T h C S) (hx : p.tables.exec = Jvm.exec) (hZ : Z.Warmed39 s.vm) {own : String} {idx : Nat} (hown : s.vm.findClass own = some m.cls) (w1 : (Cond.methodLink own idx Lib.objectInit).before a0 Z = true) (w2 : (Cond.instanceMethod Lib.objectInit).before a0 Z = true)
    (w3 : (Cond.code Lib.objectInit ⟨#[0xb1]⟩ 1 none).before a0 Z = true) {g : JFrame} (hg : g.method = m) (hsize : g.locals.size = c.maxLocals) {a : Addr} {rest : List Value} (hs : g.stack = .ref a :: rest) (hd : decode c.code g.pc = .ok (.invokespecial idx, 3))
    (hf : 1 ≤ R.frames) {W : Nat} (hW : 2 * g.monitorRoom + (rest.map fun v => v.category).sum ≤ W) (hl : W + 12 ≤ R.locals)
    (k : ∀ T', own_Sd p l e R s m args below meth c n0 T' h C S → own_Go p e below P (T'.setTop { g with pc := g.pc + 3, stack := rest })) : own_Go p e below P (T.setTop g) := by
  obtain ⟨L, X, N, eT, r⟩ := X
  obtain ⟨T', X', e', st⟩ := initO X hx hZ hown w1 w2 w3 eT hg hsize hs hd hf hW hl
  exact own_st st (k T' ⟨L, X', N, e', r⟩)
/-! calls -/
theorem own_back {y : MethodName} {bytes : ByteArray} {maxL : Nat} {ret : Option FieldType} {rm : Room} {as' : Array Value} {len W : Nat} (hM : own_Met l Z y bytes maxL ret rm as' h n0 Q) (hZ : Z.Warmed39 s.vm) (wc : (Cond.code y bytes maxL ret).before a0 Z = true) (wz : (Cond.initialized y.cls).before a0 Z = true) (hf : rm.frames + 1 ≤ R.frames) (hl : W + (maxL + 11) + rm.locals ≤ R.locals) :
    Back l R p e below s args y len W (fun A a => a = as' ∧ A.U.heap = h ∧ A.cells + rm.cells ≤ R.cells ∧ A.slots + rm.slots ≤ R.slots) (fun A _ v B => ∃ L, (Q v B.U.heap ∧ h.size ≤ B.U.heap.size ∧ Fr n0 L) ∧ B.locs = A.locs ++ L ∧ B.cells = A.cells + rm.cells ∧ B.slots = A.slots + rm.slots) :=
  backOf (Q := fun v h' L => Q v h' ∧ h.size ≤ h'.size ∧ Fr n0 L) (hM []) hZ wc wz hf hl
theorem own_callS (X : own_Sd p l e R s m args below meth c n0 T h C S) (hx : p.tables.exec = Jvm.exec) (hZ : Z.Warmed39 s.vm) {own : String} {index : Nat} {y : MethodName} {bytes : ByteArray} {maxL : Nat} {ret : Option FieldType} (hown : s.vm.findClass own = some m.cls)
    (w1 : (Cond.methodLink own index y).before a0 Z = true) (w2 : (Cond.static y).before a0 Z = true) (w3 : (Cond.initialized y.cls).before a0 Z = true) (w4 : (Cond.code y bytes maxL ret).before a0 Z = true) (hy : y.cls ≠ "java/lang/invoke/MethodHandle" ∧ y.cls ≠ "java/lang/invoke/VarHandle")
    {rm : Room} {as' : Array Value} (hM : own_Met l Z y bytes maxL ret rm as' h n0 Q) (hf : rm.frames + 1 ≤ R.frames) {W : Nat} (hlo : W + (maxL + 11) + rm.locals ≤ R.locals) {g : JFrame} (hg : g.method = m) (hsize : g.locals.size = c.maxLocals) {argsL rest : List Value} (hlen : ∀ sig, parseMethodDescriptor y.desc = some sig → argsL.length = sig.parameters.length) (has : argsL.toArray = as')
    (hstack : g.stack = argsL.reverse ++ rest) (hW : 2 * g.monitorRoom + (rest.map fun v => v.category).sum ≤ W) (hd : decode c.code g.pc = .ok (.invokestatic index, 3)) (hc : C + rm.cells ≤ R.cells) (hs : S + rm.slots ≤ R.slots)
    (k : ∀ v T' h', own_Sd p l e R s m args below meth c n0 T' h' (C + rm.cells) (S + rm.slots) → Q v h' → own_Go p e below P (T'.setTop { g with pc := g.pc + 3, stack := v.toList ++ rest })) : own_Go p e below P (T.setTop g) := by
  obtain ⟨L, X, N, eT, r1, r2⟩ := X
  obtain ⟨v, _, ⟨T', L', k', n'⟩, -, X', ⟨Lc, ⟨hQ, hsz, hN⟩, e1, e2, e3⟩, st⟩ := Jvm.LawKit.callS X hx hown (mvT hZ w1) (mvT hZ w2) (mvT hZ w3) (mvT hZ w4) hy (own_back (W := W) hM hZ w4 w3 hf hlo) hg hsize hlen hstack hW hd (fun _ _ => ⟨has, eT, hc, hs⟩)
  dsimp only [Pt.U, Pt.locs, Pt.cells, Pt.slots] at X' e1 e2 e3 st hQ hsz
  subst e1 e2 e3
  exact own_st st (k v T' T'.heap ⟨_, X', Fr.app N hN, rfl, r1, Nat.le_trans r2 hsz⟩ hQ)
theorem own_callC (X : own_Sd p l e R s m args below meth c n0 T h C S) (hx : p.tables.exec = Jvm.exec) (hZ : Z.Warmed39 s.vm) {own : String} {index : Nat} {y : MethodName} {bytes : ByteArray} {maxL : Nat} (hy1 : y.name = "<init>") (hown : s.vm.findClass own = some m.cls)
    (w1 : (Cond.methodLink own index y).before a0 Z = true) (w2 : (Cond.instanceMethod y).before a0 Z = true) (w3 : (Cond.initialized y.cls).before a0 Z = true) (w4 : (Cond.code y bytes maxL none).before a0 Z = true) (hy : y.cls ≠ "java/lang/invoke/MethodHandle" ∧ y.cls ≠ "java/lang/invoke/VarHandle")
    {rm : Room} {as' : Array Value} (hM : own_Met l Z y bytes maxL none rm as' h n0 Q) (hf : rm.frames + 1 ≤ R.frames) {W : Nat} (hlo : W + (maxL + 11) + rm.locals ≤ R.locals) {g : JFrame} (hg : g.method = m) (hsize : g.locals.size = c.maxLocals) {a : Addr} {argsL rest : List Value} (hlen : ∀ sig, parseMethodDescriptor y.desc = some sig → argsL.length = sig.parameters.length) (has : (.ref a :: argsL).toArray = as')
    (hstack : g.stack = argsL.reverse ++ .ref a :: rest) (hW : 2 * g.monitorRoom + (rest.map fun v => v.category).sum ≤ W) (hd : decode c.code g.pc = .ok (.invokespecial index, 3)) (hc : C + rm.cells ≤ R.cells) (hs : S + rm.slots ≤ R.slots)
    (k : ∀ v T' h', own_Sd p l e R s m args below meth c n0 T' h' (C + rm.cells) (S + rm.slots) → Q v h' → own_Go p e below P (T'.setTop { g with pc := g.pc + 3, stack := v.toList ++ rest })) : own_Go p e below P (T.setTop g) := by
  obtain ⟨L, X, N, eT, r1, r2⟩ := X
  obtain ⟨v, _, ⟨T', L', k', n'⟩, -, X', ⟨Lc, ⟨hQ, hsz, hN⟩, e1, e2, e3⟩, st⟩ := X.specialBack hx hy1 hown (mvT hZ w1) (mvT hZ w2) (mvT hZ w4) hy (own_back (W := W) hM hZ w4 w3 hf hlo) hg hsize (Steps.refl _) hlen hstack hW hd (fun _ _ => ⟨has, eT, hc, hs⟩)
  dsimp only [Pt.U, Pt.locs, Pt.cells, Pt.slots] at X' e1 e2 e3 st hQ hsz
  subst e1 e2 e3
  exact own_st (fun _ q => st.trans q) (k v T' T'.heap ⟨_, X', Fr.app N hN, rfl, r1, Nat.le_trans r2 hsz⟩ hQ)
theorem own_callV (X : own_Sd p l e R s m args below meth c n0 T h C S) (hx : p.tables.exec = Jvm.exec) (hZ : Z.Warmed39 s.vm) {own K : String} {index : Nat} {y : MethodName} {bytes : ByteArray} {maxL : Nat} {ret : Option FieldType} (hown : s.vm.findClass own = some m.cls)
    (w1 : (Cond.methodLink own index y).before a0 Z = true) (w2 : (Cond.declares y).before a0 Z = true) (w5 : (Cond.selects K y y).before a0 Z = true) (w6 : (Cond.instanceMethod y).before a0 Z = true) (w3 : (Cond.initialized y.cls).before a0 Z = true) (w4 : (Cond.code y bytes maxL ret).before a0 Z = true) (hy : y.cls ≠ "java/lang/invoke/MethodHandle" ∧ y.cls ≠ "java/lang/invoke/VarHandle")
    {a : Addr} (E : Exa Z h a K) {rm : Room} {as' : Array Value} (hM : own_Met l Z y bytes maxL ret rm as' h n0 Q) (hf : rm.frames + 1 ≤ R.frames) {W : Nat} (hlo : W + (maxL + 11) + rm.locals ≤ R.locals) {g : JFrame} (hg : g.method = m) (hsize : g.locals.size = c.maxLocals) {argsL rest : List Value} (hlen : ∀ sig, parseMethodDescriptor y.desc = some sig → argsL.length = sig.parameters.length) (has : (.ref a :: argsL).toArray = as')
    (hstack : g.stack = argsL.reverse ++ .ref a :: rest) (hW : 2 * g.monitorRoom + (rest.map fun v => v.category).sum ≤ W) (hd : decode c.code g.pc = .ok (.invokevirtual index, 3)) (hc : C + rm.cells ≤ R.cells) (hs : S + rm.slots ≤ R.slots)
    (k : ∀ v T' h', own_Sd p l e R s m args below meth c n0 T' h' (C + rm.cells) (S + rm.slots) → Q v h' → own_Go p e below P (T'.setTop { g with pc := g.pc + 3, stack := v.toList ++ rest })) : own_Go p e below P (T.setTop g) := by
  obtain ⟨L, X, N, eT, r1, r2⟩ := X
  obtain ⟨cB, kB, q1, q2, q3⟩ := isOf hZ eT E
  obtain ⟨v, _, ⟨T', L', k', n'⟩, -, X', ⟨Lc, ⟨hQ, hsz, hN⟩, e1, e2, e3⟩, st⟩ := X.virtualBack hx hown (mvT hZ w1) (mvT hZ w2) (notFace_of_selects (args := #[]) (mvT hZ w5)) (mvT hZ w5) (mvT hZ w6) hy (own_back (W := W) hM hZ w4 w3 hf hlo) q1 q3 hg hsize (Steps.refl _) hlen hstack hW hd (fun _ _ => ⟨has, eT, hc, hs⟩)
  dsimp only [Pt.U, Pt.locs, Pt.cells, Pt.slots] at X' e1 e2 e3 st hQ hsz
  subst e1 e2 e3
  exact own_st (fun _ q => st.trans q) (k v T' T'.heap ⟨_, X', Fr.app N hN, rfl, r1, Nat.le_trans r2 hsz⟩ hQ)
theorem own_callP (X : own_Sd p l e R s m args below meth c n0 T h C S) (hx : p.tables.exec = Jvm.exec) (hZ : Z.Warmed39 s.vm) {own K K' : String} {index : Nat} {y y' : MethodName} {bytes : ByteArray} {maxL : Nat} {ret : Option FieldType} (hown : s.vm.findClass own = some m.cls)
    (w1 : (Cond.methodLink own index y).before a0 Z = true) (w7 : (Cond.privateMethod y).before a0 Z = true) (w5 : (Cond.selects K y' y').before a0 Z = true) (hyy : y'.cls = y.cls) (w6 : (Cond.instanceMethod y).before a0 Z = true) (w3 : (Cond.initialized y.cls).before a0 Z = true) (w4 : (Cond.code y bytes maxL ret).before a0 Z = true) (hy : y.cls ≠ "java/lang/invoke/MethodHandle" ∧ y.cls ≠ "java/lang/invoke/VarHandle")
    {a : Addr} (E : Exa Z h a K') {rm : Room} {as' : Array Value} (hM : own_Met l Z y bytes maxL ret rm as' h n0 Q) (hf : rm.frames + 1 ≤ R.frames) {W : Nat} (hlo : W + (maxL + 11) + rm.locals ≤ R.locals) {g : JFrame} (hg : g.method = m) (hsize : g.locals.size = c.maxLocals) {argsL rest : List Value} (hlen : ∀ sig, parseMethodDescriptor y.desc = some sig → argsL.length = sig.parameters.length) (has : (.ref a :: argsL).toArray = as')
    (hstack : g.stack = argsL.reverse ++ .ref a :: rest) (hW : 2 * g.monitorRoom + (rest.map fun v => v.category).sum ≤ W) (hd : decode c.code g.pc = .ok (.invokevirtual index, 3)) (hc : C + rm.cells ≤ R.cells) (hs : S + rm.slots ≤ R.slots)
    (k : ∀ v T' h', own_Sd p l e R s m args below meth c n0 T' h' (C + rm.cells) (S + rm.slots) → Q v h' → own_Go p e below P (T'.setTop { g with pc := g.pc + 3, stack := v.toList ++ rest })) : own_Go p e below P (T.setTop g) := by
  obtain ⟨L, X, N, eT, r1, r2⟩ := X
  obtain ⟨c2, q2, m2, -, -, q3, -, kP, hkP, hkPi⟩ := Cond.selects_spec (mvT hZ w5 : (Cond.selects K y' y').before args s = true)
  have hcl := findClass_of_methodNamed q3
  rw [hyy] at hcl
  have hp := Cond.privateMethod_at (mvP hZ w7 (args := #[]))
  have hsel := selects_self_of_private (args := args) hcl hkP hkPi hp (mvT hZ w6) hy
  obtain ⟨cl, h1, h2⟩ := E.cell
  obtain ⟨v, _, ⟨T', L', k', n'⟩, -, X', ⟨Lc, ⟨hQ, hsz, hN⟩, e1, e2, e3⟩, st⟩ := X.privateBack hx hown (mvT hZ w1) (mvT hZ w6) hsel hp (mvT hZ w4) hy (own_back (W := W) hM hZ w4 w3 hf hlo) hg hsize (Steps.refl _) (by rw [eT]; exact h1) h2 hlen hstack hW hd (fun _ _ => ⟨has, eT, hc, hs⟩)
  dsimp only [Pt.U, Pt.locs, Pt.cells, Pt.slots] at X' e1 e2 e3 st hQ hsz
  subst e1 e2 e3
  exact own_st (fun _ q => st.trans q) (k v T' T'.heap ⟨_, X', Fr.app N hN, rfl, r1, Nat.le_trans r2 hsz⟩ hQ)
/-! calls of methods that leave the heap as it is -/
theorem own_callSp (X : own_Sd p l e R s m args below meth c n0 T h C S) (hx : p.tables.exec = Jvm.exec) (hZ : Z.Warmed39 s.vm) {own : String} {index : Nat} {y : MethodName} {bytes : ByteArray} {maxL : Nat} {ret : Option FieldType} (hown : s.vm.findClass own = some m.cls)
    (w1 : (Cond.methodLink own index y).before a0 Z = true) (w2 : (Cond.static y).before a0 Z = true) (w3 : (Cond.initialized y.cls).before a0 Z = true) (w4 : (Cond.code y bytes maxL ret).before a0 Z = true) (hy : y.cls ≠ "java/lang/invoke/MethodHandle" ∧ y.cls ≠ "java/lang/invoke/VarHandle")
    {rm : Room} {as' : Array Value} {r : Option Value} (hM : own_Met l Z y bytes maxL ret rm as' h n0 (fun v' h' => v' = r ∧ h' = h)) (hf : rm.frames + 1 ≤ R.frames) {W : Nat} (hlo : W + (maxL + 11) + rm.locals ≤ R.locals) {g : JFrame} (hg : g.method = m) (hsize : g.locals.size = c.maxLocals) {argsL rest : List Value} (hlen : ∀ sig, parseMethodDescriptor y.desc = some sig → argsL.length = sig.parameters.length) (has : argsL.toArray = as')
    (hstack : g.stack = argsL.reverse ++ rest) (hW : 2 * g.monitorRoom + (rest.map fun v => v.category).sum ≤ W) (hd : decode c.code g.pc = .ok (.invokestatic index, 3)) (hc : C + rm.cells ≤ R.cells) (hs : S + rm.slots ≤ R.slots)
    (k : ∀ T', own_Sd p l e R s m args below meth c n0 T' h (C + rm.cells) (S + rm.slots) → own_Go p e below P (T'.setTop { g with pc := g.pc + 3, stack := r.toList ++ rest })) : own_Go p e below P (T.setTop g) :=
  own_callS X hx hZ hown w1 w2 w3 w4 hy hM hf hlo hg hsize hlen has hstack hW hd hc hs fun v T' h' X' q => by
    obtain ⟨e1, e2⟩ := q; rw [e1]; rw [e2] at X'; exact k T' X'
theorem own_callVp (X : own_Sd p l e R s m args below meth c n0 T h C S) (hx : p.tables.exec = Jvm.exec) (hZ : Z.Warmed39 s.vm) {own K : String} {index : Nat} {y : MethodName} {bytes : ByteArray} {maxL : Nat} {ret : Option FieldType} (hown : s.vm.findClass own = some m.cls)
    (w1 : (Cond.methodLink own index y).before a0 Z = true) (w2 : (Cond.declares y).before a0 Z = true) (w5 : (Cond.selects K y y).before a0 Z = true) (w6 : (Cond.instanceMethod y).before a0 Z = true) (w3 : (Cond.initialized y.cls).before a0 Z = true) (w4 : (Cond.code y bytes maxL ret).before a0 Z = true) (hy : y.cls ≠ "java/lang/invoke/MethodHandle" ∧ y.cls ≠ "java/lang/invoke/VarHandle")
    {a : Addr} (E : Exa Z h a K) {rm : Room} {as' : Array Value} {r : Option Value} (hM : own_Met l Z y bytes maxL ret rm as' h n0 (fun v' h' => v' = r ∧ h' = h)) (hf : rm.frames + 1 ≤ R.frames) {W : Nat} (hlo : W + (maxL + 11) + rm.locals ≤ R.locals) {g : JFrame} (hg : g.method = m) (hsize : g.locals.size = c.maxLocals) {argsL rest : List Value} (hlen : ∀ sig, parseMethodDescriptor y.desc = some sig → argsL.length = sig.parameters.length) (has : (.ref a :: argsL).toArray = as')
    (hstack : g.stack = argsL.reverse ++ .ref a :: rest) (hW : 2 * g.monitorRoom + (rest.map fun v => v.category).sum ≤ W) (hd : decode c.code g.pc = .ok (.invokevirtual index, 3)) (hc : C + rm.cells ≤ R.cells) (hs : S + rm.slots ≤ R.slots)
    (k : ∀ T', own_Sd p l e R s m args below meth c n0 T' h (C + rm.cells) (S + rm.slots) → own_Go p e below P (T'.setTop { g with pc := g.pc + 3, stack := r.toList ++ rest })) : own_Go p e below P (T.setTop g) :=
  own_callV X hx hZ hown w1 w2 w5 w6 w3 w4 hy E hM hf hlo hg hsize hlen has hstack hW hd hc hs fun v T' h' X' q => by
    obtain ⟨e1, e2⟩ := q; rw [e1]; rw [e2] at X'; exact k T' X'
theorem own_callCp (X : own_Sd p l e R s m args below meth c n0 T h C S) (hx : p.tables.exec = Jvm.exec) (hZ : Z.Warmed39 s.vm) {own : String} {index : Nat} {y : MethodName} {bytes : ByteArray} {maxL : Nat} (hy1 : y.name = "<init>") (hown : s.vm.findClass own = some m.cls)
    (w1 : (Cond.methodLink own index y).before a0 Z = true) (w2 : (Cond.instanceMethod y).before a0 Z = true) (w3 : (Cond.initialized y.cls).before a0 Z = true) (w4 : (Cond.code y bytes maxL none).before a0 Z = true) (hy : y.cls ≠ "java/lang/invoke/MethodHandle" ∧ y.cls ≠ "java/lang/invoke/VarHandle")
    {rm : Room} {as' : Array Value} {r : Option Value} (hM : own_Met l Z y bytes maxL none rm as' h n0 (fun v' h' => v' = r ∧ h' = h)) (hf : rm.frames + 1 ≤ R.frames) {W : Nat} (hlo : W + (maxL + 11) + rm.locals ≤ R.locals) {g : JFrame} (hg : g.method = m) (hsize : g.locals.size = c.maxLocals) {a : Addr} {argsL rest : List Value} (hlen : ∀ sig, parseMethodDescriptor y.desc = some sig → argsL.length = sig.parameters.length) (has : (.ref a :: argsL).toArray = as')
    (hstack : g.stack = argsL.reverse ++ .ref a :: rest) (hW : 2 * g.monitorRoom + (rest.map fun v => v.category).sum ≤ W) (hd : decode c.code g.pc = .ok (.invokespecial index, 3)) (hc : C + rm.cells ≤ R.cells) (hs : S + rm.slots ≤ R.slots)
    (k : ∀ T', own_Sd p l e R s m args below meth c n0 T' h (C + rm.cells) (S + rm.slots) → own_Go p e below P (T'.setTop { g with pc := g.pc + 3, stack := r.toList ++ rest })) : own_Go p e below P (T.setTop g) :=
  own_callC X hx hZ hy1 hown w1 w2 w3 w4 hy hM hf hlo hg hsize hlen has hstack hW hd hc hs fun v T' h' X' q => by
    obtain ⟨e1, e2⟩ := q; rw [e1]; rw [e2] at X'; exact k T' X'
theorem own_callPp (X : own_Sd p l e R s m args below meth c n0 T h C S) (hx : p.tables.exec = Jvm.exec) (hZ : Z.Warmed39 s.vm) {own K K' : String} {index : Nat} {y y' : MethodName} {bytes : ByteArray} {maxL : Nat} {ret : Option FieldType} (hown : s.vm.findClass own = some m.cls)
    (w1 : (Cond.methodLink own index y).before a0 Z = true) (w7 : (Cond.privateMethod y).before a0 Z = true) (w5 : (Cond.selects K y' y').before a0 Z = true) (hyy : y'.cls = y.cls) (w6 : (Cond.instanceMethod y).before a0 Z = true) (w3 : (Cond.initialized y.cls).before a0 Z = true) (w4 : (Cond.code y bytes maxL ret).before a0 Z = true) (hy : y.cls ≠ "java/lang/invoke/MethodHandle" ∧ y.cls ≠ "java/lang/invoke/VarHandle")
    {a : Addr} (E : Exa Z h a K') {rm : Room} {as' : Array Value} {r : Option Value} (hM : own_Met l Z y bytes maxL ret rm as' h n0 (fun v' h' => v' = r ∧ h' = h)) (hf : rm.frames + 1 ≤ R.frames) {W : Nat} (hlo : W + (maxL + 11) + rm.locals ≤ R.locals) {g : JFrame} (hg : g.method = m) (hsize : g.locals.size = c.maxLocals) {argsL rest : List Value} (hlen : ∀ sig, parseMethodDescriptor y.desc = some sig → argsL.length = sig.parameters.length) (has : (.ref a :: argsL).toArray = as')
    (hstack : g.stack = argsL.reverse ++ .ref a :: rest) (hW : 2 * g.monitorRoom + (rest.map fun v => v.category).sum ≤ W) (hd : decode c.code g.pc = .ok (.invokevirtual index, 3)) (hc : C + rm.cells ≤ R.cells) (hs : S + rm.slots ≤ R.slots)
    (k : ∀ T', own_Sd p l e R s m args below meth c n0 T' h (C + rm.cells) (S + rm.slots) → own_Go p e below P (T'.setTop { g with pc := g.pc + 3, stack := r.toList ++ rest })) : own_Go p e below P (T.setTop g) :=
  own_callP X hx hZ hown w1 w7 w5 hyy w6 w3 w4 hy E hM hf hlo hg hsize hlen has hstack hW hd hc hs fun v T' h' X' q => by
    obtain ⟨e1, e2⟩ := q; rw [e1]; rw [e2] at X'; exact k T' X'
end Own
section OwnS
variable {p : Program} {l : Launch} {e : Env} {R : Room} {s : State} {m : MethodId} {args : Array Value} {below : List Frame} {meth : Method} {c : Code} {T : State} {n0 C S : Nat} {Z : State} {a0 : Array Value} {h h' : Heap} {P : State → Outcome → Prop} {Q : Option Value → Heap → Prop} {a b : Addr} {ty : FieldType} {vs : List Value} {v : Value} {sl i : Nat}
variable {bytes : ByteArray} {maxL : Nat} {y : MethodName} {ret : Option FieldType} {pc : Nat} {Ls Ls' : Array Slot} {st : List Value}
theorem o_w (hw : ∀ d ∈ tables_1, d.before a0 Z = true) (i : Nat) {d : Jvm.Cond} (q : tables_1[i]? = some d) : d.before a0 Z = true := hw d (List.mem_of_getElem? q)
theorem o_iload (cx : own_Cx p s m meth c Z bytes maxL y ret) (X : own_Sd p l e R s m args below meth c n0 T h C S) {k : Nat} {z : Int32} (hd : decode bytes pc = .ok (.iload k, 2)) (hl : Ls[k]? = some (.val (.int z))) (k : own_Go p e below P (T.setTop (mkF m (pc + 2) Ls (.int z :: st)))) : own_Go p e below P (T.setTop (mkF m pc Ls st)) := by
  obtain ⟨hx, hby, -⟩ := cx
  exact own_st (fun _ q => XS.iload X.here hx rfl (hb hby hd) hl q) k
theorem o_lload (cx : own_Cx p s m meth c Z bytes maxL y ret) (X : own_Sd p l e R s m args below meth c n0 T h C S) {k : Nat} {z : Int64} (hd : decode bytes pc = .ok (.lload k, 2)) (hl : Ls[k]? = some (.val (.long z))) (k : own_Go p e below P (T.setTop (mkF m (pc + 2) Ls (.long z :: st)))) : own_Go p e below P (T.setTop (mkF m pc Ls st)) := by
  obtain ⟨hx, hby, -⟩ := cx
  exact own_st (fun _ q => XS.lload X.here hx rfl (hb hby hd) hl q) k
theorem o_aload (cx : own_Cx p s m meth c Z bytes maxL y ret) (X : own_Sd p l e R s m args below meth c n0 T h C S) {k : Nat} {v : Value} (hd : decode bytes pc = .ok (.aload k, 2)) (hl : Ls[k]? = some (.val v)) (hv : v.isRef = true) (k : own_Go p e below P (T.setTop (mkF m (pc + 2) Ls (v :: st)))) : own_Go p e below P (T.setTop (mkF m pc Ls st)) := by
  obtain ⟨hx, hby, -⟩ := cx
  exact own_st (fun _ q => XS.aload X.here hx rfl (hb hby hd) hl hv q) k
theorem o_istore (cx : own_Cx p s m meth c Z bytes maxL y ret) (X : own_Sd p l e R s m args below meth c n0 T h C S) {k : Nat} {z : Int32} (hd : decode bytes pc = .ok (.istore k, 2)) (hl : storeLocals Ls k (.int z) = some Ls') (k : own_Go p e below P (T.setTop (mkF m (pc + 2) Ls' st))) : own_Go p e below P (T.setTop (mkF m pc Ls (.int z :: st))) := by
  obtain ⟨hx, hby, -⟩ := cx
  exact own_st (fun _ q => XS.istore X.here hx rfl (hb hby hd) rfl hl q) k
theorem o_lstore (cx : own_Cx p s m meth c Z bytes maxL y ret) (X : own_Sd p l e R s m args below meth c n0 T h C S) {k : Nat} {z : Int64} (hd : decode bytes pc = .ok (.lstore k, 2)) (hl : storeLocals Ls k (.long z) = some Ls') (k : own_Go p e below P (T.setTop (mkF m (pc + 2) Ls' st))) : own_Go p e below P (T.setTop (mkF m pc Ls (.long z :: st))) := by
  obtain ⟨hx, hby, -⟩ := cx
  exact own_st (fun _ q => XS.lstore X.here hx rfl (hb hby hd) rfl hl q) k
theorem o_astore (cx : own_Cx p s m meth c Z bytes maxL y ret) (X : own_Sd p l e R s m args below meth c n0 T h C S) {k : Nat} {v : Value} (hd : decode bytes pc = .ok (.astore k, 2)) (hv : v.isRef = true) (hl : storeLocals Ls k v = some Ls') (k : own_Go p e below P (T.setTop (mkF m (pc + 2) Ls' st))) : own_Go p e below P (T.setTop (mkF m pc Ls (v :: st))) := by
  obtain ⟨hx, hby, -⟩ := cx
  exact own_st (fun _ q => XS.astore X.here hx rfl (hb hby hd) rfl hv hl q) k
theorem o_iloadN (cx : own_Cx p s m meth c Z bytes maxL y ret) (X : own_Sd p l e R s m args below meth c n0 T h C S) {k : Fin 4} {z : Int32} (hd : decode bytes pc = .ok (.iload_n k, 1)) (hl : Ls[k.val]? = some (.val (.int z))) (k : own_Go p e below P (T.setTop (mkF m (pc + 1) Ls (.int z :: st)))) : own_Go p e below P (T.setTop (mkF m pc Ls st)) := by
  obtain ⟨hx, hby, -⟩ := cx
  exact own_st (fun _ q => XS.iloadN X.here hx rfl (hb hby hd) hl q) k
theorem o_lloadN (cx : own_Cx p s m meth c Z bytes maxL y ret) (X : own_Sd p l e R s m args below meth c n0 T h C S) {k : Fin 4} {z : Int64} (hd : decode bytes pc = .ok (.lload_n k, 1)) (hl : Ls[k.val]? = some (.val (.long z))) (k : own_Go p e below P (T.setTop (mkF m (pc + 1) Ls (.long z :: st)))) : own_Go p e below P (T.setTop (mkF m pc Ls st)) := by
  obtain ⟨hx, hby, -⟩ := cx
  exact own_st (fun _ q => XS.lloadN X.here hx rfl (hb hby hd) hl q) k
theorem o_aloadN (cx : own_Cx p s m meth c Z bytes maxL y ret) (X : own_Sd p l e R s m args below meth c n0 T h C S) {k : Fin 4} {v : Value} (hd : decode bytes pc = .ok (.aload_n k, 1)) (hl : Ls[k.val]? = some (.val v)) (hv : v.isRef = true) (k : own_Go p e below P (T.setTop (mkF m (pc + 1) Ls (v :: st)))) : own_Go p e below P (T.setTop (mkF m pc Ls st)) := by
  obtain ⟨hx, hby, -⟩ := cx
  exact own_st (fun _ q => XS.aloadN X.here hx rfl (hb hby hd) hl hv q) k
theorem o_istoreN (cx : own_Cx p s m meth c Z bytes maxL y ret) (X : own_Sd p l e R s m args below meth c n0 T h C S) {k : Fin 4} {z : Int32} (hd : decode bytes pc = .ok (.istore_n k, 1)) (hl : storeLocals Ls k.val (.int z) = some Ls') (k : own_Go p e below P (T.setTop (mkF m (pc + 1) Ls' st))) : own_Go p e below P (T.setTop (mkF m pc Ls (.int z :: st))) := by
  obtain ⟨hx, hby, -⟩ := cx
  exact own_st (fun _ q => XS.istoreN X.here hx rfl (hb hby hd) rfl hl q) k
theorem o_lstoreN (cx : own_Cx p s m meth c Z bytes maxL y ret) (X : own_Sd p l e R s m args below meth c n0 T h C S) {k : Fin 4} {z : Int64} (hd : decode bytes pc = .ok (.lstore_n k, 1)) (hl : storeLocals Ls k.val (.long z) = some Ls') (k : own_Go p e below P (T.setTop (mkF m (pc + 1) Ls' st))) : own_Go p e below P (T.setTop (mkF m pc Ls (.long z :: st))) := by
  obtain ⟨hx, hby, -⟩ := cx
  exact own_st (fun _ q => XS.lstoreN X.here hx rfl (hb hby hd) rfl hl q) k
theorem o_astoreN (cx : own_Cx p s m meth c Z bytes maxL y ret) (X : own_Sd p l e R s m args below meth c n0 T h C S) {k : Fin 4} {v : Value} (hd : decode bytes pc = .ok (.astore_n k, 1)) (hv : v.isRef = true) (hl : storeLocals Ls k.val v = some Ls') (k : own_Go p e below P (T.setTop (mkF m (pc + 1) Ls' st))) : own_Go p e below P (T.setTop (mkF m pc Ls (v :: st))) := by
  obtain ⟨hx, hby, -⟩ := cx
  exact own_st (fun _ q => XS.astoreN X.here hx rfl (hb hby hd) rfl hv hl q) k
theorem o_iconst (cx : own_Cx p s m meth c Z bytes maxL y ret) (X : own_Sd p l e R s m args below meth c n0 T h C S) {i : Int} {z : Int32} (hd : decode bytes pc = .ok (.iconst i, 1)) (hz : Int32.ofInt i = z) (k : own_Go p e below P (T.setTop (mkF m (pc + 1) Ls (.int z :: st)))) : own_Go p e below P (T.setTop (mkF m pc Ls st)) := by
  obtain ⟨hx, hby, -⟩ := cx
  exact own_st (fun _ q => XS.iconst X.here hx rfl (hb hby hd) (by rw [hz]; exact q)) k
theorem o_bipush (cx : own_Cx p s m meth c Z bytes maxL y ret) (X : own_Sd p l e R s m args below meth c n0 T h C S) {i : Int} {z : Int32} (hd : decode bytes pc = .ok (.bipush i, 2)) (hz : (Int8.ofInt i).toInt32 = z) (k : own_Go p e below P (T.setTop (mkF m (pc + 2) Ls (.int z :: st)))) : own_Go p e below P (T.setTop (mkF m pc Ls st)) := by
  obtain ⟨hx, hby, -⟩ := cx
  exact own_st (fun _ q => XS.bipush X.here hx rfl (hb hby hd) (by rw [hz]; exact q)) k
theorem o_sipush (cx : own_Cx p s m meth c Z bytes maxL y ret) (X : own_Sd p l e R s m args below meth c n0 T h C S) {i : Int} {z : Int32} (hd : decode bytes pc = .ok (.sipush i, 3)) (hz : (Int16.ofInt i).toInt32 = z) (k : own_Go p e below P (T.setTop (mkF m (pc + 3) Ls (.int z :: st)))) : own_Go p e below P (T.setTop (mkF m pc Ls st)) := by
  obtain ⟨hx, hby, -⟩ := cx
  exact own_st (fun _ q => XS.sipush X.here hx rfl (hb hby hd) (by rw [hz]; exact q)) k
theorem o_lconst (cx : own_Cx p s m meth c Z bytes maxL y ret) (X : own_Sd p l e R s m args below meth c n0 T h C S) {j : Fin 2} {z : Int64} (hd : decode bytes pc = .ok (.lconst j, 1)) (hz : Int64.ofNat j = z) (k : own_Go p e below P (T.setTop (mkF m (pc + 1) Ls (.long z :: st)))) : own_Go p e below P (T.setTop (mkF m pc Ls st)) := by
  obtain ⟨hx, hby, -⟩ := cx
  exact own_st (fun _ q => XS.lconst X.here hx rfl (hb hby hd) (by rw [hz]; exact q)) k
theorem o_aconst_null (cx : own_Cx p s m meth c Z bytes maxL y ret) (X : own_Sd p l e R s m args below meth c n0 T h C S)  (hd : decode bytes pc = .ok (.aconst_null, 1))  (k : own_Go p e below P (T.setTop (mkF m (pc + 1) Ls (.null :: st)))) : own_Go p e below P (T.setTop (mkF m pc Ls st)) := by
  obtain ⟨hx, hby, -⟩ := cx
  exact own_st (fun _ q => XS.aconstNull X.here hx rfl (hb hby hd) q) k
theorem o_iadd (cx : own_Cx p s m meth c Z bytes maxL y ret) (X : own_Sd p l e R s m args below meth c n0 T h C S) {x w z : Int32} (hd : decode bytes pc = .ok (.iadd, 1)) (hz : (x + w) = z) (k : own_Go p e below P (T.setTop (mkF m (pc + 1) Ls (.int z :: st)))) : own_Go p e below P (T.setTop (mkF m pc Ls (.int w :: .int x :: st))) := by
  obtain ⟨hx, hby, -⟩ := cx
  exact own_st (fun _ q => XS.iadd X.here hx rfl (hb hby hd) rfl (by rw [hz]; exact q)) k
theorem o_isub (cx : own_Cx p s m meth c Z bytes maxL y ret) (X : own_Sd p l e R s m args below meth c n0 T h C S) {x w z : Int32} (hd : decode bytes pc = .ok (.isub, 1)) (hz : (x - w) = z) (k : own_Go p e below P (T.setTop (mkF m (pc + 1) Ls (.int z :: st)))) : own_Go p e below P (T.setTop (mkF m pc Ls (.int w :: .int x :: st))) := by
  obtain ⟨hx, hby, -⟩ := cx
  exact own_st (fun _ q => XS.isub X.here hx rfl (hb hby hd) rfl (by rw [hz]; exact q)) k
theorem o_imul (cx : own_Cx p s m meth c Z bytes maxL y ret) (X : own_Sd p l e R s m args below meth c n0 T h C S) {x w z : Int32} (hd : decode bytes pc = .ok (.imul, 1)) (hz : (x * w) = z) (k : own_Go p e below P (T.setTop (mkF m (pc + 1) Ls (.int z :: st)))) : own_Go p e below P (T.setTop (mkF m pc Ls (.int w :: .int x :: st))) := by
  obtain ⟨hx, hby, -⟩ := cx
  exact own_st (fun _ q => XS.imul X.here hx rfl (hb hby hd) rfl (by rw [hz]; exact q)) k
theorem o_iand (cx : own_Cx p s m meth c Z bytes maxL y ret) (X : own_Sd p l e R s m args below meth c n0 T h C S) {x w z : Int32} (hd : decode bytes pc = .ok (.iand, 1)) (hz : (x &&& w) = z) (k : own_Go p e below P (T.setTop (mkF m (pc + 1) Ls (.int z :: st)))) : own_Go p e below P (T.setTop (mkF m pc Ls (.int w :: .int x :: st))) := by
  obtain ⟨hx, hby, -⟩ := cx
  exact own_st (fun _ q => XS.iand X.here hx rfl (hb hby hd) rfl (by rw [hz]; exact q)) k
theorem o_ior (cx : own_Cx p s m meth c Z bytes maxL y ret) (X : own_Sd p l e R s m args below meth c n0 T h C S) {x w z : Int32} (hd : decode bytes pc = .ok (.ior, 1)) (hz : (x ||| w) = z) (k : own_Go p e below P (T.setTop (mkF m (pc + 1) Ls (.int z :: st)))) : own_Go p e below P (T.setTop (mkF m pc Ls (.int w :: .int x :: st))) := by
  obtain ⟨hx, hby, -⟩ := cx
  exact own_st (fun _ q => XS.ior X.here hx rfl (hb hby hd) rfl (by rw [hz]; exact q)) k
theorem o_ixor (cx : own_Cx p s m meth c Z bytes maxL y ret) (X : own_Sd p l e R s m args below meth c n0 T h C S) {x w z : Int32} (hd : decode bytes pc = .ok (.ixor, 1)) (hz : (x ^^^ w) = z) (k : own_Go p e below P (T.setTop (mkF m (pc + 1) Ls (.int z :: st)))) : own_Go p e below P (T.setTop (mkF m pc Ls (.int w :: .int x :: st))) := by
  obtain ⟨hx, hby, -⟩ := cx
  exact own_st (fun _ q => XS.ixor X.here hx rfl (hb hby hd) rfl (by rw [hz]; exact q)) k
theorem o_ishl (cx : own_Cx p s m meth c Z bytes maxL y ret) (X : own_Sd p l e R s m args below meth c n0 T h C S) {x w z : Int32} (hd : decode bytes pc = .ok (.ishl, 1)) (hz : (x <<< (w &&& 31)) = z) (k : own_Go p e below P (T.setTop (mkF m (pc + 1) Ls (.int z :: st)))) : own_Go p e below P (T.setTop (mkF m pc Ls (.int w :: .int x :: st))) := by
  obtain ⟨hx, hby, -⟩ := cx
  exact own_st (fun _ q => XS.ishl X.here hx rfl (hb hby hd) rfl (by rw [hz]; exact q)) k
theorem o_ishr (cx : own_Cx p s m meth c Z bytes maxL y ret) (X : own_Sd p l e R s m args below meth c n0 T h C S) {x w z : Int32} (hd : decode bytes pc = .ok (.ishr, 1)) (hz : (x >>> (w &&& 31)) = z) (k : own_Go p e below P (T.setTop (mkF m (pc + 1) Ls (.int z :: st)))) : own_Go p e below P (T.setTop (mkF m pc Ls (.int w :: .int x :: st))) := by
  obtain ⟨hx, hby, -⟩ := cx
  exact own_st (fun _ q => XS.ishr X.here hx rfl (hb hby hd) rfl (by rw [hz]; exact q)) k
theorem o_iushr (cx : own_Cx p s m meth c Z bytes maxL y ret) (X : own_Sd p l e R s m args below meth c n0 T h C S) {x w z : Int32} (hd : decode bytes pc = .ok (.iushr, 1)) (hz : ((x.toUInt32 >>> (w &&& 31).toUInt32).toInt32) = z) (k : own_Go p e below P (T.setTop (mkF m (pc + 1) Ls (.int z :: st)))) : own_Go p e below P (T.setTop (mkF m pc Ls (.int w :: .int x :: st))) := by
  obtain ⟨hx, hby, -⟩ := cx
  exact own_st (fun _ q => XS.iushr X.here hx rfl (hb hby hd) rfl (by rw [hz]; exact q)) k
theorem o_ladd (cx : own_Cx p s m meth c Z bytes maxL y ret) (X : own_Sd p l e R s m args below meth c n0 T h C S) {x w z : Int64} (hd : decode bytes pc = .ok (.ladd, 1)) (hz : (x + w) = z) (k : own_Go p e below P (T.setTop (mkF m (pc + 1) Ls (.long z :: st)))) : own_Go p e below P (T.setTop (mkF m pc Ls (.long w :: .long x :: st))) := by
  obtain ⟨hx, hby, -⟩ := cx
  exact own_st (fun _ q => XS.ladd X.here hx rfl (hb hby hd) rfl (by rw [hz]; exact q)) k
theorem o_lsub (cx : own_Cx p s m meth c Z bytes maxL y ret) (X : own_Sd p l e R s m args below meth c n0 T h C S) {x w z : Int64} (hd : decode bytes pc = .ok (.lsub, 1)) (hz : (x - w) = z) (k : own_Go p e below P (T.setTop (mkF m (pc + 1) Ls (.long z :: st)))) : own_Go p e below P (T.setTop (mkF m pc Ls (.long w :: .long x :: st))) := by
  obtain ⟨hx, hby, -⟩ := cx
  exact own_st (fun _ q => XS.lsub X.here hx rfl (hb hby hd) rfl (by rw [hz]; exact q)) k
theorem o_lmul (cx : own_Cx p s m meth c Z bytes maxL y ret) (X : own_Sd p l e R s m args below meth c n0 T h C S) {x w z : Int64} (hd : decode bytes pc = .ok (.lmul, 1)) (hz : (x * w) = z) (k : own_Go p e below P (T.setTop (mkF m (pc + 1) Ls (.long z :: st)))) : own_Go p e below P (T.setTop (mkF m pc Ls (.long w :: .long x :: st))) := by
  obtain ⟨hx, hby, -⟩ := cx
  exact own_st (fun _ q => XS.lmul X.here hx rfl (hb hby hd) rfl (by rw [hz]; exact q)) k
theorem o_land (cx : own_Cx p s m meth c Z bytes maxL y ret) (X : own_Sd p l e R s m args below meth c n0 T h C S) {x w z : Int64} (hd : decode bytes pc = .ok (.land, 1)) (hz : (x &&& w) = z) (k : own_Go p e below P (T.setTop (mkF m (pc + 1) Ls (.long z :: st)))) : own_Go p e below P (T.setTop (mkF m pc Ls (.long w :: .long x :: st))) := by
  obtain ⟨hx, hby, -⟩ := cx
  exact own_st (fun _ q => XS.land X.here hx rfl (hb hby hd) rfl (by rw [hz]; exact q)) k
theorem o_lor (cx : own_Cx p s m meth c Z bytes maxL y ret) (X : own_Sd p l e R s m args below meth c n0 T h C S) {x w z : Int64} (hd : decode bytes pc = .ok (.lor, 1)) (hz : (x ||| w) = z) (k : own_Go p e below P (T.setTop (mkF m (pc + 1) Ls (.long z :: st)))) : own_Go p e below P (T.setTop (mkF m pc Ls (.long w :: .long x :: st))) := by
  obtain ⟨hx, hby, -⟩ := cx
  exact own_st (fun _ q => XS.lor X.here hx rfl (hb hby hd) rfl (by rw [hz]; exact q)) k
theorem o_lxor (cx : own_Cx p s m meth c Z bytes maxL y ret) (X : own_Sd p l e R s m args below meth c n0 T h C S) {x w z : Int64} (hd : decode bytes pc = .ok (.lxor, 1)) (hz : (x ^^^ w) = z) (k : own_Go p e below P (T.setTop (mkF m (pc + 1) Ls (.long z :: st)))) : own_Go p e below P (T.setTop (mkF m pc Ls (.long w :: .long x :: st))) := by
  obtain ⟨hx, hby, -⟩ := cx
  exact own_st (fun _ q => XS.lxor X.here hx rfl (hb hby hd) rfl (by rw [hz]; exact q)) k
theorem o_lshl (cx : own_Cx p s m meth c Z bytes maxL y ret) (X : own_Sd p l e R s m args below meth c n0 T h C S) {x : Int64} {w : Int32} {z : Int64} (hd : decode bytes pc = .ok (.lshl, 1)) (hz : (x <<< (w &&& 0x3f).toInt64) = z) (k : own_Go p e below P (T.setTop (mkF m (pc + 1) Ls (.long z :: st)))) : own_Go p e below P (T.setTop (mkF m pc Ls (.int w :: .long x :: st))) := by
  obtain ⟨hx, hby, -⟩ := cx
  exact own_st (fun _ q => XS.lshl X.here hx rfl (hb hby hd) rfl (by rw [hz]; exact q)) k
theorem o_lshr (cx : own_Cx p s m meth c Z bytes maxL y ret) (X : own_Sd p l e R s m args below meth c n0 T h C S) {x : Int64} {w : Int32} {z : Int64} (hd : decode bytes pc = .ok (.lshr, 1)) (hz : (x >>> (w &&& 0x3f).toInt64) = z) (k : own_Go p e below P (T.setTop (mkF m (pc + 1) Ls (.long z :: st)))) : own_Go p e below P (T.setTop (mkF m pc Ls (.int w :: .long x :: st))) := by
  obtain ⟨hx, hby, -⟩ := cx
  exact own_st (fun _ q => XS.lshr X.here hx rfl (hb hby hd) rfl (by rw [hz]; exact q)) k
theorem o_lushr (cx : own_Cx p s m meth c Z bytes maxL y ret) (X : own_Sd p l e R s m args below meth c n0 T h C S) {x : Int64} {w : Int32} {z : Int64} (hd : decode bytes pc = .ok (.lushr, 1)) (hz : ((x.toUInt64 >>> (w &&& 0x3f).toInt64.toUInt64).toInt64) = z) (k : own_Go p e below P (T.setTop (mkF m (pc + 1) Ls (.long z :: st)))) : own_Go p e below P (T.setTop (mkF m pc Ls (.int w :: .long x :: st))) := by
  obtain ⟨hx, hby, -⟩ := cx
  exact own_st (fun _ q => XS.lushr X.here hx rfl (hb hby hd) rfl (by rw [hz]; exact q)) k
theorem o_ineg (cx : own_Cx p s m meth c Z bytes maxL y ret) (X : own_Sd p l e R s m args below meth c n0 T h C S) {x : Int32} {z : Int32} (hd : decode bytes pc = .ok (.ineg, 1)) (hz : (-x) = z) (k : own_Go p e below P (T.setTop (mkF m (pc + 1) Ls (.int z :: st)))) : own_Go p e below P (T.setTop (mkF m pc Ls (.int x :: st))) := by
  obtain ⟨hx, hby, -⟩ := cx
  exact own_st (fun _ q => XS.ineg X.here hx rfl (hb hby hd) rfl (by rw [hz]; exact q)) k
theorem o_lneg (cx : own_Cx p s m meth c Z bytes maxL y ret) (X : own_Sd p l e R s m args below meth c n0 T h C S) {x : Int64} {z : Int64} (hd : decode bytes pc = .ok (.lneg, 1)) (hz : (-x) = z) (k : own_Go p e below P (T.setTop (mkF m (pc + 1) Ls (.long z :: st)))) : own_Go p e below P (T.setTop (mkF m pc Ls (.long x :: st))) := by
  obtain ⟨hx, hby, -⟩ := cx
  exact own_st (fun _ q => XS.lneg X.here hx rfl (hb hby hd) rfl (by rw [hz]; exact q)) k
theorem o_i2l (cx : own_Cx p s m meth c Z bytes maxL y ret) (X : own_Sd p l e R s m args below meth c n0 T h C S) {x : Int32} {z : Int64} (hd : decode bytes pc = .ok (.i2l, 1)) (hz : (x.toInt64) = z) (k : own_Go p e below P (T.setTop (mkF m (pc + 1) Ls (.long z :: st)))) : own_Go p e below P (T.setTop (mkF m pc Ls (.int x :: st))) := by
  obtain ⟨hx, hby, -⟩ := cx
  exact own_st (fun _ q => XS.i2l X.here hx rfl (hb hby hd) rfl (by rw [hz]; exact q)) k
theorem o_l2i (cx : own_Cx p s m meth c Z bytes maxL y ret) (X : own_Sd p l e R s m args below meth c n0 T h C S) {x : Int64} {z : Int32} (hd : decode bytes pc = .ok (.l2i, 1)) (hz : (x.toInt32) = z) (k : own_Go p e below P (T.setTop (mkF m (pc + 1) Ls (.int z :: st)))) : own_Go p e below P (T.setTop (mkF m pc Ls (.long x :: st))) := by
  obtain ⟨hx, hby, -⟩ := cx
  exact own_st (fun _ q => XS.l2i X.here hx rfl (hb hby hd) rfl (by rw [hz]; exact q)) k
theorem o_i2b (cx : own_Cx p s m meth c Z bytes maxL y ret) (X : own_Sd p l e R s m args below meth c n0 T h C S) {x : Int32} {z : Int32} (hd : decode bytes pc = .ok (.i2b, 1)) (hz : (x.toInt8.toInt32) = z) (k : own_Go p e below P (T.setTop (mkF m (pc + 1) Ls (.int z :: st)))) : own_Go p e below P (T.setTop (mkF m pc Ls (.int x :: st))) := by
  obtain ⟨hx, hby, -⟩ := cx
  exact own_st (fun _ q => XS.i2b X.here hx rfl (hb hby hd) rfl (by rw [hz]; exact q)) k
theorem o_i2s (cx : own_Cx p s m meth c Z bytes maxL y ret) (X : own_Sd p l e R s m args below meth c n0 T h C S) {x : Int32} {z : Int32} (hd : decode bytes pc = .ok (.i2s, 1)) (hz : (x.toInt16.toInt32) = z) (k : own_Go p e below P (T.setTop (mkF m (pc + 1) Ls (.int z :: st)))) : own_Go p e below P (T.setTop (mkF m pc Ls (.int x :: st))) := by
  obtain ⟨hx, hby, -⟩ := cx
  exact own_st (fun _ q => XS.i2s X.here hx rfl (hb hby hd) rfl (by rw [hz]; exact q)) k
theorem o_i2c (cx : own_Cx p s m meth c Z bytes maxL y ret) (X : own_Sd p l e R s m args below meth c n0 T h C S) {x : Int32} {z : Int32} (hd : decode bytes pc = .ok (.i2c, 1)) (hz : (x.toUInt32.toUInt16.toUInt32.toInt32) = z) (k : own_Go p e below P (T.setTop (mkF m (pc + 1) Ls (.int z :: st)))) : own_Go p e below P (T.setTop (mkF m pc Ls (.int x :: st))) := by
  obtain ⟨hx, hby, -⟩ := cx
  exact own_st (fun _ q => XS.i2c X.here hx rfl (hb hby hd) rfl (by rw [hz]; exact q)) k
theorem o_lcmp (cx : own_Cx p s m meth c Z bytes maxL y ret) (X : own_Sd p l e R s m args below meth c n0 T h C S) {x w : Int64} {z : Int32} (hd : decode bytes pc = .ok (.lcmp, 1)) (hz : lcmpW x w = z) (k : own_Go p e below P (T.setTop (mkF m (pc + 1) Ls (.int z :: st)))) : own_Go p e below P (T.setTop (mkF m pc Ls (.long w :: .long x :: st))) := by
  obtain ⟨hx, hby, -⟩ := cx
  exact own_st (fun _ q => XS.lcmp X.here hx rfl (hb hby hd) rfl (by rw [← hz] at q; exact q)) k
theorem o_irem (cx : own_Cx p s m meth c Z bytes maxL y ret) (X : own_Sd p l e R s m args below meth c n0 T h C S) {x w z : Int32} (hd : decode bytes pc = .ok (.irem, 1)) (hw : w ≠ 0) (hz : x % w = z) (k : own_Go p e below P (T.setTop (mkF m (pc + 1) Ls (.int z :: st)))) : own_Go p e below P (T.setTop (mkF m pc Ls (.int w :: .int x :: st))) := by
  obtain ⟨hx, hby, -⟩ := cx
  exact own_st (fun _ q => by obtain ⟨_, X, _⟩ := X; exact iremM X hx rfl (hb hby hd) rfl hw (by rw [hz]; exact q)) k
theorem o_lrem (cx : own_Cx p s m meth c Z bytes maxL y ret) (X : own_Sd p l e R s m args below meth c n0 T h C S) {x w z : Int64} (hd : decode bytes pc = .ok (.lrem, 1)) (hw : w ≠ 0) (hz : x % w = z) (k : own_Go p e below P (T.setTop (mkF m (pc + 1) Ls (.long z :: st)))) : own_Go p e below P (T.setTop (mkF m pc Ls (.long w :: .long x :: st))) := by
  obtain ⟨hx, hby, -⟩ := cx
  exact own_st (fun _ q => XS.lrem X.here hx rfl (hb hby hd) rfl hw (by rw [lrem_mod, hz]; exact q)) k
theorem o_iinc (cx : own_Cx p s m meth c Z bytes maxL y ret) (X : own_Sd p l e R s m args below meth c n0 T h C S) {k : Nat} {i : Int} {x z : Int32} (hd : decode bytes pc = .ok (.iinc k i, 3)) (hl : Ls[k]? = some (.val (.int x))) (hz : x + Int32.ofInt i = z) (hl' : storeLocals Ls k (.int z) = some Ls') (k : own_Go p e below P (T.setTop (mkF m (pc + 3) Ls' st))) : own_Go p e below P (T.setTop (mkF m pc Ls st)) := by
  obtain ⟨hx, hby, -⟩ := cx
  exact own_st (fun _ q => XS.iinc X.here hx rfl (hb hby hd) hl (by rw [hz]; exact hl') q) k
theorem o_dup (cx : own_Cx p s m meth c Z bytes maxL y ret) (X : own_Sd p l e R s m args below meth c n0 T h C S) {v : Value} (hd : decode bytes pc = .ok (.dup, 1)) (hc : v.category = 1) (k : own_Go p e below P (T.setTop (mkF m (pc + 1) Ls (v :: v :: st)))) : own_Go p e below P (T.setTop (mkF m pc Ls (v :: st))) := by
  obtain ⟨hx, hby, -⟩ := cx
  exact own_st (fun _ q => XS.dup X.here hx rfl (hb hby hd) rfl hc q) k
theorem o_pop (cx : own_Cx p s m meth c Z bytes maxL y ret) (X : own_Sd p l e R s m args below meth c n0 T h C S) {v : Value} (hd : decode bytes pc = .ok (.pop, 1)) (hc : v.category = 1) (k : own_Go p e below P (T.setTop (mkF m (pc + 1) Ls st))) : own_Go p e below P (T.setTop (mkF m pc Ls (v :: st))) := by
  obtain ⟨hx, hby, -⟩ := cx
  exact own_st (fun _ q => XS.pop X.here hx rfl (hb hby hd) rfl hc q) k
theorem o_dup_x1 (cx : own_Cx p s m meth c Z bytes maxL y ret) (X : own_Sd p l e R s m args below meth c n0 T h C S) {v w : Value} (hd : decode bytes pc = .ok (.dup_x1, 1)) (hc : v.category = 1) (hc' : w.category = 1) (k : own_Go p e below P (T.setTop (mkF m (pc + 1) Ls (v :: w :: v :: st)))) : own_Go p e below P (T.setTop (mkF m pc Ls (v :: w :: st))) := by
  obtain ⟨hx, hby, -⟩ := cx
  exact own_st (fun _ q => XS.dupX1 X.here hx rfl (hb hby hd) rfl hc hc' q) k
theorem o_dup2 (cx : own_Cx p s m meth c Z bytes maxL y ret) (X : own_Sd p l e R s m args below meth c n0 T h C S) {v w : Value} (hd : decode bytes pc = .ok (.dup2, 1)) (hc : v.category = 1) (hc' : w.category = 1) (k : own_Go p e below P (T.setTop (mkF m (pc + 1) Ls (v :: w :: v :: w :: st)))) : own_Go p e below P (T.setTop (mkF m pc Ls (v :: w :: st))) := by
  obtain ⟨hx, hby, -⟩ := cx
  exact own_st (fun _ q => Jvm.Free.XT.dup2 X.here hx rfl (hb hby hd) rfl hc hc' q) k
theorem o_dup_x2 (cx : own_Cx p s m meth c Z bytes maxL y ret) (X : own_Sd p l e R s m args below meth c n0 T h C S) {x w z : Value} (hd : decode bytes pc = .ok (.dup_x2, 1)) (h1 : x.category = 1) (h2 : w.category = 1) (h3 : z.category = 1) (k : own_Go p e below P (T.setTop (mkF m (pc + 1) Ls (x :: w :: z :: x :: st)))) : own_Go p e below P (T.setTop (mkF m pc Ls (x :: w :: z :: st))) := by
  obtain ⟨hx, hby, -⟩ := cx
  exact own_dupX2 X hx (g := mkF m pc Ls (x :: w :: z :: st)) (hb hby hd) rfl h1 h2 h3 rfl k
theorem o_goto (cx : own_Cx p s m meth c Z bytes maxL y ret) (X : own_Sd p l e R s m args below meth c n0 T h C S) {o : Int} (n : Nat) (hd : decode bytes pc = .ok (.goto o, 3)) (ho : 0 ≤ (pc : Int) + o) (hp : ((pc : Int) + o).toNat = n) (k : own_Go p e below P (T.setTop (mkF m n Ls st))) : own_Go p e below P (T.setTop (mkF m pc Ls st)) := by
  obtain ⟨hx, hby, -⟩ := cx
  exact own_st (fun _ q => XS.goto X.here hx rfl rfl (hb hby hd) ho hp q) k
theorem o_ifYes (cx : own_Cx p s m meth c Z bytes maxL y ret) (X : own_Sd p l e R s m args below meth c n0 T h C S) {cd : ClassFile.Cond} {x : Int32} {o : Int} (n : Nat) (hd : decode bytes pc = .ok (.ifCond cd o, 3)) (hc : ifCond.holds cd x = true) (ho : 0 ≤ (pc : Int) + o) (hp : ((pc : Int) + o).toNat = n) (k : own_Go p e below P (T.setTop (mkF m n Ls st))) : own_Go p e below P (T.setTop (mkF m pc Ls (.int x :: st))) := by
  obtain ⟨hx, hby, -⟩ := cx
  exact own_st (fun _ q => XS.ifYes X.here hx rfl rfl (hb hby hd) rfl hc ho hp q) k
theorem o_ifNo (cx : own_Cx p s m meth c Z bytes maxL y ret) (X : own_Sd p l e R s m args below meth c n0 T h C S) {cd : ClassFile.Cond} {x : Int32} {o : Int} (hd : decode bytes pc = .ok (.ifCond cd o, 3)) (hc : ifCond.holds cd x = false) (k : own_Go p e below P (T.setTop (mkF m (pc + 3) Ls st))) : own_Go p e below P (T.setTop (mkF m pc Ls (.int x :: st))) := by
  obtain ⟨hx, hby, -⟩ := cx
  exact own_st (fun _ q => XS.ifNo X.here hx rfl (hb hby hd) rfl hc q) k
theorem o_icmpYes (cx : own_Cx p s m meth c Z bytes maxL y ret) (X : own_Sd p l e R s m args below meth c n0 T h C S) {cd : ClassFile.Cond} {x w : Int32} {o : Int} (n : Nat) (hd : decode bytes pc = .ok (.if_icmp cd o, 3)) (hc : if_icmp.holds cd x w = true) (ho : 0 ≤ (pc : Int) + o) (hp : ((pc : Int) + o).toNat = n) (k : own_Go p e below P (T.setTop (mkF m n Ls st))) : own_Go p e below P (T.setTop (mkF m pc Ls (.int w :: .int x :: st))) := by
  obtain ⟨hx, hby, -⟩ := cx
  exact own_st (fun _ q => XS.icmpYes X.here hx rfl rfl (hb hby hd) rfl hc ho hp q) k
theorem o_icmpNo (cx : own_Cx p s m meth c Z bytes maxL y ret) (X : own_Sd p l e R s m args below meth c n0 T h C S) {cd : ClassFile.Cond} {x w : Int32} {o : Int} (hd : decode bytes pc = .ok (.if_icmp cd o, 3)) (hc : if_icmp.holds cd x w = false) (k : own_Go p e below P (T.setTop (mkF m (pc + 3) Ls st))) : own_Go p e below P (T.setTop (mkF m pc Ls (.int w :: .int x :: st))) := by
  obtain ⟨hx, hby, -⟩ := cx
  exact own_st (fun _ q => XS.icmpNo X.here hx rfl (hb hby hd) rfl hc q) k
theorem o_ifnullYes (cx : own_Cx p s m meth c Z bytes maxL y ret) (X : own_Sd p l e R s m args below meth c n0 T h C S) {o : Int} (n : Nat) (hd : decode bytes pc = .ok (.ifnull o, 3)) (ho : 0 ≤ (pc : Int) + o) (hp : ((pc : Int) + o).toNat = n) (k : own_Go p e below P (T.setTop (mkF m n Ls st))) : own_Go p e below P (T.setTop (mkF m pc Ls (.null :: st))) := by
  obtain ⟨hx, hby, -⟩ := cx
  exact own_st (fun _ q => XS.ifnullYes X.here hx rfl rfl (hb hby hd) rfl ho hp q) k
theorem o_ifnullNo (cx : own_Cx p s m meth c Z bytes maxL y ret) (X : own_Sd p l e R s m args below meth c n0 T h C S) {o : Int} {b : Addr} (hd : decode bytes pc = .ok (.ifnull o, 3))  (k : own_Go p e below P (T.setTop (mkF m (pc + 3) Ls st))) : own_Go p e below P (T.setTop (mkF m pc Ls (.ref b :: st))) := by
  obtain ⟨hx, hby, -⟩ := cx
  exact own_st (fun _ q => XS.ifnullNo X.here hx rfl (hb hby hd) rfl q) k
theorem o_ifnonnullYes (cx : own_Cx p s m meth c Z bytes maxL y ret) (X : own_Sd p l e R s m args below meth c n0 T h C S) {o : Int} (n : Nat) {b : Addr} (hd : decode bytes pc = .ok (.ifnonnull o, 3)) (ho : 0 ≤ (pc : Int) + o) (hp : ((pc : Int) + o).toNat = n) (k : own_Go p e below P (T.setTop (mkF m n Ls st))) : own_Go p e below P (T.setTop (mkF m pc Ls (.ref b :: st))) := by
  obtain ⟨hx, hby, -⟩ := cx
  exact own_st (fun _ q => XS.ifnonnullYes X.here hx rfl rfl (hb hby hd) rfl ho hp q) k
theorem o_ifnonnullNo (cx : own_Cx p s m meth c Z bytes maxL y ret) (X : own_Sd p l e R s m args below meth c n0 T h C S) {o : Int} (hd : decode bytes pc = .ok (.ifnonnull o, 3))  (k : own_Go p e below P (T.setTop (mkF m (pc + 3) Ls st))) : own_Go p e below P (T.setTop (mkF m pc Ls (.null :: st))) := by
  obtain ⟨hx, hby, -⟩ := cx
  exact own_st (fun _ q => XS.ifnonnullNo X.here hx rfl (hb hby hd) rfl q) k
theorem o_acmp (cx : own_Cx p s m meth c Z bytes maxL y ret) (X : own_Sd p l e R s m args below meth c n0 T h C S) {cd : ACond} {x w : Value} {o : Int} (n : Nat) (same : Bool) (hd : decode bytes pc = .ok (.if_acmp cd o, 3)) (h1 : x.isRef = true) (h2 : w.isRef = true) (hsame : decide (x = w) = same) (ho : 0 ≤ (pc : Int) + o) (hp : n = if acV cd same then ((pc : Int) + o).toNat else pc + 3) (k : own_Go p e below P (T.setTop (mkF m n Ls st))) : own_Go p e below P (T.setTop (mkF m pc Ls (w :: x :: st))) := by
  obtain ⟨hx, hby, hml, hown, hnm, hret, hlk, hZ⟩ := cx
  exact own_acmp X hx (g := mkF m pc Ls (w :: x :: st)) rfl h1 h2 rfl (hb hby hd) rfl hsame ho hp k
theorem o_ldc (cx : own_Cx p s m meth c Z bytes maxL y ret) (X : own_Sd p l e R s m args below meth c n0 T h C S) {j : Nat} {z : Int32} (hd : decode bytes pc = .ok (.ldc j, 2)) (w : (Jvm.Cond.constant y.cls j z).before a0 Z = true) (k : own_Go p e below P (T.setTop (mkF m (pc + 2) Ls (.int z :: st)))) : own_Go p e below P (T.setTop (mkF m pc Ls st)) := by
  obtain ⟨hx, hby, hml, hown, hnm, hret, hlk, hZ⟩ := cx
  exact own_ldc X hx hZ hown w (g := mkF m pc Ls st) rfl (hb hby hd) k
theorem o_ldc2 (cx : own_Cx p s m meth c Z bytes maxL y ret) (X : own_Sd p l e R s m args below meth c n0 T h C S) {j : Nat} {z : Int64} (hd : decode bytes pc = .ok (.ldc2_w j, 3)) (w : (Jvm.Cond.constantLong y.cls j z).before a0 Z = true) (k : own_Go p e below P (T.setTop (mkF m (pc + 3) Ls (.long z :: st)))) : own_Go p e below P (T.setTop (mkF m pc Ls st)) := by
  obtain ⟨hx, hby, hml, hown, hnm, hret, hlk, hZ⟩ := cx
  exact own_ldc2 X hx hZ hown w (g := mkF m pc Ls st) rfl (hb hby hd) k
theorem o_getF (cx : own_Cx p s m meth c Z bytes maxL y ret) (X : own_Sd p l e R s m args below meth c n0 T h C S) {O n d : String} {j : Nat} (hd : decode bytes pc = .ok (.getfield j, 3)) (w : (Jvm.Cond.fieldLink y.cls j O n d).before a0 Z = true) (F : Fld Z h a O n d v) (k : ∀ T', own_Sd p l e R s m args below meth c n0 T' h C S → own_Go p e below P (T'.setTop (mkF m (pc + 3) Ls (v :: st)))) : own_Go p e below P (T.setTop (mkF m pc Ls (.ref a :: st))) := by
  obtain ⟨hx, hby, hml, hown, hnm, hret, hlk, hZ⟩ := cx
  exact own_getF X hx hZ hown w F (g := mkF m pc Ls (.ref a :: st)) rfl rfl (hb hby hd) k
theorem o_putF (cx : own_Cx p s m meth c Z bytes maxL y ret) (X : own_Sd p l e R s m args below meth c n0 T h C S) {O n d K : String} {j kk : Nat} {v' old : Value} (hd : decode bytes pc = .ok (.putfield j, 3)) (w : (Jvm.Cond.fieldLink y.cls j O n d).before a0 Z = true) (F : Fld Z h a O n d old) (E : Exa Z h a K) (L : (Jvm.Cond.lays K O n d).before a0 Z = true ∨ ((Jvm.Cond.laysFinal K O n d).before a0 Z = true ∧ y.cls = O ∧ y.name = "<init>")) (wi : (Jvm.Cond.instantiable K kk).before a0 Z = true) (hty : parseFieldDescriptor d = some ty) (hn : narrow ty v = v') (hf : fits ty v' = true) (ga : n0 ≤ a) (k : ∀ T' h', own_Sd p l e R s m args below meth c n0 T' h' C S → Wr h h' a (Jvm.RoadKit.slotOf Z O n d) v' → own_Go p e below P (T'.setTop (mkF m (pc + 3) Ls st))) : own_Go p e below P (T.setTop (mkF m pc Ls (v :: .ref a :: st))) := by
  obtain ⟨hx, hby, hml, hown, hnm, hret, hlk, hZ⟩ := cx
  exact own_putF X hx hZ hown w F E (by rw [hnm]; exact L) wi hty hn hf ga (g := mkF m pc Ls (v :: .ref a :: st)) rfl rfl (hb hby hd) k
theorem o_newO (cx : own_Cx p s m meth c Z bytes maxL y ret) (X : own_Sd p l e R s m args below meth c n0 T h C S) {K : String} {j n : Nat} (hd : decode bytes pc = .ok (.new j, 3)) (w : (Jvm.Cond.classLink y.cls j K).before a0 Z = true) (wi : (Jvm.Cond.instantiable K n).before a0 Z = true) (wz : (Jvm.Cond.initialized K).before a0 Z = true) (hc : C + 1 ≤ R.cells) (hl : S + n ≤ R.slots) (k : ∀ T' h' b, b = h.size → n0 ≤ b → own_Sd p l e R s m args below meth c n0 T' h' (C + 1) (S + n) → Ext h h' → Exa Z h' b K → (∀ {O nm d : String} {ty : FieldType}, Laid Z a0 K O nm d → parseFieldDescriptor d = some ty → Fld Z h' b O nm d (defaultValue ty)) → own_Go p e below P (T'.setTop (mkF m (pc + 3) Ls (.ref b :: st)))) : own_Go p e below P (T.setTop (mkF m pc Ls st)) := by
  obtain ⟨hx, hby, hml, hown, hnm, hret, hlk, hZ⟩ := cx
  exact own_newO X hx hZ hown w wi wz (g := mkF m pc Ls st) rfl (hb hby hd) hc hl k
theorem o_initO (cx : own_Cx p s m meth c Z bytes maxL y ret) (X : own_Sd p l e R s m args below meth c n0 T h C S) {j : Nat} (hd : decode bytes pc = .ok (.invokespecial j, 3)) (w1 : (Jvm.Cond.methodLink y.cls j Lib.objectInit).before a0 Z = true) (w2 : (Jvm.Cond.instanceMethod Lib.objectInit).before a0 Z = true) (w3 : (Jvm.Cond.code Lib.objectInit ⟨#[0xb1]⟩ 1 none).before a0 Z = true) (hsz : Ls.size = maxL) (hf : 1 ≤ R.frames) (W : Nat) (hW : (st.map fun v => v.category).sum = W) (hl : W + 12 ≤ R.locals) (k : ∀ T', own_Sd p l e R s m args below meth c n0 T' h C S → own_Go p e below P (T'.setTop (mkF m (pc + 3) Ls st))) : own_Go p e below P (T.setTop (mkF m pc Ls (.ref a :: st))) := by
  obtain ⟨hx, hby, hml, hown, hnm, hret, hlk, hZ⟩ := cx
  exact own_initO X hx hZ hown w1 w2 w3 (g := mkF m pc Ls (.ref a :: st)) rfl (by rw [hml]; exact hsz) rfl (hb hby hd) hf (W := W) (by show 2 * 0 + _ ≤ _; omega) hl k
theorem o_callS (cx : own_Cx p s m meth c Z bytes maxL y ret) (X : own_Sd p l e R s m args below meth c n0 T h C S) {y' : MethodName} {bytes' : ByteArray} {maxL' : Nat} {ret' : Option FieldType} {j : Nat} {stk : List Value} (hd : decode bytes pc = .ok (.invokestatic j, 3)) (w1 : (Jvm.Cond.methodLink y.cls j y').before a0 Z = true) (w2 : (Jvm.Cond.static y').before a0 Z = true) (w3 : (Jvm.Cond.initialized y'.cls).before a0 Z = true) (w4 : (Jvm.Cond.code y' bytes' maxL' ret').before a0 Z = true) (hy : y'.cls ≠ "java/lang/invoke/MethodHandle" ∧ y'.cls ≠ "java/lang/invoke/VarHandle") {rm : Room} {as' : Array Value}  (hM : own_Met l Z y' bytes' maxL' ret' rm as' h n0 Q) (hf : rm.frames + 1 ≤ R.frames) (W : Nat) (hW : (st.map fun v => v.category).sum = W) (hlo : W + (maxL' + 11) + rm.locals ≤ R.locals) (hsz : Ls.size = maxL) {argsL : List Value} (hlen : ∀ sig, parseMethodDescriptor y'.desc = some sig → argsL.length = sig.parameters.length) (has : argsL.toArray = as') (hstk : stk = argsL.reverse ++ st) (hc : C + rm.cells ≤ R.cells) (hs : S + rm.slots ≤ R.slots) (k : ∀ v T' h', own_Sd p l e R s m args below meth c n0 T' h' (C + rm.cells) (S + rm.slots) → Q v h' → own_Go p e below P (T'.setTop (mkF m (pc + 3) Ls (v.toList ++ st)))) : own_Go p e below P (T.setTop (mkF m pc Ls stk)) := by
  obtain ⟨hx, hby, hml, hown, hnm, hret, hlk, hZ⟩ := cx
  exact own_callS X hx hZ hown w1 w2 w3 w4 hy hM hf (W := W) hlo (g := mkF m pc Ls stk) rfl (by rw [hml]; exact hsz) hlen has hstk (by show 2 * 0 + _ ≤ _; omega) (hb hby hd) hc hs k
theorem o_callC (cx : own_Cx p s m meth c Z bytes maxL y ret) (X : own_Sd p l e R s m args below meth c n0 T h C S) {y' : MethodName} {bytes' : ByteArray} {maxL' : Nat} {j : Nat} {stk : List Value} (hd : decode bytes pc = .ok (.invokespecial j, 3)) (w1 : (Jvm.Cond.methodLink y.cls j y').before a0 Z = true) (w2 : (Jvm.Cond.instanceMethod y').before a0 Z = true) (w3 : (Jvm.Cond.initialized y'.cls).before a0 Z = true) (w4 : (Jvm.Cond.code y' bytes' maxL' none).before a0 Z = true) (hy : y'.cls ≠ "java/lang/invoke/MethodHandle" ∧ y'.cls ≠ "java/lang/invoke/VarHandle") (hy1 : y'.name = "<init>") {rm : Room} {as' : Array Value}  (hM : own_Met l Z y' bytes' maxL' none rm as' h n0 Q) (hf : rm.frames + 1 ≤ R.frames) (W : Nat) (hW : (st.map fun v => v.category).sum = W) (hlo : W + (maxL' + 11) + rm.locals ≤ R.locals) (hsz : Ls.size = maxL) {argsL : List Value} (hlen : ∀ sig, parseMethodDescriptor y'.desc = some sig → argsL.length = sig.parameters.length) (has : (.ref a :: argsL).toArray = as') (hstk : stk = argsL.reverse ++ .ref a :: st) (hc : C + rm.cells ≤ R.cells) (hs : S + rm.slots ≤ R.slots) (k : ∀ v T' h', own_Sd p l e R s m args below meth c n0 T' h' (C + rm.cells) (S + rm.slots) → Q v h' → own_Go p e below P (T'.setTop (mkF m (pc + 3) Ls (v.toList ++ st)))) : own_Go p e below P (T.setTop (mkF m pc Ls stk)) := by
  obtain ⟨hx, hby, hml, hown, hnm, hret, hlk, hZ⟩ := cx
  exact own_callC X hx hZ hy1 hown w1 w2 w3 w4 hy hM hf (W := W) hlo (g := mkF m pc Ls stk) rfl (by rw [hml]; exact hsz) hlen has hstk (by show 2 * 0 + _ ≤ _; omega) (hb hby hd) hc hs k
theorem o_callV (cx : own_Cx p s m meth c Z bytes maxL y ret) (X : own_Sd p l e R s m args below meth c n0 T h C S) {y' : MethodName} {bytes' : ByteArray} {maxL' : Nat} {ret' : Option FieldType} {j : Nat} {stk : List Value} {K : String} (hd : decode bytes pc = .ok (.invokevirtual j, 3)) (w1 : (Jvm.Cond.methodLink y.cls j y').before a0 Z = true) (w2 : (Jvm.Cond.declares y').before a0 Z = true) (w5 : (Jvm.Cond.selects K y' y').before a0 Z = true) (w6 : (Jvm.Cond.instanceMethod y').before a0 Z = true) (w3 : (Jvm.Cond.initialized y'.cls).before a0 Z = true) (w4 : (Jvm.Cond.code y' bytes' maxL' ret').before a0 Z = true) (hy : y'.cls ≠ "java/lang/invoke/MethodHandle" ∧ y'.cls ≠ "java/lang/invoke/VarHandle") (E : Exa Z h a K) {rm : Room} {as' : Array Value}  (hM : own_Met l Z y' bytes' maxL' ret' rm as' h n0 Q) (hf : rm.frames + 1 ≤ R.frames) (W : Nat) (hW : (st.map fun v => v.category).sum = W) (hlo : W + (maxL' + 11) + rm.locals ≤ R.locals) (hsz : Ls.size = maxL) {argsL : List Value} (hlen : ∀ sig, parseMethodDescriptor y'.desc = some sig → argsL.length = sig.parameters.length) (has : (.ref a :: argsL).toArray = as') (hstk : stk = argsL.reverse ++ .ref a :: st) (hc : C + rm.cells ≤ R.cells) (hs : S + rm.slots ≤ R.slots) (k : ∀ v T' h', own_Sd p l e R s m args below meth c n0 T' h' (C + rm.cells) (S + rm.slots) → Q v h' → own_Go p e below P (T'.setTop (mkF m (pc + 3) Ls (v.toList ++ st)))) : own_Go p e below P (T.setTop (mkF m pc Ls stk)) := by
  obtain ⟨hx, hby, hml, hown, hnm, hret, hlk, hZ⟩ := cx
  exact own_callV X hx hZ hown w1 w2 w5 w6 w3 w4 hy E hM hf (W := W) hlo (g := mkF m pc Ls stk) rfl (by rw [hml]; exact hsz) hlen has hstk (by show 2 * 0 + _ ≤ _; omega) (hb hby hd) hc hs k
theorem o_callP (cx : own_Cx p s m meth c Z bytes maxL y ret) (X : own_Sd p l e R s m args below meth c n0 T h C S) {y' : MethodName} {bytes' : ByteArray} {maxL' : Nat} {ret' : Option FieldType} {j : Nat} {stk : List Value} {K K' : String} {y2 : MethodName} (hd : decode bytes pc = .ok (.invokevirtual j, 3)) (w1 : (Jvm.Cond.methodLink y.cls j y').before a0 Z = true) (w7 : (Jvm.Cond.privateMethod y').before a0 Z = true) (w5 : (Jvm.Cond.selects K y2 y2).before a0 Z = true) (hyy : y2.cls = y'.cls) (w6 : (Jvm.Cond.instanceMethod y').before a0 Z = true) (w3 : (Jvm.Cond.initialized y'.cls).before a0 Z = true) (w4 : (Jvm.Cond.code y' bytes' maxL' ret').before a0 Z = true) (hy : y'.cls ≠ "java/lang/invoke/MethodHandle" ∧ y'.cls ≠ "java/lang/invoke/VarHandle") (E : Exa Z h a K') {rm : Room} {as' : Array Value}  (hM : own_Met l Z y' bytes' maxL' ret' rm as' h n0 Q) (hf : rm.frames + 1 ≤ R.frames) (W : Nat) (hW : (st.map fun v => v.category).sum = W) (hlo : W + (maxL' + 11) + rm.locals ≤ R.locals) (hsz : Ls.size = maxL) {argsL : List Value} (hlen : ∀ sig, parseMethodDescriptor y'.desc = some sig → argsL.length = sig.parameters.length) (has : (.ref a :: argsL).toArray = as') (hstk : stk = argsL.reverse ++ .ref a :: st) (hc : C + rm.cells ≤ R.cells) (hs : S + rm.slots ≤ R.slots) (k : ∀ v T' h', own_Sd p l e R s m args below meth c n0 T' h' (C + rm.cells) (S + rm.slots) → Q v h' → own_Go p e below P (T'.setTop (mkF m (pc + 3) Ls (v.toList ++ st)))) : own_Go p e below P (T.setTop (mkF m pc Ls stk)) := by
  obtain ⟨hx, hby, hml, hown, hnm, hret, hlk, hZ⟩ := cx
  exact own_callP X hx hZ hown w1 w7 w5 hyy w6 w3 w4 hy E hM hf (W := W) hlo (g := mkF m pc Ls stk) rfl (by rw [hml]; exact hsz) hlen has hstk (by show 2 * 0 + _ ≤ _; omega) (hb hby hd) hc hs k
theorem o_callSp (cx : own_Cx p s m meth c Z bytes maxL y ret) (X : own_Sd p l e R s m args below meth c n0 T h C S) {y' : MethodName} {bytes' : ByteArray} {maxL' : Nat} {ret' : Option FieldType} {j : Nat} {stk : List Value} (hd : decode bytes pc = .ok (.invokestatic j, 3)) (w1 : (Jvm.Cond.methodLink y.cls j y').before a0 Z = true) (w2 : (Jvm.Cond.static y').before a0 Z = true) (w3 : (Jvm.Cond.initialized y'.cls).before a0 Z = true) (w4 : (Jvm.Cond.code y' bytes' maxL' ret').before a0 Z = true) (hy : y'.cls ≠ "java/lang/invoke/MethodHandle" ∧ y'.cls ≠ "java/lang/invoke/VarHandle") {rm : Room} {as' : Array Value} {r : Option Value} (hM : own_Met l Z y' bytes' maxL' ret' rm as' h n0 (fun v' h' => v' = r ∧ h' = h)) (hf : rm.frames + 1 ≤ R.frames) (W : Nat) (hW : (st.map fun v => v.category).sum = W) (hlo : W + (maxL' + 11) + rm.locals ≤ R.locals) (hsz : Ls.size = maxL) {argsL : List Value} (hlen : ∀ sig, parseMethodDescriptor y'.desc = some sig → argsL.length = sig.parameters.length) (has : argsL.toArray = as') (hstk : stk = argsL.reverse ++ st) (hc : C + rm.cells ≤ R.cells) (hs : S + rm.slots ≤ R.slots) (k : ∀ T', own_Sd p l e R s m args below meth c n0 T' h (C + rm.cells) (S + rm.slots) → own_Go p e below P (T'.setTop (mkF m (pc + 3) Ls (r.toList ++ st)))) : own_Go p e below P (T.setTop (mkF m pc Ls stk)) := by
  obtain ⟨hx, hby, hml, hown, hnm, hret, hlk, hZ⟩ := cx
  exact own_callSp X hx hZ hown w1 w2 w3 w4 hy hM hf (W := W) hlo (g := mkF m pc Ls stk) rfl (by rw [hml]; exact hsz) hlen has hstk (by show 2 * 0 + _ ≤ _; omega) (hb hby hd) hc hs k
theorem o_callCp (cx : own_Cx p s m meth c Z bytes maxL y ret) (X : own_Sd p l e R s m args below meth c n0 T h C S) {y' : MethodName} {bytes' : ByteArray} {maxL' : Nat} {j : Nat} {stk : List Value} (hd : decode bytes pc = .ok (.invokespecial j, 3)) (w1 : (Jvm.Cond.methodLink y.cls j y').before a0 Z = true) (w2 : (Jvm.Cond.instanceMethod y').before a0 Z = true) (w3 : (Jvm.Cond.initialized y'.cls).before a0 Z = true) (w4 : (Jvm.Cond.code y' bytes' maxL' none).before a0 Z = true) (hy : y'.cls ≠ "java/lang/invoke/MethodHandle" ∧ y'.cls ≠ "java/lang/invoke/VarHandle") (hy1 : y'.name = "<init>") {rm : Room} {as' : Array Value} {r : Option Value} (hM : own_Met l Z y' bytes' maxL' none rm as' h n0 (fun v' h' => v' = r ∧ h' = h)) (hf : rm.frames + 1 ≤ R.frames) (W : Nat) (hW : (st.map fun v => v.category).sum = W) (hlo : W + (maxL' + 11) + rm.locals ≤ R.locals) (hsz : Ls.size = maxL) {argsL : List Value} (hlen : ∀ sig, parseMethodDescriptor y'.desc = some sig → argsL.length = sig.parameters.length) (has : (.ref a :: argsL).toArray = as') (hstk : stk = argsL.reverse ++ .ref a :: st) (hc : C + rm.cells ≤ R.cells) (hs : S + rm.slots ≤ R.slots) (k : ∀ T', own_Sd p l e R s m args below meth c n0 T' h (C + rm.cells) (S + rm.slots) → own_Go p e below P (T'.setTop (mkF m (pc + 3) Ls (r.toList ++ st)))) : own_Go p e below P (T.setTop (mkF m pc Ls stk)) := by
  obtain ⟨hx, hby, hml, hown, hnm, hret, hlk, hZ⟩ := cx
  exact own_callCp X hx hZ hy1 hown w1 w2 w3 w4 hy hM hf (W := W) hlo (g := mkF m pc Ls stk) rfl (by rw [hml]; exact hsz) hlen has hstk (by show 2 * 0 + _ ≤ _; omega) (hb hby hd) hc hs k
theorem o_callVp (cx : own_Cx p s m meth c Z bytes maxL y ret) (X : own_Sd p l e R s m args below meth c n0 T h C S) {y' : MethodName} {bytes' : ByteArray} {maxL' : Nat} {ret' : Option FieldType} {j : Nat} {stk : List Value} {K : String} (hd : decode bytes pc = .ok (.invokevirtual j, 3)) (w1 : (Jvm.Cond.methodLink y.cls j y').before a0 Z = true) (w2 : (Jvm.Cond.declares y').before a0 Z = true) (w5 : (Jvm.Cond.selects K y' y').before a0 Z = true) (w6 : (Jvm.Cond.instanceMethod y').before a0 Z = true) (w3 : (Jvm.Cond.initialized y'.cls).before a0 Z = true) (w4 : (Jvm.Cond.code y' bytes' maxL' ret').before a0 Z = true) (hy : y'.cls ≠ "java/lang/invoke/MethodHandle" ∧ y'.cls ≠ "java/lang/invoke/VarHandle") (E : Exa Z h a K) {rm : Room} {as' : Array Value} {r : Option Value} (hM : own_Met l Z y' bytes' maxL' ret' rm as' h n0 (fun v' h' => v' = r ∧ h' = h)) (hf : rm.frames + 1 ≤ R.frames) (W : Nat) (hW : (st.map fun v => v.category).sum = W) (hlo : W + (maxL' + 11) + rm.locals ≤ R.locals) (hsz : Ls.size = maxL) {argsL : List Value} (hlen : ∀ sig, parseMethodDescriptor y'.desc = some sig → argsL.length = sig.parameters.length) (has : (.ref a :: argsL).toArray = as') (hstk : stk = argsL.reverse ++ .ref a :: st) (hc : C + rm.cells ≤ R.cells) (hs : S + rm.slots ≤ R.slots) (k : ∀ T', own_Sd p l e R s m args below meth c n0 T' h (C + rm.cells) (S + rm.slots) → own_Go p e below P (T'.setTop (mkF m (pc + 3) Ls (r.toList ++ st)))) : own_Go p e below P (T.setTop (mkF m pc Ls stk)) := by
  obtain ⟨hx, hby, hml, hown, hnm, hret, hlk, hZ⟩ := cx
  exact own_callVp X hx hZ hown w1 w2 w5 w6 w3 w4 hy E hM hf (W := W) hlo (g := mkF m pc Ls stk) rfl (by rw [hml]; exact hsz) hlen has hstk (by show 2 * 0 + _ ≤ _; omega) (hb hby hd) hc hs k
theorem o_callPp (cx : own_Cx p s m meth c Z bytes maxL y ret) (X : own_Sd p l e R s m args below meth c n0 T h C S) {y' : MethodName} {bytes' : ByteArray} {maxL' : Nat} {ret' : Option FieldType} {j : Nat} {stk : List Value} {K K' : String} {y2 : MethodName} (hd : decode bytes pc = .ok (.invokevirtual j, 3)) (w1 : (Jvm.Cond.methodLink y.cls j y').before a0 Z = true) (w7 : (Jvm.Cond.privateMethod y').before a0 Z = true) (w5 : (Jvm.Cond.selects K y2 y2).before a0 Z = true) (hyy : y2.cls = y'.cls) (w6 : (Jvm.Cond.instanceMethod y').before a0 Z = true) (w3 : (Jvm.Cond.initialized y'.cls).before a0 Z = true) (w4 : (Jvm.Cond.code y' bytes' maxL' ret').before a0 Z = true) (hy : y'.cls ≠ "java/lang/invoke/MethodHandle" ∧ y'.cls ≠ "java/lang/invoke/VarHandle") (E : Exa Z h a K') {rm : Room} {as' : Array Value} {r : Option Value} (hM : own_Met l Z y' bytes' maxL' ret' rm as' h n0 (fun v' h' => v' = r ∧ h' = h)) (hf : rm.frames + 1 ≤ R.frames) (W : Nat) (hW : (st.map fun v => v.category).sum = W) (hlo : W + (maxL' + 11) + rm.locals ≤ R.locals) (hsz : Ls.size = maxL) {argsL : List Value} (hlen : ∀ sig, parseMethodDescriptor y'.desc = some sig → argsL.length = sig.parameters.length) (has : (.ref a :: argsL).toArray = as') (hstk : stk = argsL.reverse ++ .ref a :: st) (hc : C + rm.cells ≤ R.cells) (hs : S + rm.slots ≤ R.slots) (k : ∀ T', own_Sd p l e R s m args below meth c n0 T' h (C + rm.cells) (S + rm.slots) → own_Go p e below P (T'.setTop (mkF m (pc + 3) Ls (r.toList ++ st)))) : own_Go p e below P (T.setTop (mkF m pc Ls stk)) := by
  obtain ⟨hx, hby, hml, hown, hnm, hret, hlk, hZ⟩ := cx
  exact own_callPp X hx hZ hown w1 w7 w5 hyy w6 w3 w4 hy E hM hf (W := W) hlo (g := mkF m pc Ls stk) rfl (by rw [hml]; exact hsz) hlen has hstk (by show 2 * 0 + _ ≤ _; omega) (hb hby hd) hc hs k
theorem o_retI (cx : own_Cx p s m meth c Z bytes maxL y (some .int)) (X : own_Sd p l e R s m args below meth c n0 T h C S) {z : Int32} (hd : decode bytes pc = .ok (.ireturn, 1)) (q : Q (some (.int z)) h) (hC : C ≤ R.cells) (hS : S ≤ R.slots) : own_Go p e below (own_End below s R n0 Q) (T.setTop (mkF m pc Ls (.int z :: st))) := by
  obtain ⟨hx, hby, hml, hown, hnm, hret, hlk, hZ⟩ := cx
  exact own_retI X hx hret hlk (hb hby hd) hC hS q
theorem o_retN {t : FieldType} (cx : own_Cx p s m meth c Z bytes maxL y (some t)) (X : own_Sd p l e R s m args below meth c n0 T h C S) {z z' : Int32} (hd : decode bytes pc = .ok (.ireturn, 1)) (ht : t = .boolean ∨ t = .byte ∨ t = .char ∨ t = .short) (hz : nar t z = z') (q : Q (some (.int z')) h) (hC : C ≤ R.cells) (hS : S ≤ R.slots) : own_Go p e below (own_End below s R n0 Q) (T.setTop (mkF m pc Ls (.int z :: st))) := by
  obtain ⟨hx, hby, hml, hown, hnm, hret, hlk, hZ⟩ := cx
  exact own_retN X hx hret ht hlk (hb hby hd) hC hS (by rw [hz]; exact q)
theorem o_retJ (cx : own_Cx p s m meth c Z bytes maxL y (some .long)) (X : own_Sd p l e R s m args below meth c n0 T h C S) {z : Int64} (hd : decode bytes pc = .ok (.lreturn, 1)) (q : Q (some (.long z)) h) (hC : C ≤ R.cells) (hS : S ≤ R.slots) : own_Go p e below (own_End below s R n0 Q) (T.setTop (mkF m pc Ls (.long z :: st))) := by
  obtain ⟨hx, hby, hml, hown, hnm, hret, hlk, hZ⟩ := cx
  exact own_retJ X hx hret hlk (hb hby hd) hC hS q
theorem o_retA {t : FieldType} (cx : own_Cx p s m meth c Z bytes maxL y (some t)) (X : own_Sd p l e R s m args below meth c n0 T h C S) {w : Value} (hd : decode bytes pc = .ok (.areturn, 1)) (ht : t.isReference = true) (hw : w.isRef = true) (hn : narrow t w = w) (q : Q (some w) h) (hC : C ≤ R.cells) (hS : S ≤ R.slots) : own_Go p e below (own_End below s R n0 Q) (T.setTop (mkF m pc Ls (w :: st))) := by
  obtain ⟨hx, hby, hml, hown, hnm, hret, hlk, hZ⟩ := cx
  exact own_retA X hx hret ht hlk hw hn (hb hby hd) hC hS q
theorem o_retV (cx : own_Cx p s m meth c Z bytes maxL y none) (X : own_Sd p l e R s m args below meth c n0 T h C S)  (hd : decode bytes pc = .ok (.return_, 1)) (q : Q none h) (hC : C ≤ R.cells) (hS : S ≤ R.slots) : own_Go p e below (own_End below s R n0 Q) (T.setTop (mkF m pc Ls [])) := by
  obtain ⟨hx, hby, hml, hown, hnm, hret, hlk, hZ⟩ := cx
  exact own_retV X hx hret hlk (hb hby hd) hC hS q
end OwnS
section OwnA
variable {p : Program} {l : Launch} {e : Env} {R : Room} {s : State} {m : MethodId} {args : Array Value} {below : List Frame} {meth : Method} {c : Code} {T : State} {n0 C S : Nat} {Z : State} {a0 : Array Value} {h h' : Heap} {P : State → Outcome → Prop} {a b : Addr} {ty : FieldType} {vs : List Value} {v : Value} {sl i : Nat} {wsA : List Addr}
/-- an array with just these elements -/
def own_Ar (Z : State) (h : Heap) (a : Addr) (ty : FieldType) (vs : List Value) : Prop := ∃ cl : Cell, Arr Z h a cl ty ∧ cl.slots = vs.toArray ∧ vs.length < 2 ^ 31
theorem own_Ar.lt (F : own_Ar Z h a ty vs) : a < h.size := by obtain ⟨_, A, _⟩ := F; exact A.lt
theorem own_Ar.ext (F : own_Ar Z h a ty vs) (E : Ext h h') : own_Ar Z h' a ty vs := by obtain ⟨c, A, r⟩ := F; exact ⟨c, A.ext E, r⟩
theorem own_Ar.other (F : own_Ar Z h b ty vs) (W : Wr h h' a sl v) (q : b ≠ a) : own_Ar Z h' b ty vs := by obtain ⟨c, A, r⟩ := F; exact ⟨c, A.other W q, r⟩
theorem own_Ar.keep (F : own_Ar Z h a ty vs) (K : Keep h h' wsA) (q : a ∉ wsA) : own_Ar Z h' a ty vs := by obtain ⟨c, A, r⟩ := F; exact ⟨c, ⟨K.2.1 a c A.1 q, A.2⟩, r⟩
theorem own_Ar.set (F : own_Ar Z h a ty vs) (W : Wr h h' a i v) : own_Ar Z h' a ty (vs.set i v) := by
  obtain ⟨cl, A, e, hl⟩ := F
  exact ⟨_, A.same W, by simp [Cell.setSlot, e], by simpa using hl⟩
theorem own_newP (X : own_Sd p l e R s m args below meth c n0 T h C S) (hx : p.tables.exec = Jvm.exec) (hZ : Z.Warmed39 s.vm) {aty : ArrayType} (w : (Cond.arrayClass (newarray.typeOf aty)).before a0 Z = true) {g : JFrame} (hg : g.method = m) (hd : decode c.code g.pc = .ok (.newarray aty, 2)) {n : Int32} {rest : List Value} (hs : g.stack = .int n :: rest)
    (hn : ¬ n < 0) {N cap : Nat} (hN : n.toNatClampNeg = N) (hcap : N ≤ cap) (hb : cap * 8 ≤ 536870912) (hc : C + 1 ≤ R.cells) (hl : S + cap ≤ R.slots)
    (k : ∀ T' h' b, b = h.size → n0 ≤ b → own_Sd p l e R s m args below meth c n0 T' h' (C + 1) (S + cap) → Ext h h' → own_Ar Z h' b (newarray.typeOf aty) (List.replicate N (defaultValue (newarray.typeOf aty))) → own_Go p e below P (T'.setTop { g with pc := g.pc + 2, stack := .ref b :: rest })) : own_Go p e below P (T.setTop g) := by
  have hn0 := X.ge0
  obtain ⟨L, X, N', eT, r1, r2⟩ := X
  obtain ⟨T', h', cA, X', e', E, A, st⟩ := newP X hx hZ w eT hg hd hs hn (cap := cap) (by rw [hN]; exact hcap) hb hc hl
  refine own_st st (k T' h' h.size rfl hn0 ⟨L, X', N', e', r1, Nat.le_trans r2 E.1⟩ E ⟨_, A, ?_, ?_⟩)
  · simp [newA, hN]
  · have := (back32 hn).2; rw [List.length_replicate]; omega
theorem own_inb {cl : Cell} (e : cl.slots = vs.toArray) {j : Int32} (hj : ¬ j < 0) (hi : j.toNatClampNeg = i) (hl : i < vs.length) : ¬ (j < 0 ∨ cl.slots.size ≤ j.toNatClampNeg) := by
  rw [e, hi]; intro q; rcases q with q | q
  · exact hj q
  · simp at q; omega
theorem own_stB (X : own_Sd p l e R s m args below meth c n0 T h C S) (hx : p.tables.exec = Jvm.exec) (hZ : Z.Warmed39 s.vm) (A : own_Ar Z h a .byte vs) {j x x' : Int32} (hj : ¬ j < 0) (hi : j.toNatClampNeg = i) (hl : i < vs.length) (hv : x.toInt8.toInt32 = x') (ga : n0 ≤ a) {g : JFrame} (hg : g.method = m) {rest : List Value} (hs : g.stack = .int x :: .int j :: .ref a :: rest) (hd : decode c.code g.pc = .ok (.bastore, 1))
    (k : ∀ T' h', own_Sd p l e R s m args below meth c n0 T' h' C S → Wr h h' a i (.int x') → own_Ar Z h' a .byte (vs.set i (.int x')) → own_Go p e below P (T'.setTop { g with pc := g.pc + 1, stack := rest })) : own_Go p e below P (T.setTop g) := by
  obtain ⟨L, X, N, eT, r1, r2⟩ := X
  have A0 := A
  obtain ⟨cl, A1, e1, hl1⟩ := A
  obtain ⟨T', h', X', e', W, st⟩ := stB X hx hZ eT A1 (own_inb e1 hj hi hl) hg hs hd
  have W' : Wr h h' a i (.int x') := by rw [← hi, ← hv]; exact W
  exact own_st st (k T' h' ⟨_, X', Fr.snoc X' N ga, e', r1, by rw [W.size]; exact r2⟩ W' (A0.set W'))
theorem own_stI (X : own_Sd p l e R s m args below meth c n0 T h C S) (hx : p.tables.exec = Jvm.exec) (hZ : Z.Warmed39 s.vm) (A : own_Ar Z h a .int vs) {j x : Int32} (hj : ¬ j < 0) (hi : j.toNatClampNeg = i) (hl : i < vs.length) (ga : n0 ≤ a) {g : JFrame} (hg : g.method = m) {rest : List Value} (hs : g.stack = .int x :: .int j :: .ref a :: rest) (hd : decode c.code g.pc = .ok (.iastore, 1))
    (k : ∀ T' h', own_Sd p l e R s m args below meth c n0 T' h' C S → Wr h h' a i (.int x) → own_Ar Z h' a .int (vs.set i (.int x)) → own_Go p e below P (T'.setTop { g with pc := g.pc + 1, stack := rest })) : own_Go p e below P (T.setTop g) := by
  obtain ⟨L, X, N, eT, r1, r2⟩ := X
  have A0 := A
  obtain ⟨cl, A1, e1, hl1⟩ := A
  obtain ⟨T', h', X', e', W, st⟩ := stI X hx hZ eT A1 (own_inb e1 hj hi hl) hg hs hd
  have W' : Wr h h' a i (.int x) := by rw [← hi]; exact W
  exact own_st st (k T' h' ⟨_, X', Fr.snoc X' N ga, e', r1, by rw [W.size]; exact r2⟩ W' (A0.set W'))
theorem own_stJ (X : own_Sd p l e R s m args below meth c n0 T h C S) (hx : p.tables.exec = Jvm.exec) (hZ : Z.Warmed39 s.vm) (A : own_Ar Z h a .long vs) {j : Int32} {x : Int64} (hj : ¬ j < 0) (hi : j.toNatClampNeg = i) (hl : i < vs.length) (ga : n0 ≤ a) {g : JFrame} (hg : g.method = m) {rest : List Value} (hs : g.stack = .long x :: .int j :: .ref a :: rest) (hd : decode c.code g.pc = .ok (.lastore, 1))
    (k : ∀ T' h', own_Sd p l e R s m args below meth c n0 T' h' C S → Wr h h' a i (.long x) → own_Ar Z h' a .long (vs.set i (.long x)) → own_Go p e below P (T'.setTop { g with pc := g.pc + 1, stack := rest })) : own_Go p e below P (T.setTop g) := by
  obtain ⟨L, X, N, eT, r1, r2⟩ := X
  have A0 := A
  obtain ⟨cl, A1, e1, hl1⟩ := A
  obtain ⟨T', h', X', e', W, st⟩ := stJ X hx hZ eT A1 (own_inb e1 hj hi hl) hg hs hd
  have W' : Wr h h' a i (.long x) := by rw [← hi]; exact W
  exact own_st st (k T' h' ⟨_, X', Fr.snoc X' N ga, e', r1, by rw [W.size]; exact r2⟩ W' (A0.set W'))
theorem own_at {cl : Cell} (e : cl.slots = vs.toArray) {j : Int32} (hi : j.toNatClampNeg = i) (hv : vs[i]? = some v) : cl.slots[j.toNatClampNeg]? = some v := by rw [e, hi]; simpa using hv
theorem own_ltl (hv : vs[i]? = some v) : i < vs.length := (List.getElem?_eq_some_iff.mp hv).1
theorem own_ldB (X : own_Sd p l e R s m args below meth c n0 T h C S) (hx : p.tables.exec = Jvm.exec) (hZ : Z.Warmed39 s.vm) (A : own_Ar Z h a .byte vs) {j : Int32} (hj : ¬ j < 0) (hi : j.toNatClampNeg = i) (hv : vs[i]? = some v) {g : JFrame} (hg : g.method = m) {rest : List Value} (hs : g.stack = .int j :: .ref a :: rest) (hd : decode c.code g.pc = .ok (.baload, 1))
    (k : own_Go p e below P (T.setTop { g with pc := g.pc + 1, stack := v :: rest })) : own_Go p e below P (T.setTop g) := by
  obtain ⟨L, X, N, eT, r⟩ := X
  obtain ⟨cl, A1, e1, hl1⟩ := A
  exact own_st (fun _ q => X.baloadBytes hx (by rw [eT]; exact A1.1) (State.isArrayOf_alike hZ.alike A1.2.1) A1.2.2 (own_inb e1 hj hi (own_ltl hv)) (own_at e1 hi hv) hg hs hd _ q) k
theorem own_ldI (X : own_Sd p l e R s m args below meth c n0 T h C S) (hx : p.tables.exec = Jvm.exec) (hZ : Z.Warmed39 s.vm) (A : own_Ar Z h a .int vs) {j : Int32} (hj : ¬ j < 0) (hi : j.toNatClampNeg = i) (hv : vs[i]? = some v) {g : JFrame} (hg : g.method = m) {rest : List Value} (hs : g.stack = .int j :: .ref a :: rest) (hd : decode c.code g.pc = .ok (.iaload, 1))
    (k : own_Go p e below P (T.setTop { g with pc := g.pc + 1, stack := v :: rest })) : own_Go p e below P (T.setTop g) := by
  obtain ⟨L, X, N, eT, r⟩ := X
  obtain ⟨cl, A1, e1, hl1⟩ := A
  exact own_st (fun _ q => X.iaload hx (by rw [eT]; exact A1.1) (State.isArrayOf_alike hZ.alike A1.2.1) A1.2.2 (own_inb e1 hj hi (own_ltl hv)) (own_at e1 hi hv) hg hs hd _ q) k
theorem own_ldJ (X : own_Sd p l e R s m args below meth c n0 T h C S) (hx : p.tables.exec = Jvm.exec) (hZ : Z.Warmed39 s.vm) (A : own_Ar Z h a .long vs) {j : Int32} (hj : ¬ j < 0) (hi : j.toNatClampNeg = i) (hv : vs[i]? = some v) {g : JFrame} (hg : g.method = m) {rest : List Value} (hs : g.stack = .int j :: .ref a :: rest) (hd : decode c.code g.pc = .ok (.laload, 1))
    (k : own_Go p e below P (T.setTop { g with pc := g.pc + 1, stack := v :: rest })) : own_Go p e below P (T.setTop g) := by
  obtain ⟨L, X, N, eT, r⟩ := X
  obtain ⟨cl, A1, e1, hl1⟩ := A
  exact own_st (fun _ q => X.laload hx (by rw [eT]; exact A1.1) (State.isArrayOf_alike hZ.alike A1.2.1) A1.2.2 (own_inb e1 hj hi (own_ltl hv)) (own_at e1 hi hv) hg hs hd _ q) k
theorem own_len (X : own_Sd p l e R s m args below meth c n0 T h C S) (hx : p.tables.exec = Jvm.exec) (hZ : Z.Warmed39 s.vm) (A : own_Ar Z h a ty vs) {z : Int32} (hz : vs.length.toInt32 = z) {g : JFrame} (hg : g.method = m) {rest : List Value} (hs : g.stack = .ref a :: rest) (hd : decode c.code g.pc = .ok (.arraylength, 1))
    (k : own_Go p e below P (T.setTop { g with pc := g.pc + 1, stack := .int z :: rest })) : own_Go p e below P (T.setTop g) := by
  obtain ⟨L, X, N, eT, r⟩ := X
  obtain ⟨cl, A1, e1, hl1⟩ := A
  have ez : cl.slots.size.toInt32 = z := by rw [e1, ← hz]; simp
  exact own_st (fun _ q => X.arraylength hx (by rw [eT]; exact A1.1) (State.isArrayOf_alike hZ.alike A1.2.1) hg hs hd _ (by rw [ez]; exact q)) k
theorem own_i8 (x : Int32) : x.toInt8.toInt32.toInt8.toInt32 = x.toInt8.toInt32 := by simp
end OwnA
section OwnT
variable {p : Program} {l : Launch} {e : Env} {R : Room} {s : State} {m : MethodId} {args : Array Value} {below : List Frame} {meth : Method} {c : Code} {T : State} {n0 C S : Nat} {Z : State} {a0 : Array Value} {h h' : Heap} {P : State → Outcome → Prop} {Q : Option Value → Heap → Prop} {a b : Addr} {ty : FieldType} {vs : List Value} {v : Value} {sl i : Nat}
variable {bytes : ByteArray} {maxL : Nat} {y : MethodName} {ret : Option FieldType} {pc : Nat} {Ls Ls' : Array Slot} {st : List Value}
theorem o_newP (cx : own_Cx p s m meth c Z bytes maxL y ret) (X : own_Sd p l e R s m args below meth c n0 T h C S) {aty : ArrayType} {n : Int32} (hd : decode bytes pc = .ok (.newarray aty, 2)) (w : (Jvm.Cond.arrayClass (newarray.typeOf aty)).before a0 Z = true) (hn : ¬ n < 0) (N cap : Nat) (hN : n.toNatClampNeg = N) (hcap : N ≤ cap) (hb8 : cap * 8 ≤ 536870912) (hc : C + 1 ≤ R.cells) (hl : S + cap ≤ R.slots) (k : ∀ T' h' b, b = h.size → n0 ≤ b → own_Sd p l e R s m args below meth c n0 T' h' (C + 1) (S + cap) → Ext h h' → own_Ar Z h' b (newarray.typeOf aty) (List.replicate N (defaultValue (newarray.typeOf aty))) → own_Go p e below P (T'.setTop (mkF m (pc + 2) Ls (.ref b :: st)))) : own_Go p e below P (T.setTop (mkF m pc Ls (.int n :: st))) := by
  obtain ⟨hx, hby, hml, hown, hnm, hret, hlk, hZ⟩ := cx
  exact own_newP X hx hZ w (g := mkF m pc Ls (.int n :: st)) rfl (hb hby hd) rfl hn hN hcap hb8 hc hl k
theorem o_stB (cx : own_Cx p s m meth c Z bytes maxL y ret) (X : own_Sd p l e R s m args below meth c n0 T h C S) {j : Int32} {x x' : Int32} (hd : decode bytes pc = .ok (.bastore, 1)) (A : own_Ar Z h a .byte vs) (i : Nat) (hj : ¬ j < 0) (hi : j.toNatClampNeg = i) (hl : i < vs.length) (hv : x.toInt8.toInt32 = x') (ga : n0 ≤ a) (k : ∀ T' h', own_Sd p l e R s m args below meth c n0 T' h' C S → Wr h h' a i (.int x') → own_Ar Z h' a .byte (vs.set i (.int x')) → own_Go p e below P (T'.setTop (mkF m (pc + 1) Ls st))) : own_Go p e below P (T.setTop (mkF m pc Ls (.int x :: .int j :: .ref a :: st))) := by
  obtain ⟨hx, hby, hml, hown, hnm, hret, hlk, hZ⟩ := cx
  exact own_stB X hx hZ A hj hi hl hv ga (g := mkF m pc Ls (.int x :: .int j :: .ref a :: st)) rfl rfl (hb hby hd) k
theorem o_stI (cx : own_Cx p s m meth c Z bytes maxL y ret) (X : own_Sd p l e R s m args below meth c n0 T h C S) {j : Int32} {x : Int32} (hd : decode bytes pc = .ok (.iastore, 1)) (A : own_Ar Z h a .int vs) (i : Nat) (hj : ¬ j < 0) (hi : j.toNatClampNeg = i) (hl : i < vs.length)  (ga : n0 ≤ a) (k : ∀ T' h', own_Sd p l e R s m args below meth c n0 T' h' C S → Wr h h' a i (.int x) → own_Ar Z h' a .int (vs.set i (.int x)) → own_Go p e below P (T'.setTop (mkF m (pc + 1) Ls st))) : own_Go p e below P (T.setTop (mkF m pc Ls (.int x :: .int j :: .ref a :: st))) := by
  obtain ⟨hx, hby, hml, hown, hnm, hret, hlk, hZ⟩ := cx
  exact own_stI X hx hZ A hj hi hl ga (g := mkF m pc Ls (.int x :: .int j :: .ref a :: st)) rfl rfl (hb hby hd) k
theorem o_stJ (cx : own_Cx p s m meth c Z bytes maxL y ret) (X : own_Sd p l e R s m args below meth c n0 T h C S) {j : Int32} {x : Int64} (hd : decode bytes pc = .ok (.lastore, 1)) (A : own_Ar Z h a .long vs) (i : Nat) (hj : ¬ j < 0) (hi : j.toNatClampNeg = i) (hl : i < vs.length)  (ga : n0 ≤ a) (k : ∀ T' h', own_Sd p l e R s m args below meth c n0 T' h' C S → Wr h h' a i (.long x) → own_Ar Z h' a .long (vs.set i (.long x)) → own_Go p e below P (T'.setTop (mkF m (pc + 1) Ls st))) : own_Go p e below P (T.setTop (mkF m pc Ls (.long x :: .int j :: .ref a :: st))) := by
  obtain ⟨hx, hby, hml, hown, hnm, hret, hlk, hZ⟩ := cx
  exact own_stJ X hx hZ A hj hi hl ga (g := mkF m pc Ls (.long x :: .int j :: .ref a :: st)) rfl rfl (hb hby hd) k
theorem o_ldB (cx : own_Cx p s m meth c Z bytes maxL y ret) (X : own_Sd p l e R s m args below meth c n0 T h C S) {j : Int32} (hd : decode bytes pc = .ok (.baload, 1)) (A : own_Ar Z h a .byte vs) (i : Nat) (hj : ¬ j < 0) (hi : j.toNatClampNeg = i) (hv : vs[i]? = some v) (k : own_Go p e below P (T.setTop (mkF m (pc + 1) Ls (v :: st)))) : own_Go p e below P (T.setTop (mkF m pc Ls (.int j :: .ref a :: st))) := by
  obtain ⟨hx, hby, hml, hown, hnm, hret, hlk, hZ⟩ := cx
  exact own_ldB X hx hZ A hj hi hv (g := mkF m pc Ls (.int j :: .ref a :: st)) rfl rfl (hb hby hd) k
theorem o_ldI (cx : own_Cx p s m meth c Z bytes maxL y ret) (X : own_Sd p l e R s m args below meth c n0 T h C S) {j : Int32} (hd : decode bytes pc = .ok (.iaload, 1)) (A : own_Ar Z h a .int vs) (i : Nat) (hj : ¬ j < 0) (hi : j.toNatClampNeg = i) (hv : vs[i]? = some v) (k : own_Go p e below P (T.setTop (mkF m (pc + 1) Ls (v :: st)))) : own_Go p e below P (T.setTop (mkF m pc Ls (.int j :: .ref a :: st))) := by
  obtain ⟨hx, hby, hml, hown, hnm, hret, hlk, hZ⟩ := cx
  exact own_ldI X hx hZ A hj hi hv (g := mkF m pc Ls (.int j :: .ref a :: st)) rfl rfl (hb hby hd) k
theorem o_ldJ (cx : own_Cx p s m meth c Z bytes maxL y ret) (X : own_Sd p l e R s m args below meth c n0 T h C S) {j : Int32} (hd : decode bytes pc = .ok (.laload, 1)) (A : own_Ar Z h a .long vs) (i : Nat) (hj : ¬ j < 0) (hi : j.toNatClampNeg = i) (hv : vs[i]? = some v) (k : own_Go p e below P (T.setTop (mkF m (pc + 1) Ls (v :: st)))) : own_Go p e below P (T.setTop (mkF m pc Ls (.int j :: .ref a :: st))) := by
  obtain ⟨hx, hby, hml, hown, hnm, hret, hlk, hZ⟩ := cx
  exact own_ldJ X hx hZ A hj hi hv (g := mkF m pc Ls (.int j :: .ref a :: st)) rfl rfl (hb hby hd) k
theorem o_len (cx : own_Cx p s m meth c Z bytes maxL y ret) (X : own_Sd p l e R s m args below meth c n0 T h C S) {z : Int32} (hd : decode bytes pc = .ok (.arraylength, 1)) (A : own_Ar Z h a ty vs) (hz : vs.length.toInt32 = z) (k : own_Go p e below P (T.setTop (mkF m (pc + 1) Ls (.int z :: st)))) : own_Go p e below P (T.setTop (mkF m pc Ls (.ref a :: st))) := by
  obtain ⟨hx, hby, hml, hown, hnm, hret, hlk, hZ⟩ := cx
  exact own_len X hx hZ A hz (g := mkF m pc Ls (.ref a :: st)) rfl rfl (hb hby hd) k
end OwnT
def own_above (pr : Int32) (y en : Int64) : Int32 := if pr = (0 : Int32) then 0 else if en < y then 1 else 0
theorem own_ab1 {y en : Int64} (h : en < y) : own_above (1 : Int32) y en = 1 := by unfold own_above; rw [if_neg (by decide), if_pos h]
theorem own_ab0 {y en : Int64} (h : ¬ en < y) : own_above (1 : Int32) y en = 0 := by unfold own_above; rw [if_neg (by decide), if_neg h]
theorem own_abn {y en : Int64} : own_above (0 : Int32) y en = 0 := by unfold own_above; rw [if_pos rfl]
theorem own_len5 (y : Int32) : ((y &&& (2147483647 : Int32)) % (5 : Int32)) = (0 : Int32) ∨ ((y &&& (2147483647 : Int32)) % (5 : Int32)) = (1 : Int32) ∨ ((y &&& (2147483647 : Int32)) % (5 : Int32)) = (2 : Int32) ∨ ((y &&& (2147483647 : Int32)) % (5 : Int32)) = (3 : Int32) ∨ ((y &&& (2147483647 : Int32)) % (5 : Int32)) = (4 : Int32) := by
  have h : 0 ≤ (y &&& (2147483647 : Int32)).toInt := by
    have e : (y &&& (2147483647 : Int32)).toInt = y.toInt % 2147483648 := c_mask y 2147483647 31 (by decide) (by decide)
    omega
  generalize (y &&& (2147483647 : Int32)) = z at *
  have e := (c_irem z 5 5 (by decide)).1 h
  have e0 : (0 : Int32).toInt = 0 := by decide
  have e1 : (1 : Int32).toInt = 1 := by decide
  have e2 : (2 : Int32).toInt = 2 := by decide
  have e3 : (3 : Int32).toInt = 3 := by decide
  have e4 : (4 : Int32).toInt = 4 := by decide
  simp only [← Int32.toInt_inj, e, e0, e1, e2, e3, e4]; omega
theorem d1_0 : decode method_3_code 0 = .ok (.iload_n 0, 1) := by decide +kernel
theorem d1_1 : decode method_3_code 1 = .ok (.ifCond .eq 13, 3) := by decide +kernel
theorem d1_14 : decode method_3_code 14 = .ok (.iconst 0, 1) := by decide +kernel
theorem d1_15 : decode method_3_code 15 = .ok (.ireturn, 1) := by decide +kernel
theorem d1_4 : decode method_3_code 4 = .ok (.lload_n 1, 1) := by decide +kernel
theorem d1_5 : decode method_3_code 5 = .ok (.lload_n 3, 1) := by decide +kernel
theorem d1_6 : decode method_3_code 6 = .ok (.lcmp, 1) := by decide +kernel
theorem d1_7 : decode method_3_code 7 = .ok (.ifCond .le 7, 3) := by decide +kernel
theorem d1_10 : decode method_3_code 10 = .ok (.iconst 1, 1) := by decide +kernel
theorem d1_11 : decode method_3_code 11 = .ok (.goto 4, 3) := by decide +kernel
theorem pn_1 : plainName "com/example/tracewire/tracewire/log/ListingFirstUpToPinLaw" = true := by first | (simp [plainName, overriddenIn]; done) | decide +kernel
theorem ef_rm1 (m : MethodId) (pr : Int32) (yy : Int64) (en : Int64) : entryFrame m #[(.int pr), (.long yy), (.long en)] 5 = mkF m 0 #[.val (.int pr), .val (.long yy), .second, .val (.long en), .second] [] := by first | (simp [entryFrame, mkF, argsToLocals, Value.category]; done) | rfl
set_option maxRecDepth 65536 in
set_option maxHeartbeats 40000000 in
theorem rm1 (l : Launch) (Z : State) (a0 : Array Value) (hw : ∀ d ∈ tables_1, d.before a0 Z = true) (pr : Int32) (yy : Int64) (en : Int64) (h0 : Heap) (n0 : Nat) (Z0 : n0 ≤ h0.size) :
    own_Met l Z (⟨"com/example/tracewire/tracewire/log/ListingFirstUpToPinLaw", "above", "(ZJJ)I"⟩ : MethodName) method_3_code 5 (some .int) ({ frames := 0, cells := 0, slots := 0, locals := 0 } : Room) #[(.int pr), (.long yy), (.long en)] h0 n0 (fun v' h' => v' = some (.int (own_above pr yy en)) ∧ h' = h0) := by
  refine own_body (plainFor_of_name pn_1) (fun m => ef_rm1 m pr yy en) Z0 ?_
  intro p e s m below meth c T0 cx X0
  show own_Go p e below _ (T0.setTop (mkF m 0 #[.val (.int pr), .val (.long yy), .second, .val (.long en), .second] []))
  refine o_iloadN cx X0 d1_0 rfl ?_
  by_cases hc1 : pr = (0 : Int32)
  · refine o_ifYes cx X0 14 d1_1 ((if0 _ _).trans (teq hc1).1) (by decide) (by decide) ?_
    refine o_iconst cx X0 (z := (0 : Int32)) d1_14 rfl ?_
    exact o_retI cx X0 d1_15 ⟨congrArg (fun z => some (Value.int z)) (show (0 : Int32) = own_above pr yy en from Eq.symm (by simp [own_above, hc1])), rfl⟩ (by decide) (by decide)
  · refine o_ifNo cx X0 d1_1 ((if0 _ _).trans (feq hc1).1) ?_
    refine o_lloadN cx X0 d1_4 rfl ?_
    refine o_lloadN cx X0 d1_5 rfl ?_
    refine o_lcmp cx X0 d1_6 rfl ?_
    by_cases hc2 : en < yy
    · refine o_ifNo cx X0 d1_7 ((if0 _ _).trans (tlt ((lw_gt yy en).mpr hc2)).2.2.2) ?_
      refine o_iconst cx X0 (z := (1 : Int32)) d1_10 rfl ?_
      refine o_goto cx X0 15 d1_11 (by decide) (by decide) ?_
      exact o_retI cx X0 d1_15 ⟨congrArg (fun z => some (Value.int z)) (show (1 : Int32) = own_above pr yy en from Eq.symm (by simp [own_above, hc1, hc2])), rfl⟩ (by decide) (by decide)
    · refine o_ifYes cx X0 14 d1_7 ((if0 _ _).trans (flt (fun q => hc2 ((lw_gt yy en).mp q))).2.2.2) (by decide) (by decide) ?_
      refine o_iconst cx X0 (z := (0 : Int32)) d1_14 rfl ?_
      exact o_retI cx X0 d1_15 ⟨congrArg (fun z => some (Value.int z)) (show (0 : Int32) = own_above pr yy en from Eq.symm (by simp [own_above, hc1, hc2])), rfl⟩ (by decide) (by decide)
theorem d2_0 : decode prog_122_method_6_code 0 = .ok (.iconst 0, 1) := by decide +kernel
theorem d2_1 : decode prog_122_method_6_code 1 = .ok (.istore_n 3, 1) := by decide +kernel
theorem d2_2 : decode prog_122_method_6_code 2 = .ok (.aload_n 0, 1) := by decide +kernel
theorem d2_3 : decode prog_122_method_6_code 3 = .ok (.arraylength, 1) := by decide +kernel
theorem d2_4 : decode prog_122_method_6_code 4 = .ok (.istore 4, 2) := by decide +kernel
theorem d2_6 : decode prog_122_method_6_code 6 = .ok (.iload_n 3, 1) := by decide +kernel
theorem d2_7 : decode prog_122_method_6_code 7 = .ok (.iload 4, 2) := by decide +kernel
theorem d2_9 : decode prog_122_method_6_code 9 = .ok (.if_icmp .ge 35, 3) := by decide +kernel
theorem d2_44 : decode prog_122_method_6_code 44 = .ok (.iload 4, 2) := by decide +kernel
theorem d2_46 : decode prog_122_method_6_code 46 = .ok (.ireturn, 1) := by decide +kernel
theorem pn_2 : plainName "com/example/tracewire/tracewire/log/Listing" = true := by first | (simp [plainName, overriddenIn]; done) | decide +kernel
theorem ef_rm2_0 (m : MethodId) (aa : Addr) (en : Int64) : entryFrame m #[(.ref aa), (.long en)] 6 = mkF m 0 #[.val (.ref aa), .val (.long en), .second, .unset, .unset, .unset] [] := by first | (simp [entryFrame, mkF, argsToLocals, Value.category]; done) | rfl
set_option maxRecDepth 65536 in
set_option maxHeartbeats 40000000 in
theorem rm2_0 (l : Launch) (Z : State) (a0 : Array Value) (hw : ∀ d ∈ tables_1, d.before a0 Z = true) (aa : Addr) (en : Int64) (xa : Int64) (xb : Int64) (xc : Int64) (xd : Int64) (h0 : Heap) (n0 : Nat) (Z0 : n0 ≤ h0.size) (A0 : own_Ar Z h0 aa .long []) (s1 : xb.toInt ≤ xa.toInt) (s2 : xc.toInt ≤ xb.toInt) (s3 : xd.toInt ≤ xc.toInt) :
    own_Met l Z (⟨"com/example/tracewire/tracewire/log/Listing", "firstUpTo", "([JJ)I"⟩ : MethodName) prog_122_method_6_code 6 (some .int) ({ frames := 0, cells := 0, slots := 0, locals := 0 } : Room) #[(.ref aa), (.long en)] h0 n0 (fun v' h' => v' = some (.int ((((own_above (0 : Int32) xa en) + (own_above (0 : Int32) xb en)) + (own_above (0 : Int32) xc en)) + (own_above (0 : Int32) xd en))) ∧ h' = h0) := by
  refine own_body (plainFor_of_name pn_2) (fun m => ef_rm2_0 m aa en) Z0 ?_
  intro p e s m below meth c T0 cx X0
  show own_Go p e below _ (T0.setTop (mkF m 0 #[.val (.ref aa), .val (.long en), .second, .unset, .unset, .unset] []))
  refine o_iconst cx X0 (z := (0 : Int32)) d2_0 rfl ?_
  refine o_istoreN cx X0 (Ls' := #[.val (.ref aa), .val (.long en), .second, .val (.int (0 : Int32)), .unset, .unset]) d2_1 rfl ?_
  refine o_aloadN cx X0 d2_2 rfl rfl ?_
  refine o_len cx X0 (z := (0 : Int32)) d2_3 A0 rfl ?_
  refine o_istore cx X0 (Ls' := #[.val (.ref aa), .val (.long en), .second, .val (.int (0 : Int32)), .val (.int (0 : Int32)), .unset]) d2_4 rfl ?_
  refine o_iloadN cx X0 d2_6 rfl ?_
  refine o_iload cx X0 d2_7 rfl ?_
  refine o_icmpYes cx X0 44 d2_9 (by decide) (by decide) (by decide) ?_
  refine o_iload cx X0 d2_44 rfl ?_
  have eq0 : (0 : Int32) = ((((own_above (0 : Int32) xa en) + (own_above (0 : Int32) xb en)) + (own_above (0 : Int32) xc en)) + (own_above (0 : Int32) xd en)) := by
    rw [own_abn, own_abn, own_abn, own_abn]; decide
  exact o_retI cx X0 d2_46 ⟨congrArg (fun z => some (Value.int z)) eq0, rfl⟩ (by decide) (by decide)
theorem d2_12 : decode prog_122_method_6_code 12 = .ok (.iload_n 3, 1) := by decide +kernel
theorem d2_13 : decode prog_122_method_6_code 13 = .ok (.iload 4, 2) := by decide +kernel
theorem d2_15 : decode prog_122_method_6_code 15 = .ok (.iadd, 1) := by decide +kernel
theorem d2_16 : decode prog_122_method_6_code 16 = .ok (.iconst 1, 1) := by decide +kernel
theorem d2_17 : decode prog_122_method_6_code 17 = .ok (.iushr, 1) := by decide +kernel
theorem d2_18 : decode prog_122_method_6_code 18 = .ok (.istore 5, 2) := by decide +kernel
theorem d2_20 : decode prog_122_method_6_code 20 = .ok (.aload_n 0, 1) := by decide +kernel
theorem d2_21 : decode prog_122_method_6_code 21 = .ok (.iload 5, 2) := by decide +kernel
theorem d2_23 : decode prog_122_method_6_code 23 = .ok (.laload, 1) := by decide +kernel
theorem d2_24 : decode prog_122_method_6_code 24 = .ok (.lload_n 1, 1) := by decide +kernel
theorem d2_25 : decode prog_122_method_6_code 25 = .ok (.lcmp, 1) := by decide +kernel
theorem d2_26 : decode prog_122_method_6_code 26 = .ok (.ifCond .le 11, 3) := by decide +kernel
theorem d2_29 : decode prog_122_method_6_code 29 = .ok (.iload 5, 2) := by decide +kernel
theorem d2_31 : decode prog_122_method_6_code 31 = .ok (.iconst 1, 1) := by decide +kernel
theorem d2_32 : decode prog_122_method_6_code 32 = .ok (.iadd, 1) := by decide +kernel
theorem d2_33 : decode prog_122_method_6_code 33 = .ok (.istore_n 3, 1) := by decide +kernel
theorem d2_34 : decode prog_122_method_6_code 34 = .ok (.goto 7, 3) := by decide +kernel
theorem d2_41 : decode prog_122_method_6_code 41 = .ok (.goto (-35), 3) := by decide +kernel
theorem d2_37 : decode prog_122_method_6_code 37 = .ok (.iload 5, 2) := by decide +kernel
theorem d2_39 : decode prog_122_method_6_code 39 = .ok (.istore 4, 2) := by decide +kernel
theorem ef_rm2_1 (m : MethodId) (aa : Addr) (en : Int64) : entryFrame m #[(.ref aa), (.long en)] 6 = mkF m 0 #[.val (.ref aa), .val (.long en), .second, .unset, .unset, .unset] [] := by first | (simp [entryFrame, mkF, argsToLocals, Value.category]; done) | rfl
set_option maxRecDepth 65536 in
set_option maxHeartbeats 40000000 in
theorem rm2_1 (l : Launch) (Z : State) (a0 : Array Value) (hw : ∀ d ∈ tables_1, d.before a0 Z = true) (aa : Addr) (en : Int64) (xa : Int64) (xb : Int64) (xc : Int64) (xd : Int64) (h0 : Heap) (n0 : Nat) (Z0 : n0 ≤ h0.size) (A0 : own_Ar Z h0 aa .long [(.long xa)]) (s1 : xb.toInt ≤ xa.toInt) (s2 : xc.toInt ≤ xb.toInt) (s3 : xd.toInt ≤ xc.toInt) :
    own_Met l Z (⟨"com/example/tracewire/tracewire/log/Listing", "firstUpTo", "([JJ)I"⟩ : MethodName) prog_122_method_6_code 6 (some .int) ({ frames := 0, cells := 0, slots := 0, locals := 0 } : Room) #[(.ref aa), (.long en)] h0 n0 (fun v' h' => v' = some (.int ((((own_above (1 : Int32) xa en) + (own_above (0 : Int32) xb en)) + (own_above (0 : Int32) xc en)) + (own_above (0 : Int32) xd en))) ∧ h' = h0) := by
  refine own_body (plainFor_of_name pn_2) (fun m => ef_rm2_1 m aa en) Z0 ?_
  intro p e s m below meth c T0 cx X0
  show own_Go p e below _ (T0.setTop (mkF m 0 #[.val (.ref aa), .val (.long en), .second, .unset, .unset, .unset] []))
  refine o_iconst cx X0 (z := (0 : Int32)) d2_0 rfl ?_
  refine o_istoreN cx X0 (Ls' := #[.val (.ref aa), .val (.long en), .second, .val (.int (0 : Int32)), .unset, .unset]) d2_1 rfl ?_
  refine o_aloadN cx X0 d2_2 rfl rfl ?_
  refine o_len cx X0 (z := (1 : Int32)) d2_3 A0 rfl ?_
  refine o_istore cx X0 (Ls' := #[.val (.ref aa), .val (.long en), .second, .val (.int (0 : Int32)), .val (.int (1 : Int32)), .unset]) d2_4 rfl ?_
  refine o_iloadN cx X0 d2_6 rfl ?_
  refine o_iload cx X0 d2_7 rfl ?_
  refine o_icmpNo cx X0 d2_9 (by decide) ?_
  refine o_iloadN cx X0 d2_12 rfl ?_
  refine o_iload cx X0 d2_13 rfl ?_
  refine o_iadd cx X0 (z := (1 : Int32)) d2_15 rfl ?_
  refine o_iconst cx X0 (z := (1 : Int32)) d2_16 rfl ?_
  refine o_iushr cx X0 (z := (0 : Int32)) d2_17 rfl ?_
  refine o_istore cx X0 (Ls' := #[.val (.ref aa), .val (.long en), .second, .val (.int (0 : Int32)), .val (.int (1 : Int32)), .val (.int (0 : Int32))]) d2_18 rfl ?_
  refine o_aloadN cx X0 d2_20 rfl rfl ?_
  refine o_iload cx X0 d2_21 rfl ?_
  refine o_ldJ cx X0 (v := (.long xa)) d2_23 A0 0 (by decide) rfl rfl ?_
  refine o_lloadN cx X0 d2_24 rfl ?_
  refine o_lcmp cx X0 d2_25 rfl ?_
  by_cases hc3 : en < xa
  · refine o_ifNo cx X0 d2_26 ((if0 _ _).trans (tlt ((lw_gt xa en).mpr hc3)).2.2.2) ?_
    refine o_iload cx X0 d2_29 rfl ?_
    refine o_iconst cx X0 (z := (1 : Int32)) d2_31 rfl ?_
    refine o_iadd cx X0 (z := (1 : Int32)) d2_32 rfl ?_
    refine o_istoreN cx X0 (Ls' := #[.val (.ref aa), .val (.long en), .second, .val (.int (1 : Int32)), .val (.int (1 : Int32)), .val (.int (0 : Int32))]) d2_33 rfl ?_
    refine o_goto cx X0 41 d2_34 (by decide) (by decide) ?_
    refine o_goto cx X0 6 d2_41 (by decide) (by decide) ?_
    refine o_iloadN cx X0 d2_6 rfl ?_
    refine o_iload cx X0 d2_7 rfl ?_
    refine o_icmpYes cx X0 44 d2_9 (by decide) (by decide) (by decide) ?_
    refine o_iload cx X0 d2_44 rfl ?_
    have eq1 : (1 : Int32) = ((((own_above (1 : Int32) xa en) + (own_above (0 : Int32) xb en)) + (own_above (0 : Int32) xc en)) + (own_above (0 : Int32) xd en)) := by
      have e0 : en < xa := by simp only [Int64.lt_iff_toInt_lt] at hc3 ⊢; omega
      rw [own_ab1 e0, own_abn, own_abn, own_abn]; decide
    exact o_retI cx X0 d2_46 ⟨congrArg (fun z => some (Value.int z)) eq1, rfl⟩ (by decide) (by decide)
  · refine o_ifYes cx X0 37 d2_26 ((if0 _ _).trans (flt (fun q => hc3 ((lw_gt xa en).mp q))).2.2.2) (by decide) (by decide) ?_
    refine o_iload cx X0 d2_37 rfl ?_
    refine o_istore cx X0 (Ls' := #[.val (.ref aa), .val (.long en), .second, .val (.int (0 : Int32)), .val (.int (0 : Int32)), .val (.int (0 : Int32))]) d2_39 rfl ?_
    refine o_goto cx X0 6 d2_41 (by decide) (by decide) ?_
    refine o_iloadN cx X0 d2_6 rfl ?_
    refine o_iload cx X0 d2_7 rfl ?_
    refine o_icmpYes cx X0 44 d2_9 (by decide) (by decide) (by decide) ?_
    refine o_iload cx X0 d2_44 rfl ?_
    have eq1 : (0 : Int32) = ((((own_above (1 : Int32) xa en) + (own_above (0 : Int32) xb en)) + (own_above (0 : Int32) xc en)) + (own_above (0 : Int32) xd en)) := by
      have e0 : ¬ en < xa := by simp only [Int64.lt_iff_toInt_lt] at hc3 ⊢; omega
      rw [own_ab0 e0, own_abn, own_abn, own_abn]; decide
    exact o_retI cx X0 d2_46 ⟨congrArg (fun z => some (Value.int z)) eq1, rfl⟩ (by decide) (by decide)
theorem ef_rm2_2 (m : MethodId) (aa : Addr) (en : Int64) : entryFrame m #[(.ref aa), (.long en)] 6 = mkF m 0 #[.val (.ref aa), .val (.long en), .second, .unset, .unset, .unset] [] := by first | (simp [entryFrame, mkF, argsToLocals, Value.category]; done) | rfl
set_option maxRecDepth 65536 in
set_option maxHeartbeats 40000000 in
theorem rm2_2 (l : Launch) (Z : State) (a0 : Array Value) (hw : ∀ d ∈ tables_1, d.before a0 Z = true) (aa : Addr) (en : Int64) (xa : Int64) (xb : Int64) (xc : Int64) (xd : Int64) (h0 : Heap) (n0 : Nat) (Z0 : n0 ≤ h0.size) (A0 : own_Ar Z h0 aa .long [(.long xa), (.long xb)]) (s1 : xb.toInt ≤ xa.toInt) (s2 : xc.toInt ≤ xb.toInt) (s3 : xd.toInt ≤ xc.toInt) :
    own_Met l Z (⟨"com/example/tracewire/tracewire/log/Listing", "firstUpTo", "([JJ)I"⟩ : MethodName) prog_122_method_6_code 6 (some .int) ({ frames := 0, cells := 0, slots := 0, locals := 0 } : Room) #[(.ref aa), (.long en)] h0 n0 (fun v' h' => v' = some (.int ((((own_above (1 : Int32) xa en) + (own_above (1 : Int32) xb en)) + (own_above (0 : Int32) xc en)) + (own_above (0 : Int32) xd en))) ∧ h' = h0) := by
  refine own_body (plainFor_of_name pn_2) (fun m => ef_rm2_2 m aa en) Z0 ?_
  intro p e s m below meth c T0 cx X0
  show own_Go p e below _ (T0.setTop (mkF m 0 #[.val (.ref aa), .val (.long en), .second, .unset, .unset, .unset] []))
  refine o_iconst cx X0 (z := (0 : Int32)) d2_0 rfl ?_
  refine o_istoreN cx X0 (Ls' := #[.val (.ref aa), .val (.long en), .second, .val (.int (0 : Int32)), .unset, .unset]) d2_1 rfl ?_
  refine o_aloadN cx X0 d2_2 rfl rfl ?_
  refine o_len cx X0 (z := (2 : Int32)) d2_3 A0 rfl ?_
  refine o_istore cx X0 (Ls' := #[.val (.ref aa), .val (.long en), .second, .val (.int (0 : Int32)), .val (.int (2 : Int32)), .unset]) d2_4 rfl ?_
  refine o_iloadN cx X0 d2_6 rfl ?_
  refine o_iload cx X0 d2_7 rfl ?_
  refine o_icmpNo cx X0 d2_9 (by decide) ?_
  refine o_iloadN cx X0 d2_12 rfl ?_
  refine o_iload cx X0 d2_13 rfl ?_
  refine o_iadd cx X0 (z := (2 : Int32)) d2_15 rfl ?_
  refine o_iconst cx X0 (z := (1 : Int32)) d2_16 rfl ?_
  refine o_iushr cx X0 (z := (1 : Int32)) d2_17 rfl ?_
  refine o_istore cx X0 (Ls' := #[.val (.ref aa), .val (.long en), .second, .val (.int (0 : Int32)), .val (.int (2 : Int32)), .val (.int (1 : Int32))]) d2_18 rfl ?_
  refine o_aloadN cx X0 d2_20 rfl rfl ?_
  refine o_iload cx X0 d2_21 rfl ?_
  refine o_ldJ cx X0 (v := (.long xb)) d2_23 A0 1 (by decide) rfl rfl ?_
  refine o_lloadN cx X0 d2_24 rfl ?_
  refine o_lcmp cx X0 d2_25 rfl ?_
  by_cases hc4 : en < xb
  · refine o_ifNo cx X0 d2_26 ((if0 _ _).trans (tlt ((lw_gt xb en).mpr hc4)).2.2.2) ?_
    refine o_iload cx X0 d2_29 rfl ?_
    refine o_iconst cx X0 (z := (1 : Int32)) d2_31 rfl ?_
    refine o_iadd cx X0 (z := (2 : Int32)) d2_32 rfl ?_
    refine o_istoreN cx X0 (Ls' := #[.val (.ref aa), .val (.long en), .second, .val (.int (2 : Int32)), .val (.int (2 : Int32)), .val (.int (1 : Int32))]) d2_33 rfl ?_
    refine o_goto cx X0 41 d2_34 (by decide) (by decide) ?_
    refine o_goto cx X0 6 d2_41 (by decide) (by decide) ?_
    refine o_iloadN cx X0 d2_6 rfl ?_
    refine o_iload cx X0 d2_7 rfl ?_
    refine o_icmpYes cx X0 44 d2_9 (by decide) (by decide) (by decide) ?_
    refine o_iload cx X0 d2_44 rfl ?_
    have eq2 : (2 : Int32) = ((((own_above (1 : Int32) xa en) + (own_above (1 : Int32) xb en)) + (own_above (0 : Int32) xc en)) + (own_above (0 : Int32) xd en)) := by
      have e0 : en < xa := by simp only [Int64.lt_iff_toInt_lt] at hc4 ⊢; omega
      have e1 : en < xb := by simp only [Int64.lt_iff_toInt_lt] at hc4 ⊢; omega
      rw [own_ab1 e0, own_ab1 e1, own_abn, own_abn]; decide
    exact o_retI cx X0 d2_46 ⟨congrArg (fun z => some (Value.int z)) eq2, rfl⟩ (by decide) (by decide)
  · refine o_ifYes cx X0 37 d2_26 ((if0 _ _).trans (flt (fun q => hc4 ((lw_gt xb en).mp q))).2.2.2) (by decide) (by decide) ?_
    refine o_iload cx X0 d2_37 rfl ?_
    refine o_istore cx X0 (Ls' := #[.val (.ref aa), .val (.long en), .second, .val (.int (0 : Int32)), .val (.int (1 : Int32)), .val (.int (1 : Int32))]) d2_39 rfl ?_
    refine o_goto cx X0 6 d2_41 (by decide) (by decide) ?_
    refine o_iloadN cx X0 d2_6 rfl ?_
    refine o_iload cx X0 d2_7 rfl ?_
    refine o_icmpNo cx X0 d2_9 (by decide) ?_
    refine o_iloadN cx X0 d2_12 rfl ?_
    refine o_iload cx X0 d2_13 rfl ?_
    refine o_iadd cx X0 (z := (1 : Int32)) d2_15 rfl ?_
    refine o_iconst cx X0 (z := (1 : Int32)) d2_16 rfl ?_
    refine o_iushr cx X0 (z := (0 : Int32)) d2_17 rfl ?_
    refine o_istore cx X0 (Ls' := #[.val (.ref aa), .val (.long en), .second, .val (.int (0 : Int32)), .val (.int (1 : Int32)), .val (.int (0 : Int32))]) d2_18 rfl ?_
    refine o_aloadN cx X0 d2_20 rfl rfl ?_
    refine o_iload cx X0 d2_21 rfl ?_
    refine o_ldJ cx X0 (v := (.long xa)) d2_23 A0 0 (by decide) rfl rfl ?_
    refine o_lloadN cx X0 d2_24 rfl ?_
    refine o_lcmp cx X0 d2_25 rfl ?_
    by_cases hc5 : en < xa
    · refine o_ifNo cx X0 d2_26 ((if0 _ _).trans (tlt ((lw_gt xa en).mpr hc5)).2.2.2) ?_
      refine o_iload cx X0 d2_29 rfl ?_
      refine o_iconst cx X0 (z := (1 : Int32)) d2_31 rfl ?_
      refine o_iadd cx X0 (z := (1 : Int32)) d2_32 rfl ?_
      refine o_istoreN cx X0 (Ls' := #[.val (.ref aa), .val (.long en), .second, .val (.int (1 : Int32)), .val (.int (1 : Int32)), .val (.int (0 : Int32))]) d2_33 rfl ?_
      refine o_goto cx X0 41 d2_34 (by decide) (by decide) ?_
      refine o_goto cx X0 6 d2_41 (by decide) (by decide) ?_
      refine o_iloadN cx X0 d2_6 rfl ?_
      refine o_iload cx X0 d2_7 rfl ?_
      refine o_icmpYes cx X0 44 d2_9 (by decide) (by decide) (by decide) ?_
      refine o_iload cx X0 d2_44 rfl ?_
      have eq2 : (1 : Int32) = ((((own_above (1 : Int32) xa en) + (own_above (1 : Int32) xb en)) + (own_above (0 : Int32) xc en)) + (own_above (0 : Int32) xd en)) := by
        have e0 : en < xa := by simp only [Int64.lt_iff_toInt_lt] at hc4 hc5 ⊢; omega
        have e1 : ¬ en < xb := by simp only [Int64.lt_iff_toInt_lt] at hc4 hc5 ⊢; omega
        rw [own_ab1 e0, own_ab0 e1, own_abn, own_abn]; decide
      exact o_retI cx X0 d2_46 ⟨congrArg (fun z => some (Value.int z)) eq2, rfl⟩ (by decide) (by decide)
    · refine o_ifYes cx X0 37 d2_26 ((if0 _ _).trans (flt (fun q => hc5 ((lw_gt xa en).mp q))).2.2.2) (by decide) (by decide) ?_
      refine o_iload cx X0 d2_37 rfl ?_
      refine o_istore cx X0 (Ls' := #[.val (.ref aa), .val (.long en), .second, .val (.int (0 : Int32)), .val (.int (0 : Int32)), .val (.int (0 : Int32))]) d2_39 rfl ?_
      refine o_goto cx X0 6 d2_41 (by decide) (by decide) ?_
      refine o_iloadN cx X0 d2_6 rfl ?_
      refine o_iload cx X0 d2_7 rfl ?_
      refine o_icmpYes cx X0 44 d2_9 (by decide) (by decide) (by decide) ?_
      refine o_iload cx X0 d2_44 rfl ?_
      have eq2 : (0 : Int32) = ((((own_above (1 : Int32) xa en) + (own_above (1 : Int32) xb en)) + (own_above (0 : Int32) xc en)) + (own_above (0 : Int32) xd en)) := by
        have e0 : ¬ en < xa := by simp only [Int64.lt_iff_toInt_lt] at hc4 hc5 ⊢; omega
        have e1 : ¬ en < xb := by simp only [Int64.lt_iff_toInt_lt] at hc4 hc5 ⊢; omega
        rw [own_ab0 e0, own_ab0 e1, own_abn, own_abn]; decide
      exact o_retI cx X0 d2_46 ⟨congrArg (fun z => some (Value.int z)) eq2, rfl⟩ (by decide) (by decide)
theorem ef_rm2_3 (m : MethodId) (aa : Addr) (en : Int64) : entryFrame m #[(.ref aa), (.long en)] 6 = mkF m 0 #[.val (.ref aa), .val (.long en), .second, .unset, .unset, .unset] [] := by first | (simp [entryFrame, mkF, argsToLocals, Value.category]; done) | rfl
set_option maxRecDepth 65536 in
set_option maxHeartbeats 40000000 in
theorem rm2_3 (l : Launch) (Z : State) (a0 : Array Value) (hw : ∀ d ∈ tables_1, d.before a0 Z = true) (aa : Addr) (en : Int64) (xa : Int64) (xb : Int64) (xc : Int64) (xd : Int64) (h0 : Heap) (n0 : Nat) (Z0 : n0 ≤ h0.size) (A0 : own_Ar Z h0 aa .long [(.long xa), (.long xb), (.long xc)]) (s1 : xb.toInt ≤ xa.toInt) (s2 : xc.toInt ≤ xb.toInt) (s3 : xd.toInt ≤ xc.toInt) :
    own_Met l Z (⟨"com/example/tracewire/tracewire/log/Listing", "firstUpTo", "([JJ)I"⟩ : MethodName) prog_122_method_6_code 6 (some .int) ({ frames := 0, cells := 0, slots := 0, locals := 0 } : Room) #[(.ref aa), (.long en)] h0 n0 (fun v' h' => v' = some (.int ((((own_above (1 : Int32) xa en) + (own_above (1 : Int32) xb en)) + (own_above (1 : Int32) xc en)) + (own_above (0 : Int32) xd en))) ∧ h' = h0) := by
  refine own_body (plainFor_of_name pn_2) (fun m => ef_rm2_3 m aa en) Z0 ?_
  intro p e s m below meth c T0 cx X0
  show own_Go p e below _ (T0.setTop (mkF m 0 #[.val (.ref aa), .val (.long en), .second, .unset, .unset, .unset] []))
  refine o_iconst cx X0 (z := (0 : Int32)) d2_0 rfl ?_
  refine o_istoreN cx X0 (Ls' := #[.val (.ref aa), .val (.long en), .second, .val (.int (0 : Int32)), .unset, .unset]) d2_1 rfl ?_
  refine o_aloadN cx X0 d2_2 rfl rfl ?_
  refine o_len cx X0 (z := (3 : Int32)) d2_3 A0 rfl ?_
  refine o_istore cx X0 (Ls' := #[.val (.ref aa), .val (.long en), .second, .val (.int (0 : Int32)), .val (.int (3 : Int32)), .unset]) d2_4 rfl ?_
  refine o_iloadN cx X0 d2_6 rfl ?_
  refine o_iload cx X0 d2_7 rfl ?_
  refine o_icmpNo cx X0 d2_9 (by decide) ?_
  refine o_iloadN cx X0 d2_12 rfl ?_
  refine o_iload cx X0 d2_13 rfl ?_
  refine o_iadd cx X0 (z := (3 : Int32)) d2_15 rfl ?_
  refine o_iconst cx X0 (z := (1 : Int32)) d2_16 rfl ?_
  refine o_iushr cx X0 (z := (1 : Int32)) d2_17 rfl ?_
  refine o_istore cx X0 (Ls' := #[.val (.ref aa), .val (.long en), .second, .val (.int (0 : Int32)), .val (.int (3 : Int32)), .val (.int (1 : Int32))]) d2_18 rfl ?_
  refine o_aloadN cx X0 d2_20 rfl rfl ?_
  refine o_iload cx X0 d2_21 rfl ?_
  refine o_ldJ cx X0 (v := (.long xb)) d2_23 A0 1 (by decide) rfl rfl ?_
  refine o_lloadN cx X0 d2_24 rfl ?_
  refine o_lcmp cx X0 d2_25 rfl ?_
  by_cases hc6 : en < xb
  · refine o_ifNo cx X0 d2_26 ((if0 _ _).trans (tlt ((lw_gt xb en).mpr hc6)).2.2.2) ?_
    refine o_iload cx X0 d2_29 rfl ?_
    refine o_iconst cx X0 (z := (1 : Int32)) d2_31 rfl ?_
    refine o_iadd cx X0 (z := (2 : Int32)) d2_32 rfl ?_
    refine o_istoreN cx X0 (Ls' := #[.val (.ref aa), .val (.long en), .second, .val (.int (2 : Int32)), .val (.int (3 : Int32)), .val (.int (1 : Int32))]) d2_33 rfl ?_
    refine o_goto cx X0 41 d2_34 (by decide) (by decide) ?_
    refine o_goto cx X0 6 d2_41 (by decide) (by decide) ?_
    refine o_iloadN cx X0 d2_6 rfl ?_
    refine o_iload cx X0 d2_7 rfl ?_
    refine o_icmpNo cx X0 d2_9 (by decide) ?_
    refine o_iloadN cx X0 d2_12 rfl ?_
    refine o_iload cx X0 d2_13 rfl ?_
    refine o_iadd cx X0 (z := (5 : Int32)) d2_15 rfl ?_
    refine o_iconst cx X0 (z := (1 : Int32)) d2_16 rfl ?_
    refine o_iushr cx X0 (z := (2 : Int32)) d2_17 rfl ?_
    refine o_istore cx X0 (Ls' := #[.val (.ref aa), .val (.long en), .second, .val (.int (2 : Int32)), .val (.int (3 : Int32)), .val (.int (2 : Int32))]) d2_18 rfl ?_
    refine o_aloadN cx X0 d2_20 rfl rfl ?_
    refine o_iload cx X0 d2_21 rfl ?_
    refine o_ldJ cx X0 (v := (.long xc)) d2_23 A0 2 (by decide) rfl rfl ?_
    refine o_lloadN cx X0 d2_24 rfl ?_
    refine o_lcmp cx X0 d2_25 rfl ?_
    by_cases hc7 : en < xc
    · refine o_ifNo cx X0 d2_26 ((if0 _ _).trans (tlt ((lw_gt xc en).mpr hc7)).2.2.2) ?_
      refine o_iload cx X0 d2_29 rfl ?_
      refine o_iconst cx X0 (z := (1 : Int32)) d2_31 rfl ?_
      refine o_iadd cx X0 (z := (3 : Int32)) d2_32 rfl ?_
      refine o_istoreN cx X0 (Ls' := #[.val (.ref aa), .val (.long en), .second, .val (.int (3 : Int32)), .val (.int (3 : Int32)), .val (.int (2 : Int32))]) d2_33 rfl ?_
      refine o_goto cx X0 41 d2_34 (by decide) (by decide) ?_
      refine o_goto cx X0 6 d2_41 (by decide) (by decide) ?_
      refine o_iloadN cx X0 d2_6 rfl ?_
      refine o_iload cx X0 d2_7 rfl ?_
      refine o_icmpYes cx X0 44 d2_9 (by decide) (by decide) (by decide) ?_
      refine o_iload cx X0 d2_44 rfl ?_
      have eq3 : (3 : Int32) = ((((own_above (1 : Int32) xa en) + (own_above (1 : Int32) xb en)) + (own_above (1 : Int32) xc en)) + (own_above (0 : Int32) xd en)) := by
        have e0 : en < xa := by simp only [Int64.lt_iff_toInt_lt] at hc6 hc7 ⊢; omega
        have e1 : en < xb := by simp only [Int64.lt_iff_toInt_lt] at hc6 hc7 ⊢; omega
        have e2 : en < xc := by simp only [Int64.lt_iff_toInt_lt] at hc6 hc7 ⊢; omega
        rw [own_ab1 e0, own_ab1 e1, own_ab1 e2, own_abn]; decide
      exact o_retI cx X0 d2_46 ⟨congrArg (fun z => some (Value.int z)) eq3, rfl⟩ (by decide) (by decide)
    · refine o_ifYes cx X0 37 d2_26 ((if0 _ _).trans (flt (fun q => hc7 ((lw_gt xc en).mp q))).2.2.2) (by decide) (by decide) ?_
      refine o_iload cx X0 d2_37 rfl ?_
      refine o_istore cx X0 (Ls' := #[.val (.ref aa), .val (.long en), .second, .val (.int (2 : Int32)), .val (.int (2 : Int32)), .val (.int (2 : Int32))]) d2_39 rfl ?_
      refine o_goto cx X0 6 d2_41 (by decide) (by decide) ?_
      refine o_iloadN cx X0 d2_6 rfl ?_
      refine o_iload cx X0 d2_7 rfl ?_
      refine o_icmpYes cx X0 44 d2_9 (by decide) (by decide) (by decide) ?_
      refine o_iload cx X0 d2_44 rfl ?_
      have eq3 : (2 : Int32) = ((((own_above (1 : Int32) xa en) + (own_above (1 : Int32) xb en)) + (own_above (1 : Int32) xc en)) + (own_above (0 : Int32) xd en)) := by
        have e0 : en < xa := by simp only [Int64.lt_iff_toInt_lt] at hc6 hc7 ⊢; omega
        have e1 : en < xb := by simp only [Int64.lt_iff_toInt_lt] at hc6 hc7 ⊢; omega
        have e2 : ¬ en < xc := by simp only [Int64.lt_iff_toInt_lt] at hc6 hc7 ⊢; omega
        rw [own_ab1 e0, own_ab1 e1, own_ab0 e2, own_abn]; decide
      exact o_retI cx X0 d2_46 ⟨congrArg (fun z => some (Value.int z)) eq3, rfl⟩ (by decide) (by decide)
  · refine o_ifYes cx X0 37 d2_26 ((if0 _ _).trans (flt (fun q => hc6 ((lw_gt xb en).mp q))).2.2.2) (by decide) (by decide) ?_
    refine o_iload cx X0 d2_37 rfl ?_
    refine o_istore cx X0 (Ls' := #[.val (.ref aa), .val (.long en), .second, .val (.int (0 : Int32)), .val (.int (1 : Int32)), .val (.int (1 : Int32))]) d2_39 rfl ?_
    refine o_goto cx X0 6 d2_41 (by decide) (by decide) ?_
    refine o_iloadN cx X0 d2_6 rfl ?_
    refine o_iload cx X0 d2_7 rfl ?_
    refine o_icmpNo cx X0 d2_9 (by decide) ?_
    refine o_iloadN cx X0 d2_12 rfl ?_
    refine o_iload cx X0 d2_13 rfl ?_
    refine o_iadd cx X0 (z := (1 : Int32)) d2_15 rfl ?_
    refine o_iconst cx X0 (z := (1 : Int32)) d2_16 rfl ?_
    refine o_iushr cx X0 (z := (0 : Int32)) d2_17 rfl ?_
    refine o_istore cx X0 (Ls' := #[.val (.ref aa), .val (.long en), .second, .val (.int (0 : Int32)), .val (.int (1 : Int32)), .val (.int (0 : Int32))]) d2_18 rfl ?_
    refine o_aloadN cx X0 d2_20 rfl rfl ?_
    refine o_iload cx X0 d2_21 rfl ?_
    refine o_ldJ cx X0 (v := (.long xa)) d2_23 A0 0 (by decide) rfl rfl ?_
    refine o_lloadN cx X0 d2_24 rfl ?_
    refine o_lcmp cx X0 d2_25 rfl ?_
    by_cases hc8 : en < xa
    · refine o_ifNo cx X0 d2_26 ((if0 _ _).trans (tlt ((lw_gt xa en).mpr hc8)).2.2.2) ?_
      refine o_iload cx X0 d2_29 rfl ?_
      refine o_iconst cx X0 (z := (1 : Int32)) d2_31 rfl ?_
      refine o_iadd cx X0 (z := (1 : Int32)) d2_32 rfl ?_
      refine o_istoreN cx X0 (Ls' := #[.val (.ref aa), .val (.long en), .second, .val (.int (1 : Int32)), .val (.int (1 : Int32)), .val (.int (0 : Int32))]) d2_33 rfl ?_
      refine o_goto cx X0 41 d2_34 (by decide) (by decide) ?_
      refine o_goto cx X0 6 d2_41 (by decide) (by decide) ?_
      refine o_iloadN cx X0 d2_6 rfl ?_
      refine o_iload cx X0 d2_7 rfl ?_
      refine o_icmpYes cx X0 44 d2_9 (by decide) (by decide) (by decide) ?_
      refine o_iload cx X0 d2_44 rfl ?_
      have eq3 : (1 : Int32) = ((((own_above (1 : Int32) xa en) + (own_above (1 : Int32) xb en)) + (own_above (1 : Int32) xc en)) + (own_above (0 : Int32) xd en)) := by
        have e0 : en < xa := by simp only [Int64.lt_iff_toInt_lt] at hc6 hc8 ⊢; omega
        have e1 : ¬ en < xb := by simp only [Int64.lt_iff_toInt_lt] at hc6 hc8 ⊢; omega
        have e2 : ¬ en < xc := by simp only [Int64.lt_iff_toInt_lt] at hc6 hc8 ⊢; omega
        rw [own_ab1 e0, own_ab0 e1, own_ab0 e2, own_abn]; decide
      exact o_retI cx X0 d2_46 ⟨congrArg (fun z => some (Value.int z)) eq3, rfl⟩ (by decide) (by decide)
    · refine o_ifYes cx X0 37 d2_26 ((if0 _ _).trans (flt (fun q => hc8 ((lw_gt xa en).mp q))).2.2.2) (by decide) (by decide) ?_
      refine o_iload cx X0 d2_37 rfl ?_
      refine o_istore cx X0 (Ls' := #[.val (.ref aa), .val (.long en), .second, .val (.int (0 : Int32)), .val (.int (0 : Int32)), .val (.int (0 : Int32))]) d2_39 rfl ?_
      refine o_goto cx X0 6 d2_41 (by decide) (by decide) ?_
      refine o_iloadN cx X0 d2_6 rfl ?_
      refine o_iload cx X0 d2_7 rfl ?_
      refine o_icmpYes cx X0 44 d2_9 (by decide) (by decide) (by decide) ?_
      refine o_iload cx X0 d2_44 rfl ?_
      have eq3 : (0 : Int32) = ((((own_above (1 : Int32) xa en) + (own_above (1 : Int32) xb en)) + (own_above (1 : Int32) xc en)) + (own_above (0 : Int32) xd en)) := by
        have e0 : ¬ en < xa := by simp only [Int64.lt_iff_toInt_lt] at hc6 hc8 ⊢; omega
        have e1 : ¬ en < xb := by simp only [Int64.lt_iff_toInt_lt] at hc6 hc8 ⊢; omega
        have e2 : ¬ en < xc := by simp only [Int64.lt_iff_toInt_lt] at hc6 hc8 ⊢; omega
        rw [own_ab0 e0, own_ab0 e1, own_ab0 e2, own_abn]; decide
      exact o_retI cx X0 d2_46 ⟨congrArg (fun z => some (Value.int z)) eq3, rfl⟩ (by decide) (by decide)
theorem ef_rm2_4 (m : MethodId) (aa : Addr) (en : Int64) : entryFrame m #[(.ref aa), (.long en)] 6 = mkF m 0 #[.val (.ref aa), .val (.long en), .second, .unset, .unset, .unset] [] := by first | (simp [entryFrame, mkF, argsToLocals, Value.category]; done) | rfl
set_option maxRecDepth 65536 in
set_option maxHeartbeats 40000000 in
theorem rm2_4 (l : Launch) (Z : State) (a0 : Array Value) (hw : ∀ d ∈ tables_1, d.before a0 Z = true) (aa : Addr) (en : Int64) (xa : Int64) (xb : Int64) (xc : Int64) (xd : Int64) (h0 : Heap) (n0 : Nat) (Z0 : n0 ≤ h0.size) (A0 : own_Ar Z h0 aa .long [(.long xa), (.long xb), (.long xc), (.long xd)]) (s1 : xb.toInt ≤ xa.toInt) (s2 : xc.toInt ≤ xb.toInt) (s3 : xd.toInt ≤ xc.toInt) :
    own_Met l Z (⟨"com/example/tracewire/tracewire/log/Listing", "firstUpTo", "([JJ)I"⟩ : MethodName) prog_122_method_6_code 6 (some .int) ({ frames := 0, cells := 0, slots := 0, locals := 0 } : Room) #[(.ref aa), (.long en)] h0 n0 (fun v' h' => v' = some (.int ((((own_above (1 : Int32) xa en) + (own_above (1 : Int32) xb en)) + (own_above (1 : Int32) xc en)) + (own_above (1 : Int32) xd en))) ∧ h' = h0) := by
  refine own_body (plainFor_of_name pn_2) (fun m => ef_rm2_4 m aa en) Z0 ?_
  intro p e s m below meth c T0 cx X0
  show own_Go p e below _ (T0.setTop (mkF m 0 #[.val (.ref aa), .val (.long en), .second, .unset, .unset, .unset] []))
  refine o_iconst cx X0 (z := (0 : Int32)) d2_0 rfl ?_
  refine o_istoreN cx X0 (Ls' := #[.val (.ref aa), .val (.long en), .second, .val (.int (0 : Int32)), .unset, .unset]) d2_1 rfl ?_
  refine o_aloadN cx X0 d2_2 rfl rfl ?_
  refine o_len cx X0 (z := (4 : Int32)) d2_3 A0 rfl ?_
  refine o_istore cx X0 (Ls' := #[.val (.ref aa), .val (.long en), .second, .val (.int (0 : Int32)), .val (.int (4 : Int32)), .unset]) d2_4 rfl ?_
  refine o_iloadN cx X0 d2_6 rfl ?_
  refine o_iload cx X0 d2_7 rfl ?_
  refine o_icmpNo cx X0 d2_9 (by decide) ?_
  refine o_iloadN cx X0 d2_12 rfl ?_
  refine o_iload cx X0 d2_13 rfl ?_
  refine o_iadd cx X0 (z := (4 : Int32)) d2_15 rfl ?_
  refine o_iconst cx X0 (z := (1 : Int32)) d2_16 rfl ?_
  refine o_iushr cx X0 (z := (2 : Int32)) d2_17 rfl ?_
  refine o_istore cx X0 (Ls' := #[.val (.ref aa), .val (.long en), .second, .val (.int (0 : Int32)), .val (.int (4 : Int32)), .val (.int (2 : Int32))]) d2_18 rfl ?_
  refine o_aloadN cx X0 d2_20 rfl rfl ?_
  refine o_iload cx X0 d2_21 rfl ?_
  refine o_ldJ cx X0 (v := (.long xc)) d2_23 A0 2 (by decide) rfl rfl ?_
  refine o_lloadN cx X0 d2_24 rfl ?_
  refine o_lcmp cx X0 d2_25 rfl ?_
  by_cases hc9 : en < xc
  · refine o_ifNo cx X0 d2_26 ((if0 _ _).trans (tlt ((lw_gt xc en).mpr hc9)).2.2.2) ?_
    refine o_iload cx X0 d2_29 rfl ?_
    refine o_iconst cx X0 (z := (1 : Int32)) d2_31 rfl ?_
    refine o_iadd cx X0 (z := (3 : Int32)) d2_32 rfl ?_
    refine o_istoreN cx X0 (Ls' := #[.val (.ref aa), .val (.long en), .second, .val (.int (3 : Int32)), .val (.int (4 : Int32)), .val (.int (2 : Int32))]) d2_33 rfl ?_
    refine o_goto cx X0 41 d2_34 (by decide) (by decide) ?_
    refine o_goto cx X0 6 d2_41 (by decide) (by decide) ?_
    refine o_iloadN cx X0 d2_6 rfl ?_
    refine o_iload cx X0 d2_7 rfl ?_
    refine o_icmpNo cx X0 d2_9 (by decide) ?_
    refine o_iloadN cx X0 d2_12 rfl ?_
    refine o_iload cx X0 d2_13 rfl ?_
    refine o_iadd cx X0 (z := (7 : Int32)) d2_15 rfl ?_
    refine o_iconst cx X0 (z := (1 : Int32)) d2_16 rfl ?_
    refine o_iushr cx X0 (z := (3 : Int32)) d2_17 rfl ?_
    refine o_istore cx X0 (Ls' := #[.val (.ref aa), .val (.long en), .second, .val (.int (3 : Int32)), .val (.int (4 : Int32)), .val (.int (3 : Int32))]) d2_18 rfl ?_
    refine o_aloadN cx X0 d2_20 rfl rfl ?_
    refine o_iload cx X0 d2_21 rfl ?_
    refine o_ldJ cx X0 (v := (.long xd)) d2_23 A0 3 (by decide) rfl rfl ?_
    refine o_lloadN cx X0 d2_24 rfl ?_
    refine o_lcmp cx X0 d2_25 rfl ?_
    by_cases hc10 : en < xd
    · refine o_ifNo cx X0 d2_26 ((if0 _ _).trans (tlt ((lw_gt xd en).mpr hc10)).2.2.2) ?_
      refine o_iload cx X0 d2_29 rfl ?_
      refine o_iconst cx X0 (z := (1 : Int32)) d2_31 rfl ?_
      refine o_iadd cx X0 (z := (4 : Int32)) d2_32 rfl ?_
      refine o_istoreN cx X0 (Ls' := #[.val (.ref aa), .val (.long en), .second, .val (.int (4 : Int32)), .val (.int (4 : Int32)), .val (.int (3 : Int32))]) d2_33 rfl ?_
      refine o_goto cx X0 41 d2_34 (by decide) (by decide) ?_
      refine o_goto cx X0 6 d2_41 (by decide) (by decide) ?_
      refine o_iloadN cx X0 d2_6 rfl ?_
      refine o_iload cx X0 d2_7 rfl ?_
      refine o_icmpYes cx X0 44 d2_9 (by decide) (by decide) (by decide) ?_
      refine o_iload cx X0 d2_44 rfl ?_
      have eq4 : (4 : Int32) = ((((own_above (1 : Int32) xa en) + (own_above (1 : Int32) xb en)) + (own_above (1 : Int32) xc en)) + (own_above (1 : Int32) xd en)) := by
        have e0 : en < xa := by simp only [Int64.lt_iff_toInt_lt] at hc9 hc10 ⊢; omega
        have e1 : en < xb := by simp only [Int64.lt_iff_toInt_lt] at hc9 hc10 ⊢; omega
        have e2 : en < xc := by simp only [Int64.lt_iff_toInt_lt] at hc9 hc10 ⊢; omega
        have e3 : en < xd := by simp only [Int64.lt_iff_toInt_lt] at hc9 hc10 ⊢; omega
        rw [own_ab1 e0, own_ab1 e1, own_ab1 e2, own_ab1 e3]; decide
      exact o_retI cx X0 d2_46 ⟨congrArg (fun z => some (Value.int z)) eq4, rfl⟩ (by decide) (by decide)
    · refine o_ifYes cx X0 37 d2_26 ((if0 _ _).trans (flt (fun q => hc10 ((lw_gt xd en).mp q))).2.2.2) (by decide) (by decide) ?_
      refine o_iload cx X0 d2_37 rfl ?_
      refine o_istore cx X0 (Ls' := #[.val (.ref aa), .val (.long en), .second, .val (.int (3 : Int32)), .val (.int (3 : Int32)), .val (.int (3 : Int32))]) d2_39 rfl ?_
      refine o_goto cx X0 6 d2_41 (by decide) (by decide) ?_
      refine o_iloadN cx X0 d2_6 rfl ?_
      refine o_iload cx X0 d2_7 rfl ?_
      refine o_icmpYes cx X0 44 d2_9 (by decide) (by decide) (by decide) ?_
      refine o_iload cx X0 d2_44 rfl ?_
      have eq4 : (3 : Int32) = ((((own_above (1 : Int32) xa en) + (own_above (1 : Int32) xb en)) + (own_above (1 : Int32) xc en)) + (own_above (1 : Int32) xd en)) := by
        have e0 : en < xa := by simp only [Int64.lt_iff_toInt_lt] at hc9 hc10 ⊢; omega
        have e1 : en < xb := by simp only [Int64.lt_iff_toInt_lt] at hc9 hc10 ⊢; omega
        have e2 : en < xc := by simp only [Int64.lt_iff_toInt_lt] at hc9 hc10 ⊢; omega
        have e3 : ¬ en < xd := by simp only [Int64.lt_iff_toInt_lt] at hc9 hc10 ⊢; omega
        rw [own_ab1 e0, own_ab1 e1, own_ab1 e2, own_ab0 e3]; decide
      exact o_retI cx X0 d2_46 ⟨congrArg (fun z => some (Value.int z)) eq4, rfl⟩ (by decide) (by decide)
  · refine o_ifYes cx X0 37 d2_26 ((if0 _ _).trans (flt (fun q => hc9 ((lw_gt xc en).mp q))).2.2.2) (by decide) (by decide) ?_
    refine o_iload cx X0 d2_37 rfl ?_
    refine o_istore cx X0 (Ls' := #[.val (.ref aa), .val (.long en), .second, .val (.int (0 : Int32)), .val (.int (2 : Int32)), .val (.int (2 : Int32))]) d2_39 rfl ?_
    refine o_goto cx X0 6 d2_41 (by decide) (by decide) ?_
    refine o_iloadN cx X0 d2_6 rfl ?_
    refine o_iload cx X0 d2_7 rfl ?_
    refine o_icmpNo cx X0 d2_9 (by decide) ?_
    refine o_iloadN cx X0 d2_12 rfl ?_
    refine o_iload cx X0 d2_13 rfl ?_
    refine o_iadd cx X0 (z := (2 : Int32)) d2_15 rfl ?_
    refine o_iconst cx X0 (z := (1 : Int32)) d2_16 rfl ?_
    refine o_iushr cx X0 (z := (1 : Int32)) d2_17 rfl ?_
    refine o_istore cx X0 (Ls' := #[.val (.ref aa), .val (.long en), .second, .val (.int (0 : Int32)), .val (.int (2 : Int32)), .val (.int (1 : Int32))]) d2_18 rfl ?_
    refine o_aloadN cx X0 d2_20 rfl rfl ?_
    refine o_iload cx X0 d2_21 rfl ?_
    refine o_ldJ cx X0 (v := (.long xb)) d2_23 A0 1 (by decide) rfl rfl ?_
    refine o_lloadN cx X0 d2_24 rfl ?_
    refine o_lcmp cx X0 d2_25 rfl ?_
    by_cases hc11 : en < xb
    · refine o_ifNo cx X0 d2_26 ((if0 _ _).trans (tlt ((lw_gt xb en).mpr hc11)).2.2.2) ?_
      refine o_iload cx X0 d2_29 rfl ?_
      refine o_iconst cx X0 (z := (1 : Int32)) d2_31 rfl ?_
      refine o_iadd cx X0 (z := (2 : Int32)) d2_32 rfl ?_
      refine o_istoreN cx X0 (Ls' := #[.val (.ref aa), .val (.long en), .second, .val (.int (2 : Int32)), .val (.int (2 : Int32)), .val (.int (1 : Int32))]) d2_33 rfl ?_
      refine o_goto cx X0 41 d2_34 (by decide) (by decide) ?_
      refine o_goto cx X0 6 d2_41 (by decide) (by decide) ?_
      refine o_iloadN cx X0 d2_6 rfl ?_
      refine o_iload cx X0 d2_7 rfl ?_
      refine o_icmpYes cx X0 44 d2_9 (by decide) (by decide) (by decide) ?_
      refine o_iload cx X0 d2_44 rfl ?_
      have eq4 : (2 : Int32) = ((((own_above (1 : Int32) xa en) + (own_above (1 : Int32) xb en)) + (own_above (1 : Int32) xc en)) + (own_above (1 : Int32) xd en)) := by
        have e0 : en < xa := by simp only [Int64.lt_iff_toInt_lt] at hc9 hc11 ⊢; omega
        have e1 : en < xb := by simp only [Int64.lt_iff_toInt_lt] at hc9 hc11 ⊢; omega
        have e2 : ¬ en < xc := by simp only [Int64.lt_iff_toInt_lt] at hc9 hc11 ⊢; omega
        have e3 : ¬ en < xd := by simp only [Int64.lt_iff_toInt_lt] at hc9 hc11 ⊢; omega
        rw [own_ab1 e0, own_ab1 e1, own_ab0 e2, own_ab0 e3]; decide
      exact o_retI cx X0 d2_46 ⟨congrArg (fun z => some (Value.int z)) eq4, rfl⟩ (by decide) (by decide)
    · refine o_ifYes cx X0 37 d2_26 ((if0 _ _).trans (flt (fun q => hc11 ((lw_gt xb en).mp q))).2.2.2) (by decide) (by decide) ?_
      refine o_iload cx X0 d2_37 rfl ?_
      refine o_istore cx X0 (Ls' := #[.val (.ref aa), .val (.long en), .second, .val (.int (0 : Int32)), .val (.int (1 : Int32)), .val (.int (1 : Int32))]) d2_39 rfl ?_
      refine o_goto cx X0 6 d2_41 (by decide) (by decide) ?_
      refine o_iloadN cx X0 d2_6 rfl ?_
      refine o_iload cx X0 d2_7 rfl ?_
      refine o_icmpNo cx X0 d2_9 (by decide) ?_
      refine o_iloadN cx X0 d2_12 rfl ?_
      refine o_iload cx X0 d2_13 rfl ?_
      refine o_iadd cx X0 (z := (1 : Int32)) d2_15 rfl ?_
      refine o_iconst cx X0 (z := (1 : Int32)) d2_16 rfl ?_
      refine o_iushr cx X0 (z := (0 : Int32)) d2_17 rfl ?_
      refine o_istore cx X0 (Ls' := #[.val (.ref aa), .val (.long en), .second, .val (.int (0 : Int32)), .val (.int (1 : Int32)), .val (.int (0 : Int32))]) d2_18 rfl ?_
      refine o_aloadN cx X0 d2_20 rfl rfl ?_
      refine o_iload cx X0 d2_21 rfl ?_
      refine o_ldJ cx X0 (v := (.long xa)) d2_23 A0 0 (by decide) rfl rfl ?_
      refine o_lloadN cx X0 d2_24 rfl ?_
      refine o_lcmp cx X0 d2_25 rfl ?_
      by_cases hc12 : en < xa
      · refine o_ifNo cx X0 d2_26 ((if0 _ _).trans (tlt ((lw_gt xa en).mpr hc12)).2.2.2) ?_
        refine o_iload cx X0 d2_29 rfl ?_
        refine o_iconst cx X0 (z := (1 : Int32)) d2_31 rfl ?_
        refine o_iadd cx X0 (z := (1 : Int32)) d2_32 rfl ?_
        refine o_istoreN cx X0 (Ls' := #[.val (.ref aa), .val (.long en), .second, .val (.int (1 : Int32)), .val (.int (1 : Int32)), .val (.int (0 : Int32))]) d2_33 rfl ?_
        refine o_goto cx X0 41 d2_34 (by decide) (by decide) ?_
        refine o_goto cx X0 6 d2_41 (by decide) (by decide) ?_
        refine o_iloadN cx X0 d2_6 rfl ?_
        refine o_iload cx X0 d2_7 rfl ?_
        refine o_icmpYes cx X0 44 d2_9 (by decide) (by decide) (by decide) ?_
        refine o_iload cx X0 d2_44 rfl ?_
        have eq4 : (1 : Int32) = ((((own_above (1 : Int32) xa en) + (own_above (1 : Int32) xb en)) + (own_above (1 : Int32) xc en)) + (own_above (1 : Int32) xd en)) := by
          have e0 : en < xa := by simp only [Int64.lt_iff_toInt_lt] at hc9 hc11 hc12 ⊢; omega
          have e1 : ¬ en < xb := by simp only [Int64.lt_iff_toInt_lt] at hc9 hc11 hc12 ⊢; omega
          have e2 : ¬ en < xc := by simp only [Int64.lt_iff_toInt_lt] at hc9 hc11 hc12 ⊢; omega
          have e3 : ¬ en < xd := by simp only [Int64.lt_iff_toInt_lt] at hc9 hc11 hc12 ⊢; omega
          rw [own_ab1 e0, own_ab0 e1, own_ab0 e2, own_ab0 e3]; decide
        exact o_retI cx X0 d2_46 ⟨congrArg (fun z => some (Value.int z)) eq4, rfl⟩ (by decide) (by decide)
      · refine o_ifYes cx X0 37 d2_26 ((if0 _ _).trans (flt (fun q => hc12 ((lw_gt xa en).mp q))).2.2.2) (by decide) (by decide) ?_
        refine o_iload cx X0 d2_37 rfl ?_
        refine o_istore cx X0 (Ls' := #[.val (.ref aa), .val (.long en), .second, .val (.int (0 : Int32)), .val (.int (0 : Int32)), .val (.int (0 : Int32))]) d2_39 rfl ?_
        refine o_goto cx X0 6 d2_41 (by decide) (by decide) ?_
        refine o_iloadN cx X0 d2_6 rfl ?_
        refine o_iload cx X0 d2_7 rfl ?_
        refine o_icmpYes cx X0 44 d2_9 (by decide) (by decide) (by decide) ?_
        refine o_iload cx X0 d2_44 rfl ?_
        have eq4 : (0 : Int32) = ((((own_above (1 : Int32) xa en) + (own_above (1 : Int32) xb en)) + (own_above (1 : Int32) xc en)) + (own_above (1 : Int32) xd en)) := by
          have e0 : ¬ en < xa := by simp only [Int64.lt_iff_toInt_lt] at hc9 hc11 hc12 ⊢; omega
          have e1 : ¬ en < xb := by simp only [Int64.lt_iff_toInt_lt] at hc9 hc11 hc12 ⊢; omega
          have e2 : ¬ en < xc := by simp only [Int64.lt_iff_toInt_lt] at hc9 hc11 hc12 ⊢; omega
          have e3 : ¬ en < xd := by simp only [Int64.lt_iff_toInt_lt] at hc9 hc11 hc12 ⊢; omega
          rw [own_ab0 e0, own_ab0 e1, own_ab0 e2, own_ab0 e3]; decide
        exact o_retI cx X0 d2_46 ⟨congrArg (fun z => some (Value.int z)) eq4, rfl⟩ (by decide) (by decide)
theorem pd_1 : parseMethodDescriptor "(ZJJ)I" = some ⟨[.boolean, .long, .long], some .int⟩ := by decide +kernel
theorem pd_2 : parseMethodDescriptor "([JJ)I" = some ⟨[(.array .long), .long], some .int⟩ := by decide +kernel
theorem ef_rm0 (m : MethodId) (p0 : Int32) (en : Int64) (p2 : Int64) (p3 : Int64) (p4 : Int64) (p5 : Int64) : entryFrame m #[(.int p0), (.long en), (.long p2), (.long p3), (.long p4), (.long p5)] maxLocals = mkF m 0 #[.val (.int p0), .val (.long en), .second, .val (.long p2), .second, .val (.long p3), .second, .val (.long p4), .second, .val (.long p5), .second, .unset, .unset, .unset, .unset, .unset, .unset, .unset, .unset, .unset, .unset, .unset, .unset, .unset] [] := by first | (simp [entryFrame, mkF, argsToLocals, Value.category, maxLocals]; done) | rfl
set_option maxRecDepth 65536 in
set_option maxHeartbeats 40000000 in
theorem rm0 (l : Launch) (Z : State) (a0 : Array Value) (hw : ∀ d ∈ tables_1, d.before a0 Z = true) (p0 : Int32) (en : Int64) (p2 : Int64) (p3 : Int64) (p4 : Int64) (p5 : Int64) (h0 : Heap) (n0 : Nat) (Z0 : n0 ≤ h0.size) :
    own_Met l Z x code maxLocals ret room_1 #[(.int p0), (.long en), (.long p2), (.long p3), (.long p4), (.long p5)] h0 n0 (fun v' _ => v' = some (.int 1)) := by
  refine own_body (plainFor_of_name pn_1) (fun m => ef_rm0 m p0 en p2 p3 p4 p5) Z0 ?_
  intro p e s m below meth c T0 cx X0
  show own_Go p e below _ (T0.setTop (mkF m 0 #[.val (.int p0), .val (.long en), .second, .val (.long p2), .second, .val (.long p3), .second, .val (.long p4), .second, .val (.long p5), .second, .unset, .unset, .unset, .unset, .unset, .unset, .unset, .unset, .unset, .unset, .unset, .unset, .unset] []))
  refine o_iloadN cx X0 at_0 rfl ?_
  refine o_ldc cx X0 (z := (2147483647 : Int32)) at_1 (o_w hw 0 rfl) ?_
  refine o_iand cx X0 at_3 rfl ?_
  refine o_iconst cx X0 (z := (5 : Int32)) at_4 rfl ?_
  refine o_irem cx X0 at_5 (by decide) rfl ?_
  refine o_istore cx X0 (Ls' := #[.val (.int p0), .val (.long en), .second, .val (.long p2), .second, .val (.long p3), .second, .val (.long p4), .second, .val (.long p5), .second, .val (.int ((p0 &&& (2147483647 : Int32)) % (5 : Int32))), .unset, .unset, .unset, .unset, .unset, .unset, .unset, .unset, .unset, .unset, .unset, .unset]) at_6 rfl ?_
  refine o_lloadN cx X0 at_8 rfl ?_
  refine o_lstore cx X0 (Ls' := #[.val (.int p0), .val (.long en), .second, .val (.long p2), .second, .val (.long p3), .second, .val (.long p4), .second, .val (.long p5), .second, .val (.int ((p0 &&& (2147483647 : Int32)) % (5 : Int32))), .val (.long p2), .second, .unset, .unset, .unset, .unset, .unset, .unset, .unset, .unset, .unset, .unset]) at_9 rfl ?_
  refine o_lload cx X0 at_11 rfl ?_
  refine o_lstore cx X0 (Ls' := #[.val (.int p0), .val (.long en), .second, .val (.long p2), .second, .val (.long p3), .second, .val (.long p4), .second, .val (.long p5), .second, .val (.int ((p0 &&& (2147483647 : Int32)) % (5 : Int32))), .val (.long p2), .second, .val (.long p3), .second, .unset, .unset, .unset, .unset, .unset, .unset, .unset, .unset]) at_13 rfl ?_
  refine o_lload cx X0 at_15 rfl ?_
  refine o_lstore cx X0 (Ls' := #[.val (.int p0), .val (.long en), .second, .val (.long p2), .second, .val (.long p3), .second, .val (.long p4), .second, .val (.long p5), .second, .val (.int ((p0 &&& (2147483647 : Int32)) % (5 : Int32))), .val (.long p2), .second, .val (.long p3), .second, .val (.long p4), .second, .unset, .unset, .unset, .unset, .unset, .unset]) at_17 rfl ?_
  refine o_lload cx X0 at_19 rfl ?_
  refine o_lstore cx X0 (Ls' := #[.val (.int p0), .val (.long en), .second, .val (.long p2), .second, .val (.long p3), .second, .val (.long p4), .second, .val (.long p5), .second, .val (.int ((p0 &&& (2147483647 : Int32)) % (5 : Int32))), .val (.long p2), .second, .val (.long p3), .second, .val (.long p4), .second, .val (.long p5), .second, .unset, .unset, .unset, .unset]) at_21 rfl ?_
  have J123 : ∀ (xa xb xc xd : Int64) (s20 s21 : Slot), ((s20 = .unset ∧ s21 = .unset) ∨ ∃ tt : Int64, s20 = .val (.long tt) ∧ s21 = .second) → xb.toInt ≤ xa.toInt → xc.toInt ≤ xb.toInt → xd.toInt ≤ xc.toInt → own_Go p e below (own_End below s room_1 n0 (fun v' _ => v' = some (.int 1))) (T0.setTop (mkF m 123 #[.val (.int p0), .val (.long en), .second, .val (.long p2), .second, .val (.long p3), .second, .val (.long p4), .second, .val (.long p5), .second, .val (.int ((p0 &&& (2147483647 : Int32)) % (5 : Int32))), .val (.long xa), .second, .val (.long xb), .second, .val (.long xc), .second, .val (.long xd), .second, s20, s21, .unset, .unset] [])) := by
    intro xa xb xc xd s20 s21 hsl s1 s2 s3
    rcases own_len5 p0 with hl | hl | hl | hl | hl
    · rw [hl]
      show own_Go p e below _ (T0.setTop (mkF m 123 #[.val (.int p0), .val (.long en), .second, .val (.long p2), .second, .val (.long p3), .second, .val (.long p4), .second, .val (.long p5), .second, .val (.int (0 : Int32)), .val (.long xa), .second, .val (.long xb), .second, .val (.long xc), .second, .val (.long xd), .second, s20, s21, .unset, .unset] []))
      refine o_iload cx X0 at_123 rfl ?_
      refine o_newP cx X0 at_125 (o_w hw 1 rfl) (by decide) 0 0 rfl (Nat.le_refl _) (by decide) (by decide) (by decide) fun T14 h16 b13 gb19 ge20 X15 E17 A18 => ?_
      have A18 : own_Ar Z h16 b13 .long [] := A18
      refine o_astore cx X15 (Ls' := #[.val (.int p0), .val (.long en), .second, .val (.long p2), .second, .val (.long p3), .second, .val (.long p4), .second, .val (.long p5), .second, .val (.int (0 : Int32)), .val (.long xa), .second, .val (.long xb), .second, .val (.long xc), .second, .val (.long xd), .second, s20, s21, .val (.ref b13), .unset]) at_127 rfl rfl ?_
      refine o_iload cx X15 at_129 rfl ?_
      refine o_ifYes cx X15 140 at_131 (by decide) (by decide) (by decide) ?_
      refine o_iload cx X15 at_140 rfl ?_
      refine o_iconst cx X15 (z := (1 : Int32)) at_142 rfl ?_
      refine o_icmpYes cx X15 152 at_143 (by decide) (by decide) (by decide) ?_
      refine o_iload cx X15 at_152 rfl ?_
      refine o_iconst cx X15 (z := (2 : Int32)) at_154 rfl ?_
      refine o_icmpYes cx X15 164 at_155 (by decide) (by decide) (by decide) ?_
      refine o_iload cx X15 at_164 rfl ?_
      refine o_iconst cx X15 (z := (3 : Int32)) at_166 rfl ?_
      refine o_icmpYes cx X15 176 at_167 (by decide) (by decide) (by decide) ?_
      refine o_iload cx X15 at_176 rfl ?_
      refine o_ifYes cx X15 185 at_178 (by decide) (by decide) (by decide) ?_
      refine o_iconst cx X15 (z := (0 : Int32)) at_185 rfl ?_
      refine o_lload cx X15 at_186 rfl ?_
      refine o_lloadN cx X15 at_188 rfl ?_
      refine o_callSp cx X15 (y' := (⟨"com/example/tracewire/tracewire/log/ListingFirstUpToPinLaw", "above", "(ZJJ)I"⟩ : MethodName)) (argsL := [(.int (0 : Int32)), (.long xa), (.long en)]) (st := []) at_189 (o_w hw 2 rfl) (o_w hw 3 rfl) (o_w hw 4 rfl) (o_w hw 5 rfl) (by decide) (rm1 l Z a0 hw (0 : Int32) xa en h16 n0 X15.ge0) (by decide) 0 rfl (by decide) rfl (lenOf pd_1 rfl) rfl rfl (by decide) (by decide) fun T21 X22 => ?_
      show own_Go p e below _ (T21.setTop (mkF m 192 #[.val (.int p0), .val (.long en), .second, .val (.long p2), .second, .val (.long p3), .second, .val (.long p4), .second, .val (.long p5), .second, .val (.int (0 : Int32)), .val (.long xa), .second, .val (.long xb), .second, .val (.long xc), .second, .val (.long xd), .second, s20, s21, .val (.ref b13), .unset] [(.int (own_above (0 : Int32) xa en))]))
      refine o_iload cx X22 at_192 rfl ?_
      refine o_iconst cx X22 (z := (1 : Int32)) at_194 rfl ?_
      refine o_icmpYes cx X22 202 at_195 (by decide) (by decide) (by decide) ?_
      refine o_iconst cx X22 (z := (0 : Int32)) at_202 rfl ?_
      refine o_lload cx X22 at_203 rfl ?_
      refine o_lloadN cx X22 at_205 rfl ?_
      refine o_callSp cx X22 (y' := (⟨"com/example/tracewire/tracewire/log/ListingFirstUpToPinLaw", "above", "(ZJJ)I"⟩ : MethodName)) (argsL := [(.int (0 : Int32)), (.long xb), (.long en)]) (st := [(.int (own_above (0 : Int32) xa en))]) at_206 (o_w hw 2 rfl) (o_w hw 3 rfl) (o_w hw 4 rfl) (o_w hw 5 rfl) (by decide) (rm1 l Z a0 hw (0 : Int32) xb en h16 n0 X22.ge0) (by decide) 1 rfl (by decide) rfl (lenOf pd_1 rfl) rfl rfl (by decide) (by decide) fun T26 X27 => ?_
      show own_Go p e below _ (T26.setTop (mkF m 209 #[.val (.int p0), .val (.long en), .second, .val (.long p2), .second, .val (.long p3), .second, .val (.long p4), .second, .val (.long p5), .second, .val (.int (0 : Int32)), .val (.long xa), .second, .val (.long xb), .second, .val (.long xc), .second, .val (.long xd), .second, s20, s21, .val (.ref b13), .unset] [(.int (own_above (0 : Int32) xb en)), (.int (own_above (0 : Int32) xa en))]))
      refine o_iadd cx X27 at_209 rfl ?_
      refine o_iload cx X27 at_210 rfl ?_
      refine o_iconst cx X27 (z := (2 : Int32)) at_212 rfl ?_
      refine o_icmpYes cx X27 220 at_213 (by decide) (by decide) (by decide) ?_
      refine o_iconst cx X27 (z := (0 : Int32)) at_220 rfl ?_
      refine o_lload cx X27 at_221 rfl ?_
      refine o_lloadN cx X27 at_223 rfl ?_
      refine o_callSp cx X27 (y' := (⟨"com/example/tracewire/tracewire/log/ListingFirstUpToPinLaw", "above", "(ZJJ)I"⟩ : MethodName)) (argsL := [(.int (0 : Int32)), (.long xc), (.long en)]) (st := [(.int ((own_above (0 : Int32) xa en) + (own_above (0 : Int32) xb en)))]) at_224 (o_w hw 2 rfl) (o_w hw 3 rfl) (o_w hw 4 rfl) (o_w hw 5 rfl) (by decide) (rm1 l Z a0 hw (0 : Int32) xc en h16 n0 X27.ge0) (by decide) 1 rfl (by decide) rfl (lenOf pd_1 rfl) rfl rfl (by decide) (by decide) fun T31 X32 => ?_
      show own_Go p e below _ (T31.setTop (mkF m 227 #[.val (.int p0), .val (.long en), .second, .val (.long p2), .second, .val (.long p3), .second, .val (.long p4), .second, .val (.long p5), .second, .val (.int (0 : Int32)), .val (.long xa), .second, .val (.long xb), .second, .val (.long xc), .second, .val (.long xd), .second, s20, s21, .val (.ref b13), .unset] [(.int (own_above (0 : Int32) xc en)), (.int ((own_above (0 : Int32) xa en) + (own_above (0 : Int32) xb en)))]))
      refine o_iadd cx X32 at_227 rfl ?_
      refine o_iload cx X32 at_228 rfl ?_
      refine o_iconst cx X32 (z := (3 : Int32)) at_230 rfl ?_
      refine o_icmpYes cx X32 238 at_231 (by decide) (by decide) (by decide) ?_
      refine o_iconst cx X32 (z := (0 : Int32)) at_238 rfl ?_
      refine o_lload cx X32 at_239 rfl ?_
      refine o_lloadN cx X32 at_241 rfl ?_
      refine o_callSp cx X32 (y' := (⟨"com/example/tracewire/tracewire/log/ListingFirstUpToPinLaw", "above", "(ZJJ)I"⟩ : MethodName)) (argsL := [(.int (0 : Int32)), (.long xd), (.long en)]) (st := [(.int (((own_above (0 : Int32) xa en) + (own_above (0 : Int32) xb en)) + (own_above (0 : Int32) xc en)))]) at_242 (o_w hw 2 rfl) (o_w hw 3 rfl) (o_w hw 4 rfl) (o_w hw 5 rfl) (by decide) (rm1 l Z a0 hw (0 : Int32) xd en h16 n0 X32.ge0) (by decide) 1 rfl (by decide) rfl (lenOf pd_1 rfl) rfl rfl (by decide) (by decide) fun T36 X37 => ?_
      show own_Go p e below _ (T36.setTop (mkF m 245 #[.val (.int p0), .val (.long en), .second, .val (.long p2), .second, .val (.long p3), .second, .val (.long p4), .second, .val (.long p5), .second, .val (.int (0 : Int32)), .val (.long xa), .second, .val (.long xb), .second, .val (.long xc), .second, .val (.long xd), .second, s20, s21, .val (.ref b13), .unset] [(.int (own_above (0 : Int32) xd en)), (.int (((own_above (0 : Int32) xa en) + (own_above (0 : Int32) xb en)) + (own_above (0 : Int32) xc en)))]))
      refine o_iadd cx X37 at_245 rfl ?_
      refine o_istore cx X37 (Ls' := #[.val (.int p0), .val (.long en), .second, .val (.long p2), .second, .val (.long p3), .second, .val (.long p4), .second, .val (.long p5), .second, .val (.int (0 : Int32)), .val (.long xa), .second, .val (.long xb), .second, .val (.long xc), .second, .val (.long xd), .second, s20, s21, .val (.ref b13), .val (.int ((((own_above (0 : Int32) xa en) + (own_above (0 : Int32) xb en)) + (own_above (0 : Int32) xc en)) + (own_above (0 : Int32) xd en)))]) at_246 rfl ?_
      refine o_aload cx X37 at_248 rfl rfl ?_
      refine o_lloadN cx X37 at_250 rfl ?_
      refine o_callSp cx X37 (y' := (⟨"com/example/tracewire/tracewire/log/Listing", "firstUpTo", "([JJ)I"⟩ : MethodName)) (argsL := [(.ref b13), (.long en)]) (st := []) at_251 (o_w hw 6 rfl) (o_w hw 7 rfl) (o_w hw 8 rfl) (o_w hw 9 rfl) (by decide) (rm2_0 l Z a0 hw b13 en xa xb xc xd h16 n0 X37.ge0 A18 s1 s2 s3) (by decide) 0 rfl (by decide) rfl (lenOf pd_2 rfl) rfl rfl (by decide) (by decide) fun T41 X42 => ?_
      show own_Go p e below _ (T41.setTop (mkF m 254 #[.val (.int p0), .val (.long en), .second, .val (.long p2), .second, .val (.long p3), .second, .val (.long p4), .second, .val (.long p5), .second, .val (.int (0 : Int32)), .val (.long xa), .second, .val (.long xb), .second, .val (.long xc), .second, .val (.long xd), .second, s20, s21, .val (.ref b13), .val (.int ((((own_above (0 : Int32) xa en) + (own_above (0 : Int32) xb en)) + (own_above (0 : Int32) xc en)) + (own_above (0 : Int32) xd en)))] [(.int ((((own_above (0 : Int32) xa en) + (own_above (0 : Int32) xb en)) + (own_above (0 : Int32) xc en)) + (own_above (0 : Int32) xd en)))]))
      refine o_iload cx X42 at_254 rfl ?_
      refine o_icmpNo cx X42 at_256 (teq rfl).2 ?_
      refine o_iconst cx X42 (z := (1 : Int32)) at_259 rfl ?_
      refine o_goto cx X42 264 at_260 (by decide) (by decide) ?_
      exact o_retN cx X42 (z' := (1 : Int32)) at_264 (by simp) rfl rfl (by decide) (by decide)
    · rw [hl]
      show own_Go p e below _ (T0.setTop (mkF m 123 #[.val (.int p0), .val (.long en), .second, .val (.long p2), .second, .val (.long p3), .second, .val (.long p4), .second, .val (.long p5), .second, .val (.int (1 : Int32)), .val (.long xa), .second, .val (.long xb), .second, .val (.long xc), .second, .val (.long xd), .second, s20, s21, .unset, .unset] []))
      refine o_iload cx X0 at_123 rfl ?_
      refine o_newP cx X0 at_125 (o_w hw 1 rfl) (by decide) 1 1 rfl (Nat.le_refl _) (by decide) (by decide) (by decide) fun T47 h49 b46 gb52 ge53 X48 E50 A51 => ?_
      have A51 : own_Ar Z h49 b46 .long [(.long (0 : Int64))] := A51
      refine o_astore cx X48 (Ls' := #[.val (.int p0), .val (.long en), .second, .val (.long p2), .second, .val (.long p3), .second, .val (.long p4), .second, .val (.long p5), .second, .val (.int (1 : Int32)), .val (.long xa), .second, .val (.long xb), .second, .val (.long xc), .second, .val (.long xd), .second, s20, s21, .val (.ref b46), .unset]) at_127 rfl rfl ?_
      refine o_iload cx X48 at_129 rfl ?_
      refine o_ifNo cx X48 at_131 (by decide) ?_
      refine o_aload cx X48 at_134 rfl rfl ?_
      refine o_iconst cx X48 (z := (0 : Int32)) at_136 rfl ?_
      refine o_lload cx X48 at_137 rfl ?_
      refine o_stJ cx X48 at_139 A51 0 (by decide) rfl (Nat.le_of_ble_eq_true rfl) ge53 fun T54 h56 X55 W57 A51 => ?_
      have A51 : own_Ar Z h56 b46 .long [(.long xa)] := A51
      refine o_iload cx X55 at_140 rfl ?_
      refine o_iconst cx X55 (z := (1 : Int32)) at_142 rfl ?_
      refine o_icmpYes cx X55 152 at_143 (by decide) (by decide) (by decide) ?_
      refine o_iload cx X55 at_152 rfl ?_
      refine o_iconst cx X55 (z := (2 : Int32)) at_154 rfl ?_
      refine o_icmpYes cx X55 164 at_155 (by decide) (by decide) (by decide) ?_
      refine o_iload cx X55 at_164 rfl ?_
      refine o_iconst cx X55 (z := (3 : Int32)) at_166 rfl ?_
      refine o_icmpYes cx X55 176 at_167 (by decide) (by decide) (by decide) ?_
      refine o_iload cx X55 at_176 rfl ?_
      refine o_ifNo cx X55 at_178 (by decide) ?_
      refine o_iconst cx X55 (z := (1 : Int32)) at_181 rfl ?_
      refine o_goto cx X55 186 at_182 (by decide) (by decide) ?_
      refine o_lload cx X55 at_186 rfl ?_
      refine o_lloadN cx X55 at_188 rfl ?_
      refine o_callSp cx X55 (y' := (⟨"com/example/tracewire/tracewire/log/ListingFirstUpToPinLaw", "above", "(ZJJ)I"⟩ : MethodName)) (argsL := [(.int (1 : Int32)), (.long xa), (.long en)]) (st := []) at_189 (o_w hw 2 rfl) (o_w hw 3 rfl) (o_w hw 4 rfl) (o_w hw 5 rfl) (by decide) (rm1 l Z a0 hw (1 : Int32) xa en h56 n0 X55.ge0) (by decide) 0 rfl (by decide) rfl (lenOf pd_1 rfl) rfl rfl (by decide) (by decide) fun T58 X59 => ?_
      show own_Go p e below _ (T58.setTop (mkF m 192 #[.val (.int p0), .val (.long en), .second, .val (.long p2), .second, .val (.long p3), .second, .val (.long p4), .second, .val (.long p5), .second, .val (.int (1 : Int32)), .val (.long xa), .second, .val (.long xb), .second, .val (.long xc), .second, .val (.long xd), .second, s20, s21, .val (.ref b46), .unset] [(.int (own_above (1 : Int32) xa en))]))
      refine o_iload cx X59 at_192 rfl ?_
      refine o_iconst cx X59 (z := (1 : Int32)) at_194 rfl ?_
      refine o_icmpYes cx X59 202 at_195 (by decide) (by decide) (by decide) ?_
      refine o_iconst cx X59 (z := (0 : Int32)) at_202 rfl ?_
      refine o_lload cx X59 at_203 rfl ?_
      refine o_lloadN cx X59 at_205 rfl ?_
      refine o_callSp cx X59 (y' := (⟨"com/example/tracewire/tracewire/log/ListingFirstUpToPinLaw", "above", "(ZJJ)I"⟩ : MethodName)) (argsL := [(.int (0 : Int32)), (.long xb), (.long en)]) (st := [(.int (own_above (1 : Int32) xa en))]) at_206 (o_w hw 2 rfl) (o_w hw 3 rfl) (o_w hw 4 rfl) (o_w hw 5 rfl) (by decide) (rm1 l Z a0 hw (0 : Int32) xb en h56 n0 X59.ge0) (by decide) 1 rfl (by decide) rfl (lenOf pd_1 rfl) rfl rfl (by decide) (by decide) fun T63 X64 => ?_
      show own_Go p e below _ (T63.setTop (mkF m 209 #[.val (.int p0), .val (.long en), .second, .val (.long p2), .second, .val (.long p3), .second, .val (.long p4), .second, .val (.long p5), .second, .val (.int (1 : Int32)), .val (.long xa), .second, .val (.long xb), .second, .val (.long xc), .second, .val (.long xd), .second, s20, s21, .val (.ref b46), .unset] [(.int (own_above (0 : Int32) xb en)), (.int (own_above (1 : Int32) xa en))]))
      refine o_iadd cx X64 at_209 rfl ?_
      refine o_iload cx X64 at_210 rfl ?_
      refine o_iconst cx X64 (z := (2 : Int32)) at_212 rfl ?_
      refine o_icmpYes cx X64 220 at_213 (by decide) (by decide) (by decide) ?_
      refine o_iconst cx X64 (z := (0 : Int32)) at_220 rfl ?_
      refine o_lload cx X64 at_221 rfl ?_
      refine o_lloadN cx X64 at_223 rfl ?_
      refine o_callSp cx X64 (y' := (⟨"com/example/tracewire/tracewire/log/ListingFirstUpToPinLaw", "above", "(ZJJ)I"⟩ : MethodName)) (argsL := [(.int (0 : Int32)), (.long xc), (.long en)]) (st := [(.int ((own_above (1 : Int32) xa en) + (own_above (0 : Int32) xb en)))]) at_224 (o_w hw 2 rfl) (o_w hw 3 rfl) (o_w hw 4 rfl) (o_w hw 5 rfl) (by decide) (rm1 l Z a0 hw (0 : Int32) xc en h56 n0 X64.ge0) (by decide) 1 rfl (by decide) rfl (lenOf pd_1 rfl) rfl rfl (by decide) (by decide) fun T68 X69 => ?_
      show own_Go p e below _ (T68.setTop (mkF m 227 #[.val (.int p0), .val (.long en), .second, .val (.long p2), .second, .val (.long p3), .second, .val (.long p4), .second, .val (.long p5), .second, .val (.int (1 : Int32)), .val (.long xa), .second, .val (.long xb), .second, .val (.long xc), .second, .val (.long xd), .second, s20, s21, .val (.ref b46), .unset] [(.int (own_above (0 : Int32) xc en)), (.int ((own_above (1 : Int32) xa en) + (own_above (0 : Int32) xb en)))]))
      refine o_iadd cx X69 at_227 rfl ?_
      refine o_iload cx X69 at_228 rfl ?_
      refine o_iconst cx X69 (z := (3 : Int32)) at_230 rfl ?_
      refine o_icmpYes cx X69 238 at_231 (by decide) (by decide) (by decide) ?_
      refine o_iconst cx X69 (z := (0 : Int32)) at_238 rfl ?_
      refine o_lload cx X69 at_239 rfl ?_
      refine o_lloadN cx X69 at_241 rfl ?_
      refine o_callSp cx X69 (y' := (⟨"com/example/tracewire/tracewire/log/ListingFirstUpToPinLaw", "above", "(ZJJ)I"⟩ : MethodName)) (argsL := [(.int (0 : Int32)), (.long xd), (.long en)]) (st := [(.int (((own_above (1 : Int32) xa en) + (own_above (0 : Int32) xb en)) + (own_above (0 : Int32) xc en)))]) at_242 (o_w hw 2 rfl) (o_w hw 3 rfl) (o_w hw 4 rfl) (o_w hw 5 rfl) (by decide) (rm1 l Z a0 hw (0 : Int32) xd en h56 n0 X69.ge0) (by decide) 1 rfl (by decide) rfl (lenOf pd_1 rfl) rfl rfl (by decide) (by decide) fun T73 X74 => ?_
      show own_Go p e below _ (T73.setTop (mkF m 245 #[.val (.int p0), .val (.long en), .second, .val (.long p2), .second, .val (.long p3), .second, .val (.long p4), .second, .val (.long p5), .second, .val (.int (1 : Int32)), .val (.long xa), .second, .val (.long xb), .second, .val (.long xc), .second, .val (.long xd), .second, s20, s21, .val (.ref b46), .unset] [(.int (own_above (0 : Int32) xd en)), (.int (((own_above (1 : Int32) xa en) + (own_above (0 : Int32) xb en)) + (own_above (0 : Int32) xc en)))]))
      refine o_iadd cx X74 at_245 rfl ?_
      refine o_istore cx X74 (Ls' := #[.val (.int p0), .val (.long en), .second, .val (.long p2), .second, .val (.long p3), .second, .val (.long p4), .second, .val (.long p5), .second, .val (.int (1 : Int32)), .val (.long xa), .second, .val (.long xb), .second, .val (.long xc), .second, .val (.long xd), .second, s20, s21, .val (.ref b46), .val (.int ((((own_above (1 : Int32) xa en) + (own_above (0 : Int32) xb en)) + (own_above (0 : Int32) xc en)) + (own_above (0 : Int32) xd en)))]) at_246 rfl ?_
      refine o_aload cx X74 at_248 rfl rfl ?_
      refine o_lloadN cx X74 at_250 rfl ?_
      refine o_callSp cx X74 (y' := (⟨"com/example/tracewire/tracewire/log/Listing", "firstUpTo", "([JJ)I"⟩ : MethodName)) (argsL := [(.ref b46), (.long en)]) (st := []) at_251 (o_w hw 6 rfl) (o_w hw 7 rfl) (o_w hw 8 rfl) (o_w hw 9 rfl) (by decide) (rm2_1 l Z a0 hw b46 en xa xb xc xd h56 n0 X74.ge0 A51 s1 s2 s3) (by decide) 0 rfl (by decide) rfl (lenOf pd_2 rfl) rfl rfl (by decide) (by decide) fun T78 X79 => ?_
      show own_Go p e below _ (T78.setTop (mkF m 254 #[.val (.int p0), .val (.long en), .second, .val (.long p2), .second, .val (.long p3), .second, .val (.long p4), .second, .val (.long p5), .second, .val (.int (1 : Int32)), .val (.long xa), .second, .val (.long xb), .second, .val (.long xc), .second, .val (.long xd), .second, s20, s21, .val (.ref b46), .val (.int ((((own_above (1 : Int32) xa en) + (own_above (0 : Int32) xb en)) + (own_above (0 : Int32) xc en)) + (own_above (0 : Int32) xd en)))] [(.int ((((own_above (1 : Int32) xa en) + (own_above (0 : Int32) xb en)) + (own_above (0 : Int32) xc en)) + (own_above (0 : Int32) xd en)))]))
      refine o_iload cx X79 at_254 rfl ?_
      refine o_icmpNo cx X79 at_256 (teq rfl).2 ?_
      refine o_iconst cx X79 (z := (1 : Int32)) at_259 rfl ?_
      refine o_goto cx X79 264 at_260 (by decide) (by decide) ?_
      exact o_retN cx X79 (z' := (1 : Int32)) at_264 (by simp) rfl rfl (by decide) (by decide)
    · rw [hl]
      show own_Go p e below _ (T0.setTop (mkF m 123 #[.val (.int p0), .val (.long en), .second, .val (.long p2), .second, .val (.long p3), .second, .val (.long p4), .second, .val (.long p5), .second, .val (.int (2 : Int32)), .val (.long xa), .second, .val (.long xb), .second, .val (.long xc), .second, .val (.long xd), .second, s20, s21, .unset, .unset] []))
      refine o_iload cx X0 at_123 rfl ?_
      refine o_newP cx X0 at_125 (o_w hw 1 rfl) (by decide) 2 2 rfl (Nat.le_refl _) (by decide) (by decide) (by decide) fun T84 h86 b83 gb89 ge90 X85 E87 A88 => ?_
      have A88 : own_Ar Z h86 b83 .long [(.long (0 : Int64)), (.long (0 : Int64))] := A88
      refine o_astore cx X85 (Ls' := #[.val (.int p0), .val (.long en), .second, .val (.long p2), .second, .val (.long p3), .second, .val (.long p4), .second, .val (.long p5), .second, .val (.int (2 : Int32)), .val (.long xa), .second, .val (.long xb), .second, .val (.long xc), .second, .val (.long xd), .second, s20, s21, .val (.ref b83), .unset]) at_127 rfl rfl ?_
      refine o_iload cx X85 at_129 rfl ?_
      refine o_ifNo cx X85 at_131 (by decide) ?_
      refine o_aload cx X85 at_134 rfl rfl ?_
      refine o_iconst cx X85 (z := (0 : Int32)) at_136 rfl ?_
      refine o_lload cx X85 at_137 rfl ?_
      refine o_stJ cx X85 at_139 A88 0 (by decide) rfl (Nat.le_of_ble_eq_true rfl) ge90 fun T91 h93 X92 W94 A88 => ?_
      have A88 : own_Ar Z h93 b83 .long [(.long xa), (.long (0 : Int64))] := A88
      refine o_iload cx X92 at_140 rfl ?_
      refine o_iconst cx X92 (z := (1 : Int32)) at_142 rfl ?_
      refine o_icmpNo cx X92 at_143 (by decide) ?_
      refine o_aload cx X92 at_146 rfl rfl ?_
      refine o_iconst cx X92 (z := (1 : Int32)) at_148 rfl ?_
      refine o_lload cx X92 at_149 rfl ?_
      refine o_stJ cx X92 at_151 A88 1 (by decide) rfl (Nat.le_of_ble_eq_true rfl) ge90 fun T95 h97 X96 W98 A88 => ?_
      have A88 : own_Ar Z h97 b83 .long [(.long xa), (.long xb)] := A88
      refine o_iload cx X96 at_152 rfl ?_
      refine o_iconst cx X96 (z := (2 : Int32)) at_154 rfl ?_
      refine o_icmpYes cx X96 164 at_155 (by decide) (by decide) (by decide) ?_
      refine o_iload cx X96 at_164 rfl ?_
      refine o_iconst cx X96 (z := (3 : Int32)) at_166 rfl ?_
      refine o_icmpYes cx X96 176 at_167 (by decide) (by decide) (by decide) ?_
      refine o_iload cx X96 at_176 rfl ?_
      refine o_ifNo cx X96 at_178 (by decide) ?_
      refine o_iconst cx X96 (z := (1 : Int32)) at_181 rfl ?_
      refine o_goto cx X96 186 at_182 (by decide) (by decide) ?_
      refine o_lload cx X96 at_186 rfl ?_
      refine o_lloadN cx X96 at_188 rfl ?_
      refine o_callSp cx X96 (y' := (⟨"com/example/tracewire/tracewire/log/ListingFirstUpToPinLaw", "above", "(ZJJ)I"⟩ : MethodName)) (argsL := [(.int (1 : Int32)), (.long xa), (.long en)]) (st := []) at_189 (o_w hw 2 rfl) (o_w hw 3 rfl) (o_w hw 4 rfl) (o_w hw 5 rfl) (by decide) (rm1 l Z a0 hw (1 : Int32) xa en h97 n0 X96.ge0) (by decide) 0 rfl (by decide) rfl (lenOf pd_1 rfl) rfl rfl (by decide) (by decide) fun T99 X100 => ?_
      show own_Go p e below _ (T99.setTop (mkF m 192 #[.val (.int p0), .val (.long en), .second, .val (.long p2), .second, .val (.long p3), .second, .val (.long p4), .second, .val (.long p5), .second, .val (.int (2 : Int32)), .val (.long xa), .second, .val (.long xb), .second, .val (.long xc), .second, .val (.long xd), .second, s20, s21, .val (.ref b83), .unset] [(.int (own_above (1 : Int32) xa en))]))
      refine o_iload cx X100 at_192 rfl ?_
      refine o_iconst cx X100 (z := (1 : Int32)) at_194 rfl ?_
      refine o_icmpNo cx X100 at_195 (by decide) ?_
      refine o_iconst cx X100 (z := (1 : Int32)) at_198 rfl ?_
      refine o_goto cx X100 203 at_199 (by decide) (by decide) ?_
      refine o_lload cx X100 at_203 rfl ?_
      refine o_lloadN cx X100 at_205 rfl ?_
      refine o_callSp cx X100 (y' := (⟨"com/example/tracewire/tracewire/log/ListingFirstUpToPinLaw", "above", "(ZJJ)I"⟩ : MethodName)) (argsL := [(.int (1 : Int32)), (.long xb), (.long en)]) (st := [(.int (own_above (1 : Int32) xa en))]) at_206 (o_w hw 2 rfl) (o_w hw 3 rfl) (o_w hw 4 rfl) (o_w hw 5 rfl) (by decide) (rm1 l Z a0 hw (1 : Int32) xb en h97 n0 X100.ge0) (by decide) 1 rfl (by decide) rfl (lenOf pd_1 rfl) rfl rfl (by decide) (by decide) fun T104 X105 => ?_
      show own_Go p e below _ (T104.setTop (mkF m 209 #[.val (.int p0), .val (.long en), .second, .val (.long p2), .second, .val (.long p3), .second, .val (.long p4), .second, .val (.long p5), .second, .val (.int (2 : Int32)), .val (.long xa), .second, .val (.long xb), .second, .val (.long xc), .second, .val (.long xd), .second, s20, s21, .val (.ref b83), .unset] [(.int (own_above (1 : Int32) xb en)), (.int (own_above (1 : Int32) xa en))]))
      refine o_iadd cx X105 at_209 rfl ?_
      refine o_iload cx X105 at_210 rfl ?_
      refine o_iconst cx X105 (z := (2 : Int32)) at_212 rfl ?_
      refine o_icmpYes cx X105 220 at_213 (by decide) (by decide) (by decide) ?_
      refine o_iconst cx X105 (z := (0 : Int32)) at_220 rfl ?_
      refine o_lload cx X105 at_221 rfl ?_
      refine o_lloadN cx X105 at_223 rfl ?_
      refine o_callSp cx X105 (y' := (⟨"com/example/tracewire/tracewire/log/ListingFirstUpToPinLaw", "above", "(ZJJ)I"⟩ : MethodName)) (argsL := [(.int (0 : Int32)), (.long xc), (.long en)]) (st := [(.int ((own_above (1 : Int32) xa en) + (own_above (1 : Int32) xb en)))]) at_224 (o_w hw 2 rfl) (o_w hw 3 rfl) (o_w hw 4 rfl) (o_w hw 5 rfl) (by decide) (rm1 l Z a0 hw (0 : Int32) xc en h97 n0 X105.ge0) (by decide) 1 rfl (by decide) rfl (lenOf pd_1 rfl) rfl rfl (by decide) (by decide) fun T109 X110 => ?_
      show own_Go p e below _ (T109.setTop (mkF m 227 #[.val (.int p0), .val (.long en), .second, .val (.long p2), .second, .val (.long p3), .second, .val (.long p4), .second, .val (.long p5), .second, .val (.int (2 : Int32)), .val (.long xa), .second, .val (.long xb), .second, .val (.long xc), .second, .val (.long xd), .second, s20, s21, .val (.ref b83), .unset] [(.int (own_above (0 : Int32) xc en)), (.int ((own_above (1 : Int32) xa en) + (own_above (1 : Int32) xb en)))]))
      refine o_iadd cx X110 at_227 rfl ?_
      refine o_iload cx X110 at_228 rfl ?_
      refine o_iconst cx X110 (z := (3 : Int32)) at_230 rfl ?_
      refine o_icmpYes cx X110 238 at_231 (by decide) (by decide) (by decide) ?_
      refine o_iconst cx X110 (z := (0 : Int32)) at_238 rfl ?_
      refine o_lload cx X110 at_239 rfl ?_
      refine o_lloadN cx X110 at_241 rfl ?_
      refine o_callSp cx X110 (y' := (⟨"com/example/tracewire/tracewire/log/ListingFirstUpToPinLaw", "above", "(ZJJ)I"⟩ : MethodName)) (argsL := [(.int (0 : Int32)), (.long xd), (.long en)]) (st := [(.int (((own_above (1 : Int32) xa en) + (own_above (1 : Int32) xb en)) + (own_above (0 : Int32) xc en)))]) at_242 (o_w hw 2 rfl) (o_w hw 3 rfl) (o_w hw 4 rfl) (o_w hw 5 rfl) (by decide) (rm1 l Z a0 hw (0 : Int32) xd en h97 n0 X110.ge0) (by decide) 1 rfl (by decide) rfl (lenOf pd_1 rfl) rfl rfl (by decide) (by decide) fun T114 X115 => ?_
      show own_Go p e below _ (T114.setTop (mkF m 245 #[.val (.int p0), .val (.long en), .second, .val (.long p2), .second, .val (.long p3), .second, .val (.long p4), .second, .val (.long p5), .second, .val (.int (2 : Int32)), .val (.long xa), .second, .val (.long xb), .second, .val (.long xc), .second, .val (.long xd), .second, s20, s21, .val (.ref b83), .unset] [(.int (own_above (0 : Int32) xd en)), (.int (((own_above (1 : Int32) xa en) + (own_above (1 : Int32) xb en)) + (own_above (0 : Int32) xc en)))]))
      refine o_iadd cx X115 at_245 rfl ?_
      refine o_istore cx X115 (Ls' := #[.val (.int p0), .val (.long en), .second, .val (.long p2), .second, .val (.long p3), .second, .val (.long p4), .second, .val (.long p5), .second, .val (.int (2 : Int32)), .val (.long xa), .second, .val (.long xb), .second, .val (.long xc), .second, .val (.long xd), .second, s20, s21, .val (.ref b83), .val (.int ((((own_above (1 : Int32) xa en) + (own_above (1 : Int32) xb en)) + (own_above (0 : Int32) xc en)) + (own_above (0 : Int32) xd en)))]) at_246 rfl ?_
      refine o_aload cx X115 at_248 rfl rfl ?_
      refine o_lloadN cx X115 at_250 rfl ?_
      refine o_callSp cx X115 (y' := (⟨"com/example/tracewire/tracewire/log/Listing", "firstUpTo", "([JJ)I"⟩ : MethodName)) (argsL := [(.ref b83), (.long en)]) (st := []) at_251 (o_w hw 6 rfl) (o_w hw 7 rfl) (o_w hw 8 rfl) (o_w hw 9 rfl) (by decide) (rm2_2 l Z a0 hw b83 en xa xb xc xd h97 n0 X115.ge0 A88 s1 s2 s3) (by decide) 0 rfl (by decide) rfl (lenOf pd_2 rfl) rfl rfl (by decide) (by decide) fun T119 X120 => ?_
      show own_Go p e below _ (T119.setTop (mkF m 254 #[.val (.int p0), .val (.long en), .second, .val (.long p2), .second, .val (.long p3), .second, .val (.long p4), .second, .val (.long p5), .second, .val (.int (2 : Int32)), .val (.long xa), .second, .val (.long xb), .second, .val (.long xc), .second, .val (.long xd), .second, s20, s21, .val (.ref b83), .val (.int ((((own_above (1 : Int32) xa en) + (own_above (1 : Int32) xb en)) + (own_above (0 : Int32) xc en)) + (own_above (0 : Int32) xd en)))] [(.int ((((own_above (1 : Int32) xa en) + (own_above (1 : Int32) xb en)) + (own_above (0 : Int32) xc en)) + (own_above (0 : Int32) xd en)))]))
      refine o_iload cx X120 at_254 rfl ?_
      refine o_icmpNo cx X120 at_256 (teq rfl).2 ?_
      refine o_iconst cx X120 (z := (1 : Int32)) at_259 rfl ?_
      refine o_goto cx X120 264 at_260 (by decide) (by decide) ?_
      exact o_retN cx X120 (z' := (1 : Int32)) at_264 (by simp) rfl rfl (by decide) (by decide)
    · rw [hl]
      show own_Go p e below _ (T0.setTop (mkF m 123 #[.val (.int p0), .val (.long en), .second, .val (.long p2), .second, .val (.long p3), .second, .val (.long p4), .second, .val (.long p5), .second, .val (.int (3 : Int32)), .val (.long xa), .second, .val (.long xb), .second, .val (.long xc), .second, .val (.long xd), .second, s20, s21, .unset, .unset] []))
      refine o_iload cx X0 at_123 rfl ?_
      refine o_newP cx X0 at_125 (o_w hw 1 rfl) (by decide) 3 3 rfl (Nat.le_refl _) (by decide) (by decide) (by decide) fun T125 h127 b124 gb130 ge131 X126 E128 A129 => ?_
      have A129 : own_Ar Z h127 b124 .long [(.long (0 : Int64)), (.long (0 : Int64)), (.long (0 : Int64))] := A129
      refine o_astore cx X126 (Ls' := #[.val (.int p0), .val (.long en), .second, .val (.long p2), .second, .val (.long p3), .second, .val (.long p4), .second, .val (.long p5), .second, .val (.int (3 : Int32)), .val (.long xa), .second, .val (.long xb), .second, .val (.long xc), .second, .val (.long xd), .second, s20, s21, .val (.ref b124), .unset]) at_127 rfl rfl ?_
      refine o_iload cx X126 at_129 rfl ?_
      refine o_ifNo cx X126 at_131 (by decide) ?_
      refine o_aload cx X126 at_134 rfl rfl ?_
      refine o_iconst cx X126 (z := (0 : Int32)) at_136 rfl ?_
      refine o_lload cx X126 at_137 rfl ?_
      refine o_stJ cx X126 at_139 A129 0 (by decide) rfl (Nat.le_of_ble_eq_true rfl) ge131 fun T132 h134 X133 W135 A129 => ?_
      have A129 : own_Ar Z h134 b124 .long [(.long xa), (.long (0 : Int64)), (.long (0 : Int64))] := A129
      refine o_iload cx X133 at_140 rfl ?_
      refine o_iconst cx X133 (z := (1 : Int32)) at_142 rfl ?_
      refine o_icmpNo cx X133 at_143 (by decide) ?_
      refine o_aload cx X133 at_146 rfl rfl ?_
      refine o_iconst cx X133 (z := (1 : Int32)) at_148 rfl ?_
      refine o_lload cx X133 at_149 rfl ?_
      refine o_stJ cx X133 at_151 A129 1 (by decide) rfl (Nat.le_of_ble_eq_true rfl) ge131 fun T136 h138 X137 W139 A129 => ?_
      have A129 : own_Ar Z h138 b124 .long [(.long xa), (.long xb), (.long (0 : Int64))] := A129
      refine o_iload cx X137 at_152 rfl ?_
      refine o_iconst cx X137 (z := (2 : Int32)) at_154 rfl ?_
      refine o_icmpNo cx X137 at_155 (by decide) ?_
      refine o_aload cx X137 at_158 rfl rfl ?_
      refine o_iconst cx X137 (z := (2 : Int32)) at_160 rfl ?_
      refine o_lload cx X137 at_161 rfl ?_
      refine o_stJ cx X137 at_163 A129 2 (by decide) rfl (Nat.le_of_ble_eq_true rfl) ge131 fun T140 h142 X141 W143 A129 => ?_
      have A129 : own_Ar Z h142 b124 .long [(.long xa), (.long xb), (.long xc)] := A129
      refine o_iload cx X141 at_164 rfl ?_
      refine o_iconst cx X141 (z := (3 : Int32)) at_166 rfl ?_
      refine o_icmpYes cx X141 176 at_167 (by decide) (by decide) (by decide) ?_
      refine o_iload cx X141 at_176 rfl ?_
      refine o_ifNo cx X141 at_178 (by decide) ?_
      refine o_iconst cx X141 (z := (1 : Int32)) at_181 rfl ?_
      refine o_goto cx X141 186 at_182 (by decide) (by decide) ?_
      refine o_lload cx X141 at_186 rfl ?_
      refine o_lloadN cx X141 at_188 rfl ?_
      refine o_callSp cx X141 (y' := (⟨"com/example/tracewire/tracewire/log/ListingFirstUpToPinLaw", "above", "(ZJJ)I"⟩ : MethodName)) (argsL := [(.int (1 : Int32)), (.long xa), (.long en)]) (st := []) at_189 (o_w hw 2 rfl) (o_w hw 3 rfl) (o_w hw 4 rfl) (o_w hw 5 rfl) (by decide) (rm1 l Z a0 hw (1 : Int32) xa en h142 n0 X141.ge0) (by decide) 0 rfl (by decide) rfl (lenOf pd_1 rfl) rfl rfl (by decide) (by decide) fun T144 X145 => ?_
      show own_Go p e below _ (T144.setTop (mkF m 192 #[.val (.int p0), .val (.long en), .second, .val (.long p2), .second, .val (.long p3), .second, .val (.long p4), .second, .val (.long p5), .second, .val (.int (3 : Int32)), .val (.long xa), .second, .val (.long xb), .second, .val (.long xc), .second, .val (.long xd), .second, s20, s21, .val (.ref b124), .unset] [(.int (own_above (1 : Int32) xa en))]))
      refine o_iload cx X145 at_192 rfl ?_
      refine o_iconst cx X145 (z := (1 : Int32)) at_194 rfl ?_
      refine o_icmpNo cx X145 at_195 (by decide) ?_
      refine o_iconst cx X145 (z := (1 : Int32)) at_198 rfl ?_
      refine o_goto cx X145 203 at_199 (by decide) (by decide) ?_
      refine o_lload cx X145 at_203 rfl ?_
      refine o_lloadN cx X145 at_205 rfl ?_
      refine o_callSp cx X145 (y' := (⟨"com/example/tracewire/tracewire/log/ListingFirstUpToPinLaw", "above", "(ZJJ)I"⟩ : MethodName)) (argsL := [(.int (1 : Int32)), (.long xb), (.long en)]) (st := [(.int (own_above (1 : Int32) xa en))]) at_206 (o_w hw 2 rfl) (o_w hw 3 rfl) (o_w hw 4 rfl) (o_w hw 5 rfl) (by decide) (rm1 l Z a0 hw (1 : Int32) xb en h142 n0 X145.ge0) (by decide) 1 rfl (by decide) rfl (lenOf pd_1 rfl) rfl rfl (by decide) (by decide) fun T149 X150 => ?_
      show own_Go p e below _ (T149.setTop (mkF m 209 #[.val (.int p0), .val (.long en), .second, .val (.long p2), .second, .val (.long p3), .second, .val (.long p4), .second, .val (.long p5), .second, .val (.int (3 : Int32)), .val (.long xa), .second, .val (.long xb), .second, .val (.long xc), .second, .val (.long xd), .second, s20, s21, .val (.ref b124), .unset] [(.int (own_above (1 : Int32) xb en)), (.int (own_above (1 : Int32) xa en))]))
      refine o_iadd cx X150 at_209 rfl ?_
      refine o_iload cx X150 at_210 rfl ?_
      refine o_iconst cx X150 (z := (2 : Int32)) at_212 rfl ?_
      refine o_icmpNo cx X150 at_213 (by decide) ?_
      refine o_iconst cx X150 (z := (1 : Int32)) at_216 rfl ?_
      refine o_goto cx X150 221 at_217 (by decide) (by decide) ?_
      refine o_lload cx X150 at_221 rfl ?_
      refine o_lloadN cx X150 at_223 rfl ?_
      refine o_callSp cx X150 (y' := (⟨"com/example/tracewire/tracewire/log/ListingFirstUpToPinLaw", "above", "(ZJJ)I"⟩ : MethodName)) (argsL := [(.int (1 : Int32)), (.long xc), (.long en)]) (st := [(.int ((own_above (1 : Int32) xa en) + (own_above (1 : Int32) xb en)))]) at_224 (o_w hw 2 rfl) (o_w hw 3 rfl) (o_w hw 4 rfl) (o_w hw 5 rfl) (by decide) (rm1 l Z a0 hw (1 : Int32) xc en h142 n0 X150.ge0) (by decide) 1 rfl (by decide) rfl (lenOf pd_1 rfl) rfl rfl (by decide) (by decide) fun T154 X155 => ?_
      show own_Go p e below _ (T154.setTop (mkF m 227 #[.val (.int p0), .val (.long en), .second, .val (.long p2), .second, .val (.long p3), .second, .val (.long p4), .second, .val (.long p5), .second, .val (.int (3 : Int32)), .val (.long xa), .second, .val (.long xb), .second, .val (.long xc), .second, .val (.long xd), .second, s20, s21, .val (.ref b124), .unset] [(.int (own_above (1 : Int32) xc en)), (.int ((own_above (1 : Int32) xa en) + (own_above (1 : Int32) xb en)))]))
      refine o_iadd cx X155 at_227 rfl ?_
      refine o_iload cx X155 at_228 rfl ?_
      refine o_iconst cx X155 (z := (3 : Int32)) at_230 rfl ?_
      refine o_icmpYes cx X155 238 at_231 (by decide) (by decide) (by decide) ?_
      refine o_iconst cx X155 (z := (0 : Int32)) at_238 rfl ?_
      refine o_lload cx X155 at_239 rfl ?_
      refine o_lloadN cx X155 at_241 rfl ?_
      refine o_callSp cx X155 (y' := (⟨"com/example/tracewire/tracewire/log/ListingFirstUpToPinLaw", "above", "(ZJJ)I"⟩ : MethodName)) (argsL := [(.int (0 : Int32)), (.long xd), (.long en)]) (st := [(.int (((own_above (1 : Int32) xa en) + (own_above (1 : Int32) xb en)) + (own_above (1 : Int32) xc en)))]) at_242 (o_w hw 2 rfl) (o_w hw 3 rfl) (o_w hw 4 rfl) (o_w hw 5 rfl) (by decide) (rm1 l Z a0 hw (0 : Int32) xd en h142 n0 X155.ge0) (by decide) 1 rfl (by decide) rfl (lenOf pd_1 rfl) rfl rfl (by decide) (by decide) fun T159 X160 => ?_
      show own_Go p e below _ (T159.setTop (mkF m 245 #[.val (.int p0), .val (.long en), .second, .val (.long p2), .second, .val (.long p3), .second, .val (.long p4), .second, .val (.long p5), .second, .val (.int (3 : Int32)), .val (.long xa), .second, .val (.long xb), .second, .val (.long xc), .second, .val (.long xd), .second, s20, s21, .val (.ref b124), .unset] [(.int (own_above (0 : Int32) xd en)), (.int (((own_above (1 : Int32) xa en) + (own_above (1 : Int32) xb en)) + (own_above (1 : Int32) xc en)))]))
      refine o_iadd cx X160 at_245 rfl ?_
      refine o_istore cx X160 (Ls' := #[.val (.int p0), .val (.long en), .second, .val (.long p2), .second, .val (.long p3), .second, .val (.long p4), .second, .val (.long p5), .second, .val (.int (3 : Int32)), .val (.long xa), .second, .val (.long xb), .second, .val (.long xc), .second, .val (.long xd), .second, s20, s21, .val (.ref b124), .val (.int ((((own_above (1 : Int32) xa en) + (own_above (1 : Int32) xb en)) + (own_above (1 : Int32) xc en)) + (own_above (0 : Int32) xd en)))]) at_246 rfl ?_
      refine o_aload cx X160 at_248 rfl rfl ?_
      refine o_lloadN cx X160 at_250 rfl ?_
      refine o_callSp cx X160 (y' := (⟨"com/example/tracewire/tracewire/log/Listing", "firstUpTo", "([JJ)I"⟩ : MethodName)) (argsL := [(.ref b124), (.long en)]) (st := []) at_251 (o_w hw 6 rfl) (o_w hw 7 rfl) (o_w hw 8 rfl) (o_w hw 9 rfl) (by decide) (rm2_3 l Z a0 hw b124 en xa xb xc xd h142 n0 X160.ge0 A129 s1 s2 s3) (by decide) 0 rfl (by decide) rfl (lenOf pd_2 rfl) rfl rfl (by decide) (by decide) fun T164 X165 => ?_
      show own_Go p e below _ (T164.setTop (mkF m 254 #[.val (.int p0), .val (.long en), .second, .val (.long p2), .second, .val (.long p3), .second, .val (.long p4), .second, .val (.long p5), .second, .val (.int (3 : Int32)), .val (.long xa), .second, .val (.long xb), .second, .val (.long xc), .second, .val (.long xd), .second, s20, s21, .val (.ref b124), .val (.int ((((own_above (1 : Int32) xa en) + (own_above (1 : Int32) xb en)) + (own_above (1 : Int32) xc en)) + (own_above (0 : Int32) xd en)))] [(.int ((((own_above (1 : Int32) xa en) + (own_above (1 : Int32) xb en)) + (own_above (1 : Int32) xc en)) + (own_above (0 : Int32) xd en)))]))
      refine o_iload cx X165 at_254 rfl ?_
      refine o_icmpNo cx X165 at_256 (teq rfl).2 ?_
      refine o_iconst cx X165 (z := (1 : Int32)) at_259 rfl ?_
      refine o_goto cx X165 264 at_260 (by decide) (by decide) ?_
      exact o_retN cx X165 (z' := (1 : Int32)) at_264 (by simp) rfl rfl (by decide) (by decide)
    · rw [hl]
      show own_Go p e below _ (T0.setTop (mkF m 123 #[.val (.int p0), .val (.long en), .second, .val (.long p2), .second, .val (.long p3), .second, .val (.long p4), .second, .val (.long p5), .second, .val (.int (4 : Int32)), .val (.long xa), .second, .val (.long xb), .second, .val (.long xc), .second, .val (.long xd), .second, s20, s21, .unset, .unset] []))
      refine o_iload cx X0 at_123 rfl ?_
      refine o_newP cx X0 at_125 (o_w hw 1 rfl) (by decide) 4 4 rfl (Nat.le_refl _) (by decide) (by decide) (by decide) fun T170 h172 b169 gb175 ge176 X171 E173 A174 => ?_
      have A174 : own_Ar Z h172 b169 .long [(.long (0 : Int64)), (.long (0 : Int64)), (.long (0 : Int64)), (.long (0 : Int64))] := A174
      refine o_astore cx X171 (Ls' := #[.val (.int p0), .val (.long en), .second, .val (.long p2), .second, .val (.long p3), .second, .val (.long p4), .second, .val (.long p5), .second, .val (.int (4 : Int32)), .val (.long xa), .second, .val (.long xb), .second, .val (.long xc), .second, .val (.long xd), .second, s20, s21, .val (.ref b169), .unset]) at_127 rfl rfl ?_
      refine o_iload cx X171 at_129 rfl ?_
      refine o_ifNo cx X171 at_131 (by decide) ?_
      refine o_aload cx X171 at_134 rfl rfl ?_
      refine o_iconst cx X171 (z := (0 : Int32)) at_136 rfl ?_
      refine o_lload cx X171 at_137 rfl ?_
      refine o_stJ cx X171 at_139 A174 0 (by decide) rfl (Nat.le_of_ble_eq_true rfl) ge176 fun T177 h179 X178 W180 A174 => ?_
      have A174 : own_Ar Z h179 b169 .long [(.long xa), (.long (0 : Int64)), (.long (0 : Int64)), (.long (0 : Int64))] := A174
      refine o_iload cx X178 at_140 rfl ?_
      refine o_iconst cx X178 (z := (1 : Int32)) at_142 rfl ?_
      refine o_icmpNo cx X178 at_143 (by decide) ?_
      refine o_aload cx X178 at_146 rfl rfl ?_
      refine o_iconst cx X178 (z := (1 : Int32)) at_148 rfl ?_
      refine o_lload cx X178 at_149 rfl ?_
      refine o_stJ cx X178 at_151 A174 1 (by decide) rfl (Nat.le_of_ble_eq_true rfl) ge176 fun T181 h183 X182 W184 A174 => ?_
      have A174 : own_Ar Z h183 b169 .long [(.long xa), (.long xb), (.long (0 : Int64)), (.long (0 : Int64))] := A174
      refine o_iload cx X182 at_152 rfl ?_
      refine o_iconst cx X182 (z := (2 : Int32)) at_154 rfl ?_
      refine o_icmpNo cx X182 at_155 (by decide) ?_
      refine o_aload cx X182 at_158 rfl rfl ?_
      refine o_iconst cx X182 (z := (2 : Int32)) at_160 rfl ?_
      refine o_lload cx X182 at_161 rfl ?_
      refine o_stJ cx X182 at_163 A174 2 (by decide) rfl (Nat.le_of_ble_eq_true rfl) ge176 fun T185 h187 X186 W188 A174 => ?_
      have A174 : own_Ar Z h187 b169 .long [(.long xa), (.long xb), (.long xc), (.long (0 : Int64))] := A174
      refine o_iload cx X186 at_164 rfl ?_
      refine o_iconst cx X186 (z := (3 : Int32)) at_166 rfl ?_
      refine o_icmpNo cx X186 at_167 (by decide) ?_
      refine o_aload cx X186 at_170 rfl rfl ?_
      refine o_iconst cx X186 (z := (3 : Int32)) at_172 rfl ?_
      refine o_lload cx X186 at_173 rfl ?_
      refine o_stJ cx X186 at_175 A174 3 (by decide) rfl (Nat.le_of_ble_eq_true rfl) ge176 fun T189 h191 X190 W192 A174 => ?_
      have A174 : own_Ar Z h191 b169 .long [(.long xa), (.long xb), (.long xc), (.long xd)] := A174
      refine o_iload cx X190 at_176 rfl ?_
      refine o_ifNo cx X190 at_178 (by decide) ?_
      refine o_iconst cx X190 (z := (1 : Int32)) at_181 rfl ?_
      refine o_goto cx X190 186 at_182 (by decide) (by decide) ?_
      refine o_lload cx X190 at_186 rfl ?_
      refine o_lloadN cx X190 at_188 rfl ?_
      refine o_callSp cx X190 (y' := (⟨"com/example/tracewire/tracewire/log/ListingFirstUpToPinLaw", "above", "(ZJJ)I"⟩ : MethodName)) (argsL := [(.int (1 : Int32)), (.long xa), (.long en)]) (st := []) at_189 (o_w hw 2 rfl) (o_w hw 3 rfl) (o_w hw 4 rfl) (o_w hw 5 rfl) (by decide) (rm1 l Z a0 hw (1 : Int32) xa en h191 n0 X190.ge0) (by decide) 0 rfl (by decide) rfl (lenOf pd_1 rfl) rfl rfl (by decide) (by decide) fun T193 X194 => ?_
      show own_Go p e below _ (T193.setTop (mkF m 192 #[.val (.int p0), .val (.long en), .second, .val (.long p2), .second, .val (.long p3), .second, .val (.long p4), .second, .val (.long p5), .second, .val (.int (4 : Int32)), .val (.long xa), .second, .val (.long xb), .second, .val (.long xc), .second, .val (.long xd), .second, s20, s21, .val (.ref b169), .unset] [(.int (own_above (1 : Int32) xa en))]))
      refine o_iload cx X194 at_192 rfl ?_
      refine o_iconst cx X194 (z := (1 : Int32)) at_194 rfl ?_
      refine o_icmpNo cx X194 at_195 (by decide) ?_
      refine o_iconst cx X194 (z := (1 : Int32)) at_198 rfl ?_
      refine o_goto cx X194 203 at_199 (by decide) (by decide) ?_
      refine o_lload cx X194 at_203 rfl ?_
      refine o_lloadN cx X194 at_205 rfl ?_
      refine o_callSp cx X194 (y' := (⟨"com/example/tracewire/tracewire/log/ListingFirstUpToPinLaw", "above", "(ZJJ)I"⟩ : MethodName)) (argsL := [(.int (1 : Int32)), (.long xb), (.long en)]) (st := [(.int (own_above (1 : Int32) xa en))]) at_206 (o_w hw 2 rfl) (o_w hw 3 rfl) (o_w hw 4 rfl) (o_w hw 5 rfl) (by decide) (rm1 l Z a0 hw (1 : Int32) xb en h191 n0 X194.ge0) (by decide) 1 rfl (by decide) rfl (lenOf pd_1 rfl) rfl rfl (by decide) (by decide) fun T198 X199 => ?_
      show own_Go p e below _ (T198.setTop (mkF m 209 #[.val (.int p0), .val (.long en), .second, .val (.long p2), .second, .val (.long p3), .second, .val (.long p4), .second, .val (.long p5), .second, .val (.int (4 : Int32)), .val (.long xa), .second, .val (.long xb), .second, .val (.long xc), .second, .val (.long xd), .second, s20, s21, .val (.ref b169), .unset] [(.int (own_above (1 : Int32) xb en)), (.int (own_above (1 : Int32) xa en))]))
      refine o_iadd cx X199 at_209 rfl ?_
      refine o_iload cx X199 at_210 rfl ?_
      refine o_iconst cx X199 (z := (2 : Int32)) at_212 rfl ?_
      refine o_icmpNo cx X199 at_213 (by decide) ?_
      refine o_iconst cx X199 (z := (1 : Int32)) at_216 rfl ?_
      refine o_goto cx X199 221 at_217 (by decide) (by decide) ?_
      refine o_lload cx X199 at_221 rfl ?_
      refine o_lloadN cx X199 at_223 rfl ?_
      refine o_callSp cx X199 (y' := (⟨"com/example/tracewire/tracewire/log/ListingFirstUpToPinLaw", "above", "(ZJJ)I"⟩ : MethodName)) (argsL := [(.int (1 : Int32)), (.long xc), (.long en)]) (st := [(.int ((own_above (1 : Int32) xa en) + (own_above (1 : Int32) xb en)))]) at_224 (o_w hw 2 rfl) (o_w hw 3 rfl) (o_w hw 4 rfl) (o_w hw 5 rfl) (by decide) (rm1 l Z a0 hw (1 : Int32) xc en h191 n0 X199.ge0) (by decide) 1 rfl (by decide) rfl (lenOf pd_1 rfl) rfl rfl (by decide) (by decide) fun T203 X204 => ?_
      show own_Go p e below _ (T203.setTop (mkF m 227 #[.val (.int p0), .val (.long en), .second, .val (.long p2), .second, .val (.long p3), .second, .val (.long p4), .second, .val (.long p5), .second, .val (.int (4 : Int32)), .val (.long xa), .second, .val (.long xb), .second, .val (.long xc), .second, .val (.long xd), .second, s20, s21, .val (.ref b169), .unset] [(.int (own_above (1 : Int32) xc en)), (.int ((own_above (1 : Int32) xa en) + (own_above (1 : Int32) xb en)))]))
      refine o_iadd cx X204 at_227 rfl ?_
      refine o_iload cx X204 at_228 rfl ?_
      refine o_iconst cx X204 (z := (3 : Int32)) at_230 rfl ?_
      refine o_icmpNo cx X204 at_231 (by decide) ?_
      refine o_iconst cx X204 (z := (1 : Int32)) at_234 rfl ?_
      refine o_goto cx X204 239 at_235 (by decide) (by decide) ?_
      refine o_lload cx X204 at_239 rfl ?_
      refine o_lloadN cx X204 at_241 rfl ?_
      refine o_callSp cx X204 (y' := (⟨"com/example/tracewire/tracewire/log/ListingFirstUpToPinLaw", "above", "(ZJJ)I"⟩ : MethodName)) (argsL := [(.int (1 : Int32)), (.long xd), (.long en)]) (st := [(.int (((own_above (1 : Int32) xa en) + (own_above (1 : Int32) xb en)) + (own_above (1 : Int32) xc en)))]) at_242 (o_w hw 2 rfl) (o_w hw 3 rfl) (o_w hw 4 rfl) (o_w hw 5 rfl) (by decide) (rm1 l Z a0 hw (1 : Int32) xd en h191 n0 X204.ge0) (by decide) 1 rfl (by decide) rfl (lenOf pd_1 rfl) rfl rfl (by decide) (by decide) fun T208 X209 => ?_
      show own_Go p e below _ (T208.setTop (mkF m 245 #[.val (.int p0), .val (.long en), .second, .val (.long p2), .second, .val (.long p3), .second, .val (.long p4), .second, .val (.long p5), .second, .val (.int (4 : Int32)), .val (.long xa), .second, .val (.long xb), .second, .val (.long xc), .second, .val (.long xd), .second, s20, s21, .val (.ref b169), .unset] [(.int (own_above (1 : Int32) xd en)), (.int (((own_above (1 : Int32) xa en) + (own_above (1 : Int32) xb en)) + (own_above (1 : Int32) xc en)))]))
      refine o_iadd cx X209 at_245 rfl ?_
      refine o_istore cx X209 (Ls' := #[.val (.int p0), .val (.long en), .second, .val (.long p2), .second, .val (.long p3), .second, .val (.long p4), .second, .val (.long p5), .second, .val (.int (4 : Int32)), .val (.long xa), .second, .val (.long xb), .second, .val (.long xc), .second, .val (.long xd), .second, s20, s21, .val (.ref b169), .val (.int ((((own_above (1 : Int32) xa en) + (own_above (1 : Int32) xb en)) + (own_above (1 : Int32) xc en)) + (own_above (1 : Int32) xd en)))]) at_246 rfl ?_
      refine o_aload cx X209 at_248 rfl rfl ?_
      refine o_lloadN cx X209 at_250 rfl ?_
      refine o_callSp cx X209 (y' := (⟨"com/example/tracewire/tracewire/log/Listing", "firstUpTo", "([JJ)I"⟩ : MethodName)) (argsL := [(.ref b169), (.long en)]) (st := []) at_251 (o_w hw 6 rfl) (o_w hw 7 rfl) (o_w hw 8 rfl) (o_w hw 9 rfl) (by decide) (rm2_4 l Z a0 hw b169 en xa xb xc xd h191 n0 X209.ge0 A174 s1 s2 s3) (by decide) 0 rfl (by decide) rfl (lenOf pd_2 rfl) rfl rfl (by decide) (by decide) fun T213 X214 => ?_
      show own_Go p e below _ (T213.setTop (mkF m 254 #[.val (.int p0), .val (.long en), .second, .val (.long p2), .second, .val (.long p3), .second, .val (.long p4), .second, .val (.long p5), .second, .val (.int (4 : Int32)), .val (.long xa), .second, .val (.long xb), .second, .val (.long xc), .second, .val (.long xd), .second, s20, s21, .val (.ref b169), .val (.int ((((own_above (1 : Int32) xa en) + (own_above (1 : Int32) xb en)) + (own_above (1 : Int32) xc en)) + (own_above (1 : Int32) xd en)))] [(.int ((((own_above (1 : Int32) xa en) + (own_above (1 : Int32) xb en)) + (own_above (1 : Int32) xc en)) + (own_above (1 : Int32) xd en)))]))
      refine o_iload cx X214 at_254 rfl ?_
      refine o_icmpNo cx X214 at_256 (teq rfl).2 ?_
      refine o_iconst cx X214 (z := (1 : Int32)) at_259 rfl ?_
      refine o_goto cx X214 264 at_260 (by decide) (by decide) ?_
      exact o_retN cx X214 (z' := (1 : Int32)) at_264 (by simp) rfl rfl (by decide) (by decide)
  have J103 : ∀ (xa xb xc xd : Int64) (s20 s21 : Slot), ((s20 = .unset ∧ s21 = .unset) ∨ ∃ tt : Int64, s20 = .val (.long tt) ∧ s21 = .second) → xb.toInt ≤ xa.toInt → xc.toInt ≤ xa.toInt → xd.toInt ≤ xa.toInt → xd.toInt ≤ xb.toInt → xd.toInt ≤ xc.toInt → own_Go p e below (own_End below s room_1 n0 (fun v' _ => v' = some (.int 1))) (T0.setTop (mkF m 103 #[.val (.int p0), .val (.long en), .second, .val (.long p2), .second, .val (.long p3), .second, .val (.long p4), .second, .val (.long p5), .second, .val (.int ((p0 &&& (2147483647 : Int32)) % (5 : Int32))), .val (.long xa), .second, .val (.long xb), .second, .val (.long xc), .second, .val (.long xd), .second, s20, s21, .unset, .unset] [])) := by
    intro xa xb xc xd s20 s21 hsl s1 s2 s3 s4 s5
    rcases hsl with ⟨rfl, rfl⟩ | ⟨tt, rfl, rfl⟩
    · show own_Go p e below _ (T0.setTop (mkF m 103 #[.val (.int p0), .val (.long en), .second, .val (.long p2), .second, .val (.long p3), .second, .val (.long p4), .second, .val (.long p5), .second, .val (.int ((p0 &&& (2147483647 : Int32)) % (5 : Int32))), .val (.long xa), .second, .val (.long xb), .second, .val (.long xc), .second, .val (.long xd), .second, .unset, .unset, .unset, .unset] []))
      refine o_lload cx X0 at_103 rfl ?_
      refine o_lload cx X0 at_105 rfl ?_
      refine o_lcmp cx X0 at_107 rfl ?_
      by_cases hc218 : xb < xc
      · refine o_ifNo cx X0 at_108 ((if0 _ _).trans (tlt ((lw_lt xb xc).mpr hc218)).2.1) ?_
        refine o_lload cx X0 at_111 rfl ?_
        refine o_lstore cx X0 (Ls' := #[.val (.int p0), .val (.long en), .second, .val (.long p2), .second, .val (.long p3), .second, .val (.long p4), .second, .val (.long p5), .second, .val (.int ((p0 &&& (2147483647 : Int32)) % (5 : Int32))), .val (.long xa), .second, .val (.long xb), .second, .val (.long xc), .second, .val (.long xd), .second, .val (.long xb), .second, .unset, .unset]) at_113 rfl ?_
        refine o_lload cx X0 at_115 rfl ?_
        refine o_lstore cx X0 (Ls' := #[.val (.int p0), .val (.long en), .second, .val (.long p2), .second, .val (.long p3), .second, .val (.long p4), .second, .val (.long p5), .second, .val (.int ((p0 &&& (2147483647 : Int32)) % (5 : Int32))), .val (.long xa), .second, .val (.long xc), .second, .val (.long xc), .second, .val (.long xd), .second, .val (.long xb), .second, .unset, .unset]) at_117 rfl ?_
        refine o_lload cx X0 at_119 rfl ?_
        refine o_lstore cx X0 (Ls' := #[.val (.int p0), .val (.long en), .second, .val (.long p2), .second, .val (.long p3), .second, .val (.long p4), .second, .val (.long p5), .second, .val (.int ((p0 &&& (2147483647 : Int32)) % (5 : Int32))), .val (.long xa), .second, .val (.long xc), .second, .val (.long xb), .second, .val (.long xd), .second, .val (.long xb), .second, .unset, .unset]) at_121 rfl ?_
        simp only [Int64.lt_iff_toInt_lt] at hc218
        exact J123 xa xc xb xd _ _ (Or.inr ⟨_, rfl, rfl⟩) (by omega) (by omega) (by omega)
      · refine o_ifYes cx X0 123 at_108 ((if0 _ _).trans (flt (fun q => hc218 ((lw_lt xb xc).mp q))).2.1) (by decide) (by decide) ?_
        simp only [Int64.lt_iff_toInt_lt] at hc218
        exact J123 xa xb xc xd _ _ (Or.inl ⟨rfl, rfl⟩) (by omega) (by omega) (by omega)
    · show own_Go p e below _ (T0.setTop (mkF m 103 #[.val (.int p0), .val (.long en), .second, .val (.long p2), .second, .val (.long p3), .second, .val (.long p4), .second, .val (.long p5), .second, .val (.int ((p0 &&& (2147483647 : Int32)) % (5 : Int32))), .val (.long xa), .second, .val (.long xb), .second, .val (.long xc), .second, .val (.long xd), .second, .val (.long tt), .second, .unset, .unset] []))
      refine o_lload cx X0 at_103 rfl ?_
      refine o_lload cx X0 at_105 rfl ?_
      refine o_lcmp cx X0 at_107 rfl ?_
      by_cases hc219 : xb < xc
      · refine o_ifNo cx X0 at_108 ((if0 _ _).trans (tlt ((lw_lt xb xc).mpr hc219)).2.1) ?_
        refine o_lload cx X0 at_111 rfl ?_
        refine o_lstore cx X0 (Ls' := #[.val (.int p0), .val (.long en), .second, .val (.long p2), .second, .val (.long p3), .second, .val (.long p4), .second, .val (.long p5), .second, .val (.int ((p0 &&& (2147483647 : Int32)) % (5 : Int32))), .val (.long xa), .second, .val (.long xb), .second, .val (.long xc), .second, .val (.long xd), .second, .val (.long xb), .second, .unset, .unset]) at_113 rfl ?_
        refine o_lload cx X0 at_115 rfl ?_
        refine o_lstore cx X0 (Ls' := #[.val (.int p0), .val (.long en), .second, .val (.long p2), .second, .val (.long p3), .second, .val (.long p4), .second, .val (.long p5), .second, .val (.int ((p0 &&& (2147483647 : Int32)) % (5 : Int32))), .val (.long xa), .second, .val (.long xc), .second, .val (.long xc), .second, .val (.long xd), .second, .val (.long xb), .second, .unset, .unset]) at_117 rfl ?_
        refine o_lload cx X0 at_119 rfl ?_
        refine o_lstore cx X0 (Ls' := #[.val (.int p0), .val (.long en), .second, .val (.long p2), .second, .val (.long p3), .second, .val (.long p4), .second, .val (.long p5), .second, .val (.int ((p0 &&& (2147483647 : Int32)) % (5 : Int32))), .val (.long xa), .second, .val (.long xc), .second, .val (.long xb), .second, .val (.long xd), .second, .val (.long xb), .second, .unset, .unset]) at_121 rfl ?_
        simp only [Int64.lt_iff_toInt_lt] at hc219
        exact J123 xa xc xb xd _ _ (Or.inr ⟨_, rfl, rfl⟩) (by omega) (by omega) (by omega)
      · refine o_ifYes cx X0 123 at_108 ((if0 _ _).trans (flt (fun q => hc219 ((lw_lt xb xc).mp q))).2.1) (by decide) (by decide) ?_
        simp only [Int64.lt_iff_toInt_lt] at hc219
        exact J123 xa xb xc xd _ _ (Or.inr ⟨_, rfl, rfl⟩) (by omega) (by omega) (by omega)
  have J83 : ∀ (xa xb xc xd : Int64) (s20 s21 : Slot), ((s20 = .unset ∧ s21 = .unset) ∨ ∃ tt : Int64, s20 = .val (.long tt) ∧ s21 = .second) → xb.toInt ≤ xa.toInt → xc.toInt ≤ xa.toInt → xd.toInt ≤ xa.toInt → xb.toInt ≤ xc.toInt ∨ xd.toInt ≤ xc.toInt → own_Go p e below (own_End below s room_1 n0 (fun v' _ => v' = some (.int 1))) (T0.setTop (mkF m 83 #[.val (.int p0), .val (.long en), .second, .val (.long p2), .second, .val (.long p3), .second, .val (.long p4), .second, .val (.long p5), .second, .val (.int ((p0 &&& (2147483647 : Int32)) % (5 : Int32))), .val (.long xa), .second, .val (.long xb), .second, .val (.long xc), .second, .val (.long xd), .second, s20, s21, .unset, .unset] [])) := by
    intro xa xb xc xd s20 s21 hsl s1 s2 s3 s4
    rcases hsl with ⟨rfl, rfl⟩ | ⟨tt, rfl, rfl⟩
    · show own_Go p e below _ (T0.setTop (mkF m 83 #[.val (.int p0), .val (.long en), .second, .val (.long p2), .second, .val (.long p3), .second, .val (.long p4), .second, .val (.long p5), .second, .val (.int ((p0 &&& (2147483647 : Int32)) % (5 : Int32))), .val (.long xa), .second, .val (.long xb), .second, .val (.long xc), .second, .val (.long xd), .second, .unset, .unset, .unset, .unset] []))
      refine o_lload cx X0 at_83 rfl ?_
      refine o_lload cx X0 at_85 rfl ?_
      refine o_lcmp cx X0 at_87 rfl ?_
      by_cases hc220 : xb < xd
      · refine o_ifNo cx X0 at_88 ((if0 _ _).trans (tlt ((lw_lt xb xd).mpr hc220)).2.1) ?_
        refine o_lload cx X0 at_91 rfl ?_
        refine o_lstore cx X0 (Ls' := #[.val (.int p0), .val (.long en), .second, .val (.long p2), .second, .val (.long p3), .second, .val (.long p4), .second, .val (.long p5), .second, .val (.int ((p0 &&& (2147483647 : Int32)) % (5 : Int32))), .val (.long xa), .second, .val (.long xb), .second, .val (.long xc), .second, .val (.long xd), .second, .val (.long xb), .second, .unset, .unset]) at_93 rfl ?_
        refine o_lload cx X0 at_95 rfl ?_
        refine o_lstore cx X0 (Ls' := #[.val (.int p0), .val (.long en), .second, .val (.long p2), .second, .val (.long p3), .second, .val (.long p4), .second, .val (.long p5), .second, .val (.int ((p0 &&& (2147483647 : Int32)) % (5 : Int32))), .val (.long xa), .second, .val (.long xd), .second, .val (.long xc), .second, .val (.long xd), .second, .val (.long xb), .second, .unset, .unset]) at_97 rfl ?_
        refine o_lload cx X0 at_99 rfl ?_
        refine o_lstore cx X0 (Ls' := #[.val (.int p0), .val (.long en), .second, .val (.long p2), .second, .val (.long p3), .second, .val (.long p4), .second, .val (.long p5), .second, .val (.int ((p0 &&& (2147483647 : Int32)) % (5 : Int32))), .val (.long xa), .second, .val (.long xd), .second, .val (.long xc), .second, .val (.long xb), .second, .val (.long xb), .second, .unset, .unset]) at_101 rfl ?_
        simp only [Int64.lt_iff_toInt_lt] at hc220
        exact J103 xa xd xc xb _ _ (Or.inr ⟨_, rfl, rfl⟩) (by omega) (by omega) (by omega) (by omega) (by omega)
      · refine o_ifYes cx X0 103 at_88 ((if0 _ _).trans (flt (fun q => hc220 ((lw_lt xb xd).mp q))).2.1) (by decide) (by decide) ?_
        simp only [Int64.lt_iff_toInt_lt] at hc220
        exact J103 xa xb xc xd _ _ (Or.inl ⟨rfl, rfl⟩) (by omega) (by omega) (by omega) (by omega) (by omega)
    · show own_Go p e below _ (T0.setTop (mkF m 83 #[.val (.int p0), .val (.long en), .second, .val (.long p2), .second, .val (.long p3), .second, .val (.long p4), .second, .val (.long p5), .second, .val (.int ((p0 &&& (2147483647 : Int32)) % (5 : Int32))), .val (.long xa), .second, .val (.long xb), .second, .val (.long xc), .second, .val (.long xd), .second, .val (.long tt), .second, .unset, .unset] []))
      refine o_lload cx X0 at_83 rfl ?_
      refine o_lload cx X0 at_85 rfl ?_
      refine o_lcmp cx X0 at_87 rfl ?_
      by_cases hc221 : xb < xd
      · refine o_ifNo cx X0 at_88 ((if0 _ _).trans (tlt ((lw_lt xb xd).mpr hc221)).2.1) ?_
        refine o_lload cx X0 at_91 rfl ?_
        refine o_lstore cx X0 (Ls' := #[.val (.int p0), .val (.long en), .second, .val (.long p2), .second, .val (.long p3), .second, .val (.long p4), .second, .val (.long p5), .second, .val (.int ((p0 &&& (2147483647 : Int32)) % (5 : Int32))), .val (.long xa), .second, .val (.long xb), .second, .val (.long xc), .second, .val (.long xd), .second, .val (.long xb), .second, .unset, .unset]) at_93 rfl ?_
        refine o_lload cx X0 at_95 rfl ?_
        refine o_lstore cx X0 (Ls' := #[.val (.int p0), .val (.long en), .second, .val (.long p2), .second, .val (.long p3), .second, .val (.long p4), .second, .val (.long p5), .second, .val (.int ((p0 &&& (2147483647 : Int32)) % (5 : Int32))), .val (.long xa), .second, .val (.long xd), .second, .val (.long xc), .second, .val (.long xd), .second, .val (.long xb), .second, .unset, .unset]) at_97 rfl ?_
        refine o_lload cx X0 at_99 rfl ?_
        refine o_lstore cx X0 (Ls' := #[.val (.int p0), .val (.long en), .second, .val (.long p2), .second, .val (.long p3), .second, .val (.long p4), .second, .val (.long p5), .second, .val (.int ((p0 &&& (2147483647 : Int32)) % (5 : Int32))), .val (.long xa), .second, .val (.long xd), .second, .val (.long xc), .second, .val (.long xb), .second, .val (.long xb), .second, .unset, .unset]) at_101 rfl ?_
        simp only [Int64.lt_iff_toInt_lt] at hc221
        exact J103 xa xd xc xb _ _ (Or.inr ⟨_, rfl, rfl⟩) (by omega) (by omega) (by omega) (by omega) (by omega)
      · refine o_ifYes cx X0 103 at_88 ((if0 _ _).trans (flt (fun q => hc221 ((lw_lt xb xd).mp q))).2.1) (by decide) (by decide) ?_
        simp only [Int64.lt_iff_toInt_lt] at hc221
        exact J103 xa xb xc xd _ _ (Or.inr ⟨_, rfl, rfl⟩) (by omega) (by omega) (by omega) (by omega) (by omega)
  have J63 : ∀ (xa xb xc xd : Int64) (s20 s21 : Slot), ((s20 = .unset ∧ s21 = .unset) ∨ ∃ tt : Int64, s20 = .val (.long tt) ∧ s21 = .second) → xb.toInt ≤ xa.toInt → xd.toInt ≤ xc.toInt → own_Go p e below (own_End below s room_1 n0 (fun v' _ => v' = some (.int 1))) (T0.setTop (mkF m 63 #[.val (.int p0), .val (.long en), .second, .val (.long p2), .second, .val (.long p3), .second, .val (.long p4), .second, .val (.long p5), .second, .val (.int ((p0 &&& (2147483647 : Int32)) % (5 : Int32))), .val (.long xa), .second, .val (.long xb), .second, .val (.long xc), .second, .val (.long xd), .second, s20, s21, .unset, .unset] [])) := by
    intro xa xb xc xd s20 s21 hsl s1 s2
    rcases hsl with ⟨rfl, rfl⟩ | ⟨tt, rfl, rfl⟩
    · show own_Go p e below _ (T0.setTop (mkF m 63 #[.val (.int p0), .val (.long en), .second, .val (.long p2), .second, .val (.long p3), .second, .val (.long p4), .second, .val (.long p5), .second, .val (.int ((p0 &&& (2147483647 : Int32)) % (5 : Int32))), .val (.long xa), .second, .val (.long xb), .second, .val (.long xc), .second, .val (.long xd), .second, .unset, .unset, .unset, .unset] []))
      refine o_lload cx X0 at_63 rfl ?_
      refine o_lload cx X0 at_65 rfl ?_
      refine o_lcmp cx X0 at_67 rfl ?_
      by_cases hc222 : xa < xc
      · refine o_ifNo cx X0 at_68 ((if0 _ _).trans (tlt ((lw_lt xa xc).mpr hc222)).2.1) ?_
        refine o_lload cx X0 at_71 rfl ?_
        refine o_lstore cx X0 (Ls' := #[.val (.int p0), .val (.long en), .second, .val (.long p2), .second, .val (.long p3), .second, .val (.long p4), .second, .val (.long p5), .second, .val (.int ((p0 &&& (2147483647 : Int32)) % (5 : Int32))), .val (.long xa), .second, .val (.long xb), .second, .val (.long xc), .second, .val (.long xd), .second, .val (.long xa), .second, .unset, .unset]) at_73 rfl ?_
        refine o_lload cx X0 at_75 rfl ?_
        refine o_lstore cx X0 (Ls' := #[.val (.int p0), .val (.long en), .second, .val (.long p2), .second, .val (.long p3), .second, .val (.long p4), .second, .val (.long p5), .second, .val (.int ((p0 &&& (2147483647 : Int32)) % (5 : Int32))), .val (.long xc), .second, .val (.long xb), .second, .val (.long xc), .second, .val (.long xd), .second, .val (.long xa), .second, .unset, .unset]) at_77 rfl ?_
        refine o_lload cx X0 at_79 rfl ?_
        refine o_lstore cx X0 (Ls' := #[.val (.int p0), .val (.long en), .second, .val (.long p2), .second, .val (.long p3), .second, .val (.long p4), .second, .val (.long p5), .second, .val (.int ((p0 &&& (2147483647 : Int32)) % (5 : Int32))), .val (.long xc), .second, .val (.long xb), .second, .val (.long xa), .second, .val (.long xd), .second, .val (.long xa), .second, .unset, .unset]) at_81 rfl ?_
        simp only [Int64.lt_iff_toInt_lt] at hc222
        exact J83 xc xb xa xd _ _ (Or.inr ⟨_, rfl, rfl⟩) (by omega) (by omega) (by omega) (by omega)
      · refine o_ifYes cx X0 83 at_68 ((if0 _ _).trans (flt (fun q => hc222 ((lw_lt xa xc).mp q))).2.1) (by decide) (by decide) ?_
        simp only [Int64.lt_iff_toInt_lt] at hc222
        exact J83 xa xb xc xd _ _ (Or.inl ⟨rfl, rfl⟩) (by omega) (by omega) (by omega) (by omega)
    · show own_Go p e below _ (T0.setTop (mkF m 63 #[.val (.int p0), .val (.long en), .second, .val (.long p2), .second, .val (.long p3), .second, .val (.long p4), .second, .val (.long p5), .second, .val (.int ((p0 &&& (2147483647 : Int32)) % (5 : Int32))), .val (.long xa), .second, .val (.long xb), .second, .val (.long xc), .second, .val (.long xd), .second, .val (.long tt), .second, .unset, .unset] []))
      refine o_lload cx X0 at_63 rfl ?_
      refine o_lload cx X0 at_65 rfl ?_
      refine o_lcmp cx X0 at_67 rfl ?_
      by_cases hc223 : xa < xc
      · refine o_ifNo cx X0 at_68 ((if0 _ _).trans (tlt ((lw_lt xa xc).mpr hc223)).2.1) ?_
        refine o_lload cx X0 at_71 rfl ?_
        refine o_lstore cx X0 (Ls' := #[.val (.int p0), .val (.long en), .second, .val (.long p2), .second, .val (.long p3), .second, .val (.long p4), .second, .val (.long p5), .second, .val (.int ((p0 &&& (2147483647 : Int32)) % (5 : Int32))), .val (.long xa), .second, .val (.long xb), .second, .val (.long xc), .second, .val (.long xd), .second, .val (.long xa), .second, .unset, .unset]) at_73 rfl ?_
        refine o_lload cx X0 at_75 rfl ?_
        refine o_lstore cx X0 (Ls' := #[.val (.int p0), .val (.long en), .second, .val (.long p2), .second, .val (.long p3), .second, .val (.long p4), .second, .val (.long p5), .second, .val (.int ((p0 &&& (2147483647 : Int32)) % (5 : Int32))), .val (.long xc), .second, .val (.long xb), .second, .val (.long xc), .second, .val (.long xd), .second, .val (.long xa), .second, .unset, .unset]) at_77 rfl ?_
        refine o_lload cx X0 at_79 rfl ?_
        refine o_lstore cx X0 (Ls' := #[.val (.int p0), .val (.long en), .second, .val (.long p2), .second, .val (.long p3), .second, .val (.long p4), .second, .val (.long p5), .second, .val (.int ((p0 &&& (2147483647 : Int32)) % (5 : Int32))), .val (.long xc), .second, .val (.long xb), .second, .val (.long xa), .second, .val (.long xd), .second, .val (.long xa), .second, .unset, .unset]) at_81 rfl ?_
        simp only [Int64.lt_iff_toInt_lt] at hc223
        exact J83 xc xb xa xd _ _ (Or.inr ⟨_, rfl, rfl⟩) (by omega) (by omega) (by omega) (by omega)
      · refine o_ifYes cx X0 83 at_68 ((if0 _ _).trans (flt (fun q => hc223 ((lw_lt xa xc).mp q))).2.1) (by decide) (by decide) ?_
        simp only [Int64.lt_iff_toInt_lt] at hc223
        exact J83 xa xb xc xd _ _ (Or.inr ⟨_, rfl, rfl⟩) (by omega) (by omega) (by omega) (by omega)
  have J43 : ∀ (xa xb xc xd : Int64) (s20 s21 : Slot), ((s20 = .unset ∧ s21 = .unset) ∨ ∃ tt : Int64, s20 = .val (.long tt) ∧ s21 = .second) → xb.toInt ≤ xa.toInt → own_Go p e below (own_End below s room_1 n0 (fun v' _ => v' = some (.int 1))) (T0.setTop (mkF m 43 #[.val (.int p0), .val (.long en), .second, .val (.long p2), .second, .val (.long p3), .second, .val (.long p4), .second, .val (.long p5), .second, .val (.int ((p0 &&& (2147483647 : Int32)) % (5 : Int32))), .val (.long xa), .second, .val (.long xb), .second, .val (.long xc), .second, .val (.long xd), .second, s20, s21, .unset, .unset] [])) := by
    intro xa xb xc xd s20 s21 hsl s1
    rcases hsl with ⟨rfl, rfl⟩ | ⟨tt, rfl, rfl⟩
    · show own_Go p e below _ (T0.setTop (mkF m 43 #[.val (.int p0), .val (.long en), .second, .val (.long p2), .second, .val (.long p3), .second, .val (.long p4), .second, .val (.long p5), .second, .val (.int ((p0 &&& (2147483647 : Int32)) % (5 : Int32))), .val (.long xa), .second, .val (.long xb), .second, .val (.long xc), .second, .val (.long xd), .second, .unset, .unset, .unset, .unset] []))
      refine o_lload cx X0 at_43 rfl ?_
      refine o_lload cx X0 at_45 rfl ?_
      refine o_lcmp cx X0 at_47 rfl ?_
      by_cases hc224 : xc < xd
      · refine o_ifNo cx X0 at_48 ((if0 _ _).trans (tlt ((lw_lt xc xd).mpr hc224)).2.1) ?_
        refine o_lload cx X0 at_51 rfl ?_
        refine o_lstore cx X0 (Ls' := #[.val (.int p0), .val (.long en), .second, .val (.long p2), .second, .val (.long p3), .second, .val (.long p4), .second, .val (.long p5), .second, .val (.int ((p0 &&& (2147483647 : Int32)) % (5 : Int32))), .val (.long xa), .second, .val (.long xb), .second, .val (.long xc), .second, .val (.long xd), .second, .val (.long xc), .second, .unset, .unset]) at_53 rfl ?_
        refine o_lload cx X0 at_55 rfl ?_
        refine o_lstore cx X0 (Ls' := #[.val (.int p0), .val (.long en), .second, .val (.long p2), .second, .val (.long p3), .second, .val (.long p4), .second, .val (.long p5), .second, .val (.int ((p0 &&& (2147483647 : Int32)) % (5 : Int32))), .val (.long xa), .second, .val (.long xb), .second, .val (.long xd), .second, .val (.long xd), .second, .val (.long xc), .second, .unset, .unset]) at_57 rfl ?_
        refine o_lload cx X0 at_59 rfl ?_
        refine o_lstore cx X0 (Ls' := #[.val (.int p0), .val (.long en), .second, .val (.long p2), .second, .val (.long p3), .second, .val (.long p4), .second, .val (.long p5), .second, .val (.int ((p0 &&& (2147483647 : Int32)) % (5 : Int32))), .val (.long xa), .second, .val (.long xb), .second, .val (.long xd), .second, .val (.long xc), .second, .val (.long xc), .second, .unset, .unset]) at_61 rfl ?_
        simp only [Int64.lt_iff_toInt_lt] at hc224
        exact J63 xa xb xd xc _ _ (Or.inr ⟨_, rfl, rfl⟩) (by omega) (by omega)
      · refine o_ifYes cx X0 63 at_48 ((if0 _ _).trans (flt (fun q => hc224 ((lw_lt xc xd).mp q))).2.1) (by decide) (by decide) ?_
        simp only [Int64.lt_iff_toInt_lt] at hc224
        exact J63 xa xb xc xd _ _ (Or.inl ⟨rfl, rfl⟩) (by omega) (by omega)
    · show own_Go p e below _ (T0.setTop (mkF m 43 #[.val (.int p0), .val (.long en), .second, .val (.long p2), .second, .val (.long p3), .second, .val (.long p4), .second, .val (.long p5), .second, .val (.int ((p0 &&& (2147483647 : Int32)) % (5 : Int32))), .val (.long xa), .second, .val (.long xb), .second, .val (.long xc), .second, .val (.long xd), .second, .val (.long tt), .second, .unset, .unset] []))
      refine o_lload cx X0 at_43 rfl ?_
      refine o_lload cx X0 at_45 rfl ?_
      refine o_lcmp cx X0 at_47 rfl ?_
      by_cases hc225 : xc < xd
      · refine o_ifNo cx X0 at_48 ((if0 _ _).trans (tlt ((lw_lt xc xd).mpr hc225)).2.1) ?_
        refine o_lload cx X0 at_51 rfl ?_
        refine o_lstore cx X0 (Ls' := #[.val (.int p0), .val (.long en), .second, .val (.long p2), .second, .val (.long p3), .second, .val (.long p4), .second, .val (.long p5), .second, .val (.int ((p0 &&& (2147483647 : Int32)) % (5 : Int32))), .val (.long xa), .second, .val (.long xb), .second, .val (.long xc), .second, .val (.long xd), .second, .val (.long xc), .second, .unset, .unset]) at_53 rfl ?_
        refine o_lload cx X0 at_55 rfl ?_
        refine o_lstore cx X0 (Ls' := #[.val (.int p0), .val (.long en), .second, .val (.long p2), .second, .val (.long p3), .second, .val (.long p4), .second, .val (.long p5), .second, .val (.int ((p0 &&& (2147483647 : Int32)) % (5 : Int32))), .val (.long xa), .second, .val (.long xb), .second, .val (.long xd), .second, .val (.long xd), .second, .val (.long xc), .second, .unset, .unset]) at_57 rfl ?_
        refine o_lload cx X0 at_59 rfl ?_
        refine o_lstore cx X0 (Ls' := #[.val (.int p0), .val (.long en), .second, .val (.long p2), .second, .val (.long p3), .second, .val (.long p4), .second, .val (.long p5), .second, .val (.int ((p0 &&& (2147483647 : Int32)) % (5 : Int32))), .val (.long xa), .second, .val (.long xb), .second, .val (.long xd), .second, .val (.long xc), .second, .val (.long xc), .second, .unset, .unset]) at_61 rfl ?_
        simp only [Int64.lt_iff_toInt_lt] at hc225
        exact J63 xa xb xd xc _ _ (Or.inr ⟨_, rfl, rfl⟩) (by omega) (by omega)
      · refine o_ifYes cx X0 63 at_48 ((if0 _ _).trans (flt (fun q => hc225 ((lw_lt xc xd).mp q))).2.1) (by decide) (by decide) ?_
        simp only [Int64.lt_iff_toInt_lt] at hc225
        exact J63 xa xb xc xd _ _ (Or.inr ⟨_, rfl, rfl⟩) (by omega) (by omega)
  have s_u : ((Slot.unset) = .unset ∧ (Slot.unset) = .unset) ∨ ∃ tt : Int64, (Slot.unset) = .val (.long tt) ∧ (Slot.unset) = .second := Or.inl ⟨rfl, rfl⟩
  refine o_lload cx X0 at_23 rfl ?_
  refine o_lload cx X0 at_25 rfl ?_
  refine o_lcmp cx X0 at_27 rfl ?_
  by_cases hc226 : p2 < p3
  · refine o_ifNo cx X0 at_28 ((if0 _ _).trans (tlt ((lw_lt p2 p3).mpr hc226)).2.1) ?_
    refine o_lload cx X0 at_31 rfl ?_
    refine o_lstore cx X0 (Ls' := #[.val (.int p0), .val (.long en), .second, .val (.long p2), .second, .val (.long p3), .second, .val (.long p4), .second, .val (.long p5), .second, .val (.int ((p0 &&& (2147483647 : Int32)) % (5 : Int32))), .val (.long p2), .second, .val (.long p3), .second, .val (.long p4), .second, .val (.long p5), .second, .val (.long p2), .second, .unset, .unset]) at_33 rfl ?_
    refine o_lload cx X0 at_35 rfl ?_
    refine o_lstore cx X0 (Ls' := #[.val (.int p0), .val (.long en), .second, .val (.long p2), .second, .val (.long p3), .second, .val (.long p4), .second, .val (.long p5), .second, .val (.int ((p0 &&& (2147483647 : Int32)) % (5 : Int32))), .val (.long p3), .second, .val (.long p3), .second, .val (.long p4), .second, .val (.long p5), .second, .val (.long p2), .second, .unset, .unset]) at_37 rfl ?_
    refine o_lload cx X0 at_39 rfl ?_
    refine o_lstore cx X0 (Ls' := #[.val (.int p0), .val (.long en), .second, .val (.long p2), .second, .val (.long p3), .second, .val (.long p4), .second, .val (.long p5), .second, .val (.int ((p0 &&& (2147483647 : Int32)) % (5 : Int32))), .val (.long p3), .second, .val (.long p2), .second, .val (.long p4), .second, .val (.long p5), .second, .val (.long p2), .second, .unset, .unset]) at_41 rfl ?_
    simp only [Int64.lt_iff_toInt_lt] at hc226
    exact J43 p3 p2 p4 p5 _ _ (Or.inr ⟨_, rfl, rfl⟩) (by omega)
  · refine o_ifYes cx X0 43 at_28 ((if0 _ _).trans (flt (fun q => hc226 ((lw_lt p2 p3).mp q))).2.1) (by decide) (by decide) ?_
    simp only [Int64.lt_iff_toInt_lt] at hc226
    exact J43 p2 p3 p4 p5 _ _ (Or.inl ⟨rfl, rfl⟩) (by omega)
set_option maxRecDepth 65536 in
set_option maxHeartbeats 40000000 in
theorem comes_1 {Post : Tables → Env → Array Value → State → Outcome → State → Prop} (hpost : ∀ tb e args s v u, (limb_1_1.after args s (.returned v) u = true ∧ limb_1_2.after args s (.returned v) u = true ∧ True) → FrameEnd s (.returned v) u (Jvm.fieldLocs frame_1_writes args s ++ Jvm.arrayLocs frame_1_arrays args s ++ Jvm.staticLocs frame_1_statics s) 16 128 → Post tb e args s (.returned v) u) :
    ArmFor flags0 classFile x code maxLocals ret World_1 tables_1 room_1 Calls_1 rest_1 Pre_1 Post := by
  intro l hfl _ _ p e ha hc hk s m args below hf hA hF happ hP
  obtain ⟨hcalls, hrest, hpre⟩ := hP
  obtain ⟨-, -, -, hnamed, -, -, -, hat⟩ := (Spec.applies_iff hf).mp happ
  obtain ⟨hg, hn⟩ := and_e (Cond.before_iff.mp (show (Jvm.Cond.and given_1 narrow_1).before args s = true from hpre))
  obtain ⟨q0, g0⟩ := and_e hg
  obtain ⟨q1, g1⟩ := and_e g0
  obtain ⟨q2, g2⟩ := and_e g1
  obtain ⟨q3, g3⟩ := and_e g2
  obtain ⟨q4, g4⟩ := and_e g3
  obtain ⟨q5, g5⟩ := and_e g4
  obtain ⟨w0, w1, w2, w3, w4, w5, rfl⟩ : ∃ w0 w1 w2 w3 w4 w5 : Value, args = #[w0, w1, w2, w3, w4, w5] := by
    have hs : args.size = 6 := by simpa [Cond.value, given_1] using q0
    obtain ⟨L⟩ := args
    match L, hs with
    | [w0, w1, w2, w3, w4, w5], _ => exact ⟨w0, w1, w2, w3, w4, w5, rfl⟩
  have hw := fun d (hd : d ∈ tables_1) => atoms_spec (ws := Jvm.Cond.code x code maxLocals ret :: tables_1) hat d (List.mem_cons_of_mem _ hd)
  obtain ⟨i0, ei0⟩ := is_v q1
  obtain rfl : w0 = (.int i0) := Option.some.inj ei0
  obtain ⟨i1, ei1⟩ := isL_v q2
  obtain rfl : w1 = (.long i1) := Option.some.inj ei1
  obtain ⟨i2, ei2⟩ := isL_v q3
  obtain rfl : w2 = (.long i2) := Option.some.inj ei2
  obtain ⟨i3, ei3⟩ := isL_v q4
  obtain rfl : w3 = (.long i3) := Option.some.inj ei3
  obtain ⟨i4, ei4⟩ := isL_v q5
  obtain rfl : w4 = (.long i4) := Option.some.inj ei4
  obtain ⟨i5, ei5⟩ := isL_v g5
  obtain rfl : w5 = (.long i5) := Option.some.inj ei5
  obtain ⟨n, o, h1, h2, h3, v, L, rfl, ⟨hv, _, N⟩, hq⟩ := rm0 l s _ hw i0 i1 i2 i3 i4 i5 s.heap s.heap.size (Nat.le_refl _) tables_1 p e ha hc hk s m _ below hf ((Spec.applies_iff_loose hf).mp happ).1 ⟨rfl, State.Warmed39.refl s, rfl⟩ trivial
  obtain rfl : v = some (.int 1) := hv
  refine ⟨n, _, h1, h2, h3, hpost _ _ _ _ _ _ ⟨Cond.after_iff.mpr rfl, Cond.after_iff.mpr (eq_i res_at (Term.int_eval (1)) rfl), trivial⟩ ⟨hq.1, hq.2.1, (hq.2.2.sift fun y hy => Or.inr (N y hy)).mono (by decide) (by decide)⟩⟩
theorem main_1_1 : Claimed_1_1 := comes_1 fun _ _ _ _ _ _ h hF => ⟨h.1, hF⟩
theorem main_1_2 : Claimed_1_2 := comes_1 fun _ _ _ _ _ _ h hF => ⟨h.2.1, hF⟩
end Jvm.Pilot.@@N@@
namespace Jvm.Pilot.@@N@@
open Jvm Jvm.ClassFile Sem Op Lib Jvm.Free Jvm.Stand Jvm.Pilot.@@N@@.Jvm.D
/-! MADE BY PROGRAM (witnessworld.py) out of the Statement's table words and the real class files: 11 classes; the members and pool entries that the words name. The judged class is class 1, her method 1. -/
namespace start1
open Jvm.ClassFile
def u (s : String) : CpInfo := .utf8 (stringToUtf16 s)
/-- a pool by its gaps: so many unusable entries, then the entry; so many at the end -/
def gap : Nat → List CpInfo → List CpInfo
  | 0, r => r
  | n + 1, r => .unusable :: gap n r
def poolList (es : List (Nat × CpInfo)) (last : Nat) : List CpInfo := es.foldr (fun e r => gap e.1 (e.2 :: r)) (gap last [])
def pool (es : List (Nat × CpInfo)) (last : Nat) : Array CpInfo := ⟨poolList es last⟩
def fileOf (pool : Array CpInfo) (this : Nat) (attrs : Array Attribute := #[]) (ms : Array MethodInfo := #[]) (fl : Nat := 33) (sup : Nat := 0) (ifs : Array Nat := #[]) (fds : Array FieldInfo := #[]) : ClassFile where
  minorVersion := 0
  majorVersion := 65
  constantPool := pool
  accessFlags := fl
  thisClass := this
  superClass := sup
  interfaces := ifs
  fields := fds
  methods := ms
  attributes := attrs
def plain (name : String) (sup : Option ClassId) : Class where
  name := name
  kind := .ordinary
  loader := none
  accessFlags := 33
  super := sup
  interfaces := #[]
  cf := none
  fields := #[]
  methods := #[]
  instanceTypes := #[]
  staticTypes := #[]
  resolved := #[]
  callSites := []
  init := .initialized
  statics := none
  mirror := none

def pool0 : Array CpInfo := pool [(5, u "<init>"), (0, u "()V"), (1, .class_ 10), (1, u "java/lang/Object")] 113

def k0m0 : Method := { name := "<init>", desc := "()V", sig := { parameters := [], returnType := none }, accessFlags := 1, code := none }
/-- java/lang/Object -/
def k0 : Class := { plain "java/lang/Object" none with
  accessFlags := 33
  interfaces := #[]
  cf := some (fileOf pool0 8 #[] #[{ accessFlags := 1, nameIndex := 5, descriptorIndex := 6, attributes := #[] }] 33 0 #[] #[])
  fields := #[]
  methods := #[k0m0]
  instanceTypes := #[]
  staticTypes := #[]
  resolved := Array.replicate 124 none
  statics := none }

def pool1 : Array CpInfo := pool [(2, .class_ 4), (1, u "java/lang/Object"), (0, u "<init>"), (0, u "()V"), (0, .integer 2147483647), (0, .methodref 9 10), (0, .class_ 11), (0, .nameAndType 12 13), (0, u "com/example/tracewire/tracewire/log/ListingFirstUpToPinLaw"), (0, u "above"), (0, u "(ZJJ)I"), (0, .interfaceMethodref 15 16), (0, .class_ 17), (0, .nameAndType 18 19), (0, u "com/example/tracewire/tracewire/log/Listing"), (0, u "firstUpTo"), (0, u "([JJ)I"), (2, u "law"), (0, u "(IJJJJJ)Z")] 5

def k1m0 : Method := { name := "<init>", desc := "()V", sig := { parameters := [], returnType := none }, accessFlags := 1, code := none }
def k1c1 : Code := { maxStack := 6, maxLocals := 24, code := code, exceptionTable := #[], attributes := #[] }
def k1m1 : Method := { name := "law", desc := "(IJJJJJ)Z", sig := { parameters := [.int, .long, .long, .long, .long, .long], returnType := some .boolean }, accessFlags := 9, code := some k1c1 }
def k1c2 : Code := { maxStack := 4, maxLocals := 5, code := method_3_code, exceptionTable := #[], attributes := #[] }
def k1m2 : Method := { name := "above", desc := "(ZJJ)I", sig := { parameters := [.boolean, .long, .long], returnType := some .int }, accessFlags := 10, code := some k1c2 }
/-- com/example/tracewire/tracewire/log/ListingFirstUpToPinLaw -/
def k1 : Class := { plain "com/example/tracewire/tracewire/log/ListingFirstUpToPinLaw" (some 0) with
  accessFlags := 49
  interfaces := #[]
  cf := some (fileOf pool1 9 #[] #[{ accessFlags := 1, nameIndex := 5, descriptorIndex := 6, attributes := #[] }, { accessFlags := 9, nameIndex := 22, descriptorIndex := 23, attributes := #[] }, { accessFlags := 10, nameIndex := 12, descriptorIndex := 13, attributes := #[] }] 49 2 #[] #[])
  fields := #[]
  methods := #[k1m0, k1m1, k1m2]
  instanceTypes := #[]
  staticTypes := #[]
  resolved := Array.replicate 29 none
  statics := none }

def pool2 : Array CpInfo := pool [(1, .class_ 2), (0, u "com/example/tracewire/tracewire/log/Listing$Sorted"), (4, .class_ 8), (0, u "com/example/tracewire/tracewire/log/Listing$Union"), (4, .class_ 15), (1, u "com/example/tracewire/tracewire/log/Listing"), (4, u "NONE"), (0, u "Lcom/example/tracewire/tracewire/log/Listing;"), (0, .class_ 23), (0, u "com/example/tracewire/tracewire/log/Listing$1"), (5, u "EVERY"), (0, .class_ 31), (0, u "java/lang/Object"), (15, u "firstUpTo"), (0, u "([JJ)I")] 8

def k2c0 : Code := { maxStack := 4, maxLocals := 6, code := prog_122_method_6_code, exceptionTable := #[], attributes := #[] }
def k2m0 : Method := { name := "firstUpTo", desc := "([JJ)I", sig := { parameters := [(.array .long), .long], returnType := some .int }, accessFlags := 9, code := some k2c0 }
/-- com/example/tracewire/tracewire/log/Listing -/
def k2 : Class := { plain "com/example/tracewire/tracewire/log/Listing" (some 0) with
  accessFlags := 1536
  interfaces := #[]
  cf := some (fileOf pool2 13 #[.nestMembers #[1, 7, 22]] #[{ accessFlags := 9, nameIndex := 47, descriptorIndex := 48, attributes := #[] }] 1536 30 #[] #[{ accessFlags := 25, nameIndex := 20, descriptorIndex := 21, attributes := #[] }, { accessFlags := 25, nameIndex := 29, descriptorIndex := 21, attributes := #[] }])
  fields := #[{ name := "NONE", type := (.object "com/example/tracewire/tracewire/log/Listing"), accessFlags := 25, slot := 0, constantValue := 0 }, { name := "EVERY", type := (.object "com/example/tracewire/tracewire/log/Listing"), accessFlags := 25, slot := 1, constantValue := 0 }]
  methods := #[k2m0]
  instanceTypes := #[]
  staticTypes := #[(.object "com/example/tracewire/tracewire/log/Listing"), (.object "com/example/tracewire/tracewire/log/Listing")]
  resolved := Array.replicate 57 none
  statics := none }

def pool3 : Array CpInfo := pool [(1, u "java/lang/Cloneable"), (0, .class_ 1), (0, u "java/lang/Object"), (0, .class_ 3)] 3

/-- java/lang/Cloneable -/
def k3 : Class := { plain "java/lang/Cloneable" (some 0) with
  accessFlags := 1537
  interfaces := #[]
  cf := some (fileOf pool3 2 #[] #[] 1537 4 #[] #[])
  fields := #[]
  methods := #[]
  instanceTypes := #[]
  staticTypes := #[]
  resolved := Array.replicate 8 none
  statics := none }

def pool4 : Array CpInfo := pool [(1, u "java/io/Serializable"), (0, .class_ 1), (0, u "java/lang/Object"), (0, .class_ 3)] 3

/-- java/io/Serializable -/
def k4 : Class := { plain "java/io/Serializable" (some 0) with
  accessFlags := 1537
  interfaces := #[]
  cf := some (fileOf pool4 2 #[] #[] 1537 4 #[] #[])
  fields := #[]
  methods := #[]
  instanceTypes := #[]
  staticTypes := #[]
  resolved := Array.replicate 8 none
  statics := none }

/-- the primitive byte -/
def k5 : Class := { plain "byte" none with kind := .primitive 'B', accessFlags := 0x411 }
/-- [B -/
def k6 : Class := { plain "[B" (some 0) with kind := .array 5 .byte, interfaces := #[3, 4], accessFlags := 1041 }

/-- the primitive int -/
def k7 : Class := { plain "int" none with kind := .primitive 'I', accessFlags := 0x411 }
/-- [I -/
def k8 : Class := { plain "[I" (some 0) with kind := .array 7 .int, interfaces := #[3, 4], accessFlags := 1041 }

/-- the primitive long -/
def k9 : Class := { plain "long" none with kind := .primitive 'J', accessFlags := 0x411 }
/-- [J -/
def k10 : Class := { plain "[J" (some 0) with kind := .array 9 .long, interfaces := #[3, 4], accessFlags := 1041 }

def heap : Heap := #[]
def classes : Array Class := #[k0, k1, k2, k3, k4, k5, k6, k7, k8, k9, k10]
def interned : List (Array UInt16 × Addr) := []
def slotsUsed : Nat := 0
def theMethod : MethodId := ⟨1, 1⟩
def args0 : Array Value := #[.int 5, .long 3, .long 4, .long 2, .long 1, .long 9]
def aboutOver (below : List Frame) : State where
  vm := { classes := classes, interned := interned.toArray }
  heap := heap
  slotsUsed := slotsUsed
  threads := #[{ frames := .invoking theMethod args0 :: below }]
def below0 : List Frame := [.native { method := ⟨0, 0⟩, args := #[] }]
def about1 : State := aboutOver below0
def p0 : Program := .bare "" "" ""
def e0 : Env := launch0.env 0 0 0
theorem w_frames : about1.frames = Frame.invoking theMethod args0 :: below0 := rfl
set_option maxRecDepth 65536 in
theorem w_args : argsFit about1.vm theMethod args0 = true := by decide +kernel
set_option maxRecDepth 65536 in
theorem w_heap : heapFits about1 = true := by decide +kernel
set_option maxRecDepth 65536 in
theorem w_runnable : about1.curStatus? = some .runnable := by decide +kernel
set_option maxRecDepth 65536 in
theorem w_alone : about1.alone = true := by decide +kernel
set_option maxRecDepth 65536 in
theorem w_named : about1.methodNamed? x = some theMethod := by decide +kernel
set_option maxRecDepth 65536 in
theorem w_hears : about1.hears theMethod below0 = true := by decide +kernel
set_option maxRecDepth 65536 in
theorem w_ripe : about1.ripe theMethod args0 below0 = true := by decide +kernel
theorem w_running : about1.status = .running := rfl
set_option maxRecDepth 65536 in
theorem w_room : about1.hasRoom e0.platform room_1 = true :=
  launch0.hasRoom_least _ room_1 (by decide +kernel) (by decide +kernel) (by decide +kernel) (by decide +kernel) (by decide +kernel) (by decide +kernel)
theorem allAtoms_all (ts : List Jvm.Cond) (a : Array Jvm.Value) (st : Jvm.State) : (allAtoms ts).before a st = ts.all (fun c => c.before a st) := by
  induction ts with
  | nil => rfl
  | cons c t ih =>
    show (Jvm.Cond.and c (allAtoms t)).before a st = _
    rw [Jvm.Cond.before_and, ih, List.all_cons]
def words1 : List Jvm.Cond := Jvm.Cond.code x code maxLocals ret :: tables_1
/-- a 'code' word, met by the world's own term for the bytes: nothing is compared byte by byte -/
theorem code_word {y : MethodName} {bytes : ByteArray} {mx : Nat} {rt : Option FieldType} {a : Array Value} {s : State} {m : MethodId} {meth : Method} {c : Code} (h1 : s.methodNamed? y = some m) (h2 : s.vm.method? m = some meth) (h3 : meth.code = some c) (h4 : c.code = bytes)
    (h5 : (c.maxLocals == mx && c.exceptionTable.isEmpty && decide (c.maxStack ≤ mostOperands) && decide (meth.sig.returnType = rt) && !meth.locks && decide (parseMethodDescriptor y.desc = some meth.sig)) = true) : (Jvm.Cond.code y bytes mx rt).before a s = true := by
  simp only [Bool.and_eq_true, beq_iff_eq, Bool.not_eq_true', decide_eq_true_eq] at h5
  obtain ⟨⟨⟨⟨⟨g1, g2⟩, g3⟩, g4⟩, g5⟩, g6⟩ := h5
  simp [Cond.before, Cond.holds, Cond.value, h1, h2, h3, h4, g1, g2, g3, g4, g5, g6]
def isCode : Jvm.Cond → Bool
  | .code _ _ _ _ => true
  | _ => false
theorem all_split {L : List Jvm.Cond} {P : Jvm.Cond → Bool} (h1 : L.all (fun c => isCode c || P c) = true) (h2 : ∀ c ∈ L.filter isCode, P c = true) : L.all P = true := by
  refine List.all_eq_true.mpr fun c hc => ?_
  have h := List.all_eq_true.mp h1 c hc
  rcases Bool.eq_false_or_eq_true (isCode c) with hi | hi
  · exact h2 c (List.mem_filter.mpr ⟨hc, hi⟩)
  · simpa [hi] using h
set_option maxRecDepth 65536 in
theorem w_c0 : (Jvm.Cond.code x code maxLocals ret).before args0 about1 = true := code_word (m := ⟨1, 1⟩) (meth := k1m1) (c := k1c1) (by decide +kernel) rfl rfl rfl (by decide +kernel)
set_option maxRecDepth 65536 in
theorem w_c1 : (Jvm.Cond.code ({ cls := "com/example/tracewire/tracewire/log/ListingFirstUpToPinLaw", name := "above", desc := "(ZJJ)I" } : Jvm.MethodName) method_3_code (5 : Nat) (Option.some Jvm.ClassFile.FieldType.int)).before args0 about1 = true := code_word (m := ⟨1, 2⟩) (meth := k1m2) (c := k1c2) (by decide +kernel) rfl rfl rfl (by decide +kernel)
set_option maxRecDepth 65536 in
theorem w_c2 : (Jvm.Cond.code ({ cls := "com/example/tracewire/tracewire/log/Listing", name := "firstUpTo", desc := "([JJ)I" } : Jvm.MethodName) prog_122_method_6_code (6 : Nat) (Option.some Jvm.ClassFile.FieldType.int)).before args0 about1 = true := code_word (m := ⟨2, 0⟩) (meth := k2m0) (c := k2c0) (by decide +kernel) rfl rfl rfl (by decide +kernel)
def codes1 : List Jvm.Cond := [Jvm.Cond.code x code maxLocals ret, Jvm.Cond.code ({ cls := "com/example/tracewire/tracewire/log/ListingFirstUpToPinLaw", name := "above", desc := "(ZJJ)I" } : Jvm.MethodName) method_3_code (5 : Nat) (Option.some Jvm.ClassFile.FieldType.int), Jvm.Cond.code ({ cls := "com/example/tracewire/tracewire/log/Listing", name := "firstUpTo", desc := "([JJ)I" } : Jvm.MethodName) prog_122_method_6_code (6 : Nat) (Option.some Jvm.ClassFile.FieldType.int)]
set_option maxRecDepth 65536 in
theorem codes_eq : words1.filter isCode = codes1 := rfl
theorem w_codes : ∀ c ∈ words1.filter isCode, c.before args0 about1 = true := by
  rw [codes_eq]
  intro c hc
  simp only [codes1, List.mem_cons, List.not_mem_nil, or_false] at hc
  rcases hc with rfl | rfl | rfl
  · exact w_c0
  · exact w_c1
  · exact w_c2
set_option maxRecDepth 65536 in
theorem w_t1 : words1.all (fun c => isCode c || c.before args0 about1) = true := by decide +kernel
theorem w_tables : (allAtoms (Jvm.Cond.code x code maxLocals ret :: tables_1)).before args0 about1 = true := by
  rw [allAtoms_all]
  show words1.all (fun c => c.before args0 about1) = true
  refine all_split ?_ w_codes
  rw [w_t1]
set_option maxRecDepth 65536 in
theorem w_case : (Jvm.Cond.and given_1 narrow_1).before args0 about1 = true := by decide +kernel
theorem w_applies : (headSpec (Jvm.Cond.code x code maxLocals ret :: tables_1) room_1).applies x e0.platform about1 = true :=
  (Spec.applies_iff w_frames).mpr ⟨w_running, w_runnable, w_alone, w_named, w_hears, w_ripe, w_room, w_tables⟩
theorem atStart : AtStart classFile x code maxLocals ret World_1 tables_1 room_1 Calls_1 rest_1 Pre_1 launch0 p0 e0 about1 theMethod args0 below0 :=
  ⟨lists_1, trivial, launch0.admits_env _ _ _, launch0.least_env, fairChoices_fair.cas, fairChoices_fair.clock, w_frames, w_args, w_heap, w_applies, trivial, trivial, w_case⟩
end start1
theorem witness_1 : WitnessClaimed_1 := ⟨start1.p0, start1.e0, start1.about1, start1.theMethod, start1.args0, start1.below0, start1.atStart⟩
end Jvm.Pilot.@@N@@
