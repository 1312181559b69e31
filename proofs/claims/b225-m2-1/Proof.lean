import JvmDerived
import JvmDerived.Pilot.@@N@@Statement
import JvmDerived.Pilot.@@N@@Code
set_option linter.unusedVariables false
set_option linter.unusedSimpArgs false
namespace Jvm.RoadKit
open Sem ClassFile Op Lib Jvm.Stand Jvm.Free Jvm.LawKit
section New
variable {p : Program} {l : Launch} {e : Env} {R : Room} {s : State} {m : MethodId} {args : Array Value} {below : List Frame} {meth : Method} {c : Code} {T : State} {locs : List Loc} {cells slots : Nat}
theorem retI (X : Stand p l e R s m args below meth c T locs cells slots) (hx : p.tables.exec = Jvm.exec) {pc : Nat} {Ls : Array Slot} {z : Int32} {rest : List Value} (hret : meth.sig.returnType = some .int) (hd : decode c.code pc = .ok (.ireturn, 1)) {fs : List Frame}
    (hl : ∀ (f : JFrame) (acts : List Action), f.method = m → f.locked = none → f.entered = [] → (doReturn e (T.setTop f) acts (some (.int z))).1 = T.setFrames fs) : Steps p.tables e below (T.setTop (mkF m pc Ls (.int z :: rest))) (T.setFrames fs) := by
  have hm' : T.vm.method? m = some meth := X.method'
  have hn : narrow .int (.int z) = .int z := rfl
  show Steps p.tables e below (T.setTop { method := m, pc := pc, locals := Ls, stack := _ :: rest, locked := none }) _
  jvm_step X.here [X.here.top, hx, hd, hm', hret, hn]
  first | (intro acts; rw [hl _ acts rfl rfl rfl]) | rw [hl _ _ rfl rfl rfl]
  exact Steps.refl _
end New
end Jvm.RoadKit
namespace Jvm.Pilot.@@N@@
open Jvm Jvm.ClassFile Sem Op Lib Jvm.Free Jvm.Stand Jvm.LawKit Jvm.RoadKit Bundle Jvm.Pilot.@@N@@.Jvm.D
section Own
variable {p : Program} {l : Launch} {e : Env} {R : Room} {s : State} {m : MethodId} {args : Array Value} {below : List Frame} {meth : Method} {c : Code} {T : State} {n0 C S : Nat} {Z : State} {a0 : Array Value} {h h' : Heap} {P : State → Outcome → Prop} {Q : Option Value → Heap → Prop}
/-- from U the run comes to an end at which P holds -/
def own_Go (p : Program) (e : Env) (below : List Frame) (P : State → Outcome → Prop) (U : State) : Prop := ∃ t o, Steps p.tables e below U t ∧ P t o
theorem own_st {U U' : State} (k : ∀ t, Steps p.tables e below U' t → Steps p.tables e below U t) (g : own_Go p e below P U') : own_Go p e below P U := by
  obtain ⟨t, o, a, b⟩ := g; exact ⟨t, o, k t a, b⟩
/-- where the run stands: its state, its heap, how many cells and slots are spent; nothing below n0 was written -/
def own_Sd (p : Program) (l : Launch) (e : Env) (R : Room) (s : State) (m : MethodId) (args : Array Value) (below : List Frame) (meth : Method) (c : Code) (n0 : Nat) (T : State) (h : Heap) (C S : Nat) : Prop :=
  ∃ locs, Stand p l e R s m args below meth c T locs C S ∧ Fr n0 locs ∧ T.heap = h ∧ n0 ≤ s.heap.size ∧ s.heap.size ≤ h.size
theorem own_Sd.here (X : own_Sd p l e R s m args below meth c n0 T h C S) : At T m c below := by obtain ⟨_, X, _⟩ := X; exact X.here
theorem own_Sd.ge0 (X : own_Sd p l e R s m args below meth c n0 T h C S) : n0 ≤ h.size := by obtain ⟨_, _, _, _, h1, h2⟩ := X; exact Nat.le_trans h1 h2
theorem own_Sd.more (X : own_Sd p l e R s m args below meth c n0 T h C S) {C' S' : Nat} (hc : C ≤ C') (hs : S ≤ S') : own_Sd p l e R s m args below meth c n0 T h C' S' := by
  obtain ⟨L, X, r⟩ := X; exact ⟨L, X.more hc hs, r⟩
/-- what the body of one method knows of itself -/
def own_Cx (p : Program) (s : State) (m : MethodId) (meth : Method) (c : Code) (Z : State) (bytes : ByteArray) (maxL : Nat) (y : MethodName) (ret : Option FieldType) : Prop :=
  p.tables.exec = Jvm.exec ∧ c.code = bytes ∧ c.maxLocals = maxL ∧ s.vm.findClass y.cls = some m.cls ∧ meth.name = y.name ∧ meth.sig.returnType = ret ∧ meth.locks = false ∧ Z.Warmed39 s.vm
def own_End (below : List Frame) (s : State) (R : Room) (n0 : Nat) (Q : Option Value → Heap → Prop) (t : State) (o : Outcome) : Prop :=
  t.status = .running ∧ Ended t below o ∧ ∃ v L, o = .returned v ∧ (Q v t.heap ∧ s.heap.size ≤ t.heap.size ∧ Fr n0 L) ∧ FrameEnd s o t L R.cells R.slots
/-- a method's contract: on these arguments, at this heap, it returns so that Q -/
def own_Met (l : Launch) (Z : State) (y : MethodName) (bytes : ByteArray) (maxL : Nat) (ret : Option FieldType) (rm : Room) (as' : Array Value) (h0 : Heap) (n0 : Nat) (Q : Option Value → Heap → Prop) : Prop :=
  ∀ ws, MetFree l y (head1 (Jvm.Cond.code y bytes maxL ret :: ws) rm) (fun a U => a = as' ∧ Z.Warmed39 U.vm ∧ U.heap = h0) (fun _ _ _ _ _ => True)
    (fun _ U o U' => ∃ v L, o = .returned v ∧ (Q v U'.heap ∧ h0.size ≤ U'.heap.size ∧ Fr n0 L) ∧ FrameEnd U o U' L rm.cells rm.slots)
theorem own_body {y : MethodName} {bytes : ByteArray} {maxL : Nat} {ret : Option FieldType} {rm : Room} {as' : Array Value} {h0 : Heap} {Ls : Array Slot} (hpl : plainFor y = true) (hfr : ∀ m, entryFrame m as' maxL = mkF m 0 Ls []) (hn : n0 ≤ h0.size)
    (B : ∀ (p : Program) (e : Env) (s : State) (m : MethodId) (below : List Frame) (meth : Method) (c : Code) (T : State), own_Cx p s m meth c Z bytes maxL y ret → own_Sd p l e rm s m as' below meth c n0 T h0 0 0 → own_Go p e below (own_End below s rm n0 Q) (T.setTop (mkF m 0 Ls []))) :
    own_Met l Z y bytes maxL ret rm as' h0 n0 Q := by
  intro ws
  refine MetFree.of_bodySF hpl hisR ?_
  intro p e s m args below meth c s₁ Bd hml0 hP hK
  obtain ⟨rfl, hZ, hh⟩ := hP
  have X0 : Stand p l e rm s m args below meth c s₁ [] 0 0 := Stand.of_body Bd
  have e0 : s₁.heap = h0 := by rw [← hh, Bd.state]; rfl
  have hs : s.heap.size = h0.size := by rw [hh]
  obtain ⟨t, o, st, h1, h2, v, L, h3, h4, h5⟩ := B p e s m below meth c s₁ ⟨Bd.exec, Bd.bytes, hml0, findClass_of_methodNamed Bd.named, (name_of_methodNamed Bd.named Bd.method).1, Bd.returns, Bd.notSynchronized, hZ⟩ ⟨[], X0, Fr.nil n0, e0, by rw [hs]; exact hn, by rw [hs]; exact Nat.le_refl _⟩
  rw [hs] at h4
  exact ⟨t, o, castTop (hfr m) st, h1, h2, v, L, h3, h4, h5⟩
theorem own_fin (X : own_Sd p l e R s m args below meth c n0 T h C S) (hlk : meth.locks = false) {v : Option Value} (hv : meth.sig.returnType = none → v = none) (hC : C ≤ R.cells) (hS : S ≤ R.slots) (q : Q v h) {U : State}
    (k : ∀ (T' : State) (locs : List Loc) (fs : List Frame), T' = T → Stand p l e R s m args below meth c T locs C S → (∀ (f : JFrame) (acts : List Action), f.method = m → f.locked = none → f.entered = [] → (doReturn e (T.setTop f) acts v).1 = T.setFrames fs) → Steps p.tables e below U (T.setFrames fs)) : own_Go p e below (own_End below s R n0 Q) U := by
  obtain ⟨L, X, N, eT, hn, hs⟩ := X
  obtain ⟨fs, hr, hrun, hended, hW, hsame⟩ := X.leave (v := v) hv hlk
  have e1 : (T.setFrames fs).heap = h := eT
  refine ⟨_, _, k T L fs rfl X hr, hrun, hended, v, L, rfl, ⟨?_, ?_, N⟩, ⟨_, rfl⟩, hW, hsame.mono hC hS⟩
  · rw [e1]; exact q
  · rw [e1]; exact hs
theorem own_retI (X : own_Sd p l e R s m args below meth c n0 T h C S) (hx : p.tables.exec = Jvm.exec) (hret : meth.sig.returnType = some .int) (hlk : meth.locks = false) {pc : Nat} {Ls : Array Slot} {z : Int32} {rest : List Value} (hd : decode c.code pc = .ok (.ireturn, 1)) (hC : C ≤ R.cells) (hS : S ≤ R.slots) (q : Q (some (.int z)) h) :
    own_Go p e below (own_End below s R n0 Q) (T.setTop (mkF m pc Ls (.int z :: rest))) :=
  own_fin X hlk (fun h => by rw [hret] at h; cases h) hC hS q fun _ _ _ _ X hr => retI X hx hret hd hr
theorem own_retN (X : own_Sd p l e R s m args below meth c n0 T h C S) (hx : p.tables.exec = Jvm.exec) {t : FieldType} (hret : meth.sig.returnType = some t) (ht : t = .boolean ∨ t = .byte ∨ t = .char ∨ t = .short) (hlk : meth.locks = false) {pc : Nat} {Ls : Array Slot} {z : Int32} {rest : List Value} (hd : decode c.code pc = .ok (.ireturn, 1)) (hC : C ≤ R.cells) (hS : S ≤ R.slots) (q : Q (some (.int (nar t z))) h) :
    own_Go p e below (own_End below s R n0 Q) (T.setTop (mkF m pc Ls (.int z :: rest))) :=
  own_fin X hlk (fun h => by rw [hret] at h; cases h) hC hS q fun _ _ _ _ X hr => retN X hx hret ht hd hr
theorem own_retJ (X : own_Sd p l e R s m args below meth c n0 T h C S) (hx : p.tables.exec = Jvm.exec) (hret : meth.sig.returnType = some .long) (hlk : meth.locks = false) {pc : Nat} {Ls : Array Slot} {z : Int64} {rest : List Value} (hd : decode c.code pc = .ok (.lreturn, 1)) (hC : C ≤ R.cells) (hS : S ≤ R.slots) (q : Q (some (.long z)) h) :
    own_Go p e below (own_End below s R n0 Q) (T.setTop (mkF m pc Ls (.long z :: rest))) :=
  own_fin X hlk (fun h => by rw [hret] at h; cases h) hC hS q fun _ _ _ _ X hr => retOut X hx hret rfl (Or.inr (Or.inl ⟨rfl, rfl, z, rfl⟩)) hd hr
theorem own_retA (X : own_Sd p l e R s m args below meth c n0 T h C S) (hx : p.tables.exec = Jvm.exec) {t : FieldType} (hret : meth.sig.returnType = some t) (ht : t.isReference = true) (hlk : meth.locks = false) {pc : Nat} {Ls : Array Slot} {w : Value} (hw : w.isRef = true) (hn : narrow t w = w) {rest : List Value} (hd : decode c.code pc = .ok (.areturn, 1)) (hC : C ≤ R.cells) (hS : S ≤ R.slots) (q : Q (some w) h) :
    own_Go p e below (own_End below s R n0 Q) (T.setTop (mkF m pc Ls (w :: rest))) :=
  own_fin X hlk (fun h => by rw [hret] at h; cases h) hC hS q fun _ _ _ _ X hr => retOut X hx hret hn (Or.inr (Or.inr (Or.inr (Or.inr ⟨rfl, ht, hw⟩)))) hd hr
theorem own_retV (X : own_Sd p l e R s m args below meth c n0 T h C S) (hx : p.tables.exec = Jvm.exec) (hret : meth.sig.returnType = none) (hlk : meth.locks = false) {pc : Nat} {Ls : Array Slot} (hd : decode c.code pc = .ok (.return_, 1)) (hC : C ≤ R.cells) (hS : S ≤ R.slots) (q : Q none h) :
    own_Go p e below (own_End below s R n0 Q) (T.setTop (mkF m pc Ls [])) :=
  own_fin X hlk (fun _ => rfl) hC hS q fun _ _ _ _ X hr => X.returnOut hx hret hd hr
/-! single steps that want a Stand -/
theorem own_irem (X : own_Sd p l e R s m args below meth c n0 T h C S) (hx : p.tables.exec = Jvm.exec) {g : JFrame} {x y : Int32} {rest : List Value} (hd : decode c.code g.pc = .ok (.irem, 1)) (hs : g.stack = .int y :: .int x :: rest) (hy : y ≠ 0) (hg : g.method = m)
    (k : own_Go p e below P (T.setTop { g with pc := g.pc + 1, stack := .int (x % y) :: rest })) : own_Go p e below P (T.setTop g) := by
  obtain ⟨_, X, _⟩ := X; exact own_st (fun _ q => iremM X hx hg hd hs hy q) k
theorem own_ldc (X : own_Sd p l e R s m args below meth c n0 T h C S) (hx : p.tables.exec = Jvm.exec) (hZ : Z.Warmed39 s.vm) {own : String} {index : Nat} {v : Int32} (hown : s.vm.findClass own = some m.cls) (w : (Cond.constant own index v).before a0 Z = true) {g : JFrame} (hg : g.method = m) (hd : decode c.code g.pc = .ok (.ldc index, 2))
    (k : own_Go p e below P (T.setTop { g with pc := g.pc + 2, stack := .int v :: g.stack })) : own_Go p e below P (T.setTop g) := by
  obtain ⟨_, X, _⟩ := X; exact own_st (fun _ q => X.ldcInt hx hown (mvT hZ w) hg hd _ q) k
theorem own_ldc2 (X : own_Sd p l e R s m args below meth c n0 T h C S) (hx : p.tables.exec = Jvm.exec) (hZ : Z.Warmed39 s.vm) {own : String} {index : Nat} {v : Int64} (hown : s.vm.findClass own = some m.cls) (w : (Cond.constantLong own index v).before a0 Z = true) {g : JFrame} (hg : g.method = m) (hd : decode c.code g.pc = .ok (.ldc2_w index, 3))
    (k : own_Go p e below P (T.setTop { g with pc := g.pc + 3, stack := .long v :: g.stack })) : own_Go p e below P (T.setTop g) := by
  obtain ⟨_, X, _⟩ := X; exact own_st (fun _ q => X.ldc2Long hx hown (mvT hZ w) hg hd _ q) k
theorem own_acmp (X : own_Sd p l e R s m args below meth c n0 T h C S) (hx : p.tables.exec = Jvm.exec) {g : JFrame} (hg : g.method = m) {cd : ACond} {x y : Value} (h1 : x.isRef = true) (h2 : y.isRef = true) {rest : List Value} {o : Int} {pc0 pc' : Nat} {same : Bool} (hpc : g.pc = pc0) (hd : decode c.code g.pc = .ok (.if_acmp cd o, 3)) (hs : g.stack = y :: x :: rest) (hsame : decide (x = y) = same) (ho : 0 ≤ (pc0 : Int) + o) (hp : pc' = if acV cd same then ((pc0 : Int) + o).toNat else pc0 + 3)
    (k : own_Go p e below P (T.setTop { g with pc := pc', stack := rest })) : own_Go p e below P (T.setTop g) := by
  obtain ⟨_, X, _⟩ := X; exact own_st (fun _ q => Jvm.RoadKit.acmp X hx hg h1 h2 hpc hd hs hsame ho hp q) k
theorem own_lrem (X : own_Sd p l e R s m args below meth c n0 T h C S) (hx : p.tables.exec = Jvm.exec) {g : JFrame} {x y : Int64} {rest : List Value} (hd : decode c.code g.pc = .ok (.lrem, 1)) (hs : g.stack = .long y :: .long x :: rest) (hy : y ≠ 0) (hg : g.method = m)
    (k : own_Go p e below P (T.setTop { g with pc := g.pc + 1, stack := .long (x % y) :: rest })) : own_Go p e below P (T.setTop g) :=
  own_st (fun _ q => XS.lrem X.here hx hg hd hs hy (by rw [lrem_mod]; exact q)) k
theorem own_dupX2 (X : own_Sd p l e R s m args below meth c n0 T h C S) (hx : p.tables.exec = Jvm.exec) {g : JFrame} {x y z : Value} {rest : List Value} (hd : decode c.code g.pc = .ok (.dup_x2, 1)) (hs : g.stack = x :: y :: z :: rest) (h1 : x.category = 1) (h2 : y.category = 1) (h3 : z.category = 1) (hg : g.method = m)
    (k : own_Go p e below P (T.setTop { g with pc := g.pc + 1, stack := x :: y :: z :: x :: rest })) : own_Go p e below P (T.setTop g) := by
  refine own_st (fun t q => ?_) k
  subst hg
  have h := X.here
  jvm_step h [h.top, hx, hd, hs, h1, h2, h3]
  exact q
/-! fields, objects -/
theorem own_getF (X : own_Sd p l e R s m args below meth c n0 T h C S) (hx : p.tables.exec = Jvm.exec) (hZ : Z.Warmed39 s.vm) {own O n d : String} {index : Nat} (hown : s.vm.findClass own = some m.cls) (w : (Cond.fieldLink own index O n d).before a0 Z = true) {a : Addr} {v : Value} (F : Fld Z h a O n d v) {g : JFrame} (hg : g.method = m) {rest : List Value} (hs : g.stack = .ref a :: rest) (hd : decode c.code g.pc = .ok (.getfield index, 3))
    (k : ∀ T', own_Sd p l e R s m args below meth c n0 T' h C S → own_Go p e below P (T'.setTop { g with pc := g.pc + 3, stack := v :: rest })) : own_Go p e below P (T.setTop g) := by
  obtain ⟨L, X, N, eT, r⟩ := X
  obtain ⟨T', X', e', st⟩ := getF X hx hZ hown (host := "") (Or.inl w) Via.refl eT F hg hs hd
  exact own_st st (k T' ⟨L, X', N, e', r⟩)
theorem own_putF (X : own_Sd p l e R s m args below meth c n0 T h C S) (hx : p.tables.exec = Jvm.exec) (hZ : Z.Warmed39 s.vm) {own O n d K : String} {index kk : Nat} {ty : FieldType} (hown : s.vm.findClass own = some m.cls) (w : (Cond.fieldLink own index O n d).before a0 Z = true) {a : Addr} {v v' old : Value} (F : Fld Z h a O n d old) (E : Exa Z h a K) (L : (Cond.lays K O n d).before a0 Z = true ∨ ((Cond.laysFinal K O n d).before a0 Z = true ∧ own = O ∧ meth.name = "<init>")) (wi : (Cond.instantiable K kk).before a0 Z = true)
    (hty : parseFieldDescriptor d = some ty) (hn : narrow ty v = v') (hf : fits ty v' = true) (ga : n0 ≤ a) {g : JFrame} (hg : g.method = m) {rest : List Value} (hs : g.stack = v :: .ref a :: rest) (hd : decode c.code g.pc = .ok (.putfield index, 3))
    (k : ∀ T' h', own_Sd p l e R s m args below meth c n0 T' h' C S → Wr h h' a (Jvm.RoadKit.slotOf Z O n d) v' → own_Go p e below P (T'.setTop { g with pc := g.pc + 3, stack := rest })) : own_Go p e below P (T.setTop g) := by
  obtain ⟨L0, X, N, eT, r1, r2⟩ := X
  obtain ⟨T', h', X', e', W, st⟩ := putFN X hx hZ hown w Via.refl eT F E L wi hty hn hf hg hs hd
  exact own_st st (k T' h' ⟨_, X', Fr.snoc X' N ga, e', r1, by rw [W.size]; exact r2⟩ W)
theorem own_newO (X : own_Sd p l e R s m args below meth c n0 T h C S) (hx : p.tables.exec = Jvm.exec) (hZ : Z.Warmed39 s.vm) {own K : String} {index n : Nat} (hown : s.vm.findClass own = some m.cls) (w : (Cond.classLink own index K).before a0 Z = true) (wi : (Cond.instantiable K n).before a0 Z = true) (wz : (Cond.initialized K).before a0 Z = true)
    {g : JFrame} (hg : g.method = m) (hd : decode c.code g.pc = .ok (.new index, 3)) (hc : C + 1 ≤ R.cells) (hl : S + n ≤ R.slots)
    (k : ∀ T' h' b, b = h.size → n0 ≤ b → own_Sd p l e R s m args below meth c n0 T' h' (C + 1) (S + n) → Ext h h' → Exa Z h' b K → (∀ {O nm d : String} {ty : FieldType}, Laid Z a0 K O nm d → parseFieldDescriptor d = some ty → Fld Z h' b O nm d (defaultValue ty)) → own_Go p e below P (T'.setTop { g with pc := g.pc + 3, stack := .ref b :: g.stack })) : own_Go p e below P (T.setTop g) := by
  have hn := X.ge0
  obtain ⟨L, X, N, eT, r1, r2⟩ := X
  obtain ⟨T', h', X', e', E, A, D, -, st⟩ := newO X hx hZ hown w wi wz eT hg hd hc hl
  exact own_st st (k T' h' h.size rfl hn ⟨L, X', N, e', r1, Nat.le_trans r2 E.1⟩ E A D)
theorem own_initO (X : own_Sd p l e R s m args below meth c n0 T h C S) (hx : p.tables.exec = Jvm.exec) (hZ : Z.Warmed39 s.vm) {own : String} {idx : Nat} (hown : s.vm.findClass own = some m.cls) (w1 : (Cond.methodLink own idx Lib.objectInit).before a0 Z = true) (w2 : (Cond.instanceMethod Lib.objectInit).before a0 Z = true)
    (w3 : (Cond.code Lib.objectInit ⟨#[0xb1]⟩ 1 none).before a0 Z = true) {g : JFrame} (hg : g.method = m) (hsize : g.locals.size = c.maxLocals) {a : Addr} {rest : List Value} (hs : g.stack = .ref a :: rest) (hd : decode c.code g.pc = .ok (.invokespecial idx, 3))
    (hf : 1 ≤ R.frames) {W : Nat} (hW : 2 * g.monitorRoom + (rest.map fun v => v.category).sum ≤ W) (hl : W + 12 ≤ R.locals)
    (k : ∀ T', own_Sd p l e R s m args below meth c n0 T' h C S → own_Go p e below P (T'.setTop { g with pc := g.pc + 3, stack := rest })) : own_Go p e below P (T.setTop g) := by
  obtain ⟨L, X, N, eT, r⟩ := X
  obtain ⟨T', X', e', st⟩ := initO X hx hZ hown w1 w2 w3 eT hg hsize hs hd hf hW hl
  exact own_st st (k T' ⟨L, X', N, e', r⟩)
/-! calls -/
theorem own_back {y : MethodName} {bytes : ByteArray} {maxL : Nat} {ret : Option FieldType} {rm : Room} {as' : Array Value} {len W : Nat} (hM : own_Met l Z y bytes maxL ret rm as' h n0 Q) (hZ : Z.Warmed39 s.vm) (wc : (Cond.code y bytes maxL ret).before a0 Z = true) (wz : (Cond.initialized y.cls).before a0 Z = true) (hf : rm.frames + 1 ≤ R.frames) (hl : W + (maxL + 11) + rm.locals ≤ R.locals) :
    Back l R p e below s args y len W (fun A a => a = as' ∧ A.U.heap = h ∧ A.cells + rm.cells ≤ R.cells ∧ A.slots + rm.slots ≤ R.slots) (fun A _ v B => ∃ L, (Q v B.U.heap ∧ h.size ≤ B.U.heap.size ∧ Fr n0 L) ∧ B.locs = A.locs ++ L ∧ B.cells = A.cells + rm.cells ∧ B.slots = A.slots + rm.slots) :=
  backOf (Q := fun v h' L => Q v h' ∧ h.size ≤ h'.size ∧ Fr n0 L) (hM []) hZ wc wz hf hl
theorem own_callS (X : own_Sd p l e R s m args below meth c n0 T h C S) (hx : p.tables.exec = Jvm.exec) (hZ : Z.Warmed39 s.vm) {own : String} {index : Nat} {y : MethodName} {bytes : ByteArray} {maxL : Nat} {ret : Option FieldType} (hown : s.vm.findClass own = some m.cls)
    (w1 : (Cond.methodLink own index y).before a0 Z = true) (w2 : (Cond.static y).before a0 Z = true) (w3 : (Cond.initialized y.cls).before a0 Z = true) (w4 : (Cond.code y bytes maxL ret).before a0 Z = true) (hy : y.cls ≠ "java/lang/invoke/MethodHandle" ∧ y.cls ≠ "java/lang/invoke/VarHandle")
    {rm : Room} {as' : Array Value} (hM : own_Met l Z y bytes maxL ret rm as' h n0 Q) (hf : rm.frames + 1 ≤ R.frames) {W : Nat} (hlo : W + (maxL + 11) + rm.locals ≤ R.locals) {g : JFrame} (hg : g.method = m) (hsize : g.locals.size = c.maxLocals) {argsL rest : List Value} (hlen : ∀ sig, parseMethodDescriptor y.desc = some sig → argsL.length = sig.parameters.length) (has : argsL.toArray = as')
    (hstack : g.stack = argsL.reverse ++ rest) (hW : 2 * g.monitorRoom + (rest.map fun v => v.category).sum ≤ W) (hd : decode c.code g.pc = .ok (.invokestatic index, 3)) (hc : C + rm.cells ≤ R.cells) (hs : S + rm.slots ≤ R.slots)
    (k : ∀ v T' h', own_Sd p l e R s m args below meth c n0 T' h' (C + rm.cells) (S + rm.slots) → Q v h' → own_Go p e below P (T'.setTop { g with pc := g.pc + 3, stack := v.toList ++ rest })) : own_Go p e below P (T.setTop g) := by
  obtain ⟨L, X, N, eT, r1, r2⟩ := X
  obtain ⟨v, _, ⟨T', L', k', n'⟩, -, X', ⟨Lc, ⟨hQ, hsz, hN⟩, e1, e2, e3⟩, st⟩ := Jvm.LawKit.callS X hx hown (mvT hZ w1) (mvT hZ w2) (mvT hZ w3) (mvT hZ w4) hy (own_back (W := W) hM hZ w4 w3 hf hlo) hg hsize hlen hstack hW hd (fun _ _ => ⟨has, eT, hc, hs⟩)
  dsimp only [Pt.U, Pt.locs, Pt.cells, Pt.slots] at X' e1 e2 e3 st hQ hsz
  subst e1 e2 e3
  exact own_st st (k v T' T'.heap ⟨_, X', Fr.app N hN, rfl, r1, Nat.le_trans r2 hsz⟩ hQ)
theorem own_callC (X : own_Sd p l e R s m args below meth c n0 T h C S) (hx : p.tables.exec = Jvm.exec) (hZ : Z.Warmed39 s.vm) {own : String} {index : Nat} {y : MethodName} {bytes : ByteArray} {maxL : Nat} (hy1 : y.name = "<init>") (hown : s.vm.findClass own = some m.cls)
    (w1 : (Cond.methodLink own index y).before a0 Z = true) (w2 : (Cond.instanceMethod y).before a0 Z = true) (w3 : (Cond.initialized y.cls).before a0 Z = true) (w4 : (Cond.code y bytes maxL none).before a0 Z = true) (hy : y.cls ≠ "java/lang/invoke/MethodHandle" ∧ y.cls ≠ "java/lang/invoke/VarHandle")
    {rm : Room} {as' : Array Value} (hM : own_Met l Z y bytes maxL none rm as' h n0 Q) (hf : rm.frames + 1 ≤ R.frames) {W : Nat} (hlo : W + (maxL + 11) + rm.locals ≤ R.locals) {g : JFrame} (hg : g.method = m) (hsize : g.locals.size = c.maxLocals) {a : Addr} {argsL rest : List Value} (hlen : ∀ sig, parseMethodDescriptor y.desc = some sig → argsL.length = sig.parameters.length) (has : (.ref a :: argsL).toArray = as')
    (hstack : g.stack = argsL.reverse ++ .ref a :: rest) (hW : 2 * g.monitorRoom + (rest.map fun v => v.category).sum ≤ W) (hd : decode c.code g.pc = .ok (.invokespecial index, 3)) (hc : C + rm.cells ≤ R.cells) (hs : S + rm.slots ≤ R.slots)
    (k : ∀ v T' h', own_Sd p l e R s m args below meth c n0 T' h' (C + rm.cells) (S + rm.slots) → Q v h' → own_Go p e below P (T'.setTop { g with pc := g.pc + 3, stack := v.toList ++ rest })) : own_Go p e below P (T.setTop g) := by
  obtain ⟨L, X, N, eT, r1, r2⟩ := X
  obtain ⟨v, _, ⟨T', L', k', n'⟩, -, X', ⟨Lc, ⟨hQ, hsz, hN⟩, e1, e2, e3⟩, st⟩ := X.specialBack hx hy1 hown (mvT hZ w1) (mvT hZ w2) (mvT hZ w4) hy (own_back (W := W) hM hZ w4 w3 hf hlo) hg hsize (Steps.refl _) hlen hstack hW hd (fun _ _ => ⟨has, eT, hc, hs⟩)
  dsimp only [Pt.U, Pt.locs, Pt.cells, Pt.slots] at X' e1 e2 e3 st hQ hsz
  subst e1 e2 e3
  exact own_st (fun _ q => st.trans q) (k v T' T'.heap ⟨_, X', Fr.app N hN, rfl, r1, Nat.le_trans r2 hsz⟩ hQ)
theorem own_callV (X : own_Sd p l e R s m args below meth c n0 T h C S) (hx : p.tables.exec = Jvm.exec) (hZ : Z.Warmed39 s.vm) {own K : String} {index : Nat} {y : MethodName} {bytes : ByteArray} {maxL : Nat} {ret : Option FieldType} (hown : s.vm.findClass own = some m.cls)
    (w1 : (Cond.methodLink own index y).before a0 Z = true) (w2 : (Cond.declares y).before a0 Z = true) (w5 : (Cond.selects K y y).before a0 Z = true) (w6 : (Cond.instanceMethod y).before a0 Z = true) (w3 : (Cond.initialized y.cls).before a0 Z = true) (w4 : (Cond.code y bytes maxL ret).before a0 Z = true) (hy : y.cls ≠ "java/lang/invoke/MethodHandle" ∧ y.cls ≠ "java/lang/invoke/VarHandle")
    {a : Addr} (E : Exa Z h a K) {rm : Room} {as' : Array Value} (hM : own_Met l Z y bytes maxL ret rm as' h n0 Q) (hf : rm.frames + 1 ≤ R.frames) {W : Nat} (hlo : W + (maxL + 11) + rm.locals ≤ R.locals) {g : JFrame} (hg : g.method = m) (hsize : g.locals.size = c.maxLocals) {argsL rest : List Value} (hlen : ∀ sig, parseMethodDescriptor y.desc = some sig → argsL.length = sig.parameters.length) (has : (.ref a :: argsL).toArray = as')
    (hstack : g.stack = argsL.reverse ++ .ref a :: rest) (hW : 2 * g.monitorRoom + (rest.map fun v => v.category).sum ≤ W) (hd : decode c.code g.pc = .ok (.invokevirtual index, 3)) (hc : C + rm.cells ≤ R.cells) (hs : S + rm.slots ≤ R.slots)
    (k : ∀ v T' h', own_Sd p l e R s m args below meth c n0 T' h' (C + rm.cells) (S + rm.slots) → Q v h' → own_Go p e below P (T'.setTop { g with pc := g.pc + 3, stack := v.toList ++ rest })) : own_Go p e below P (T.setTop g) := by
  obtain ⟨L, X, N, eT, r1, r2⟩ := X
  obtain ⟨cB, kB, q1, q2, q3⟩ := isOf hZ eT E
  obtain ⟨v, _, ⟨T', L', k', n'⟩, -, X', ⟨Lc, ⟨hQ, hsz, hN⟩, e1, e2, e3⟩, st⟩ := X.virtualBack hx hown (mvT hZ w1) (mvT hZ w2) (notFace_of_selects (args := #[]) (mvT hZ w5)) (mvT hZ w5) (mvT hZ w6) hy (own_back (W := W) hM hZ w4 w3 hf hlo) q1 q3 hg hsize (Steps.refl _) hlen hstack hW hd (fun _ _ => ⟨has, eT, hc, hs⟩)
  dsimp only [Pt.U, Pt.locs, Pt.cells, Pt.slots] at X' e1 e2 e3 st hQ hsz
  subst e1 e2 e3
  exact own_st (fun _ q => st.trans q) (k v T' T'.heap ⟨_, X', Fr.app N hN, rfl, r1, Nat.le_trans r2 hsz⟩ hQ)
theorem own_callP (X : own_Sd p l e R s m args below meth c n0 T h C S) (hx : p.tables.exec = Jvm.exec) (hZ : Z.Warmed39 s.vm) {own K K' : String} {index : Nat} {y y' : MethodName} {bytes : ByteArray} {maxL : Nat} {ret : Option FieldType} (hown : s.vm.findClass own = some m.cls)
    (w1 : (Cond.methodLink own index y).before a0 Z = true) (w7 : (Cond.privateMethod y).before a0 Z = true) (w5 : (Cond.selects K y' y').before a0 Z = true) (hyy : y'.cls = y.cls) (w6 : (Cond.instanceMethod y).before a0 Z = true) (w3 : (Cond.initialized y.cls).before a0 Z = true) (w4 : (Cond.code y bytes maxL ret).before a0 Z = true) (hy : y.cls ≠ "java/lang/invoke/MethodHandle" ∧ y.cls ≠ "java/lang/invoke/VarHandle")
    {a : Addr} (E : Exa Z h a K') {rm : Room} {as' : Array Value} (hM : own_Met l Z y bytes maxL ret rm as' h n0 Q) (hf : rm.frames + 1 ≤ R.frames) {W : Nat} (hlo : W + (maxL + 11) + rm.locals ≤ R.locals) {g : JFrame} (hg : g.method = m) (hsize : g.locals.size = c.maxLocals) {argsL rest : List Value} (hlen : ∀ sig, parseMethodDescriptor y.desc = some sig → argsL.length = sig.parameters.length) (has : (.ref a :: argsL).toArray = as')
    (hstack : g.stack = argsL.reverse ++ .ref a :: rest) (hW : 2 * g.monitorRoom + (rest.map fun v => v.category).sum ≤ W) (hd : decode c.code g.pc = .ok (.invokevirtual index, 3)) (hc : C + rm.cells ≤ R.cells) (hs : S + rm.slots ≤ R.slots)
    (k : ∀ v T' h', own_Sd p l e R s m args below meth c n0 T' h' (C + rm.cells) (S + rm.slots) → Q v h' → own_Go p e below P (T'.setTop { g with pc := g.pc + 3, stack := v.toList ++ rest })) : own_Go p e below P (T.setTop g) := by
  obtain ⟨L, X, N, eT, r1, r2⟩ := X
  obtain ⟨c2, q2, m2, -, -, q3, -, kP, hkP, hkPi⟩ := Cond.selects_spec (mvT hZ w5 : (Cond.selects K y' y').before args s = true)
  have hcl := findClass_of_methodNamed q3
  rw [hyy] at hcl
  have hp := Cond.privateMethod_at (mvP hZ w7 (args := #[]))
  have hsel := selects_self_of_private (args := args) hcl hkP hkPi hp (mvT hZ w6) hy
  obtain ⟨cl, h1, h2⟩ := E.cell
  obtain ⟨v, _, ⟨T', L', k', n'⟩, -, X', ⟨Lc, ⟨hQ, hsz, hN⟩, e1, e2, e3⟩, st⟩ := X.privateBack hx hown (mvT hZ w1) (mvT hZ w6) hsel hp (mvT hZ w4) hy (own_back (W := W) hM hZ w4 w3 hf hlo) hg hsize (Steps.refl _) (by rw [eT]; exact h1) h2 hlen hstack hW hd (fun _ _ => ⟨has, eT, hc, hs⟩)
  dsimp only [Pt.U, Pt.locs, Pt.cells, Pt.slots] at X' e1 e2 e3 st hQ hsz
  subst e1 e2 e3
  exact own_st (fun _ q => st.trans q) (k v T' T'.heap ⟨_, X', Fr.app N hN, rfl, r1, Nat.le_trans r2 hsz⟩ hQ)
/-! calls of methods that leave the heap as it is -/
theorem own_callSp (X : own_Sd p l e R s m args below meth c n0 T h C S) (hx : p.tables.exec = Jvm.exec) (hZ : Z.Warmed39 s.vm) {own : String} {index : Nat} {y : MethodName} {bytes : ByteArray} {maxL : Nat} {ret : Option FieldType} (hown : s.vm.findClass own = some m.cls)
    (w1 : (Cond.methodLink own index y).before a0 Z = true) (w2 : (Cond.static y).before a0 Z = true) (w3 : (Cond.initialized y.cls).before a0 Z = true) (w4 : (Cond.code y bytes maxL ret).before a0 Z = true) (hy : y.cls ≠ "java/lang/invoke/MethodHandle" ∧ y.cls ≠ "java/lang/invoke/VarHandle")
    {rm : Room} {as' : Array Value} {r : Option Value} (hM : own_Met l Z y bytes maxL ret rm as' h n0 (fun v' h' => v' = r ∧ h' = h)) (hf : rm.frames + 1 ≤ R.frames) {W : Nat} (hlo : W + (maxL + 11) + rm.locals ≤ R.locals) {g : JFrame} (hg : g.method = m) (hsize : g.locals.size = c.maxLocals) {argsL rest : List Value} (hlen : ∀ sig, parseMethodDescriptor y.desc = some sig → argsL.length = sig.parameters.length) (has : argsL.toArray = as')
    (hstack : g.stack = argsL.reverse ++ rest) (hW : 2 * g.monitorRoom + (rest.map fun v => v.category).sum ≤ W) (hd : decode c.code g.pc = .ok (.invokestatic index, 3)) (hc : C + rm.cells ≤ R.cells) (hs : S + rm.slots ≤ R.slots)
    (k : ∀ T', own_Sd p l e R s m args below meth c n0 T' h (C + rm.cells) (S + rm.slots) → own_Go p e below P (T'.setTop { g with pc := g.pc + 3, stack := r.toList ++ rest })) : own_Go p e below P (T.setTop g) :=
  own_callS X hx hZ hown w1 w2 w3 w4 hy hM hf hlo hg hsize hlen has hstack hW hd hc hs fun v T' h' X' q => by
    obtain ⟨e1, e2⟩ := q; rw [e1]; rw [e2] at X'; exact k T' X'
theorem own_callVp (X : own_Sd p l e R s m args below meth c n0 T h C S) (hx : p.tables.exec = Jvm.exec) (hZ : Z.Warmed39 s.vm) {own K : String} {index : Nat} {y : MethodName} {bytes : ByteArray} {maxL : Nat} {ret : Option FieldType} (hown : s.vm.findClass own = some m.cls)
    (w1 : (Cond.methodLink own index y).before a0 Z = true) (w2 : (Cond.declares y).before a0 Z = true) (w5 : (Cond.selects K y y).before a0 Z = true) (w6 : (Cond.instanceMethod y).before a0 Z = true) (w3 : (Cond.initialized y.cls).before a0 Z = true) (w4 : (Cond.code y bytes maxL ret).before a0 Z = true) (hy : y.cls ≠ "java/lang/invoke/MethodHandle" ∧ y.cls ≠ "java/lang/invoke/VarHandle")
    {a : Addr} (E : Exa Z h a K) {rm : Room} {as' : Array Value} {r : Option Value} (hM : own_Met l Z y bytes maxL ret rm as' h n0 (fun v' h' => v' = r ∧ h' = h)) (hf : rm.frames + 1 ≤ R.frames) {W : Nat} (hlo : W + (maxL + 11) + rm.locals ≤ R.locals) {g : JFrame} (hg : g.method = m) (hsize : g.locals.size = c.maxLocals) {argsL rest : List Value} (hlen : ∀ sig, parseMethodDescriptor y.desc = some sig → argsL.length = sig.parameters.length) (has : (.ref a :: argsL).toArray = as')
    (hstack : g.stack = argsL.reverse ++ .ref a :: rest) (hW : 2 * g.monitorRoom + (rest.map fun v => v.category).sum ≤ W) (hd : decode c.code g.pc = .ok (.invokevirtual index, 3)) (hc : C + rm.cells ≤ R.cells) (hs : S + rm.slots ≤ R.slots)
    (k : ∀ T', own_Sd p l e R s m args below meth c n0 T' h (C + rm.cells) (S + rm.slots) → own_Go p e below P (T'.setTop { g with pc := g.pc + 3, stack := r.toList ++ rest })) : own_Go p e below P (T.setTop g) :=
  own_callV X hx hZ hown w1 w2 w5 w6 w3 w4 hy E hM hf hlo hg hsize hlen has hstack hW hd hc hs fun v T' h' X' q => by
    obtain ⟨e1, e2⟩ := q; rw [e1]; rw [e2] at X'; exact k T' X'
theorem own_callCp (X : own_Sd p l e R s m args below meth c n0 T h C S) (hx : p.tables.exec = Jvm.exec) (hZ : Z.Warmed39 s.vm) {own : String} {index : Nat} {y : MethodName} {bytes : ByteArray} {maxL : Nat} (hy1 : y.name = "<init>") (hown : s.vm.findClass own = some m.cls)
    (w1 : (Cond.methodLink own index y).before a0 Z = true) (w2 : (Cond.instanceMethod y).before a0 Z = true) (w3 : (Cond.initialized y.cls).before a0 Z = true) (w4 : (Cond.code y bytes maxL none).before a0 Z = true) (hy : y.cls ≠ "java/lang/invoke/MethodHandle" ∧ y.cls ≠ "java/lang/invoke/VarHandle")
    {rm : Room} {as' : Array Value} {r : Option Value} (hM : own_Met l Z y bytes maxL none rm as' h n0 (fun v' h' => v' = r ∧ h' = h)) (hf : rm.frames + 1 ≤ R.frames) {W : Nat} (hlo : W + (maxL + 11) + rm.locals ≤ R.locals) {g : JFrame} (hg : g.method = m) (hsize : g.locals.size = c.maxLocals) {a : Addr} {argsL rest : List Value} (hlen : ∀ sig, parseMethodDescriptor y.desc = some sig → argsL.length = sig.parameters.length) (has : (.ref a :: argsL).toArray = as')
    (hstack : g.stack = argsL.reverse ++ .ref a :: rest) (hW : 2 * g.monitorRoom + (rest.map fun v => v.category).sum ≤ W) (hd : decode c.code g.pc = .ok (.invokespecial index, 3)) (hc : C + rm.cells ≤ R.cells) (hs : S + rm.slots ≤ R.slots)
    (k : ∀ T', own_Sd p l e R s m args below meth c n0 T' h (C + rm.cells) (S + rm.slots) → own_Go p e below P (T'.setTop { g with pc := g.pc + 3, stack := r.toList ++ rest })) : own_Go p e below P (T.setTop g) :=
  own_callC X hx hZ hy1 hown w1 w2 w3 w4 hy hM hf hlo hg hsize hlen has hstack hW hd hc hs fun v T' h' X' q => by
    obtain ⟨e1, e2⟩ := q; rw [e1]; rw [e2] at X'; exact k T' X'
theorem own_callPp (X : own_Sd p l e R s m args below meth c n0 T h C S) (hx : p.tables.exec = Jvm.exec) (hZ : Z.Warmed39 s.vm) {own K K' : String} {index : Nat} {y y' : MethodName} {bytes : ByteArray} {maxL : Nat} {ret : Option FieldType} (hown : s.vm.findClass own = some m.cls)
    (w1 : (Cond.methodLink own index y).before a0 Z = true) (w7 : (Cond.privateMethod y).before a0 Z = true) (w5 : (Cond.selects K y' y').before a0 Z = true) (hyy : y'.cls = y.cls) (w6 : (Cond.instanceMethod y).before a0 Z = true) (w3 : (Cond.initialized y.cls).before a0 Z = true) (w4 : (Cond.code y bytes maxL ret).before a0 Z = true) (hy : y.cls ≠ "java/lang/invoke/MethodHandle" ∧ y.cls ≠ "java/lang/invoke/VarHandle")
    {a : Addr} (E : Exa Z h a K') {rm : Room} {as' : Array Value} {r : Option Value} (hM : own_Met l Z y bytes maxL ret rm as' h n0 (fun v' h' => v' = r ∧ h' = h)) (hf : rm.frames + 1 ≤ R.frames) {W : Nat} (hlo : W + (maxL + 11) + rm.locals ≤ R.locals) {g : JFrame} (hg : g.method = m) (hsize : g.locals.size = c.maxLocals) {argsL rest : List Value} (hlen : ∀ sig, parseMethodDescriptor y.desc = some sig → argsL.length = sig.parameters.length) (has : (.ref a :: argsL).toArray = as')
    (hstack : g.stack = argsL.reverse ++ .ref a :: rest) (hW : 2 * g.monitorRoom + (rest.map fun v => v.category).sum ≤ W) (hd : decode c.code g.pc = .ok (.invokevirtual index, 3)) (hc : C + rm.cells ≤ R.cells) (hs : S + rm.slots ≤ R.slots)
    (k : ∀ T', own_Sd p l e R s m args below meth c n0 T' h (C + rm.cells) (S + rm.slots) → own_Go p e below P (T'.setTop { g with pc := g.pc + 3, stack := r.toList ++ rest })) : own_Go p e below P (T.setTop g) :=
  own_callP X hx hZ hown w1 w7 w5 hyy w6 w3 w4 hy E hM hf hlo hg hsize hlen has hstack hW hd hc hs fun v T' h' X' q => by
    obtain ⟨e1, e2⟩ := q; rw [e1]; rw [e2] at X'; exact k T' X'
end Own
section OwnS
variable {p : Program} {l : Launch} {e : Env} {R : Room} {s : State} {m : MethodId} {args : Array Value} {below : List Frame} {meth : Method} {c : Code} {T : State} {n0 C S : Nat} {Z : State} {a0 : Array Value} {h h' : Heap} {P : State → Outcome → Prop} {Q : Option Value → Heap → Prop} {a b : Addr} {ty : FieldType} {vs : List Value} {v : Value} {sl i : Nat}
variable {bytes : ByteArray} {maxL : Nat} {y : MethodName} {ret : Option FieldType} {pc : Nat} {Ls Ls' : Array Slot} {st : List Value}
theorem o_w (hw : ∀ d ∈ tables_1, d.before a0 Z = true) (i : Nat) {d : Jvm.Cond} (q : tables_1[i]? = some d) : d.before a0 Z = true := hw d (List.mem_of_getElem? q)
theorem o_iload (cx : own_Cx p s m meth c Z bytes maxL y ret) (X : own_Sd p l e R s m args below meth c n0 T h C S) {k : Nat} {z : Int32} (hd : decode bytes pc = .ok (.iload k, 2)) (hl : Ls[k]? = some (.val (.int z))) (k : own_Go p e below P (T.setTop (mkF m (pc + 2) Ls (.int z :: st)))) : own_Go p e below P (T.setTop (mkF m pc Ls st)) := by
  obtain ⟨hx, hby, -⟩ := cx
  exact own_st (fun _ q => XS.iload X.here hx rfl (hb hby hd) hl q) k
theorem o_lload (cx : own_Cx p s m meth c Z bytes maxL y ret) (X : own_Sd p l e R s m args below meth c n0 T h C S) {k : Nat} {z : Int64} (hd : decode bytes pc = .ok (.lload k, 2)) (hl : Ls[k]? = some (.val (.long z))) (k : own_Go p e below P (T.setTop (mkF m (pc + 2) Ls (.long z :: st)))) : own_Go p e below P (T.setTop (mkF m pc Ls st)) := by
  obtain ⟨hx, hby, -⟩ := cx
  exact own_st (fun _ q => XS.lload X.here hx rfl (hb hby hd) hl q) k
theorem o_aload (cx : own_Cx p s m meth c Z bytes maxL y ret) (X : own_Sd p l e R s m args below meth c n0 T h C S) {k : Nat} {v : Value} (hd : decode bytes pc = .ok (.aload k, 2)) (hl : Ls[k]? = some (.val v)) (hv : v.isRef = true) (k : own_Go p e below P (T.setTop (mkF m (pc + 2) Ls (v :: st)))) : own_Go p e below P (T.setTop (mkF m pc Ls st)) := by
  obtain ⟨hx, hby, -⟩ := cx
  exact own_st (fun _ q => XS.aload X.here hx rfl (hb hby hd) hl hv q) k
theorem o_istore (cx : own_Cx p s m meth c Z bytes maxL y ret) (X : own_Sd p l e R s m args below meth c n0 T h C S) {k : Nat} {z : Int32} (hd : decode bytes pc = .ok (.istore k, 2)) (hl : storeLocals Ls k (.int z) = some Ls') (k : own_Go p e below P (T.setTop (mkF m (pc + 2) Ls' st))) : own_Go p e below P (T.setTop (mkF m pc Ls (.int z :: st))) := by
  obtain ⟨hx, hby, -⟩ := cx
  exact own_st (fun _ q => XS.istore X.here hx rfl (hb hby hd) rfl hl q) k
theorem o_lstore (cx : own_Cx p s m meth c Z bytes maxL y ret) (X : own_Sd p l e R s m args below meth c n0 T h C S) {k : Nat} {z : Int64} (hd : decode bytes pc = .ok (.lstore k, 2)) (hl : storeLocals Ls k (.long z) = some Ls') (k : own_Go p e below P (T.setTop (mkF m (pc + 2) Ls' st))) : own_Go p e below P (T.setTop (mkF m pc Ls (.long z :: st))) := by
  obtain ⟨hx, hby, -⟩ := cx
  exact own_st (fun _ q => XS.lstore X.here hx rfl (hb hby hd) rfl hl q) k
theorem o_astore (cx : own_Cx p s m meth c Z bytes maxL y ret) (X : own_Sd p l e R s m args below meth c n0 T h C S) {k : Nat} {v : Value} (hd : decode bytes pc = .ok (.astore k, 2)) (hv : v.isRef = true) (hl : storeLocals Ls k v = some Ls') (k : own_Go p e below P (T.setTop (mkF m (pc + 2) Ls' st))) : own_Go p e below P (T.setTop (mkF m pc Ls (v :: st))) := by
  obtain ⟨hx, hby, -⟩ := cx
  exact own_st (fun _ q => XS.astore X.here hx rfl (hb hby hd) rfl hv hl q) k
theorem o_iloadN (cx : own_Cx p s m meth c Z bytes maxL y ret) (X : own_Sd p l e R s m args below meth c n0 T h C S) {k : Fin 4} {z : Int32} (hd : decode bytes pc = .ok (.iload_n k, 1)) (hl : Ls[k.val]? = some (.val (.int z))) (k : own_Go p e below P (T.setTop (mkF m (pc + 1) Ls (.int z :: st)))) : own_Go p e below P (T.setTop (mkF m pc Ls st)) := by
  obtain ⟨hx, hby, -⟩ := cx
  exact own_st (fun _ q => XS.iloadN X.here hx rfl (hb hby hd) hl q) k
theorem o_lloadN (cx : own_Cx p s m meth c Z bytes maxL y ret) (X : own_Sd p l e R s m args below meth c n0 T h C S) {k : Fin 4} {z : Int64} (hd : decode bytes pc = .ok (.lload_n k, 1)) (hl : Ls[k.val]? = some (.val (.long z))) (k : own_Go p e below P (T.setTop (mkF m (pc + 1) Ls (.long z :: st)))) : own_Go p e below P (T.setTop (mkF m pc Ls st)) := by
  obtain ⟨hx, hby, -⟩ := cx
  exact own_st (fun _ q => XS.lloadN X.here hx rfl (hb hby hd) hl q) k
theorem o_aloadN (cx : own_Cx p s m meth c Z bytes maxL y ret) (X : own_Sd p l e R s m args below meth c n0 T h C S) {k : Fin 4} {v : Value} (hd : decode bytes pc = .ok (.aload_n k, 1)) (hl : Ls[k.val]? = some (.val v)) (hv : v.isRef = true) (k : own_Go p e below P (T.setTop (mkF m (pc + 1) Ls (v :: st)))) : own_Go p e below P (T.setTop (mkF m pc Ls st)) := by
  obtain ⟨hx, hby, -⟩ := cx
  exact own_st (fun _ q => XS.aloadN X.here hx rfl (hb hby hd) hl hv q) k
theorem o_istoreN (cx : own_Cx p s m meth c Z bytes maxL y ret) (X : own_Sd p l e R s m args below meth c n0 T h C S) {k : Fin 4} {z : Int32} (hd : decode bytes pc = .ok (.istore_n k, 1)) (hl : storeLocals Ls k.val (.int z) = some Ls') (k : own_Go p e below P (T.setTop (mkF m (pc + 1) Ls' st))) : own_Go p e below P (T.setTop (mkF m pc Ls (.int z :: st))) := by
  obtain ⟨hx, hby, -⟩ := cx
  exact own_st (fun _ q => XS.istoreN X.here hx rfl (hb hby hd) rfl hl q) k
theorem o_lstoreN (cx : own_Cx p s m meth c Z bytes maxL y ret) (X : own_Sd p l e R s m args below meth c n0 T h C S) {k : Fin 4} {z : Int64} (hd : decode bytes pc = .ok (.lstore_n k, 1)) (hl : storeLocals Ls k.val (.long z) = some Ls') (k : own_Go p e below P (T.setTop (mkF m (pc + 1) Ls' st))) : own_Go p e below P (T.setTop (mkF m pc Ls (.long z :: st))) := by
  obtain ⟨hx, hby, -⟩ := cx
  exact own_st (fun _ q => XS.lstoreN X.here hx rfl (hb hby hd) rfl hl q) k
theorem o_astoreN (cx : own_Cx p s m meth c Z bytes maxL y ret) (X : own_Sd p l e R s m args below meth c n0 T h C S) {k : Fin 4} {v : Value} (hd : decode bytes pc = .ok (.astore_n k, 1)) (hv : v.isRef = true) (hl : storeLocals Ls k.val v = some Ls') (k : own_Go p e below P (T.setTop (mkF m (pc + 1) Ls' st))) : own_Go p e below P (T.setTop (mkF m pc Ls (v :: st))) := by
  obtain ⟨hx, hby, -⟩ := cx
  exact own_st (fun _ q => XS.astoreN X.here hx rfl (hb hby hd) rfl hv hl q) k
theorem o_iconst (cx : own_Cx p s m meth c Z bytes maxL y ret) (X : own_Sd p l e R s m args below meth c n0 T h C S) {i : Int} {z : Int32} (hd : decode bytes pc = .ok (.iconst i, 1)) (hz : Int32.ofInt i = z) (k : own_Go p e below P (T.setTop (mkF m (pc + 1) Ls (.int z :: st)))) : own_Go p e below P (T.setTop (mkF m pc Ls st)) := by
  obtain ⟨hx, hby, -⟩ := cx
  exact own_st (fun _ q => XS.iconst X.here hx rfl (hb hby hd) (by rw [hz]; exact q)) k
theorem o_bipush (cx : own_Cx p s m meth c Z bytes maxL y ret) (X : own_Sd p l e R s m args below meth c n0 T h C S) {i : Int} {z : Int32} (hd : decode bytes pc = .ok (.bipush i, 2)) (hz : (Int8.ofInt i).toInt32 = z) (k : own_Go p e below P (T.setTop (mkF m (pc + 2) Ls (.int z :: st)))) : own_Go p e below P (T.setTop (mkF m pc Ls st)) := by
  obtain ⟨hx, hby, -⟩ := cx
  exact own_st (fun _ q => XS.bipush X.here hx rfl (hb hby hd) (by rw [hz]; exact q)) k
theorem o_sipush (cx : own_Cx p s m meth c Z bytes maxL y ret) (X : own_Sd p l e R s m args below meth c n0 T h C S) {i : Int} {z : Int32} (hd : decode bytes pc = .ok (.sipush i, 3)) (hz : (Int16.ofInt i).toInt32 = z) (k : own_Go p e below P (T.setTop (mkF m (pc + 3) Ls (.int z :: st)))) : own_Go p e below P (T.setTop (mkF m pc Ls st)) := by
  obtain ⟨hx, hby, -⟩ := cx
  exact own_st (fun _ q => XS.sipush X.here hx rfl (hb hby hd) (by rw [hz]; exact q)) k
theorem o_lconst (cx : own_Cx p s m meth c Z bytes maxL y ret) (X : own_Sd p l e R s m args below meth c n0 T h C S) {j : Fin 2} {z : Int64} (hd : decode bytes pc = .ok (.lconst j, 1)) (hz : Int64.ofNat j = z) (k : own_Go p e below P (T.setTop (mkF m (pc + 1) Ls (.long z :: st)))) : own_Go p e below P (T.setTop (mkF m pc Ls st)) := by
  obtain ⟨hx, hby, -⟩ := cx
  exact own_st (fun _ q => XS.lconst X.here hx rfl (hb hby hd) (by rw [hz]; exact q)) k
theorem o_aconst_null (cx : own_Cx p s m meth c Z bytes maxL y ret) (X : own_Sd p l e R s m args below meth c n0 T h C S)  (hd : decode bytes pc = .ok (.aconst_null, 1))  (k : own_Go p e below P (T.setTop (mkF m (pc + 1) Ls (.null :: st)))) : own_Go p e below P (T.setTop (mkF m pc Ls st)) := by
  obtain ⟨hx, hby, -⟩ := cx
  exact own_st (fun _ q => XS.aconstNull X.here hx rfl (hb hby hd) q) k
theorem o_iadd (cx : own_Cx p s m meth c Z bytes maxL y ret) (X : own_Sd p l e R s m args below meth c n0 T h C S) {x w z : Int32} (hd : decode bytes pc = .ok (.iadd, 1)) (hz : (x + w) = z) (k : own_Go p e below P (T.setTop (mkF m (pc + 1) Ls (.int z :: st)))) : own_Go p e below P (T.setTop (mkF m pc Ls (.int w :: .int x :: st))) := by
  obtain ⟨hx, hby, -⟩ := cx
  exact own_st (fun _ q => XS.iadd X.here hx rfl (hb hby hd) rfl (by rw [hz]; exact q)) k
theorem o_isub (cx : own_Cx p s m meth c Z bytes maxL y ret) (X : own_Sd p l e R s m args below meth c n0 T h C S) {x w z : Int32} (hd : decode bytes pc = .ok (.isub, 1)) (hz : (x - w) = z) (k : own_Go p e below P (T.setTop (mkF m (pc + 1) Ls (.int z :: st)))) : own_Go p e below P (T.setTop (mkF m pc Ls (.int w :: .int x :: st))) := by
  obtain ⟨hx, hby, -⟩ := cx
  exact own_st (fun _ q => XS.isub X.here hx rfl (hb hby hd) rfl (by rw [hz]; exact q)) k
theorem o_imul (cx : own_Cx p s m meth c Z bytes maxL y ret) (X : own_Sd p l e R s m args below meth c n0 T h C S) {x w z : Int32} (hd : decode bytes pc = .ok (.imul, 1)) (hz : (x * w) = z) (k : own_Go p e below P (T.setTop (mkF m (pc + 1) Ls (.int z :: st)))) : own_Go p e below P (T.setTop (mkF m pc Ls (.int w :: .int x :: st))) := by
  obtain ⟨hx, hby, -⟩ := cx
  exact own_st (fun _ q => XS.imul X.here hx rfl (hb hby hd) rfl (by rw [hz]; exact q)) k
theorem o_iand (cx : own_Cx p s m meth c Z bytes maxL y ret) (X : own_Sd p l e R s m args below meth c n0 T h C S) {x w z : Int32} (hd : decode bytes pc = .ok (.iand, 1)) (hz : (x &&& w) = z) (k : own_Go p e below P (T.setTop (mkF m (pc + 1) Ls (.int z :: st)))) : own_Go p e below P (T.setTop (mkF m pc Ls (.int w :: .int x :: st))) := by
  obtain ⟨hx, hby, -⟩ := cx
  exact own_st (fun _ q => XS.iand X.here hx rfl (hb hby hd) rfl (by rw [hz]; exact q)) k
theorem o_ior (cx : own_Cx p s m meth c Z bytes maxL y ret) (X : own_Sd p l e R s m args below meth c n0 T h C S) {x w z : Int32} (hd : decode bytes pc = .ok (.ior, 1)) (hz : (x ||| w) = z) (k : own_Go p e below P (T.setTop (mkF m (pc + 1) Ls (.int z :: st)))) : own_Go p e below P (T.setTop (mkF m pc Ls (.int w :: .int x :: st))) := by
  obtain ⟨hx, hby, -⟩ := cx
  exact own_st (fun _ q => XS.ior X.here hx rfl (hb hby hd) rfl (by rw [hz]; exact q)) k
theorem o_ixor (cx : own_Cx p s m meth c Z bytes maxL y ret) (X : own_Sd p l e R s m args below meth c n0 T h C S) {x w z : Int32} (hd : decode bytes pc = .ok (.ixor, 1)) (hz : (x ^^^ w) = z) (k : own_Go p e below P (T.setTop (mkF m (pc + 1) Ls (.int z :: st)))) : own_Go p e below P (T.setTop (mkF m pc Ls (.int w :: .int x :: st))) := by
  obtain ⟨hx, hby, -⟩ := cx
  exact own_st (fun _ q => XS.ixor X.here hx rfl (hb hby hd) rfl (by rw [hz]; exact q)) k
theorem o_ishl (cx : own_Cx p s m meth c Z bytes maxL y ret) (X : own_Sd p l e R s m args below meth c n0 T h C S) {x w z : Int32} (hd : decode bytes pc = .ok (.ishl, 1)) (hz : (x <<< (w &&& 31)) = z) (k : own_Go p e below P (T.setTop (mkF m (pc + 1) Ls (.int z :: st)))) : own_Go p e below P (T.setTop (mkF m pc Ls (.int w :: .int x :: st))) := by
  obtain ⟨hx, hby, -⟩ := cx
  exact own_st (fun _ q => XS.ishl X.here hx rfl (hb hby hd) rfl (by rw [hz]; exact q)) k
theorem o_ishr (cx : own_Cx p s m meth c Z bytes maxL y ret) (X : own_Sd p l e R s m args below meth c n0 T h C S) {x w z : Int32} (hd : decode bytes pc = .ok (.ishr, 1)) (hz : (x >>> (w &&& 31)) = z) (k : own_Go p e below P (T.setTop (mkF m (pc + 1) Ls (.int z :: st)))) : own_Go p e below P (T.setTop (mkF m pc Ls (.int w :: .int x :: st))) := by
  obtain ⟨hx, hby, -⟩ := cx
  exact own_st (fun _ q => XS.ishr X.here hx rfl (hb hby hd) rfl (by rw [hz]; exact q)) k
theorem o_iushr (cx : own_Cx p s m meth c Z bytes maxL y ret) (X : own_Sd p l e R s m args below meth c n0 T h C S) {x w z : Int32} (hd : decode bytes pc = .ok (.iushr, 1)) (hz : ((x.toUInt32 >>> (w &&& 31).toUInt32).toInt32) = z) (k : own_Go p e below P (T.setTop (mkF m (pc + 1) Ls (.int z :: st)))) : own_Go p e below P (T.setTop (mkF m pc Ls (.int w :: .int x :: st))) := by
  obtain ⟨hx, hby, -⟩ := cx
  exact own_st (fun _ q => XS.iushr X.here hx rfl (hb hby hd) rfl (by rw [hz]; exact q)) k
theorem o_ladd (cx : own_Cx p s m meth c Z bytes maxL y ret) (X : own_Sd p l e R s m args below meth c n0 T h C S) {x w z : Int64} (hd : decode bytes pc = .ok (.ladd, 1)) (hz : (x + w) = z) (k : own_Go p e below P (T.setTop (mkF m (pc + 1) Ls (.long z :: st)))) : own_Go p e below P (T.setTop (mkF m pc Ls (.long w :: .long x :: st))) := by
  obtain ⟨hx, hby, -⟩ := cx
  exact own_st (fun _ q => XS.ladd X.here hx rfl (hb hby hd) rfl (by rw [hz]; exact q)) k
theorem o_lsub (cx : own_Cx p s m meth c Z bytes maxL y ret) (X : own_Sd p l e R s m args below meth c n0 T h C S) {x w z : Int64} (hd : decode bytes pc = .ok (.lsub, 1)) (hz : (x - w) = z) (k : own_Go p e below P (T.setTop (mkF m (pc + 1) Ls (.long z :: st)))) : own_Go p e below P (T.setTop (mkF m pc Ls (.long w :: .long x :: st))) := by
  obtain ⟨hx, hby, -⟩ := cx
  exact own_st (fun _ q => XS.lsub X.here hx rfl (hb hby hd) rfl (by rw [hz]; exact q)) k
theorem o_lmul (cx : own_Cx p s m meth c Z bytes maxL y ret) (X : own_Sd p l e R s m args below meth c n0 T h C S) {x w z : Int64} (hd : decode bytes pc = .ok (.lmul, 1)) (hz : (x * w) = z) (k : own_Go p e below P (T.setTop (mkF m (pc + 1) Ls (.long z :: st)))) : own_Go p e below P (T.setTop (mkF m pc Ls (.long w :: .long x :: st))) := by
  obtain ⟨hx, hby, -⟩ := cx
  exact own_st (fun _ q => XS.lmul X.here hx rfl (hb hby hd) rfl (by rw [hz]; exact q)) k
theorem o_land (cx : own_Cx p s m meth c Z bytes maxL y ret) (X : own_Sd p l e R s m args below meth c n0 T h C S) {x w z : Int64} (hd : decode bytes pc = .ok (.land, 1)) (hz : (x &&& w) = z) (k : own_Go p e below P (T.setTop (mkF m (pc + 1) Ls (.long z :: st)))) : own_Go p e below P (T.setTop (mkF m pc Ls (.long w :: .long x :: st))) := by
  obtain ⟨hx, hby, -⟩ := cx
  exact own_st (fun _ q => XS.land X.here hx rfl (hb hby hd) rfl (by rw [hz]; exact q)) k
theorem o_lor (cx : own_Cx p s m meth c Z bytes maxL y ret) (X : own_Sd p l e R s m args below meth c n0 T h C S) {x w z : Int64} (hd : decode bytes pc = .ok (.lor, 1)) (hz : (x ||| w) = z) (k : own_Go p e below P (T.setTop (mkF m (pc + 1) Ls (.long z :: st)))) : own_Go p e below P (T.setTop (mkF m pc Ls (.long w :: .long x :: st))) := by
  obtain ⟨hx, hby, -⟩ := cx
  exact own_st (fun _ q => XS.lor X.here hx rfl (hb hby hd) rfl (by rw [hz]; exact q)) k
theorem o_lxor (cx : own_Cx p s m meth c Z bytes maxL y ret) (X : own_Sd p l e R s m args below meth c n0 T h C S) {x w z : Int64} (hd : decode bytes pc = .ok (.lxor, 1)) (hz : (x ^^^ w) = z) (k : own_Go p e below P (T.setTop (mkF m (pc + 1) Ls (.long z :: st)))) : own_Go p e below P (T.setTop (mkF m pc Ls (.long w :: .long x :: st))) := by
  obtain ⟨hx, hby, -⟩ := cx
  exact own_st (fun _ q => XS.lxor X.here hx rfl (hb hby hd) rfl (by rw [hz]; exact q)) k
theorem o_lshl (cx : own_Cx p s m meth c Z bytes maxL y ret) (X : own_Sd p l e R s m args below meth c n0 T h C S) {x : Int64} {w : Int32} {z : Int64} (hd : decode bytes pc = .ok (.lshl, 1)) (hz : (x <<< (w &&& 0x3f).toInt64) = z) (k : own_Go p e below P (T.setTop (mkF m (pc + 1) Ls (.long z :: st)))) : own_Go p e below P (T.setTop (mkF m pc Ls (.int w :: .long x :: st))) := by
  obtain ⟨hx, hby, -⟩ := cx
  exact own_st (fun _ q => XS.lshl X.here hx rfl (hb hby hd) rfl (by rw [hz]; exact q)) k
theorem o_lshr (cx : own_Cx p s m meth c Z bytes maxL y ret) (X : own_Sd p l e R s m args below meth c n0 T h C S) {x : Int64} {w : Int32} {z : Int64} (hd : decode bytes pc = .ok (.lshr, 1)) (hz : (x >>> (w &&& 0x3f).toInt64) = z) (k : own_Go p e below P (T.setTop (mkF m (pc + 1) Ls (.long z :: st)))) : own_Go p e below P (T.setTop (mkF m pc Ls (.int w :: .long x :: st))) := by
  obtain ⟨hx, hby, -⟩ := cx
  exact own_st (fun _ q => XS.lshr X.here hx rfl (hb hby hd) rfl (by rw [hz]; exact q)) k
theorem o_lushr (cx : own_Cx p s m meth c Z bytes maxL y ret) (X : own_Sd p l e R s m args below meth c n0 T h C S) {x : Int64} {w : Int32} {z : Int64} (hd : decode bytes pc = .ok (.lushr, 1)) (hz : ((x.toUInt64 >>> (w &&& 0x3f).toInt64.toUInt64).toInt64) = z) (k : own_Go p e below P (T.setTop (mkF m (pc + 1) Ls (.long z :: st)))) : own_Go p e below P (T.setTop (mkF m pc Ls (.int w :: .long x :: st))) := by
  obtain ⟨hx, hby, -⟩ := cx
  exact own_st (fun _ q => XS.lushr X.here hx rfl (hb hby hd) rfl (by rw [hz]; exact q)) k
theorem o_ineg (cx : own_Cx p s m meth c Z bytes maxL y ret) (X : own_Sd p l e R s m args below meth c n0 T h C S) {x : Int32} {z : Int32} (hd : decode bytes pc = .ok (.ineg, 1)) (hz : (-x) = z) (k : own_Go p e below P (T.setTop (mkF m (pc + 1) Ls (.int z :: st)))) : own_Go p e below P (T.setTop (mkF m pc Ls (.int x :: st))) := by
  obtain ⟨hx, hby, -⟩ := cx
  exact own_st (fun _ q => XS.ineg X.here hx rfl (hb hby hd) rfl (by rw [hz]; exact q)) k
theorem o_lneg (cx : own_Cx p s m meth c Z bytes maxL y ret) (X : own_Sd p l e R s m args below meth c n0 T h C S) {x : Int64} {z : Int64} (hd : decode bytes pc = .ok (.lneg, 1)) (hz : (-x) = z) (k : own_Go p e below P (T.setTop (mkF m (pc + 1) Ls (.long z :: st)))) : own_Go p e below P (T.setTop (mkF m pc Ls (.long x :: st))) := by
  obtain ⟨hx, hby, -⟩ := cx
  exact own_st (fun _ q => XS.lneg X.here hx rfl (hb hby hd) rfl (by rw [hz]; exact q)) k
theorem o_i2l (cx : own_Cx p s m meth c Z bytes maxL y ret) (X : own_Sd p l e R s m args below meth c n0 T h C S) {x : Int32} {z : Int64} (hd : decode bytes pc = .ok (.i2l, 1)) (hz : (x.toInt64) = z) (k : own_Go p e below P (T.setTop (mkF m (pc + 1) Ls (.long z :: st)))) : own_Go p e below P (T.setTop (mkF m pc Ls (.int x :: st))) := by
  obtain ⟨hx, hby, -⟩ := cx
  exact own_st (fun _ q => XS.i2l X.here hx rfl (hb hby hd) rfl (by rw [hz]; exact q)) k
theorem o_l2i (cx : own_Cx p s m meth c Z bytes maxL y ret) (X : own_Sd p l e R s m args below meth c n0 T h C S) {x : Int64} {z : Int32} (hd : decode bytes pc = .ok (.l2i, 1)) (hz : (x.toInt32) = z) (k : own_Go p e below P (T.setTop (mkF m (pc + 1) Ls (.int z :: st)))) : own_Go p e below P (T.setTop (mkF m pc Ls (.long x :: st))) := by
  obtain ⟨hx, hby, -⟩ := cx
  exact own_st (fun _ q => XS.l2i X.here hx rfl (hb hby hd) rfl (by rw [hz]; exact q)) k
theorem o_i2b (cx : own_Cx p s m meth c Z bytes maxL y ret) (X : own_Sd p l e R s m args below meth c n0 T h C S) {x : Int32} {z : Int32} (hd : decode bytes pc = .ok (.i2b, 1)) (hz : (x.toInt8.toInt32) = z) (k : own_Go p e below P (T.setTop (mkF m (pc + 1) Ls (.int z :: st)))) : own_Go p e below P (T.setTop (mkF m pc Ls (.int x :: st))) := by
  obtain ⟨hx, hby, -⟩ := cx
  exact own_st (fun _ q => XS.i2b X.here hx rfl (hb hby hd) rfl (by rw [hz]; exact q)) k
theorem o_i2s (cx : own_Cx p s m meth c Z bytes maxL y ret) (X : own_Sd p l e R s m args below meth c n0 T h C S) {x : Int32} {z : Int32} (hd : decode bytes pc = .ok (.i2s, 1)) (hz : (x.toInt16.toInt32) = z) (k : own_Go p e below P (T.setTop (mkF m (pc + 1) Ls (.int z :: st)))) : own_Go p e below P (T.setTop (mkF m pc Ls (.int x :: st))) := by
  obtain ⟨hx, hby, -⟩ := cx
  exact own_st (fun _ q => XS.i2s X.here hx rfl (hb hby hd) rfl (by rw [hz]; exact q)) k
theorem o_i2c (cx : own_Cx p s m meth c Z bytes maxL y ret) (X : own_Sd p l e R s m args below meth c n0 T h C S) {x : Int32} {z : Int32} (hd : decode bytes pc = .ok (.i2c, 1)) (hz : (x.toUInt32.toUInt16.toUInt32.toInt32) = z) (k : own_Go p e below P (T.setTop (mkF m (pc + 1) Ls (.int z :: st)))) : own_Go p e below P (T.setTop (mkF m pc Ls (.int x :: st))) := by
  obtain ⟨hx, hby, -⟩ := cx
  exact own_st (fun _ q => XS.i2c X.here hx rfl (hb hby hd) rfl (by rw [hz]; exact q)) k
theorem o_lcmp (cx : own_Cx p s m meth c Z bytes maxL y ret) (X : own_Sd p l e R s m args below meth c n0 T h C S) {x w : Int64} {z : Int32} (hd : decode bytes pc = .ok (.lcmp, 1)) (hz : lcmpW x w = z) (k : own_Go p e below P (T.setTop (mkF m (pc + 1) Ls (.int z :: st)))) : own_Go p e below P (T.setTop (mkF m pc Ls (.long w :: .long x :: st))) := by
  obtain ⟨hx, hby, -⟩ := cx
  exact own_st (fun _ q => XS.lcmp X.here hx rfl (hb hby hd) rfl (by rw [← hz] at q; exact q)) k
theorem o_irem (cx : own_Cx p s m meth c Z bytes maxL y ret) (X : own_Sd p l e R s m args below meth c n0 T h C S) {x w z : Int32} (hd : decode bytes pc = .ok (.irem, 1)) (hw : w ≠ 0) (hz : x % w = z) (k : own_Go p e below P (T.setTop (mkF m (pc + 1) Ls (.int z :: st)))) : own_Go p e below P (T.setTop (mkF m pc Ls (.int w :: .int x :: st))) := by
  obtain ⟨hx, hby, -⟩ := cx
  exact own_st (fun _ q => by obtain ⟨_, X, _⟩ := X; exact iremM X hx rfl (hb hby hd) rfl hw (by rw [hz]; exact q)) k
theorem o_lrem (cx : own_Cx p s m meth c Z bytes maxL y ret) (X : own_Sd p l e R s m args below meth c n0 T h C S) {x w z : Int64} (hd : decode bytes pc = .ok (.lrem, 1)) (hw : w ≠ 0) (hz : x % w = z) (k : own_Go p e below P (T.setTop (mkF m (pc + 1) Ls (.long z :: st)))) : own_Go p e below P (T.setTop (mkF m pc Ls (.long w :: .long x :: st))) := by
  obtain ⟨hx, hby, -⟩ := cx
  exact own_st (fun _ q => XS.lrem X.here hx rfl (hb hby hd) rfl hw (by rw [lrem_mod, hz]; exact q)) k
theorem o_iinc (cx : own_Cx p s m meth c Z bytes maxL y ret) (X : own_Sd p l e R s m args below meth c n0 T h C S) {k : Nat} {i : Int} {x z : Int32} (hd : decode bytes pc = .ok (.iinc k i, 3)) (hl : Ls[k]? = some (.val (.int x))) (hz : x + Int32.ofInt i = z) (hl' : storeLocals Ls k (.int z) = some Ls') (k : own_Go p e below P (T.setTop (mkF m (pc + 3) Ls' st))) : own_Go p e below P (T.setTop (mkF m pc Ls st)) := by
  obtain ⟨hx, hby, -⟩ := cx
  exact own_st (fun _ q => XS.iinc X.here hx rfl (hb hby hd) hl (by rw [hz]; exact hl') q) k
theorem o_dup (cx : own_Cx p s m meth c Z bytes maxL y ret) (X : own_Sd p l e R s m args below meth c n0 T h C S) {v : Value} (hd : decode bytes pc = .ok (.dup, 1)) (hc : v.category = 1) (k : own_Go p e below P (T.setTop (mkF m (pc + 1) Ls (v :: v :: st)))) : own_Go p e below P (T.setTop (mkF m pc Ls (v :: st))) := by
  obtain ⟨hx, hby, -⟩ := cx
  exact own_st (fun _ q => XS.dup X.here hx rfl (hb hby hd) rfl hc q) k
theorem o_pop (cx : own_Cx p s m meth c Z bytes maxL y ret) (X : own_Sd p l e R s m args below meth c n0 T h C S) {v : Value} (hd : decode bytes pc = .ok (.pop, 1)) (hc : v.category = 1) (k : own_Go p e below P (T.setTop (mkF m (pc + 1) Ls st))) : own_Go p e below P (T.setTop (mkF m pc Ls (v :: st))) := by
  obtain ⟨hx, hby, -⟩ := cx
  exact own_st (fun _ q => XS.pop X.here hx rfl (hb hby hd) rfl hc q) k
theorem o_dup_x1 (cx : own_Cx p s m meth c Z bytes maxL y ret) (X : own_Sd p l e R s m args below meth c n0 T h C S) {v w : Value} (hd : decode bytes pc = .ok (.dup_x1, 1)) (hc : v.category = 1) (hc' : w.category = 1) (k : own_Go p e below P (T.setTop (mkF m (pc + 1) Ls (v :: w :: v :: st)))) : own_Go p e below P (T.setTop (mkF m pc Ls (v :: w :: st))) := by
  obtain ⟨hx, hby, -⟩ := cx
  exact own_st (fun _ q => XS.dupX1 X.here hx rfl (hb hby hd) rfl hc hc' q) k
theorem o_dup2 (cx : own_Cx p s m meth c Z bytes maxL y ret) (X : own_Sd p l e R s m args below meth c n0 T h C S) {v w : Value} (hd : decode bytes pc = .ok (.dup2, 1)) (hc : v.category = 1) (hc' : w.category = 1) (k : own_Go p e below P (T.setTop (mkF m (pc + 1) Ls (v :: w :: v :: w :: st)))) : own_Go p e below P (T.setTop (mkF m pc Ls (v :: w :: st))) := by
  obtain ⟨hx, hby, -⟩ := cx
  exact own_st (fun _ q => Jvm.Free.XT.dup2 X.here hx rfl (hb hby hd) rfl hc hc' q) k
theorem o_dup_x2 (cx : own_Cx p s m meth c Z bytes maxL y ret) (X : own_Sd p l e R s m args below meth c n0 T h C S) {x w z : Value} (hd : decode bytes pc = .ok (.dup_x2, 1)) (h1 : x.category = 1) (h2 : w.category = 1) (h3 : z.category = 1) (k : own_Go p e below P (T.setTop (mkF m (pc + 1) Ls (x :: w :: z :: x :: st)))) : own_Go p e below P (T.setTop (mkF m pc Ls (x :: w :: z :: st))) := by
  obtain ⟨hx, hby, -⟩ := cx
  exact own_dupX2 X hx (g := mkF m pc Ls (x :: w :: z :: st)) (hb hby hd) rfl h1 h2 h3 rfl k
theorem o_goto (cx : own_Cx p s m meth c Z bytes maxL y ret) (X : own_Sd p l e R s m args below meth c n0 T h C S) {o : Int} (n : Nat) (hd : decode bytes pc = .ok (.goto o, 3)) (ho : 0 ≤ (pc : Int) + o) (hp : ((pc : Int) + o).toNat = n) (k : own_Go p e below P (T.setTop (mkF m n Ls st))) : own_Go p e below P (T.setTop (mkF m pc Ls st)) := by
  obtain ⟨hx, hby, -⟩ := cx
  exact own_st (fun _ q => XS.goto X.here hx rfl rfl (hb hby hd) ho hp q) k
theorem o_ifYes (cx : own_Cx p s m meth c Z bytes maxL y ret) (X : own_Sd p l e R s m args below meth c n0 T h C S) {cd : ClassFile.Cond} {x : Int32} {o : Int} (n : Nat) (hd : decode bytes pc = .ok (.ifCond cd o, 3)) (hc : ifCond.holds cd x = true) (ho : 0 ≤ (pc : Int) + o) (hp : ((pc : Int) + o).toNat = n) (k : own_Go p e below P (T.setTop (mkF m n Ls st))) : own_Go p e below P (T.setTop (mkF m pc Ls (.int x :: st))) := by
  obtain ⟨hx, hby, -⟩ := cx
  exact own_st (fun _ q => XS.ifYes X.here hx rfl rfl (hb hby hd) rfl hc ho hp q) k
theorem o_ifNo (cx : own_Cx p s m meth c Z bytes maxL y ret) (X : own_Sd p l e R s m args below meth c n0 T h C S) {cd : ClassFile.Cond} {x : Int32} {o : Int} (hd : decode bytes pc = .ok (.ifCond cd o, 3)) (hc : ifCond.holds cd x = false) (k : own_Go p e below P (T.setTop (mkF m (pc + 3) Ls st))) : own_Go p e below P (T.setTop (mkF m pc Ls (.int x :: st))) := by
  obtain ⟨hx, hby, -⟩ := cx
  exact own_st (fun _ q => XS.ifNo X.here hx rfl (hb hby hd) rfl hc q) k
theorem o_icmpYes (cx : own_Cx p s m meth c Z bytes maxL y ret) (X : own_Sd p l e R s m args below meth c n0 T h C S) {cd : ClassFile.Cond} {x w : Int32} {o : Int} (n : Nat) (hd : decode bytes pc = .ok (.if_icmp cd o, 3)) (hc : if_icmp.holds cd x w = true) (ho : 0 ≤ (pc : Int) + o) (hp : ((pc : Int) + o).toNat = n) (k : own_Go p e below P (T.setTop (mkF m n Ls st))) : own_Go p e below P (T.setTop (mkF m pc Ls (.int w :: .int x :: st))) := by
  obtain ⟨hx, hby, -⟩ := cx
  exact own_st (fun _ q => XS.icmpYes X.here hx rfl rfl (hb hby hd) rfl hc ho hp q) k
theorem o_icmpNo (cx : own_Cx p s m meth c Z bytes maxL y ret) (X : own_Sd p l e R s m args below meth c n0 T h C S) {cd : ClassFile.Cond} {x w : Int32} {o : Int} (hd : decode bytes pc = .ok (.if_icmp cd o, 3)) (hc : if_icmp.holds cd x w = false) (k : own_Go p e below P (T.setTop (mkF m (pc + 3) Ls st))) : own_Go p e below P (T.setTop (mkF m pc Ls (.int w :: .int x :: st))) := by
  obtain ⟨hx, hby, -⟩ := cx
  exact own_st (fun _ q => XS.icmpNo X.here hx rfl (hb hby hd) rfl hc q) k
theorem o_ifnullYes (cx : own_Cx p s m meth c Z bytes maxL y ret) (X : own_Sd p l e R s m args below meth c n0 T h C S) {o : Int} (n : Nat) (hd : decode bytes pc = .ok (.ifnull o, 3)) (ho : 0 ≤ (pc : Int) + o) (hp : ((pc : Int) + o).toNat = n) (k : own_Go p e below P (T.setTop (mkF m n Ls st))) : own_Go p e below P (T.setTop (mkF m pc Ls (.null :: st))) := by
  obtain ⟨hx, hby, -⟩ := cx
  exact own_st (fun _ q => XS.ifnullYes X.here hx rfl rfl (hb hby hd) rfl ho hp q) k
theorem o_ifnullNo (cx : own_Cx p s m meth c Z bytes maxL y ret) (X : own_Sd p l e R s m args below meth c n0 T h C S) {o : Int} {b : Addr} (hd : decode bytes pc = .ok (.ifnull o, 3))  (k : own_Go p e below P (T.setTop (mkF m (pc + 3) Ls st))) : own_Go p e below P (T.setTop (mkF m pc Ls (.ref b :: st))) := by
  obtain ⟨hx, hby, -⟩ := cx
  exact own_st (fun _ q => XS.ifnullNo X.here hx rfl (hb hby hd) rfl q) k
theorem o_ifnonnullYes (cx : own_Cx p s m meth c Z bytes maxL y ret) (X : own_Sd p l e R s m args below meth c n0 T h C S) {o : Int} (n : Nat) {b : Addr} (hd : decode bytes pc = .ok (.ifnonnull o, 3)) (ho : 0 ≤ (pc : Int) + o) (hp : ((pc : Int) + o).toNat = n) (k : own_Go p e below P (T.setTop (mkF m n Ls st))) : own_Go p e below P (T.setTop (mkF m pc Ls (.ref b :: st))) := by
  obtain ⟨hx, hby, -⟩ := cx
  exact own_st (fun _ q => XS.ifnonnullYes X.here hx rfl rfl (hb hby hd) rfl ho hp q) k
theorem o_ifnonnullNo (cx : own_Cx p s m meth c Z bytes maxL y ret) (X : own_Sd p l e R s m args below meth c n0 T h C S) {o : Int} (hd : decode bytes pc = .ok (.ifnonnull o, 3))  (k : own_Go p e below P (T.setTop (mkF m (pc + 3) Ls st))) : own_Go p e below P (T.setTop (mkF m pc Ls (.null :: st))) := by
  obtain ⟨hx, hby, -⟩ := cx
  exact own_st (fun _ q => XS.ifnonnullNo X.here hx rfl (hb hby hd) rfl q) k
theorem o_acmp (cx : own_Cx p s m meth c Z bytes maxL y ret) (X : own_Sd p l e R s m args below meth c n0 T h C S) {cd : ACond} {x w : Value} {o : Int} (n : Nat) (same : Bool) (hd : decode bytes pc = .ok (.if_acmp cd o, 3)) (h1 : x.isRef = true) (h2 : w.isRef = true) (hsame : decide (x = w) = same) (ho : 0 ≤ (pc : Int) + o) (hp : n = if acV cd same then ((pc : Int) + o).toNat else pc + 3) (k : own_Go p e below P (T.setTop (mkF m n Ls st))) : own_Go p e below P (T.setTop (mkF m pc Ls (w :: x :: st))) := by
  obtain ⟨hx, hby, hml, hown, hnm, hret, hlk, hZ⟩ := cx
  exact own_acmp X hx (g := mkF m pc Ls (w :: x :: st)) rfl h1 h2 rfl (hb hby hd) rfl hsame ho hp k
theorem o_ldc (cx : own_Cx p s m meth c Z bytes maxL y ret) (X : own_Sd p l e R s m args below meth c n0 T h C S) {j : Nat} {z : Int32} (hd : decode bytes pc = .ok (.ldc j, 2)) (w : (Jvm.Cond.constant y.cls j z).before a0 Z = true) (k : own_Go p e below P (T.setTop (mkF m (pc + 2) Ls (.int z :: st)))) : own_Go p e below P (T.setTop (mkF m pc Ls st)) := by
  obtain ⟨hx, hby, hml, hown, hnm, hret, hlk, hZ⟩ := cx
  exact own_ldc X hx hZ hown w (g := mkF m pc Ls st) rfl (hb hby hd) k
theorem o_ldc2 (cx : own_Cx p s m meth c Z bytes maxL y ret) (X : own_Sd p l e R s m args below meth c n0 T h C S) {j : Nat} {z : Int64} (hd : decode bytes pc = .ok (.ldc2_w j, 3)) (w : (Jvm.Cond.constantLong y.cls j z).before a0 Z = true) (k : own_Go p e below P (T.setTop (mkF m (pc + 3) Ls (.long z :: st)))) : own_Go p e below P (T.setTop (mkF m pc Ls st)) := by
  obtain ⟨hx, hby, hml, hown, hnm, hret, hlk, hZ⟩ := cx
  exact own_ldc2 X hx hZ hown w (g := mkF m pc Ls st) rfl (hb hby hd) k
theorem o_getF (cx : own_Cx p s m meth c Z bytes maxL y ret) (X : own_Sd p l e R s m args below meth c n0 T h C S) {O n d : String} {j : Nat} (hd : decode bytes pc = .ok (.getfield j, 3)) (w : (Jvm.Cond.fieldLink y.cls j O n d).before a0 Z = true) (F : Fld Z h a O n d v) (k : ∀ T', own_Sd p l e R s m args below meth c n0 T' h C S → own_Go p e below P (T'.setTop (mkF m (pc + 3) Ls (v :: st)))) : own_Go p e below P (T.setTop (mkF m pc Ls (.ref a :: st))) := by
  obtain ⟨hx, hby, hml, hown, hnm, hret, hlk, hZ⟩ := cx
  exact own_getF X hx hZ hown w F (g := mkF m pc Ls (.ref a :: st)) rfl rfl (hb hby hd) k
theorem o_putF (cx : own_Cx p s m meth c Z bytes maxL y ret) (X : own_Sd p l e R s m args below meth c n0 T h C S) {O n d K : String} {j kk : Nat} {v' old : Value} (hd : decode bytes pc = .ok (.putfield j, 3)) (w : (Jvm.Cond.fieldLink y.cls j O n d).before a0 Z = true) (F : Fld Z h a O n d old) (E : Exa Z h a K) (L : (Jvm.Cond.lays K O n d).before a0 Z = true ∨ ((Jvm.Cond.laysFinal K O n d).before a0 Z = true ∧ y.cls = O ∧ y.name = "<init>")) (wi : (Jvm.Cond.instantiable K kk).before a0 Z = true) (hty : parseFieldDescriptor d = some ty) (hn : narrow ty v = v') (hf : fits ty v' = true) (ga : n0 ≤ a) (k : ∀ T' h', own_Sd p l e R s m args below meth c n0 T' h' C S → Wr h h' a (Jvm.RoadKit.slotOf Z O n d) v' → own_Go p e below P (T'.setTop (mkF m (pc + 3) Ls st))) : own_Go p e below P (T.setTop (mkF m pc Ls (v :: .ref a :: st))) := by
  obtain ⟨hx, hby, hml, hown, hnm, hret, hlk, hZ⟩ := cx
  exact own_putF X hx hZ hown w F E (by rw [hnm]; exact L) wi hty hn hf ga (g := mkF m pc Ls (v :: .ref a :: st)) rfl rfl (hb hby hd) k
theorem o_newO (cx : own_Cx p s m meth c Z bytes maxL y ret) (X : own_Sd p l e R s m args below meth c n0 T h C S) {K : String} {j n : Nat} (hd : decode bytes pc = .ok (.new j, 3)) (w : (Jvm.Cond.classLink y.cls j K).before a0 Z = true) (wi : (Jvm.Cond.instantiable K n).before a0 Z = true) (wz : (Jvm.Cond.initialized K).before a0 Z = true) (hc : C + 1 ≤ R.cells) (hl : S + n ≤ R.slots) (k : ∀ T' h' b, b = h.size → n0 ≤ b → own_Sd p l e R s m args below meth c n0 T' h' (C + 1) (S + n) → Ext h h' → Exa Z h' b K → (∀ {O nm d : String} {ty : FieldType}, Laid Z a0 K O nm d → parseFieldDescriptor d = some ty → Fld Z h' b O nm d (defaultValue ty)) → own_Go p e below P (T'.setTop (mkF m (pc + 3) Ls (.ref b :: st)))) : own_Go p e below P (T.setTop (mkF m pc Ls st)) := by
  obtain ⟨hx, hby, hml, hown, hnm, hret, hlk, hZ⟩ := cx
  exact own_newO X hx hZ hown w wi wz (g := mkF m pc Ls st) rfl (hb hby hd) hc hl k
theorem o_initO (cx : own_Cx p s m meth c Z bytes maxL y ret) (X : own_Sd p l e R s m args below meth c n0 T h C S) {j : Nat} (hd : decode bytes pc = .ok (.invokespecial j, 3)) (w1 : (Jvm.Cond.methodLink y.cls j Lib.objectInit).before a0 Z = true) (w2 : (Jvm.Cond.instanceMethod Lib.objectInit).before a0 Z = true) (w3 : (Jvm.Cond.code Lib.objectInit ⟨#[0xb1]⟩ 1 none).before a0 Z = true) (hsz : Ls.size = maxL) (hf : 1 ≤ R.frames) (W : Nat) (hW : (st.map fun v => v.category).sum = W) (hl : W + 12 ≤ R.locals) (k : ∀ T', own_Sd p l e R s m args below meth c n0 T' h C S → own_Go p e below P (T'.setTop (mkF m (pc + 3) Ls st))) : own_Go p e below P (T.setTop (mkF m pc Ls (.ref a :: st))) := by
  obtain ⟨hx, hby, hml, hown, hnm, hret, hlk, hZ⟩ := cx
  exact own_initO X hx hZ hown w1 w2 w3 (g := mkF m pc Ls (.ref a :: st)) rfl (by rw [hml]; exact hsz) rfl (hb hby hd) hf (W := W) (by show 2 * 0 + _ ≤ _; omega) hl k
theorem o_callS (cx : own_Cx p s m meth c Z bytes maxL y ret) (X : own_Sd p l e R s m args below meth c n0 T h C S) {y' : MethodName} {bytes' : ByteArray} {maxL' : Nat} {ret' : Option FieldType} {j : Nat} {stk : List Value} (hd : decode bytes pc = .ok (.invokestatic j, 3)) (w1 : (Jvm.Cond.methodLink y.cls j y').before a0 Z = true) (w2 : (Jvm.Cond.static y').before a0 Z = true) (w3 : (Jvm.Cond.initialized y'.cls).before a0 Z = true) (w4 : (Jvm.Cond.code y' bytes' maxL' ret').before a0 Z = true) (hy : y'.cls ≠ "java/lang/invoke/MethodHandle" ∧ y'.cls ≠ "java/lang/invoke/VarHandle") {rm : Room} {as' : Array Value}  (hM : own_Met l Z y' bytes' maxL' ret' rm as' h n0 Q) (hf : rm.frames + 1 ≤ R.frames) (W : Nat) (hW : (st.map fun v => v.category).sum = W) (hlo : W + (maxL' + 11) + rm.locals ≤ R.locals) (hsz : Ls.size = maxL) {argsL : List Value} (hlen : ∀ sig, parseMethodDescriptor y'.desc = some sig → argsL.length = sig.parameters.length) (has : argsL.toArray = as') (hstk : stk = argsL.reverse ++ st) (hc : C + rm.cells ≤ R.cells) (hs : S + rm.slots ≤ R.slots) (k : ∀ v T' h', own_Sd p l e R s m args below meth c n0 T' h' (C + rm.cells) (S + rm.slots) → Q v h' → own_Go p e below P (T'.setTop (mkF m (pc + 3) Ls (v.toList ++ st)))) : own_Go p e below P (T.setTop (mkF m pc Ls stk)) := by
  obtain ⟨hx, hby, hml, hown, hnm, hret, hlk, hZ⟩ := cx
  exact own_callS X hx hZ hown w1 w2 w3 w4 hy hM hf (W := W) hlo (g := mkF m pc Ls stk) rfl (by rw [hml]; exact hsz) hlen has hstk (by show 2 * 0 + _ ≤ _; omega) (hb hby hd) hc hs k
theorem o_callC (cx : own_Cx p s m meth c Z bytes maxL y ret) (X : own_Sd p l e R s m args below meth c n0 T h C S) {y' : MethodName} {bytes' : ByteArray} {maxL' : Nat} {j : Nat} {stk : List Value} (hd : decode bytes pc = .ok (.invokespecial j, 3)) (w1 : (Jvm.Cond.methodLink y.cls j y').before a0 Z = true) (w2 : (Jvm.Cond.instanceMethod y').before a0 Z = true) (w3 : (Jvm.Cond.initialized y'.cls).before a0 Z = true) (w4 : (Jvm.Cond.code y' bytes' maxL' none).before a0 Z = true) (hy : y'.cls ≠ "java/lang/invoke/MethodHandle" ∧ y'.cls ≠ "java/lang/invoke/VarHandle") (hy1 : y'.name = "<init>") {rm : Room} {as' : Array Value}  (hM : own_Met l Z y' bytes' maxL' none rm as' h n0 Q) (hf : rm.frames + 1 ≤ R.frames) (W : Nat) (hW : (st.map fun v => v.category).sum = W) (hlo : W + (maxL' + 11) + rm.locals ≤ R.locals) (hsz : Ls.size = maxL) {argsL : List Value} (hlen : ∀ sig, parseMethodDescriptor y'.desc = some sig → argsL.length = sig.parameters.length) (has : (.ref a :: argsL).toArray = as') (hstk : stk = argsL.reverse ++ .ref a :: st) (hc : C + rm.cells ≤ R.cells) (hs : S + rm.slots ≤ R.slots) (k : ∀ v T' h', own_Sd p l e R s m args below meth c n0 T' h' (C + rm.cells) (S + rm.slots) → Q v h' → own_Go p e below P (T'.setTop (mkF m (pc + 3) Ls (v.toList ++ st)))) : own_Go p e below P (T.setTop (mkF m pc Ls stk)) := by
  obtain ⟨hx, hby, hml, hown, hnm, hret, hlk, hZ⟩ := cx
  exact own_callC X hx hZ hy1 hown w1 w2 w3 w4 hy hM hf (W := W) hlo (g := mkF m pc Ls stk) rfl (by rw [hml]; exact hsz) hlen has hstk (by show 2 * 0 + _ ≤ _; omega) (hb hby hd) hc hs k
theorem o_callV (cx : own_Cx p s m meth c Z bytes maxL y ret) (X : own_Sd p l e R s m args below meth c n0 T h C S) {y' : MethodName} {bytes' : ByteArray} {maxL' : Nat} {ret' : Option FieldType} {j : Nat} {stk : List Value} {K : String} (hd : decode bytes pc = .ok (.invokevirtual j, 3)) (w1 : (Jvm.Cond.methodLink y.cls j y').before a0 Z = true) (w2 : (Jvm.Cond.declares y').before a0 Z = true) (w5 : (Jvm.Cond.selects K y' y').before a0 Z = true) (w6 : (Jvm.Cond.instanceMethod y').before a0 Z = true) (w3 : (Jvm.Cond.initialized y'.cls).before a0 Z = true) (w4 : (Jvm.Cond.code y' bytes' maxL' ret').before a0 Z = true) (hy : y'.cls ≠ "java/lang/invoke/MethodHandle" ∧ y'.cls ≠ "java/lang/invoke/VarHandle") (E : Exa Z h a K) {rm : Room} {as' : Array Value}  (hM : own_Met l Z y' bytes' maxL' ret' rm as' h n0 Q) (hf : rm.frames + 1 ≤ R.frames) (W : Nat) (hW : (st.map fun v => v.category).sum = W) (hlo : W + (maxL' + 11) + rm.locals ≤ R.locals) (hsz : Ls.size = maxL) {argsL : List Value} (hlen : ∀ sig, parseMethodDescriptor y'.desc = some sig → argsL.length = sig.parameters.length) (has : (.ref a :: argsL).toArray = as') (hstk : stk = argsL.reverse ++ .ref a :: st) (hc : C + rm.cells ≤ R.cells) (hs : S + rm.slots ≤ R.slots) (k : ∀ v T' h', own_Sd p l e R s m args below meth c n0 T' h' (C + rm.cells) (S + rm.slots) → Q v h' → own_Go p e below P (T'.setTop (mkF m (pc + 3) Ls (v.toList ++ st)))) : own_Go p e below P (T.setTop (mkF m pc Ls stk)) := by
  obtain ⟨hx, hby, hml, hown, hnm, hret, hlk, hZ⟩ := cx
  exact own_callV X hx hZ hown w1 w2 w5 w6 w3 w4 hy E hM hf (W := W) hlo (g := mkF m pc Ls stk) rfl (by rw [hml]; exact hsz) hlen has hstk (by show 2 * 0 + _ ≤ _; omega) (hb hby hd) hc hs k
theorem o_callP (cx : own_Cx p s m meth c Z bytes maxL y ret) (X : own_Sd p l e R s m args below meth c n0 T h C S) {y' : MethodName} {bytes' : ByteArray} {maxL' : Nat} {ret' : Option FieldType} {j : Nat} {stk : List Value} {K K' : String} {y2 : MethodName} (hd : decode bytes pc = .ok (.invokevirtual j, 3)) (w1 : (Jvm.Cond.methodLink y.cls j y').before a0 Z = true) (w7 : (Jvm.Cond.privateMethod y').before a0 Z = true) (w5 : (Jvm.Cond.selects K y2 y2).before a0 Z = true) (hyy : y2.cls = y'.cls) (w6 : (Jvm.Cond.instanceMethod y').before a0 Z = true) (w3 : (Jvm.Cond.initialized y'.cls).before a0 Z = true) (w4 : (Jvm.Cond.code y' bytes' maxL' ret').before a0 Z = true) (hy : y'.cls ≠ "java/lang/invoke/MethodHandle" ∧ y'.cls ≠ "java/lang/invoke/VarHandle") (E : Exa Z h a K') {rm : Room} {as' : Array Value}  (hM : own_Met l Z y' bytes' maxL' ret' rm as' h n0 Q) (hf : rm.frames + 1 ≤ R.frames) (W : Nat) (hW : (st.map fun v => v.category).sum = W) (hlo : W + (maxL' + 11) + rm.locals ≤ R.locals) (hsz : Ls.size = maxL) {argsL : List Value} (hlen : ∀ sig, parseMethodDescriptor y'.desc = some sig → argsL.length = sig.parameters.length) (has : (.ref a :: argsL).toArray = as') (hstk : stk = argsL.reverse ++ .ref a :: st) (hc : C + rm.cells ≤ R.cells) (hs : S + rm.slots ≤ R.slots) (k : ∀ v T' h', own_Sd p l e R s m args below meth c n0 T' h' (C + rm.cells) (S + rm.slots) → Q v h' → own_Go p e below P (T'.setTop (mkF m (pc + 3) Ls (v.toList ++ st)))) : own_Go p e below P (T.setTop (mkF m pc Ls stk)) := by
  obtain ⟨hx, hby, hml, hown, hnm, hret, hlk, hZ⟩ := cx
  exact own_callP X hx hZ hown w1 w7 w5 hyy w6 w3 w4 hy E hM hf (W := W) hlo (g := mkF m pc Ls stk) rfl (by rw [hml]; exact hsz) hlen has hstk (by show 2 * 0 + _ ≤ _; omega) (hb hby hd) hc hs k
theorem o_callSp (cx : own_Cx p s m meth c Z bytes maxL y ret) (X : own_Sd p l e R s m args below meth c n0 T h C S) {y' : MethodName} {bytes' : ByteArray} {maxL' : Nat} {ret' : Option FieldType} {j : Nat} {stk : List Value} (hd : decode bytes pc = .ok (.invokestatic j, 3)) (w1 : (Jvm.Cond.methodLink y.cls j y').before a0 Z = true) (w2 : (Jvm.Cond.static y').before a0 Z = true) (w3 : (Jvm.Cond.initialized y'.cls).before a0 Z = true) (w4 : (Jvm.Cond.code y' bytes' maxL' ret').before a0 Z = true) (hy : y'.cls ≠ "java/lang/invoke/MethodHandle" ∧ y'.cls ≠ "java/lang/invoke/VarHandle") {rm : Room} {as' : Array Value} {r : Option Value} (hM : own_Met l Z y' bytes' maxL' ret' rm as' h n0 (fun v' h' => v' = r ∧ h' = h)) (hf : rm.frames + 1 ≤ R.frames) (W : Nat) (hW : (st.map fun v => v.category).sum = W) (hlo : W + (maxL' + 11) + rm.locals ≤ R.locals) (hsz : Ls.size = maxL) {argsL : List Value} (hlen : ∀ sig, parseMethodDescriptor y'.desc = some sig → argsL.length = sig.parameters.length) (has : argsL.toArray = as') (hstk : stk = argsL.reverse ++ st) (hc : C + rm.cells ≤ R.cells) (hs : S + rm.slots ≤ R.slots) (k : ∀ T', own_Sd p l e R s m args below meth c n0 T' h (C + rm.cells) (S + rm.slots) → own_Go p e below P (T'.setTop (mkF m (pc + 3) Ls (r.toList ++ st)))) : own_Go p e below P (T.setTop (mkF m pc Ls stk)) := by
  obtain ⟨hx, hby, hml, hown, hnm, hret, hlk, hZ⟩ := cx
  exact own_callSp X hx hZ hown w1 w2 w3 w4 hy hM hf (W := W) hlo (g := mkF m pc Ls stk) rfl (by rw [hml]; exact hsz) hlen has hstk (by show 2 * 0 + _ ≤ _; omega) (hb hby hd) hc hs k
theorem o_callCp (cx : own_Cx p s m meth c Z bytes maxL y ret) (X : own_Sd p l e R s m args below meth c n0 T h C S) {y' : MethodName} {bytes' : ByteArray} {maxL' : Nat} {j : Nat} {stk : List Value} (hd : decode bytes pc = .ok (.invokespecial j, 3)) (w1 : (Jvm.Cond.methodLink y.cls j y').before a0 Z = true) (w2 : (Jvm.Cond.instanceMethod y').before a0 Z = true) (w3 : (Jvm.Cond.initialized y'.cls).before a0 Z = true) (w4 : (Jvm.Cond.code y' bytes' maxL' none).before a0 Z = true) (hy : y'.cls ≠ "java/lang/invoke/MethodHandle" ∧ y'.cls ≠ "java/lang/invoke/VarHandle") (hy1 : y'.name = "<init>") {rm : Room} {as' : Array Value} {r : Option Value} (hM : own_Met l Z y' bytes' maxL' none rm as' h n0 (fun v' h' => v' = r ∧ h' = h)) (hf : rm.frames + 1 ≤ R.frames) (W : Nat) (hW : (st.map fun v => v.category).sum = W) (hlo : W + (maxL' + 11) + rm.locals ≤ R.locals) (hsz : Ls.size = maxL) {argsL : List Value} (hlen : ∀ sig, parseMethodDescriptor y'.desc = some sig → argsL.length = sig.parameters.length) (has : (.ref a :: argsL).toArray = as') (hstk : stk = argsL.reverse ++ .ref a :: st) (hc : C + rm.cells ≤ R.cells) (hs : S + rm.slots ≤ R.slots) (k : ∀ T', own_Sd p l e R s m args below meth c n0 T' h (C + rm.cells) (S + rm.slots) → own_Go p e below P (T'.setTop (mkF m (pc + 3) Ls (r.toList ++ st)))) : own_Go p e below P (T.setTop (mkF m pc Ls stk)) := by
  obtain ⟨hx, hby, hml, hown, hnm, hret, hlk, hZ⟩ := cx
  exact own_callCp X hx hZ hy1 hown w1 w2 w3 w4 hy hM hf (W := W) hlo (g := mkF m pc Ls stk) rfl (by rw [hml]; exact hsz) hlen has hstk (by show 2 * 0 + _ ≤ _; omega) (hb hby hd) hc hs k
theorem o_callVp (cx : own_Cx p s m meth c Z bytes maxL y ret) (X : own_Sd p l e R s m args below meth c n0 T h C S) {y' : MethodName} {bytes' : ByteArray} {maxL' : Nat} {ret' : Option FieldType} {j : Nat} {stk : List Value} {K : String} (hd : decode bytes pc = .ok (.invokevirtual j, 3)) (w1 : (Jvm.Cond.methodLink y.cls j y').before a0 Z = true) (w2 : (Jvm.Cond.declares y').before a0 Z = true) (w5 : (Jvm.Cond.selects K y' y').before a0 Z = true) (w6 : (Jvm.Cond.instanceMethod y').before a0 Z = true) (w3 : (Jvm.Cond.initialized y'.cls).before a0 Z = true) (w4 : (Jvm.Cond.code y' bytes' maxL' ret').before a0 Z = true) (hy : y'.cls ≠ "java/lang/invoke/MethodHandle" ∧ y'.cls ≠ "java/lang/invoke/VarHandle") (E : Exa Z h a K) {rm : Room} {as' : Array Value} {r : Option Value} (hM : own_Met l Z y' bytes' maxL' ret' rm as' h n0 (fun v' h' => v' = r ∧ h' = h)) (hf : rm.frames + 1 ≤ R.frames) (W : Nat) (hW : (st.map fun v => v.category).sum = W) (hlo : W + (maxL' + 11) + rm.locals ≤ R.locals) (hsz : Ls.size = maxL) {argsL : List Value} (hlen : ∀ sig, parseMethodDescriptor y'.desc = some sig → argsL.length = sig.parameters.length) (has : (.ref a :: argsL).toArray = as') (hstk : stk = argsL.reverse ++ .ref a :: st) (hc : C + rm.cells ≤ R.cells) (hs : S + rm.slots ≤ R.slots) (k : ∀ T', own_Sd p l e R s m args below meth c n0 T' h (C + rm.cells) (S + rm.slots) → own_Go p e below P (T'.setTop (mkF m (pc + 3) Ls (r.toList ++ st)))) : own_Go p e below P (T.setTop (mkF m pc Ls stk)) := by
  obtain ⟨hx, hby, hml, hown, hnm, hret, hlk, hZ⟩ := cx
  exact own_callVp X hx hZ hown w1 w2 w5 w6 w3 w4 hy E hM hf (W := W) hlo (g := mkF m pc Ls stk) rfl (by rw [hml]; exact hsz) hlen has hstk (by show 2 * 0 + _ ≤ _; omega) (hb hby hd) hc hs k
theorem o_callPp (cx : own_Cx p s m meth c Z bytes maxL y ret) (X : own_Sd p l e R s m args below meth c n0 T h C S) {y' : MethodName} {bytes' : ByteArray} {maxL' : Nat} {ret' : Option FieldType} {j : Nat} {stk : List Value} {K K' : String} {y2 : MethodName} (hd : decode bytes pc = .ok (.invokevirtual j, 3)) (w1 : (Jvm.Cond.methodLink y.cls j y').before a0 Z = true) (w7 : (Jvm.Cond.privateMethod y').before a0 Z = true) (w5 : (Jvm.Cond.selects K y2 y2).before a0 Z = true) (hyy : y2.cls = y'.cls) (w6 : (Jvm.Cond.instanceMethod y').before a0 Z = true) (w3 : (Jvm.Cond.initialized y'.cls).before a0 Z = true) (w4 : (Jvm.Cond.code y' bytes' maxL' ret').before a0 Z = true) (hy : y'.cls ≠ "java/lang/invoke/MethodHandle" ∧ y'.cls ≠ "java/lang/invoke/VarHandle") (E : Exa Z h a K') {rm : Room} {as' : Array Value} {r : Option Value} (hM : own_Met l Z y' bytes' maxL' ret' rm as' h n0 (fun v' h' => v' = r ∧ h' = h)) (hf : rm.frames + 1 ≤ R.frames) (W : Nat) (hW : (st.map fun v => v.category).sum = W) (hlo : W + (maxL' + 11) + rm.locals ≤ R.locals) (hsz : Ls.size = maxL) {argsL : List Value} (hlen : ∀ sig, parseMethodDescriptor y'.desc = some sig → argsL.length = sig.parameters.length) (has : (.ref a :: argsL).toArray = as') (hstk : stk = argsL.reverse ++ .ref a :: st) (hc : C + rm.cells ≤ R.cells) (hs : S + rm.slots ≤ R.slots) (k : ∀ T', own_Sd p l e R s m args below meth c n0 T' h (C + rm.cells) (S + rm.slots) → own_Go p e below P (T'.setTop (mkF m (pc + 3) Ls (r.toList ++ st)))) : own_Go p e below P (T.setTop (mkF m pc Ls stk)) := by
  obtain ⟨hx, hby, hml, hown, hnm, hret, hlk, hZ⟩ := cx
  exact own_callPp X hx hZ hown w1 w7 w5 hyy w6 w3 w4 hy E hM hf (W := W) hlo (g := mkF m pc Ls stk) rfl (by rw [hml]; exact hsz) hlen has hstk (by show 2 * 0 + _ ≤ _; omega) (hb hby hd) hc hs k
theorem o_retI (cx : own_Cx p s m meth c Z bytes maxL y (some .int)) (X : own_Sd p l e R s m args below meth c n0 T h C S) {z : Int32} (hd : decode bytes pc = .ok (.ireturn, 1)) (q : Q (some (.int z)) h) (hC : C ≤ R.cells) (hS : S ≤ R.slots) : own_Go p e below (own_End below s R n0 Q) (T.setTop (mkF m pc Ls (.int z :: st))) := by
  obtain ⟨hx, hby, hml, hown, hnm, hret, hlk, hZ⟩ := cx
  exact own_retI X hx hret hlk (hb hby hd) hC hS q
theorem o_retN {t : FieldType} (cx : own_Cx p s m meth c Z bytes maxL y (some t)) (X : own_Sd p l e R s m args below meth c n0 T h C S) {z z' : Int32} (hd : decode bytes pc = .ok (.ireturn, 1)) (ht : t = .boolean ∨ t = .byte ∨ t = .char ∨ t = .short) (hz : nar t z = z') (q : Q (some (.int z')) h) (hC : C ≤ R.cells) (hS : S ≤ R.slots) : own_Go p e below (own_End below s R n0 Q) (T.setTop (mkF m pc Ls (.int z :: st))) := by
  obtain ⟨hx, hby, hml, hown, hnm, hret, hlk, hZ⟩ := cx
  exact own_retN X hx hret ht hlk (hb hby hd) hC hS (by rw [hz]; exact q)
theorem o_retJ (cx : own_Cx p s m meth c Z bytes maxL y (some .long)) (X : own_Sd p l e R s m args below meth c n0 T h C S) {z : Int64} (hd : decode bytes pc = .ok (.lreturn, 1)) (q : Q (some (.long z)) h) (hC : C ≤ R.cells) (hS : S ≤ R.slots) : own_Go p e below (own_End below s R n0 Q) (T.setTop (mkF m pc Ls (.long z :: st))) := by
  obtain ⟨hx, hby, hml, hown, hnm, hret, hlk, hZ⟩ := cx
  exact own_retJ X hx hret hlk (hb hby hd) hC hS q
theorem o_retA {t : FieldType} (cx : own_Cx p s m meth c Z bytes maxL y (some t)) (X : own_Sd p l e R s m args below meth c n0 T h C S) {w : Value} (hd : decode bytes pc = .ok (.areturn, 1)) (ht : t.isReference = true) (hw : w.isRef = true) (hn : narrow t w = w) (q : Q (some w) h) (hC : C ≤ R.cells) (hS : S ≤ R.slots) : own_Go p e below (own_End below s R n0 Q) (T.setTop (mkF m pc Ls (w :: st))) := by
  obtain ⟨hx, hby, hml, hown, hnm, hret, hlk, hZ⟩ := cx
  exact own_retA X hx hret ht hlk hw hn (hb hby hd) hC hS q
theorem o_retV (cx : own_Cx p s m meth c Z bytes maxL y none) (X : own_Sd p l e R s m args below meth c n0 T h C S)  (hd : decode bytes pc = .ok (.return_, 1)) (q : Q none h) (hC : C ≤ R.cells) (hS : S ≤ R.slots) : own_Go p e below (own_End below s R n0 Q) (T.setTop (mkF m pc Ls [])) := by
  obtain ⟨hx, hby, hml, hown, hnm, hret, hlk, hZ⟩ := cx
  exact own_retV X hx hret hlk (hb hby hd) hC hS q
end OwnS
def own_sep (cc f1 f2 f3 f5 : Int32) : Int32 := if cc = f1 then 1 else if cc = f2 then 1 else if cc = f3 then 1 else if cc = f5 then 1 else 0
theorem own_c16 (y : Int32) : nar .char (y.toUInt32.toUInt16.toUInt32.toInt32) = y.toUInt32.toUInt16.toUInt32.toInt32 := by
  have h1 := c_i2c y
  have h2 := c_i2c (y.toUInt32.toUInt16.toUInt32.toInt32)
  apply Int32.toInt_inj.mp
  show (y.toUInt32.toUInt16.toUInt32.toInt32).toUInt32.toUInt16.toUInt32.toInt32.toInt = _
  omega
theorem d2_0 : decode jdk_30_method_1_code 0 = .ok (.aload_n 0, 1) := by decide +kernel
theorem d2_1 : decode jdk_30_method_1_code 1 = .ok (.invokespecial 1, 3) := by decide +kernel
theorem d2_4 : decode jdk_30_method_1_code 4 = .ok (.return_, 1) := by decide +kernel
theorem pn_2 : plainName "java/lang/Record" = true := by first | (simp [plainName, overriddenIn]; done) | decide +kernel
theorem ef_rm1 (m : MethodId) (aa : Addr) : entryFrame m #[(.ref aa)] 1 = mkF m 0 #[.val (.ref aa)] [] := by first | (simp [entryFrame, mkF, argsToLocals, Value.category]; done) | rfl
set_option maxRecDepth 65536 in
set_option maxHeartbeats 40000000 in
theorem rm1 (l : Launch) (Z : State) (a0 : Array Value) (hw : ∀ d ∈ tables_1, d.before a0 Z = true) (aa : Addr) (h0 : Heap) (n0 : Nat) (Z0 : n0 ≤ h0.size) :
    own_Met l Z (⟨"java/lang/Record", "<init>", "()V"⟩ : MethodName) jdk_30_method_1_code 1 none ({ frames := 1, cells := 0, slots := 0, locals := 12 } : Room) #[(.ref aa)] h0 n0 (fun v' h' => v' = none ∧ h' = h0) := by
  refine own_body (plainFor_of_name pn_2) (fun m => ef_rm1 m aa) Z0 ?_
  intro p e s m below meth c T0 cx X0
  show own_Go p e below _ (T0.setTop (mkF m 0 #[.val (.ref aa)] []))
  refine o_aloadN cx X0 d2_0 rfl rfl ?_
  refine o_initO cx X0 d2_1 (o_w hw 12 rfl) (o_w hw 13 rfl) (o_w hw 14 rfl) rfl (by decide) 0 rfl (by decide) fun T1 X2 => ?_
  exact o_retV cx X2 d2_4 ⟨rfl, rfl⟩ (by decide) (by decide)
theorem d1_0 : decode prog_42_method_1_code 0 = .ok (.aload_n 0, 1) := by decide +kernel
theorem d1_1 : decode prog_42_method_1_code 1 = .ok (.invokespecial 1, 3) := by decide +kernel
theorem pd_2 : parseMethodDescriptor "()V" = some ⟨[], none⟩ := by decide +kernel
theorem d1_4 : decode prog_42_method_1_code 4 = .ok (.aload_n 0, 1) := by decide +kernel
theorem d1_5 : decode prog_42_method_1_code 5 = .ok (.iload_n 1, 1) := by decide +kernel
theorem d1_6 : decode prog_42_method_1_code 6 = .ok (.putfield 7, 3) := by decide +kernel
theorem d1_9 : decode prog_42_method_1_code 9 = .ok (.aload_n 0, 1) := by decide +kernel
theorem d1_10 : decode prog_42_method_1_code 10 = .ok (.iload_n 2, 1) := by decide +kernel
theorem d1_11 : decode prog_42_method_1_code 11 = .ok (.putfield 13, 3) := by decide +kernel
theorem d1_14 : decode prog_42_method_1_code 14 = .ok (.aload_n 0, 1) := by decide +kernel
theorem d1_15 : decode prog_42_method_1_code 15 = .ok (.iload_n 3, 1) := by decide +kernel
theorem d1_16 : decode prog_42_method_1_code 16 = .ok (.putfield 16, 3) := by decide +kernel
theorem d1_19 : decode prog_42_method_1_code 19 = .ok (.aload_n 0, 1) := by decide +kernel
theorem d1_20 : decode prog_42_method_1_code 20 = .ok (.iload 4, 2) := by decide +kernel
theorem d1_22 : decode prog_42_method_1_code 22 = .ok (.putfield 19, 3) := by decide +kernel
theorem d1_25 : decode prog_42_method_1_code 25 = .ok (.aload_n 0, 1) := by decide +kernel
theorem d1_26 : decode prog_42_method_1_code 26 = .ok (.iload 5, 2) := by decide +kernel
theorem d1_28 : decode prog_42_method_1_code 28 = .ok (.putfield 22, 3) := by decide +kernel
theorem d1_31 : decode prog_42_method_1_code 31 = .ok (.return_, 1) := by decide +kernel
theorem pn_1 : plainName "com/example/tracewire/tracewire/hl7/Delimiters" = true := by first | (simp [plainName, overriddenIn]; done) | decide +kernel
theorem ef_rm2 (m : MethodId) (aa : Addr) (f1 : Int32) (f2 : Int32) (f3 : Int32) (f4 : Int32) (f5 : Int32) : entryFrame m #[(.ref aa), (.int f1), (.int f2), (.int f3), (.int f4), (.int f5)] 6 = mkF m 0 #[.val (.ref aa), .val (.int f1), .val (.int f2), .val (.int f3), .val (.int f4), .val (.int f5)] [] := by first | (simp [entryFrame, mkF, argsToLocals, Value.category]; done) | rfl
set_option maxRecDepth 65536 in
set_option maxHeartbeats 40000000 in
theorem rm2 (l : Launch) (Z : State) (a0 : Array Value) (hw : ∀ d ∈ tables_1, d.before a0 Z = true) (aa : Addr) (f1 : Int32) (f2 : Int32) (f3 : Int32) (f4 : Int32) (f5 : Int32) (u1 : Value) (u2 : Value) (u3 : Value) (u4 : Value) (u5 : Value) (h0 : Heap) (n0 : Nat) (Z0 : n0 ≤ h0.size) (ga : n0 ≤ aa) (E0 : Exa Z h0 aa "com/example/tracewire/tracewire/hl7/Delimiters") (F1 : Fld Z h0 aa "com/example/tracewire/tracewire/hl7/Delimiters" "field" "C" u1) (F2 : Fld Z h0 aa "com/example/tracewire/tracewire/hl7/Delimiters" "component" "C" u2) (F3 : Fld Z h0 aa "com/example/tracewire/tracewire/hl7/Delimiters" "repetition" "C" u3) (F4 : Fld Z h0 aa "com/example/tracewire/tracewire/hl7/Delimiters" "escape" "C" u4) (F5 : Fld Z h0 aa "com/example/tracewire/tracewire/hl7/Delimiters" "subcomponent" "C" u5) (nf1 : nar .char f1 = f1) (nf2 : nar .char f2 = f2) (nf3 : nar .char f3 = f3) (nf4 : nar .char f4 = f4) (nf5 : nar .char f5 = f5) :
    own_Met l Z (⟨"com/example/tracewire/tracewire/hl7/Delimiters", "<init>", "(CCCCC)V"⟩ : MethodName) prog_42_method_1_code 6 none ({ frames := 2, cells := 0, slots := 0, locals := 24 } : Room) #[(.ref aa), (.int f1), (.int f2), (.int f3), (.int f4), (.int f5)] h0 n0 (fun v' h' => v' = none ∧ Exa Z h' aa "com/example/tracewire/tracewire/hl7/Delimiters" ∧ Fld Z h' aa "com/example/tracewire/tracewire/hl7/Delimiters" "field" "C" (.int f1) ∧ Fld Z h' aa "com/example/tracewire/tracewire/hl7/Delimiters" "component" "C" (.int f2) ∧ Fld Z h' aa "com/example/tracewire/tracewire/hl7/Delimiters" "repetition" "C" (.int f3) ∧ Fld Z h' aa "com/example/tracewire/tracewire/hl7/Delimiters" "escape" "C" (.int f4) ∧ Fld Z h' aa "com/example/tracewire/tracewire/hl7/Delimiters" "subcomponent" "C" (.int f5)) := by
  refine own_body (plainFor_of_name pn_1) (fun m => ef_rm2 m aa f1 f2 f3 f4 f5) Z0 ?_
  intro p e s m below meth c T0 cx X0
  show own_Go p e below _ (T0.setTop (mkF m 0 #[.val (.ref aa), .val (.int f1), .val (.int f2), .val (.int f3), .val (.int f4), .val (.int f5)] []))
  refine o_aloadN cx X0 d1_0 rfl rfl ?_
  refine o_callCp cx X0 (y' := (⟨"java/lang/Record", "<init>", "()V"⟩ : MethodName)) (argsL := []) (st := []) (a := aa) d1_1 (o_w hw 7 rfl) (o_w hw 8 rfl) (o_w hw 10 rfl) (o_w hw 11 rfl) (by decide) rfl (rm1 l Z a0 hw aa h0 n0 X0.ge0) (by decide) 0 rfl (by decide) rfl (lenOf pd_2 rfl) rfl rfl (by decide) (by decide) fun T3 X4 => ?_
  show own_Go p e below _ (T3.setTop (mkF m 4 #[.val (.ref aa), .val (.int f1), .val (.int f2), .val (.int f3), .val (.int f4), .val (.int f5)] []))
  refine o_aloadN cx X4 d1_4 rfl rfl ?_
  refine o_iloadN cx X4 d1_5 rfl ?_
  refine o_putF cx X4 (v' := (.int f1)) (ty := .char) d1_6 (o_w hw 15 rfl) F1 E0 (Or.inr ⟨(o_w hw 16 rfl), rfl, rfl⟩) (o_w hw 2 rfl) (by decide) (congrArg Value.int nf1) (nf1 ▸ fits_nar_char f1) ga fun T8 h10 X9 W11 => ?_
  have E0 := E0.wr W11
  have F1 := F1.same W11
  have F2 := F2.other W11 (Or.inr (slot_ne (Or.inr (o_w hw 18 rfl)) (Or.inr (o_w hw 16 rfl)) (by decide) (t := .char) (t' := .char) (by decide) (by decide)))
  have F3 := F3.other W11 (Or.inr (slot_ne (Or.inr (o_w hw 20 rfl)) (Or.inr (o_w hw 16 rfl)) (by decide) (t := .char) (t' := .char) (by decide) (by decide)))
  have F4 := F4.other W11 (Or.inr (slot_ne (Or.inr (o_w hw 22 rfl)) (Or.inr (o_w hw 16 rfl)) (by decide) (t := .char) (t' := .char) (by decide) (by decide)))
  have F5 := F5.other W11 (Or.inr (slot_ne (Or.inr (o_w hw 24 rfl)) (Or.inr (o_w hw 16 rfl)) (by decide) (t := .char) (t' := .char) (by decide) (by decide)))
  refine o_aloadN cx X9 d1_9 rfl rfl ?_
  refine o_iloadN cx X9 d1_10 rfl ?_
  refine o_putF cx X9 (v' := (.int f2)) (ty := .char) d1_11 (o_w hw 17 rfl) F2 E0 (Or.inr ⟨(o_w hw 18 rfl), rfl, rfl⟩) (o_w hw 2 rfl) (by decide) (congrArg Value.int nf2) (nf2 ▸ fits_nar_char f2) ga fun T12 h14 X13 W15 => ?_
  have E0 := E0.wr W15
  have F1 := F1.other W15 (Or.inr (slot_ne (Or.inr (o_w hw 16 rfl)) (Or.inr (o_w hw 18 rfl)) (by decide) (t := .char) (t' := .char) (by decide) (by decide)))
  have F2 := F2.same W15
  have F3 := F3.other W15 (Or.inr (slot_ne (Or.inr (o_w hw 20 rfl)) (Or.inr (o_w hw 18 rfl)) (by decide) (t := .char) (t' := .char) (by decide) (by decide)))
  have F4 := F4.other W15 (Or.inr (slot_ne (Or.inr (o_w hw 22 rfl)) (Or.inr (o_w hw 18 rfl)) (by decide) (t := .char) (t' := .char) (by decide) (by decide)))
  have F5 := F5.other W15 (Or.inr (slot_ne (Or.inr (o_w hw 24 rfl)) (Or.inr (o_w hw 18 rfl)) (by decide) (t := .char) (t' := .char) (by decide) (by decide)))
  refine o_aloadN cx X13 d1_14 rfl rfl ?_
  refine o_iloadN cx X13 d1_15 rfl ?_
  refine o_putF cx X13 (v' := (.int f3)) (ty := .char) d1_16 (o_w hw 19 rfl) F3 E0 (Or.inr ⟨(o_w hw 20 rfl), rfl, rfl⟩) (o_w hw 2 rfl) (by decide) (congrArg Value.int nf3) (nf3 ▸ fits_nar_char f3) ga fun T16 h18 X17 W19 => ?_
  have E0 := E0.wr W19
  have F1 := F1.other W19 (Or.inr (slot_ne (Or.inr (o_w hw 16 rfl)) (Or.inr (o_w hw 20 rfl)) (by decide) (t := .char) (t' := .char) (by decide) (by decide)))
  have F2 := F2.other W19 (Or.inr (slot_ne (Or.inr (o_w hw 18 rfl)) (Or.inr (o_w hw 20 rfl)) (by decide) (t := .char) (t' := .char) (by decide) (by decide)))
  have F3 := F3.same W19
  have F4 := F4.other W19 (Or.inr (slot_ne (Or.inr (o_w hw 22 rfl)) (Or.inr (o_w hw 20 rfl)) (by decide) (t := .char) (t' := .char) (by decide) (by decide)))
  have F5 := F5.other W19 (Or.inr (slot_ne (Or.inr (o_w hw 24 rfl)) (Or.inr (o_w hw 20 rfl)) (by decide) (t := .char) (t' := .char) (by decide) (by decide)))
  refine o_aloadN cx X17 d1_19 rfl rfl ?_
  refine o_iload cx X17 d1_20 rfl ?_
  refine o_putF cx X17 (v' := (.int f4)) (ty := .char) d1_22 (o_w hw 21 rfl) F4 E0 (Or.inr ⟨(o_w hw 22 rfl), rfl, rfl⟩) (o_w hw 2 rfl) (by decide) (congrArg Value.int nf4) (nf4 ▸ fits_nar_char f4) ga fun T20 h22 X21 W23 => ?_
  have E0 := E0.wr W23
  have F1 := F1.other W23 (Or.inr (slot_ne (Or.inr (o_w hw 16 rfl)) (Or.inr (o_w hw 22 rfl)) (by decide) (t := .char) (t' := .char) (by decide) (by decide)))
  have F2 := F2.other W23 (Or.inr (slot_ne (Or.inr (o_w hw 18 rfl)) (Or.inr (o_w hw 22 rfl)) (by decide) (t := .char) (t' := .char) (by decide) (by decide)))
  have F3 := F3.other W23 (Or.inr (slot_ne (Or.inr (o_w hw 20 rfl)) (Or.inr (o_w hw 22 rfl)) (by decide) (t := .char) (t' := .char) (by decide) (by decide)))
  have F4 := F4.same W23
  have F5 := F5.other W23 (Or.inr (slot_ne (Or.inr (o_w hw 24 rfl)) (Or.inr (o_w hw 22 rfl)) (by decide) (t := .char) (t' := .char) (by decide) (by decide)))
  refine o_aloadN cx X21 d1_25 rfl rfl ?_
  refine o_iload cx X21 d1_26 rfl ?_
  refine o_putF cx X21 (v' := (.int f5)) (ty := .char) d1_28 (o_w hw 23 rfl) F5 E0 (Or.inr ⟨(o_w hw 24 rfl), rfl, rfl⟩) (o_w hw 2 rfl) (by decide) (congrArg Value.int nf5) (nf5 ▸ fits_nar_char f5) ga fun T24 h26 X25 W27 => ?_
  have E0 := E0.wr W27
  have F1 := F1.other W27 (Or.inr (slot_ne (Or.inr (o_w hw 16 rfl)) (Or.inr (o_w hw 24 rfl)) (by decide) (t := .char) (t' := .char) (by decide) (by decide)))
  have F2 := F2.other W27 (Or.inr (slot_ne (Or.inr (o_w hw 18 rfl)) (Or.inr (o_w hw 24 rfl)) (by decide) (t := .char) (t' := .char) (by decide) (by decide)))
  have F3 := F3.other W27 (Or.inr (slot_ne (Or.inr (o_w hw 20 rfl)) (Or.inr (o_w hw 24 rfl)) (by decide) (t := .char) (t' := .char) (by decide) (by decide)))
  have F4 := F4.other W27 (Or.inr (slot_ne (Or.inr (o_w hw 22 rfl)) (Or.inr (o_w hw 24 rfl)) (by decide) (t := .char) (t' := .char) (by decide) (by decide)))
  have F5 := F5.same W27
  exact o_retV cx X25 d1_31 ⟨rfl, E0, F1, F2, F3, F4, F5⟩ (by decide) (by decide)
theorem d4_0 : decode prog_42_method_3_code 0 = .ok (.iload_n 1, 1) := by decide +kernel
theorem d4_1 : decode prog_42_method_3_code 1 = .ok (.aload_n 0, 1) := by decide +kernel
theorem d4_2 : decode prog_42_method_3_code 2 = .ok (.getfield 7, 3) := by decide +kernel
theorem d4_5 : decode prog_42_method_3_code 5 = .ok (.if_icmp .eq 27, 3) := by decide +kernel
theorem d4_32 : decode prog_42_method_3_code 32 = .ok (.iconst 1, 1) := by decide +kernel
theorem d4_33 : decode prog_42_method_3_code 33 = .ok (.goto 4, 3) := by decide +kernel
theorem d4_37 : decode prog_42_method_3_code 37 = .ok (.ireturn, 1) := by decide +kernel
theorem d4_8 : decode prog_42_method_3_code 8 = .ok (.iload_n 1, 1) := by decide +kernel
theorem d4_9 : decode prog_42_method_3_code 9 = .ok (.aload_n 0, 1) := by decide +kernel
theorem d4_10 : decode prog_42_method_3_code 10 = .ok (.getfield 13, 3) := by decide +kernel
theorem d4_13 : decode prog_42_method_3_code 13 = .ok (.if_icmp .eq 19, 3) := by decide +kernel
theorem d4_16 : decode prog_42_method_3_code 16 = .ok (.iload_n 1, 1) := by decide +kernel
theorem d4_17 : decode prog_42_method_3_code 17 = .ok (.aload_n 0, 1) := by decide +kernel
theorem d4_18 : decode prog_42_method_3_code 18 = .ok (.getfield 16, 3) := by decide +kernel
theorem d4_21 : decode prog_42_method_3_code 21 = .ok (.if_icmp .eq 11, 3) := by decide +kernel
theorem d4_24 : decode prog_42_method_3_code 24 = .ok (.iload_n 1, 1) := by decide +kernel
theorem d4_25 : decode prog_42_method_3_code 25 = .ok (.aload_n 0, 1) := by decide +kernel
theorem d4_26 : decode prog_42_method_3_code 26 = .ok (.getfield 22, 3) := by decide +kernel
theorem d4_29 : decode prog_42_method_3_code 29 = .ok (.if_icmp .ne 7, 3) := by decide +kernel
theorem d4_36 : decode prog_42_method_3_code 36 = .ok (.iconst 0, 1) := by decide +kernel
theorem ef_rm3 (m : MethodId) (aa : Addr) (cc : Int32) : entryFrame m #[(.ref aa), (.int cc)] 2 = mkF m 0 #[.val (.ref aa), .val (.int cc)] [] := by first | (simp [entryFrame, mkF, argsToLocals, Value.category]; done) | rfl
set_option maxRecDepth 65536 in
set_option maxHeartbeats 40000000 in
theorem rm3 (l : Launch) (Z : State) (a0 : Array Value) (hw : ∀ d ∈ tables_1, d.before a0 Z = true) (aa : Addr) (cc : Int32) (f1 : Int32) (f2 : Int32) (f3 : Int32) (f5 : Int32) (h0 : Heap) (n0 : Nat) (Z0 : n0 ≤ h0.size) (F1 : Fld Z h0 aa "com/example/tracewire/tracewire/hl7/Delimiters" "field" "C" (.int f1)) (F2 : Fld Z h0 aa "com/example/tracewire/tracewire/hl7/Delimiters" "component" "C" (.int f2)) (F3 : Fld Z h0 aa "com/example/tracewire/tracewire/hl7/Delimiters" "repetition" "C" (.int f3)) (F5 : Fld Z h0 aa "com/example/tracewire/tracewire/hl7/Delimiters" "subcomponent" "C" (.int f5)) :
    own_Met l Z (⟨"com/example/tracewire/tracewire/hl7/Delimiters", "separates", "(C)Z"⟩ : MethodName) prog_42_method_3_code 2 (some .boolean) ({ frames := 0, cells := 0, slots := 0, locals := 0 } : Room) #[(.ref aa), (.int cc)] h0 n0 (fun v' h' => v' = some (.int (own_sep cc f1 f2 f3 f5)) ∧ h' = h0) := by
  refine own_body (plainFor_of_name pn_1) (fun m => ef_rm3 m aa cc) Z0 ?_
  intro p e s m below meth c T0 cx X0
  show own_Go p e below _ (T0.setTop (mkF m 0 #[.val (.ref aa), .val (.int cc)] []))
  refine o_iloadN cx X0 d4_0 rfl ?_
  refine o_aloadN cx X0 d4_1 rfl rfl ?_
  refine o_getF cx X0 d4_2 (o_w hw 15 rfl) F1 fun T28 X29 => ?_
  by_cases hc30 : cc = f1
  · refine o_icmpYes cx X29 32 d4_5 (teq hc30).1 (by decide) (by decide) ?_
    refine o_iconst cx X29 (z := (1 : Int32)) d4_32 rfl ?_
    refine o_goto cx X29 37 d4_33 (by decide) (by decide) ?_
    exact o_retN cx X29 (z' := (1 : Int32)) d4_37 (by simp) rfl ⟨congrArg (fun z => some (Value.int z)) (show (1 : Int32) = own_sep cc f1 f2 f3 f5 from Eq.symm (by simp [own_sep, hc30])), rfl⟩ (by decide) (by decide)
  · refine o_icmpNo cx X29 d4_5 (feq hc30).1 ?_
    refine o_iloadN cx X29 d4_8 rfl ?_
    refine o_aloadN cx X29 d4_9 rfl rfl ?_
    refine o_getF cx X29 d4_10 (o_w hw 17 rfl) F2 fun T31 X32 => ?_
    by_cases hc33 : cc = f2
    · refine o_icmpYes cx X32 32 d4_13 (teq hc33).1 (by decide) (by decide) ?_
      refine o_iconst cx X32 (z := (1 : Int32)) d4_32 rfl ?_
      refine o_goto cx X32 37 d4_33 (by decide) (by decide) ?_
      exact o_retN cx X32 (z' := (1 : Int32)) d4_37 (by simp) rfl ⟨congrArg (fun z => some (Value.int z)) (show (1 : Int32) = own_sep cc f1 f2 f3 f5 from Eq.symm (by simp [own_sep, hc30, hc33])), rfl⟩ (by decide) (by decide)
    · refine o_icmpNo cx X32 d4_13 (feq hc33).1 ?_
      refine o_iloadN cx X32 d4_16 rfl ?_
      refine o_aloadN cx X32 d4_17 rfl rfl ?_
      refine o_getF cx X32 d4_18 (o_w hw 19 rfl) F3 fun T34 X35 => ?_
      by_cases hc36 : cc = f3
      · refine o_icmpYes cx X35 32 d4_21 (teq hc36).1 (by decide) (by decide) ?_
        refine o_iconst cx X35 (z := (1 : Int32)) d4_32 rfl ?_
        refine o_goto cx X35 37 d4_33 (by decide) (by decide) ?_
        exact o_retN cx X35 (z' := (1 : Int32)) d4_37 (by simp) rfl ⟨congrArg (fun z => some (Value.int z)) (show (1 : Int32) = own_sep cc f1 f2 f3 f5 from Eq.symm (by simp [own_sep, hc30, hc33, hc36])), rfl⟩ (by decide) (by decide)
      · refine o_icmpNo cx X35 d4_21 (feq hc36).1 ?_
        refine o_iloadN cx X35 d4_24 rfl ?_
        refine o_aloadN cx X35 d4_25 rfl rfl ?_
        refine o_getF cx X35 d4_26 (o_w hw 23 rfl) F5 fun T37 X38 => ?_
        by_cases hc39 : cc = f5
        · refine o_icmpNo cx X38 d4_29 (teq hc39).2 ?_
          refine o_iconst cx X38 (z := (1 : Int32)) d4_32 rfl ?_
          refine o_goto cx X38 37 d4_33 (by decide) (by decide) ?_
          exact o_retN cx X38 (z' := (1 : Int32)) d4_37 (by simp) rfl ⟨congrArg (fun z => some (Value.int z)) (show (1 : Int32) = own_sep cc f1 f2 f3 f5 from Eq.symm (by simp [own_sep, hc30, hc33, hc36, hc39])), rfl⟩ (by decide) (by decide)
        · refine o_icmpYes cx X38 36 d4_29 (feq hc39).2 (by decide) (by decide) ?_
          refine o_iconst cx X38 (z := (0 : Int32)) d4_36 rfl ?_
          exact o_retN cx X38 (z' := (0 : Int32)) d4_37 (by simp) rfl ⟨congrArg (fun z => some (Value.int z)) (show (0 : Int32) = own_sep cc f1 f2 f3 f5 from Eq.symm (by simp [own_sep, hc30, hc33, hc36, hc39])), rfl⟩ (by decide) (by decide)
theorem d5_0 : decode method_2_code 0 = .ok (.iload_n 0, 1) := by decide +kernel
theorem d5_1 : decode method_2_code 1 = .ok (.iload_n 1, 1) := by decide +kernel
theorem d5_2 : decode method_2_code 2 = .ok (.if_icmp .ne 5, 3) := by decide +kernel
theorem d5_5 : decode method_2_code 5 = .ok (.iconst 1, 1) := by decide +kernel
theorem d5_6 : decode method_2_code 6 = .ok (.ireturn, 1) := by decide +kernel
theorem d5_7 : decode method_2_code 7 = .ok (.iload_n 0, 1) := by decide +kernel
theorem d5_8 : decode method_2_code 8 = .ok (.iload_n 2, 1) := by decide +kernel
theorem d5_9 : decode method_2_code 9 = .ok (.if_icmp .ne 5, 3) := by decide +kernel
theorem d5_12 : decode method_2_code 12 = .ok (.iconst 1, 1) := by decide +kernel
theorem d5_13 : decode method_2_code 13 = .ok (.ireturn, 1) := by decide +kernel
theorem d5_14 : decode method_2_code 14 = .ok (.iload_n 0, 1) := by decide +kernel
theorem d5_15 : decode method_2_code 15 = .ok (.iload_n 3, 1) := by decide +kernel
theorem d5_16 : decode method_2_code 16 = .ok (.if_icmp .ne 5, 3) := by decide +kernel
theorem d5_19 : decode method_2_code 19 = .ok (.iconst 1, 1) := by decide +kernel
theorem d5_20 : decode method_2_code 20 = .ok (.ireturn, 1) := by decide +kernel
theorem d5_21 : decode method_2_code 21 = .ok (.iload_n 0, 1) := by decide +kernel
theorem d5_22 : decode method_2_code 22 = .ok (.iload 4, 2) := by decide +kernel
theorem d5_24 : decode method_2_code 24 = .ok (.if_icmp .ne 7, 3) := by decide +kernel
theorem d5_27 : decode method_2_code 27 = .ok (.iconst 1, 1) := by decide +kernel
theorem d5_28 : decode method_2_code 28 = .ok (.goto 4, 3) := by decide +kernel
theorem d5_32 : decode method_2_code 32 = .ok (.ireturn, 1) := by decide +kernel
theorem d5_31 : decode method_2_code 31 = .ok (.iconst 0, 1) := by decide +kernel
theorem pn_5 : plainName "com/example/tracewire/tracewire/hl7/DelimitersSeparatesPinLaw" = true := by first | (simp [plainName, overriddenIn]; done) | decide +kernel
theorem ef_rm4 (m : MethodId) (cc : Int32) (f1 : Int32) (f2 : Int32) (f3 : Int32) (f5 : Int32) : entryFrame m #[(.int cc), (.int f1), (.int f2), (.int f3), (.int f5)] 5 = mkF m 0 #[.val (.int cc), .val (.int f1), .val (.int f2), .val (.int f3), .val (.int f5)] [] := by first | (simp [entryFrame, mkF, argsToLocals, Value.category]; done) | rfl
set_option maxRecDepth 65536 in
set_option maxHeartbeats 40000000 in
theorem rm4 (l : Launch) (Z : State) (a0 : Array Value) (hw : ∀ d ∈ tables_1, d.before a0 Z = true) (cc : Int32) (f1 : Int32) (f2 : Int32) (f3 : Int32) (f5 : Int32) (h0 : Heap) (n0 : Nat) (Z0 : n0 ≤ h0.size) :
    own_Met l Z (⟨"com/example/tracewire/tracewire/hl7/DelimitersSeparatesPinLaw", "amongSeparators", "(CCCCC)Z"⟩ : MethodName) method_2_code 5 (some .boolean) ({ frames := 0, cells := 0, slots := 0, locals := 0 } : Room) #[(.int cc), (.int f1), (.int f2), (.int f3), (.int f5)] h0 n0 (fun v' h' => v' = some (.int (own_sep cc f1 f2 f3 f5)) ∧ h' = h0) := by
  refine own_body (plainFor_of_name pn_5) (fun m => ef_rm4 m cc f1 f2 f3 f5) Z0 ?_
  intro p e s m below meth c T0 cx X0
  show own_Go p e below _ (T0.setTop (mkF m 0 #[.val (.int cc), .val (.int f1), .val (.int f2), .val (.int f3), .val (.int f5)] []))
  refine o_iloadN cx X0 d5_0 rfl ?_
  refine o_iloadN cx X0 d5_1 rfl ?_
  by_cases hc40 : cc = f1
  · refine o_icmpNo cx X0 d5_2 (teq hc40).2 ?_
    refine o_iconst cx X0 (z := (1 : Int32)) d5_5 rfl ?_
    exact o_retN cx X0 (z' := (1 : Int32)) d5_6 (by simp) rfl ⟨congrArg (fun z => some (Value.int z)) (show (1 : Int32) = own_sep cc f1 f2 f3 f5 from Eq.symm (by simp [own_sep, hc40])), rfl⟩ (by decide) (by decide)
  · refine o_icmpYes cx X0 7 d5_2 (feq hc40).2 (by decide) (by decide) ?_
    refine o_iloadN cx X0 d5_7 rfl ?_
    refine o_iloadN cx X0 d5_8 rfl ?_
    by_cases hc41 : cc = f2
    · refine o_icmpNo cx X0 d5_9 (teq hc41).2 ?_
      refine o_iconst cx X0 (z := (1 : Int32)) d5_12 rfl ?_
      exact o_retN cx X0 (z' := (1 : Int32)) d5_13 (by simp) rfl ⟨congrArg (fun z => some (Value.int z)) (show (1 : Int32) = own_sep cc f1 f2 f3 f5 from Eq.symm (by simp [own_sep, hc40, hc41])), rfl⟩ (by decide) (by decide)
    · refine o_icmpYes cx X0 14 d5_9 (feq hc41).2 (by decide) (by decide) ?_
      refine o_iloadN cx X0 d5_14 rfl ?_
      refine o_iloadN cx X0 d5_15 rfl ?_
      by_cases hc42 : cc = f3
      · refine o_icmpNo cx X0 d5_16 (teq hc42).2 ?_
        refine o_iconst cx X0 (z := (1 : Int32)) d5_19 rfl ?_
        exact o_retN cx X0 (z' := (1 : Int32)) d5_20 (by simp) rfl ⟨congrArg (fun z => some (Value.int z)) (show (1 : Int32) = own_sep cc f1 f2 f3 f5 from Eq.symm (by simp [own_sep, hc40, hc41, hc42])), rfl⟩ (by decide) (by decide)
      · refine o_icmpYes cx X0 21 d5_16 (feq hc42).2 (by decide) (by decide) ?_
        refine o_iloadN cx X0 d5_21 rfl ?_
        refine o_iload cx X0 d5_22 rfl ?_
        by_cases hc43 : cc = f5
        · refine o_icmpNo cx X0 d5_24 (teq hc43).2 ?_
          refine o_iconst cx X0 (z := (1 : Int32)) d5_27 rfl ?_
          refine o_goto cx X0 32 d5_28 (by decide) (by decide) ?_
          exact o_retN cx X0 (z' := (1 : Int32)) d5_32 (by simp) rfl ⟨congrArg (fun z => some (Value.int z)) (show (1 : Int32) = own_sep cc f1 f2 f3 f5 from Eq.symm (by simp [own_sep, hc40, hc41, hc42, hc43])), rfl⟩ (by decide) (by decide)
        · refine o_icmpYes cx X0 31 d5_24 (feq hc43).2 (by decide) (by decide) ?_
          refine o_iconst cx X0 (z := (0 : Int32)) d5_31 rfl ?_
          exact o_retN cx X0 (z' := (0 : Int32)) d5_32 (by simp) rfl ⟨congrArg (fun z => some (Value.int z)) (show (0 : Int32) = own_sep cc f1 f2 f3 f5 from Eq.symm (by simp [own_sep, hc40, hc41, hc42, hc43])), rfl⟩ (by decide) (by decide)
theorem pd_1 : parseMethodDescriptor "(CCCCC)V" = some ⟨[.char, .char, .char, .char, .char], none⟩ := by decide +kernel
theorem pd_4 : parseMethodDescriptor "(C)Z" = some ⟨[.char], some .boolean⟩ := by decide +kernel
theorem pd_5 : parseMethodDescriptor "(CCCCC)Z" = some ⟨[.char, .char, .char, .char, .char], some .boolean⟩ := by decide +kernel
theorem ef_rm0 (m : MethodId) (p0 : Int32) (p1 : Int32) (p2 : Int32) (p3 : Int32) (p4 : Int32) (p5 : Int32) : entryFrame m #[(.int p0), (.int p1), (.int p2), (.int p3), (.int p4), (.int p5)] maxLocals = mkF m 0 #[.val (.int p0), .val (.int p1), .val (.int p2), .val (.int p3), .val (.int p4), .val (.int p5), .unset, .unset, .unset, .unset, .unset, .unset, .unset, .unset, .unset, .unset] [] := by first | (simp [entryFrame, mkF, argsToLocals, Value.category, maxLocals]; done) | rfl
set_option maxRecDepth 65536 in
set_option maxHeartbeats 40000000 in
theorem rm0 (l : Launch) (Z : State) (a0 : Array Value) (hw : ∀ d ∈ tables_1, d.before a0 Z = true) (p0 : Int32) (p1 : Int32) (p2 : Int32) (p3 : Int32) (p4 : Int32) (p5 : Int32) (h0 : Heap) (n0 : Nat) (Z0 : n0 ≤ h0.size) :
    own_Met l Z x code maxLocals ret room_1 #[(.int p0), (.int p1), (.int p2), (.int p3), (.int p4), (.int p5)] h0 n0 (fun v' _ => v' = some (.int 1)) := by
  refine own_body (plainFor_of_name pn_5) (fun m => ef_rm0 m p0 p1 p2 p3 p4 p5) Z0 ?_
  intro p e s m below meth c T0 cx X0
  show own_Go p e below _ (T0.setTop (mkF m 0 #[.val (.int p0), .val (.int p1), .val (.int p2), .val (.int p3), .val (.int p4), .val (.int p5), .unset, .unset, .unset, .unset, .unset, .unset, .unset, .unset, .unset, .unset] []))
  refine o_iloadN cx X0 at_0 rfl ?_
  refine o_ldc cx X0 (z := (65535 : Int32)) at_1 (o_w hw 0 rfl) ?_
  refine o_iand cx X0 at_3 rfl ?_
  refine o_i2c cx X0 at_4 rfl ?_
  refine o_istore cx X0 (Ls' := #[.val (.int p0), .val (.int p1), .val (.int p2), .val (.int p3), .val (.int p4), .val (.int p5), .val (.int ((p0 &&& (65535 : Int32)).toUInt32.toUInt16.toUInt32.toInt32)), .unset, .unset, .unset, .unset, .unset, .unset, .unset, .unset, .unset]) at_5 rfl ?_
  obtain ⟨cf, ecf⟩ : ∃ z : Int32, z = ((p0 &&& (65535 : Int32)).toUInt32.toUInt16.toUInt32.toInt32) := ⟨_, rfl⟩
  rw [← ecf]
  have ncf : nar .char cf = cf := by rw [ecf]; exact own_c16 _
  show own_Go p e below _ (T0.setTop (mkF m 7 #[.val (.int p0), .val (.int p1), .val (.int p2), .val (.int p3), .val (.int p4), .val (.int p5), .val (.int cf), .unset, .unset, .unset, .unset, .unset, .unset, .unset, .unset, .unset] []))
  refine o_iloadN cx X0 at_7 rfl ?_
  refine o_ldc cx X0 (z := (65535 : Int32)) at_8 (o_w hw 0 rfl) ?_
  refine o_iand cx X0 at_10 rfl ?_
  refine o_i2c cx X0 at_11 rfl ?_
  refine o_istore cx X0 (Ls' := #[.val (.int p0), .val (.int p1), .val (.int p2), .val (.int p3), .val (.int p4), .val (.int p5), .val (.int cf), .val (.int ((p1 &&& (65535 : Int32)).toUInt32.toUInt16.toUInt32.toInt32)), .unset, .unset, .unset, .unset, .unset, .unset, .unset, .unset]) at_12 rfl ?_
  obtain ⟨cq, ecq⟩ : ∃ z : Int32, z = ((p1 &&& (65535 : Int32)).toUInt32.toUInt16.toUInt32.toInt32) := ⟨_, rfl⟩
  rw [← ecq]
  have ncq : nar .char cq = cq := by rw [ecq]; exact own_c16 _
  show own_Go p e below _ (T0.setTop (mkF m 14 #[.val (.int p0), .val (.int p1), .val (.int p2), .val (.int p3), .val (.int p4), .val (.int p5), .val (.int cf), .val (.int cq), .unset, .unset, .unset, .unset, .unset, .unset, .unset, .unset] []))
  refine o_iloadN cx X0 at_14 rfl ?_
  refine o_ldc cx X0 (z := (65535 : Int32)) at_15 (o_w hw 0 rfl) ?_
  refine o_iand cx X0 at_17 rfl ?_
  refine o_i2c cx X0 at_18 rfl ?_
  refine o_istore cx X0 (Ls' := #[.val (.int p0), .val (.int p1), .val (.int p2), .val (.int p3), .val (.int p4), .val (.int p5), .val (.int cf), .val (.int cq), .val (.int ((p2 &&& (65535 : Int32)).toUInt32.toUInt16.toUInt32.toInt32)), .unset, .unset, .unset, .unset, .unset, .unset, .unset]) at_19 rfl ?_
  obtain ⟨cr, ecr⟩ : ∃ z : Int32, z = ((p2 &&& (65535 : Int32)).toUInt32.toUInt16.toUInt32.toInt32) := ⟨_, rfl⟩
  rw [← ecr]
  have ncr : nar .char cr = cr := by rw [ecr]; exact own_c16 _
  show own_Go p e below _ (T0.setTop (mkF m 21 #[.val (.int p0), .val (.int p1), .val (.int p2), .val (.int p3), .val (.int p4), .val (.int p5), .val (.int cf), .val (.int cq), .val (.int cr), .unset, .unset, .unset, .unset, .unset, .unset, .unset] []))
  refine o_iloadN cx X0 at_21 rfl ?_
  refine o_ldc cx X0 (z := (65535 : Int32)) at_22 (o_w hw 0 rfl) ?_
  refine o_iand cx X0 at_24 rfl ?_
  refine o_i2c cx X0 at_25 rfl ?_
  refine o_istore cx X0 (Ls' := #[.val (.int p0), .val (.int p1), .val (.int p2), .val (.int p3), .val (.int p4), .val (.int p5), .val (.int cf), .val (.int cq), .val (.int cr), .val (.int ((p3 &&& (65535 : Int32)).toUInt32.toUInt16.toUInt32.toInt32)), .unset, .unset, .unset, .unset, .unset, .unset]) at_26 rfl ?_
  obtain ⟨ce, ece⟩ : ∃ z : Int32, z = ((p3 &&& (65535 : Int32)).toUInt32.toUInt16.toUInt32.toInt32) := ⟨_, rfl⟩
  rw [← ece]
  have nce : nar .char ce = ce := by rw [ece]; exact own_c16 _
  show own_Go p e below _ (T0.setTop (mkF m 28 #[.val (.int p0), .val (.int p1), .val (.int p2), .val (.int p3), .val (.int p4), .val (.int p5), .val (.int cf), .val (.int cq), .val (.int cr), .val (.int ce), .unset, .unset, .unset, .unset, .unset, .unset] []))
  refine o_iload cx X0 at_28 rfl ?_
  refine o_ldc cx X0 (z := (65535 : Int32)) at_30 (o_w hw 0 rfl) ?_
  refine o_iand cx X0 at_32 rfl ?_
  refine o_i2c cx X0 at_33 rfl ?_
  refine o_istore cx X0 (Ls' := #[.val (.int p0), .val (.int p1), .val (.int p2), .val (.int p3), .val (.int p4), .val (.int p5), .val (.int cf), .val (.int cq), .val (.int cr), .val (.int ce), .val (.int ((p4 &&& (65535 : Int32)).toUInt32.toUInt16.toUInt32.toInt32)), .unset, .unset, .unset, .unset, .unset]) at_34 rfl ?_
  obtain ⟨cs, ecs⟩ : ∃ z : Int32, z = ((p4 &&& (65535 : Int32)).toUInt32.toUInt16.toUInt32.toInt32) := ⟨_, rfl⟩
  rw [← ecs]
  have ncs : nar .char cs = cs := by rw [ecs]; exact own_c16 _
  show own_Go p e below _ (T0.setTop (mkF m 36 #[.val (.int p0), .val (.int p1), .val (.int p2), .val (.int p3), .val (.int p4), .val (.int p5), .val (.int cf), .val (.int cq), .val (.int cr), .val (.int ce), .val (.int cs), .unset, .unset, .unset, .unset, .unset] []))
  refine o_newO cx X0 at_36 (o_w hw 1 rfl) (o_w hw 2 rfl) (o_w hw 3 rfl) (by decide) (by decide) fun T45 h47 b44 gb51 ge52 X46 E48 A49 D50 => ?_
  have F_b44_field : Fld Z h47 b44 "com/example/tracewire/tracewire/hl7/Delimiters" "field" "C" (.int (0 : Int32)) := D50 (Or.inr (o_w hw 16 rfl)) (ty := .char) (by decide)
  have F_b44_component : Fld Z h47 b44 "com/example/tracewire/tracewire/hl7/Delimiters" "component" "C" (.int (0 : Int32)) := D50 (Or.inr (o_w hw 18 rfl)) (ty := .char) (by decide)
  have F_b44_repetition : Fld Z h47 b44 "com/example/tracewire/tracewire/hl7/Delimiters" "repetition" "C" (.int (0 : Int32)) := D50 (Or.inr (o_w hw 20 rfl)) (ty := .char) (by decide)
  have F_b44_escape : Fld Z h47 b44 "com/example/tracewire/tracewire/hl7/Delimiters" "escape" "C" (.int (0 : Int32)) := D50 (Or.inr (o_w hw 22 rfl)) (ty := .char) (by decide)
  have F_b44_subcomponent : Fld Z h47 b44 "com/example/tracewire/tracewire/hl7/Delimiters" "subcomponent" "C" (.int (0 : Int32)) := D50 (Or.inr (o_w hw 24 rfl)) (ty := .char) (by decide)
  refine o_dup cx X46 at_39 rfl ?_
  refine o_iload cx X46 at_40 rfl ?_
  refine o_iload cx X46 at_42 rfl ?_
  refine o_iload cx X46 at_44 rfl ?_
  refine o_iload cx X46 at_46 rfl ?_
  refine o_iload cx X46 at_48 rfl ?_
  refine o_callC cx X46 (y' := (⟨"com/example/tracewire/tracewire/hl7/Delimiters", "<init>", "(CCCCC)V"⟩ : MethodName)) (argsL := [(.int cf), (.int cq), (.int cr), (.int ce), (.int cs)]) (st := [(.ref b44)]) (a := b44) at_50 (o_w hw 4 rfl) (o_w hw 5 rfl) (o_w hw 3 rfl) (o_w hw 6 rfl) (by decide) rfl (rm2 l Z a0 hw b44 cf cq cr ce cs _ _ _ _ _ h47 n0 X46.ge0 ge52 A49 F_b44_field F_b44_component F_b44_repetition F_b44_escape F_b44_subcomponent ncf ncq ncr nce ncs) (by decide) 1 rfl (by decide) rfl (lenOf pd_1 rfl) rfl rfl (by decide) (by decide) fun v56 T53 h55 X54 Q57 => ?_
  obtain ⟨rfl, E58, F59, F60, F61, F62, F63⟩ := Q57
  show own_Go p e below _ (T53.setTop (mkF m 53 #[.val (.int p0), .val (.int p1), .val (.int p2), .val (.int p3), .val (.int p4), .val (.int p5), .val (.int cf), .val (.int cq), .val (.int cr), .val (.int ce), .val (.int cs), .unset, .unset, .unset, .unset, .unset] [(.ref b44)]))
  refine o_astore cx X54 (Ls' := #[.val (.int p0), .val (.int p1), .val (.int p2), .val (.int p3), .val (.int p4), .val (.int p5), .val (.int cf), .val (.int cq), .val (.int cr), .val (.int ce), .val (.int cs), .val (.ref b44), .unset, .unset, .unset, .unset]) at_53 rfl rfl ?_
  refine o_iload cx X54 at_55 rfl ?_
  refine o_bipush cx X54 (z := (7 : Int32)) at_57 rfl ?_
  refine o_iand cx X54 at_59 rfl ?_
  refine o_istore cx X54 (Ls' := #[.val (.int p0), .val (.int p1), .val (.int p2), .val (.int p3), .val (.int p4), .val (.int p5), .val (.int cf), .val (.int cq), .val (.int cr), .val (.int ce), .val (.int cs), .val (.ref b44), .val (.int (p5 &&& (7 : Int32))), .unset, .unset, .unset]) at_60 rfl ?_
  refine o_iload cx X54 at_62 rfl ?_
  by_cases hc64 : (p5 &&& (7 : Int32)) = (0 : Int32)
  · refine o_ifNo cx X54 at_64 ((if0 _ _).trans (teq hc64).2) ?_
    refine o_iload cx X54 at_67 rfl ?_
    refine o_istore cx X54 (Ls' := #[.val (.int p0), .val (.int p1), .val (.int p2), .val (.int p3), .val (.int p4), .val (.int p5), .val (.int cf), .val (.int cq), .val (.int cr), .val (.int ce), .val (.int cs), .val (.ref b44), .val (.int (p5 &&& (7 : Int32))), .val (.int cf), .unset, .unset]) at_69 rfl ?_
    refine o_goto cx X54 136 at_71 (by decide) (by decide) ?_
    refine o_aload cx X54 at_136 rfl rfl ?_
    refine o_iload cx X54 at_138 rfl ?_
    refine o_callVp cx X54 (y' := (⟨"com/example/tracewire/tracewire/hl7/Delimiters", "separates", "(C)Z"⟩ : MethodName)) (argsL := [(.int cf)]) (st := []) (a := b44) at_140 (o_w hw 25 rfl) (o_w hw 26 rfl) (o_w hw 28 rfl) (o_w hw 27 rfl) (o_w hw 3 rfl) (o_w hw 29 rfl) (by decide) E58 (rm3 l Z a0 hw b44 cf cf cq cr cs h55 n0 X54.ge0 F59 F60 F61 F63) (by decide) 0 rfl (by decide) rfl (lenOf pd_4 rfl) rfl rfl (by decide) (by decide) fun T65 X66 => ?_
    show own_Go p e below _ (T65.setTop (mkF m 143 #[.val (.int p0), .val (.int p1), .val (.int p2), .val (.int p3), .val (.int p4), .val (.int p5), .val (.int cf), .val (.int cq), .val (.int cr), .val (.int ce), .val (.int cs), .val (.ref b44), .val (.int (p5 &&& (7 : Int32))), .val (.int cf), .unset, .unset] [(.int (own_sep cf cf cq cr cs))]))
    refine o_istore cx X66 (Ls' := #[.val (.int p0), .val (.int p1), .val (.int p2), .val (.int p3), .val (.int p4), .val (.int p5), .val (.int cf), .val (.int cq), .val (.int cr), .val (.int ce), .val (.int cs), .val (.ref b44), .val (.int (p5 &&& (7 : Int32))), .val (.int cf), .val (.int (own_sep cf cf cq cr cs)), .unset]) at_143 rfl ?_
    refine o_iload cx X66 at_145 rfl ?_
    refine o_ifYes cx X66 168 at_147 ((if0 _ _).trans (teq hc64).1) (by decide) (by decide) ?_
    refine o_iload cx X66 at_168 rfl ?_
    exact o_retN cx X66 (z' := (nar .boolean (own_sep cf cf cq cr cs))) at_170 (by simp) rfl (congrArg (fun z => some (Value.int z)) (show nar .boolean (own_sep cf cf cq cr cs) = 1 from by rw [show (own_sep cf cf cq cr cs) = 1 from by simp [own_sep]]; rfl)) (by decide) (by decide)
  · refine o_ifYes cx X54 74 at_64 ((if0 _ _).trans (feq hc64).2) (by decide) (by decide) ?_
    refine o_iload cx X54 at_74 rfl ?_
    refine o_iconst cx X54 (z := (1 : Int32)) at_76 rfl ?_
    by_cases hc70 : (p5 &&& (7 : Int32)) = (1 : Int32)
    · refine o_icmpNo cx X54 at_77 (teq hc70).2 ?_
      refine o_iload cx X54 at_80 rfl ?_
      refine o_istore cx X54 (Ls' := #[.val (.int p0), .val (.int p1), .val (.int p2), .val (.int p3), .val (.int p4), .val (.int p5), .val (.int cf), .val (.int cq), .val (.int cr), .val (.int ce), .val (.int cs), .val (.ref b44), .val (.int (p5 &&& (7 : Int32))), .val (.int cq), .unset, .unset]) at_82 rfl ?_
      refine o_goto cx X54 136 at_84 (by decide) (by decide) ?_
      refine o_aload cx X54 at_136 rfl rfl ?_
      refine o_iload cx X54 at_138 rfl ?_
      refine o_callVp cx X54 (y' := (⟨"com/example/tracewire/tracewire/hl7/Delimiters", "separates", "(C)Z"⟩ : MethodName)) (argsL := [(.int cq)]) (st := []) (a := b44) at_140 (o_w hw 25 rfl) (o_w hw 26 rfl) (o_w hw 28 rfl) (o_w hw 27 rfl) (o_w hw 3 rfl) (o_w hw 29 rfl) (by decide) E58 (rm3 l Z a0 hw b44 cq cf cq cr cs h55 n0 X54.ge0 F59 F60 F61 F63) (by decide) 0 rfl (by decide) rfl (lenOf pd_4 rfl) rfl rfl (by decide) (by decide) fun T71 X72 => ?_
      show own_Go p e below _ (T71.setTop (mkF m 143 #[.val (.int p0), .val (.int p1), .val (.int p2), .val (.int p3), .val (.int p4), .val (.int p5), .val (.int cf), .val (.int cq), .val (.int cr), .val (.int ce), .val (.int cs), .val (.ref b44), .val (.int (p5 &&& (7 : Int32))), .val (.int cq), .unset, .unset] [(.int (own_sep cq cf cq cr cs))]))
      refine o_istore cx X72 (Ls' := #[.val (.int p0), .val (.int p1), .val (.int p2), .val (.int p3), .val (.int p4), .val (.int p5), .val (.int cf), .val (.int cq), .val (.int cr), .val (.int ce), .val (.int cs), .val (.ref b44), .val (.int (p5 &&& (7 : Int32))), .val (.int cq), .val (.int (own_sep cq cf cq cr cs)), .unset]) at_143 rfl ?_
      refine o_iload cx X72 at_145 rfl ?_
      refine o_ifNo cx X72 at_147 ((if0 _ _).trans (feq hc64).1) ?_
      refine o_iload cx X72 at_150 rfl ?_
      refine o_iconst cx X72 (z := (1 : Int32)) at_152 rfl ?_
      refine o_icmpYes cx X72 168 at_153 (teq hc70).1 (by decide) (by decide) ?_
      refine o_iload cx X72 at_168 rfl ?_
      exact o_retN cx X72 (z' := (nar .boolean (own_sep cq cf cq cr cs))) at_170 (by simp) rfl (congrArg (fun z => some (Value.int z)) (show nar .boolean (own_sep cq cf cq cr cs) = 1 from by rw [show (own_sep cq cf cq cr cs) = 1 from by simp [own_sep]]; rfl)) (by decide) (by decide)
    · refine o_icmpYes cx X54 87 at_77 (feq hc70).2 (by decide) (by decide) ?_
      refine o_iload cx X54 at_87 rfl ?_
      refine o_iconst cx X54 (z := (2 : Int32)) at_89 rfl ?_
      by_cases hc76 : (p5 &&& (7 : Int32)) = (2 : Int32)
      · refine o_icmpNo cx X54 at_90 (teq hc76).2 ?_
        refine o_iload cx X54 at_93 rfl ?_
        refine o_istore cx X54 (Ls' := #[.val (.int p0), .val (.int p1), .val (.int p2), .val (.int p3), .val (.int p4), .val (.int p5), .val (.int cf), .val (.int cq), .val (.int cr), .val (.int ce), .val (.int cs), .val (.ref b44), .val (.int (p5 &&& (7 : Int32))), .val (.int cr), .unset, .unset]) at_95 rfl ?_
        refine o_goto cx X54 136 at_97 (by decide) (by decide) ?_
        refine o_aload cx X54 at_136 rfl rfl ?_
        refine o_iload cx X54 at_138 rfl ?_
        refine o_callVp cx X54 (y' := (⟨"com/example/tracewire/tracewire/hl7/Delimiters", "separates", "(C)Z"⟩ : MethodName)) (argsL := [(.int cr)]) (st := []) (a := b44) at_140 (o_w hw 25 rfl) (o_w hw 26 rfl) (o_w hw 28 rfl) (o_w hw 27 rfl) (o_w hw 3 rfl) (o_w hw 29 rfl) (by decide) E58 (rm3 l Z a0 hw b44 cr cf cq cr cs h55 n0 X54.ge0 F59 F60 F61 F63) (by decide) 0 rfl (by decide) rfl (lenOf pd_4 rfl) rfl rfl (by decide) (by decide) fun T77 X78 => ?_
        show own_Go p e below _ (T77.setTop (mkF m 143 #[.val (.int p0), .val (.int p1), .val (.int p2), .val (.int p3), .val (.int p4), .val (.int p5), .val (.int cf), .val (.int cq), .val (.int cr), .val (.int ce), .val (.int cs), .val (.ref b44), .val (.int (p5 &&& (7 : Int32))), .val (.int cr), .unset, .unset] [(.int (own_sep cr cf cq cr cs))]))
        refine o_istore cx X78 (Ls' := #[.val (.int p0), .val (.int p1), .val (.int p2), .val (.int p3), .val (.int p4), .val (.int p5), .val (.int cf), .val (.int cq), .val (.int cr), .val (.int ce), .val (.int cs), .val (.ref b44), .val (.int (p5 &&& (7 : Int32))), .val (.int cr), .val (.int (own_sep cr cf cq cr cs)), .unset]) at_143 rfl ?_
        refine o_iload cx X78 at_145 rfl ?_
        refine o_ifNo cx X78 at_147 ((if0 _ _).trans (feq hc64).1) ?_
        refine o_iload cx X78 at_150 rfl ?_
        refine o_iconst cx X78 (z := (1 : Int32)) at_152 rfl ?_
        refine o_icmpNo cx X78 at_153 (feq hc70).1 ?_
        refine o_iload cx X78 at_156 rfl ?_
        refine o_iconst cx X78 (z := (2 : Int32)) at_158 rfl ?_
        refine o_icmpYes cx X78 168 at_159 (teq hc76).1 (by decide) (by decide) ?_
        refine o_iload cx X78 at_168 rfl ?_
        exact o_retN cx X78 (z' := (nar .boolean (own_sep cr cf cq cr cs))) at_170 (by simp) rfl (congrArg (fun z => some (Value.int z)) (show nar .boolean (own_sep cr cf cq cr cs) = 1 from by rw [show (own_sep cr cf cq cr cs) = 1 from by simp [own_sep]]; rfl)) (by decide) (by decide)
      · refine o_icmpYes cx X54 100 at_90 (feq hc76).2 (by decide) (by decide) ?_
        refine o_iload cx X54 at_100 rfl ?_
        refine o_iconst cx X54 (z := (3 : Int32)) at_102 rfl ?_
        by_cases hc82 : (p5 &&& (7 : Int32)) = (3 : Int32)
        · refine o_icmpNo cx X54 at_103 (teq hc82).2 ?_
          refine o_iload cx X54 at_106 rfl ?_
          refine o_istore cx X54 (Ls' := #[.val (.int p0), .val (.int p1), .val (.int p2), .val (.int p3), .val (.int p4), .val (.int p5), .val (.int cf), .val (.int cq), .val (.int cr), .val (.int ce), .val (.int cs), .val (.ref b44), .val (.int (p5 &&& (7 : Int32))), .val (.int ce), .unset, .unset]) at_108 rfl ?_
          refine o_goto cx X54 136 at_110 (by decide) (by decide) ?_
          refine o_aload cx X54 at_136 rfl rfl ?_
          refine o_iload cx X54 at_138 rfl ?_
          refine o_callVp cx X54 (y' := (⟨"com/example/tracewire/tracewire/hl7/Delimiters", "separates", "(C)Z"⟩ : MethodName)) (argsL := [(.int ce)]) (st := []) (a := b44) at_140 (o_w hw 25 rfl) (o_w hw 26 rfl) (o_w hw 28 rfl) (o_w hw 27 rfl) (o_w hw 3 rfl) (o_w hw 29 rfl) (by decide) E58 (rm3 l Z a0 hw b44 ce cf cq cr cs h55 n0 X54.ge0 F59 F60 F61 F63) (by decide) 0 rfl (by decide) rfl (lenOf pd_4 rfl) rfl rfl (by decide) (by decide) fun T83 X84 => ?_
          show own_Go p e below _ (T83.setTop (mkF m 143 #[.val (.int p0), .val (.int p1), .val (.int p2), .val (.int p3), .val (.int p4), .val (.int p5), .val (.int cf), .val (.int cq), .val (.int cr), .val (.int ce), .val (.int cs), .val (.ref b44), .val (.int (p5 &&& (7 : Int32))), .val (.int ce), .unset, .unset] [(.int (own_sep ce cf cq cr cs))]))
          refine o_istore cx X84 (Ls' := #[.val (.int p0), .val (.int p1), .val (.int p2), .val (.int p3), .val (.int p4), .val (.int p5), .val (.int cf), .val (.int cq), .val (.int cr), .val (.int ce), .val (.int cs), .val (.ref b44), .val (.int (p5 &&& (7 : Int32))), .val (.int ce), .val (.int (own_sep ce cf cq cr cs)), .unset]) at_143 rfl ?_
          refine o_iload cx X84 at_145 rfl ?_
          refine o_ifNo cx X84 at_147 ((if0 _ _).trans (feq hc64).1) ?_
          refine o_iload cx X84 at_150 rfl ?_
          refine o_iconst cx X84 (z := (1 : Int32)) at_152 rfl ?_
          refine o_icmpNo cx X84 at_153 (feq hc70).1 ?_
          refine o_iload cx X84 at_156 rfl ?_
          refine o_iconst cx X84 (z := (2 : Int32)) at_158 rfl ?_
          refine o_icmpNo cx X84 at_159 (feq hc76).1 ?_
          refine o_iload cx X84 at_162 rfl ?_
          refine o_iconst cx X84 (z := (4 : Int32)) at_164 rfl ?_
          refine o_icmpYes cx X84 171 at_165 (feq (by rw [hc82]; decide : ¬ ((p5 &&& (7 : Int32)) = (4 : Int32)))).2 (by decide) (by decide) ?_
          refine o_iload cx X84 at_171 rfl ?_
          refine o_iload cx X84 at_173 rfl ?_
          refine o_iload cx X84 at_175 rfl ?_
          refine o_iload cx X84 at_177 rfl ?_
          refine o_iload cx X84 at_179 rfl ?_
          refine o_callSp cx X84 (y' := (⟨"com/example/tracewire/tracewire/hl7/DelimitersSeparatesPinLaw", "amongSeparators", "(CCCCC)Z"⟩ : MethodName)) (argsL := [(.int ce), (.int cf), (.int cq), (.int cr), (.int cs)]) (st := []) at_181 (o_w hw 30 rfl) (o_w hw 31 rfl) (o_w hw 32 rfl) (o_w hw 33 rfl) (by decide) (rm4 l Z a0 hw ce cf cq cr cs h55 n0 X84.ge0) (by decide) 0 rfl (by decide) rfl (lenOf pd_5 rfl) rfl rfl (by decide) (by decide) fun T88 X89 => ?_
          show own_Go p e below _ (T88.setTop (mkF m 184 #[.val (.int p0), .val (.int p1), .val (.int p2), .val (.int p3), .val (.int p4), .val (.int p5), .val (.int cf), .val (.int cq), .val (.int cr), .val (.int ce), .val (.int cs), .val (.ref b44), .val (.int (p5 &&& (7 : Int32))), .val (.int ce), .val (.int (own_sep ce cf cq cr cs)), .unset] [(.int (own_sep ce cf cq cr cs))]))
          refine o_istore cx X89 (Ls' := #[.val (.int p0), .val (.int p1), .val (.int p2), .val (.int p3), .val (.int p4), .val (.int p5), .val (.int cf), .val (.int cq), .val (.int cr), .val (.int ce), .val (.int cs), .val (.ref b44), .val (.int (p5 &&& (7 : Int32))), .val (.int ce), .val (.int (own_sep ce cf cq cr cs)), .val (.int (own_sep ce cf cq cr cs))]) at_184 rfl ?_
          refine o_iload cx X89 at_186 rfl ?_
          refine o_iload cx X89 at_188 rfl ?_
          refine o_icmpNo cx X89 at_190 (teq rfl).2 ?_
          refine o_iconst cx X89 (z := (1 : Int32)) at_193 rfl ?_
          refine o_goto cx X89 198 at_194 (by decide) (by decide) ?_
          exact o_retN cx X89 (z' := (1 : Int32)) at_198 (by simp) rfl rfl (by decide) (by decide)
        · refine o_icmpYes cx X54 113 at_103 (feq hc82).2 (by decide) (by decide) ?_
          refine o_iload cx X54 at_113 rfl ?_
          refine o_iconst cx X54 (z := (4 : Int32)) at_115 rfl ?_
          by_cases hc93 : (p5 &&& (7 : Int32)) = (4 : Int32)
          · refine o_icmpNo cx X54 at_116 (teq hc93).2 ?_
            refine o_iload cx X54 at_119 rfl ?_
            refine o_istore cx X54 (Ls' := #[.val (.int p0), .val (.int p1), .val (.int p2), .val (.int p3), .val (.int p4), .val (.int p5), .val (.int cf), .val (.int cq), .val (.int cr), .val (.int ce), .val (.int cs), .val (.ref b44), .val (.int (p5 &&& (7 : Int32))), .val (.int cs), .unset, .unset]) at_121 rfl ?_
            refine o_goto cx X54 136 at_123 (by decide) (by decide) ?_
            refine o_aload cx X54 at_136 rfl rfl ?_
            refine o_iload cx X54 at_138 rfl ?_
            refine o_callVp cx X54 (y' := (⟨"com/example/tracewire/tracewire/hl7/Delimiters", "separates", "(C)Z"⟩ : MethodName)) (argsL := [(.int cs)]) (st := []) (a := b44) at_140 (o_w hw 25 rfl) (o_w hw 26 rfl) (o_w hw 28 rfl) (o_w hw 27 rfl) (o_w hw 3 rfl) (o_w hw 29 rfl) (by decide) E58 (rm3 l Z a0 hw b44 cs cf cq cr cs h55 n0 X54.ge0 F59 F60 F61 F63) (by decide) 0 rfl (by decide) rfl (lenOf pd_4 rfl) rfl rfl (by decide) (by decide) fun T94 X95 => ?_
            show own_Go p e below _ (T94.setTop (mkF m 143 #[.val (.int p0), .val (.int p1), .val (.int p2), .val (.int p3), .val (.int p4), .val (.int p5), .val (.int cf), .val (.int cq), .val (.int cr), .val (.int ce), .val (.int cs), .val (.ref b44), .val (.int (p5 &&& (7 : Int32))), .val (.int cs), .unset, .unset] [(.int (own_sep cs cf cq cr cs))]))
            refine o_istore cx X95 (Ls' := #[.val (.int p0), .val (.int p1), .val (.int p2), .val (.int p3), .val (.int p4), .val (.int p5), .val (.int cf), .val (.int cq), .val (.int cr), .val (.int ce), .val (.int cs), .val (.ref b44), .val (.int (p5 &&& (7 : Int32))), .val (.int cs), .val (.int (own_sep cs cf cq cr cs)), .unset]) at_143 rfl ?_
            refine o_iload cx X95 at_145 rfl ?_
            refine o_ifNo cx X95 at_147 ((if0 _ _).trans (feq hc64).1) ?_
            refine o_iload cx X95 at_150 rfl ?_
            refine o_iconst cx X95 (z := (1 : Int32)) at_152 rfl ?_
            refine o_icmpNo cx X95 at_153 (feq hc70).1 ?_
            refine o_iload cx X95 at_156 rfl ?_
            refine o_iconst cx X95 (z := (2 : Int32)) at_158 rfl ?_
            refine o_icmpNo cx X95 at_159 (feq hc76).1 ?_
            refine o_iload cx X95 at_162 rfl ?_
            refine o_iconst cx X95 (z := (4 : Int32)) at_164 rfl ?_
            refine o_icmpNo cx X95 at_165 (teq hc93).2 ?_
            refine o_iload cx X95 at_168 rfl ?_
            exact o_retN cx X95 (z' := (nar .boolean (own_sep cs cf cq cr cs))) at_170 (by simp) rfl (congrArg (fun z => some (Value.int z)) (show nar .boolean (own_sep cs cf cq cr cs) = 1 from by rw [show (own_sep cs cf cq cr cs) = 1 from by simp [own_sep]]; rfl)) (by decide) (by decide)
          · refine o_icmpYes cx X54 126 at_116 (feq hc93).2 (by decide) (by decide) ?_
            refine o_iload cx X54 at_126 rfl ?_
            refine o_iconst cx X54 (z := (3 : Int32)) at_128 rfl ?_
            refine o_iushr cx X54 at_129 rfl ?_
            refine o_ldc cx X54 (z := (65535 : Int32)) at_130 (o_w hw 0 rfl) ?_
            refine o_iand cx X54 at_132 rfl ?_
            refine o_i2c cx X54 at_133 rfl ?_
            refine o_istore cx X54 (Ls' := #[.val (.int p0), .val (.int p1), .val (.int p2), .val (.int p3), .val (.int p4), .val (.int p5), .val (.int cf), .val (.int cq), .val (.int cr), .val (.int ce), .val (.int cs), .val (.ref b44), .val (.int (p5 &&& (7 : Int32))), .val (.int ((((p5.toUInt32 >>> ((3 : Int32) &&& 31).toUInt32).toInt32) &&& (65535 : Int32)).toUInt32.toUInt16.toUInt32.toInt32)), .unset, .unset]) at_134 rfl ?_
            refine o_aload cx X54 at_136 rfl rfl ?_
            refine o_iload cx X54 at_138 rfl ?_
            refine o_callVp cx X54 (y' := (⟨"com/example/tracewire/tracewire/hl7/Delimiters", "separates", "(C)Z"⟩ : MethodName)) (argsL := [(.int ((((p5.toUInt32 >>> ((3 : Int32) &&& 31).toUInt32).toInt32) &&& (65535 : Int32)).toUInt32.toUInt16.toUInt32.toInt32))]) (st := []) (a := b44) at_140 (o_w hw 25 rfl) (o_w hw 26 rfl) (o_w hw 28 rfl) (o_w hw 27 rfl) (o_w hw 3 rfl) (o_w hw 29 rfl) (by decide) E58 (rm3 l Z a0 hw b44 ((((p5.toUInt32 >>> ((3 : Int32) &&& 31).toUInt32).toInt32) &&& (65535 : Int32)).toUInt32.toUInt16.toUInt32.toInt32) cf cq cr cs h55 n0 X54.ge0 F59 F60 F61 F63) (by decide) 0 rfl (by decide) rfl (lenOf pd_4 rfl) rfl rfl (by decide) (by decide) fun T99 X100 => ?_
            show own_Go p e below _ (T99.setTop (mkF m 143 #[.val (.int p0), .val (.int p1), .val (.int p2), .val (.int p3), .val (.int p4), .val (.int p5), .val (.int cf), .val (.int cq), .val (.int cr), .val (.int ce), .val (.int cs), .val (.ref b44), .val (.int (p5 &&& (7 : Int32))), .val (.int ((((p5.toUInt32 >>> ((3 : Int32) &&& 31).toUInt32).toInt32) &&& (65535 : Int32)).toUInt32.toUInt16.toUInt32.toInt32)), .unset, .unset] [(.int (own_sep ((((p5.toUInt32 >>> ((3 : Int32) &&& 31).toUInt32).toInt32) &&& (65535 : Int32)).toUInt32.toUInt16.toUInt32.toInt32) cf cq cr cs))]))
            refine o_istore cx X100 (Ls' := #[.val (.int p0), .val (.int p1), .val (.int p2), .val (.int p3), .val (.int p4), .val (.int p5), .val (.int cf), .val (.int cq), .val (.int cr), .val (.int ce), .val (.int cs), .val (.ref b44), .val (.int (p5 &&& (7 : Int32))), .val (.int ((((p5.toUInt32 >>> ((3 : Int32) &&& 31).toUInt32).toInt32) &&& (65535 : Int32)).toUInt32.toUInt16.toUInt32.toInt32)), .val (.int (own_sep ((((p5.toUInt32 >>> ((3 : Int32) &&& 31).toUInt32).toInt32) &&& (65535 : Int32)).toUInt32.toUInt16.toUInt32.toInt32) cf cq cr cs)), .unset]) at_143 rfl ?_
            refine o_iload cx X100 at_145 rfl ?_
            refine o_ifNo cx X100 at_147 ((if0 _ _).trans (feq hc64).1) ?_
            refine o_iload cx X100 at_150 rfl ?_
            refine o_iconst cx X100 (z := (1 : Int32)) at_152 rfl ?_
            refine o_icmpNo cx X100 at_153 (feq hc70).1 ?_
            refine o_iload cx X100 at_156 rfl ?_
            refine o_iconst cx X100 (z := (2 : Int32)) at_158 rfl ?_
            refine o_icmpNo cx X100 at_159 (feq hc76).1 ?_
            refine o_iload cx X100 at_162 rfl ?_
            refine o_iconst cx X100 (z := (4 : Int32)) at_164 rfl ?_
            refine o_icmpYes cx X100 171 at_165 (feq hc93).2 (by decide) (by decide) ?_
            refine o_iload cx X100 at_171 rfl ?_
            refine o_iload cx X100 at_173 rfl ?_
            refine o_iload cx X100 at_175 rfl ?_
            refine o_iload cx X100 at_177 rfl ?_
            refine o_iload cx X100 at_179 rfl ?_
            refine o_callSp cx X100 (y' := (⟨"com/example/tracewire/tracewire/hl7/DelimitersSeparatesPinLaw", "amongSeparators", "(CCCCC)Z"⟩ : MethodName)) (argsL := [(.int ((((p5.toUInt32 >>> ((3 : Int32) &&& 31).toUInt32).toInt32) &&& (65535 : Int32)).toUInt32.toUInt16.toUInt32.toInt32)), (.int cf), (.int cq), (.int cr), (.int cs)]) (st := []) at_181 (o_w hw 30 rfl) (o_w hw 31 rfl) (o_w hw 32 rfl) (o_w hw 33 rfl) (by decide) (rm4 l Z a0 hw ((((p5.toUInt32 >>> ((3 : Int32) &&& 31).toUInt32).toInt32) &&& (65535 : Int32)).toUInt32.toUInt16.toUInt32.toInt32) cf cq cr cs h55 n0 X100.ge0) (by decide) 0 rfl (by decide) rfl (lenOf pd_5 rfl) rfl rfl (by decide) (by decide) fun T104 X105 => ?_
            show own_Go p e below _ (T104.setTop (mkF m 184 #[.val (.int p0), .val (.int p1), .val (.int p2), .val (.int p3), .val (.int p4), .val (.int p5), .val (.int cf), .val (.int cq), .val (.int cr), .val (.int ce), .val (.int cs), .val (.ref b44), .val (.int (p5 &&& (7 : Int32))), .val (.int ((((p5.toUInt32 >>> ((3 : Int32) &&& 31).toUInt32).toInt32) &&& (65535 : Int32)).toUInt32.toUInt16.toUInt32.toInt32)), .val (.int (own_sep ((((p5.toUInt32 >>> ((3 : Int32) &&& 31).toUInt32).toInt32) &&& (65535 : Int32)).toUInt32.toUInt16.toUInt32.toInt32) cf cq cr cs)), .unset] [(.int (own_sep ((((p5.toUInt32 >>> ((3 : Int32) &&& 31).toUInt32).toInt32) &&& (65535 : Int32)).toUInt32.toUInt16.toUInt32.toInt32) cf cq cr cs))]))
            refine o_istore cx X105 (Ls' := #[.val (.int p0), .val (.int p1), .val (.int p2), .val (.int p3), .val (.int p4), .val (.int p5), .val (.int cf), .val (.int cq), .val (.int cr), .val (.int ce), .val (.int cs), .val (.ref b44), .val (.int (p5 &&& (7 : Int32))), .val (.int ((((p5.toUInt32 >>> ((3 : Int32) &&& 31).toUInt32).toInt32) &&& (65535 : Int32)).toUInt32.toUInt16.toUInt32.toInt32)), .val (.int (own_sep ((((p5.toUInt32 >>> ((3 : Int32) &&& 31).toUInt32).toInt32) &&& (65535 : Int32)).toUInt32.toUInt16.toUInt32.toInt32) cf cq cr cs)), .val (.int (own_sep ((((p5.toUInt32 >>> ((3 : Int32) &&& 31).toUInt32).toInt32) &&& (65535 : Int32)).toUInt32.toUInt16.toUInt32.toInt32) cf cq cr cs))]) at_184 rfl ?_
            refine o_iload cx X105 at_186 rfl ?_
            refine o_iload cx X105 at_188 rfl ?_
            refine o_icmpNo cx X105 at_190 (teq rfl).2 ?_
            refine o_iconst cx X105 (z := (1 : Int32)) at_193 rfl ?_
            refine o_goto cx X105 198 at_194 (by decide) (by decide) ?_
            exact o_retN cx X105 (z' := (1 : Int32)) at_198 (by simp) rfl rfl (by decide) (by decide)
set_option maxRecDepth 65536 in
set_option maxHeartbeats 40000000 in
theorem comes_1 {Post : Tables → Env → Array Value → State → Outcome → State → Prop} (hpost : ∀ tb e args s v u, (limb_1_1.after args s (.returned v) u = true ∧ limb_1_2.after args s (.returned v) u = true ∧ True) → FrameEnd s (.returned v) u (Jvm.fieldLocs frame_1_writes args s ++ Jvm.arrayLocs frame_1_arrays args s ++ Jvm.staticLocs frame_1_statics s) 16 128 → Post tb e args s (.returned v) u) :
    ArmFor flags0 classFile x code maxLocals ret World_1 tables_1 room_1 Calls_1 rest_1 Pre_1 Post := by
  intro l hfl _ _ p e ha hc hk s m args below hf hA hF happ hP
  obtain ⟨hcalls, hrest, hpre⟩ := hP
  obtain ⟨-, -, -, hnamed, -, -, -, hat⟩ := (Spec.applies_iff hf).mp happ
  obtain ⟨hg, hn⟩ := and_e (Cond.before_iff.mp (show (Jvm.Cond.and given_1 narrow_1).before args s = true from hpre))
  obtain ⟨q0, g0⟩ := and_e hg
  obtain ⟨q1, g1⟩ := and_e g0
  obtain ⟨q2, g2⟩ := and_e g1
  obtain ⟨q3, g3⟩ := and_e g2
  obtain ⟨q4, g4⟩ := and_e g3
  obtain ⟨q5, g5⟩ := and_e g4
  obtain ⟨w0, w1, w2, w3, w4, w5, rfl⟩ : ∃ w0 w1 w2 w3 w4 w5 : Value, args = #[w0, w1, w2, w3, w4, w5] := by
    have hs : args.size = 6 := by simpa [Cond.value, given_1] using q0
    obtain ⟨L⟩ := args
    match L, hs with
    | [w0, w1, w2, w3, w4, w5], _ => exact ⟨w0, w1, w2, w3, w4, w5, rfl⟩
  have hw := fun d (hd : d ∈ tables_1) => atoms_spec (ws := Jvm.Cond.code x code maxLocals ret :: tables_1) hat d (List.mem_cons_of_mem _ hd)
  obtain ⟨i0, ei0⟩ := is_v q1
  obtain rfl : w0 = (.int i0) := Option.some.inj ei0
  obtain ⟨i1, ei1⟩ := is_v q2
  obtain rfl : w1 = (.int i1) := Option.some.inj ei1
  obtain ⟨i2, ei2⟩ := is_v q3
  obtain rfl : w2 = (.int i2) := Option.some.inj ei2
  obtain ⟨i3, ei3⟩ := is_v q4
  obtain rfl : w3 = (.int i3) := Option.some.inj ei3
  obtain ⟨i4, ei4⟩ := is_v q5
  obtain rfl : w4 = (.int i4) := Option.some.inj ei4
  obtain ⟨i5, ei5⟩ := is_v g5
  obtain rfl : w5 = (.int i5) := Option.some.inj ei5
  obtain ⟨n, o, h1, h2, h3, v, L, rfl, ⟨hv, _, N⟩, hq⟩ := rm0 l s _ hw i0 i1 i2 i3 i4 i5 s.heap s.heap.size (Nat.le_refl _) tables_1 p e ha hc hk s m _ below hf ((Spec.applies_iff_loose hf).mp happ).1 ⟨rfl, State.Warmed39.refl s, rfl⟩ trivial
  obtain rfl : v = some (.int 1) := hv
  refine ⟨n, _, h1, h2, h3, hpost _ _ _ _ _ _ ⟨Cond.after_iff.mpr rfl, Cond.after_iff.mpr (eq_i res_at (Term.int_eval (1)) rfl), trivial⟩ ⟨hq.1, hq.2.1, (hq.2.2.sift fun y hy => Or.inr (N y hy)).mono (by decide) (by decide)⟩⟩
theorem main_1_1 : Claimed_1_1 := comes_1 fun _ _ _ _ _ _ h hF => ⟨h.1, hF⟩
theorem main_1_2 : Claimed_1_2 := comes_1 fun _ _ _ _ _ _ h hF => ⟨h.2.1, hF⟩
end Jvm.Pilot.@@N@@
namespace Jvm.Pilot.@@N@@
open Jvm Jvm.ClassFile Sem Op Lib Jvm.Free Jvm.Stand Jvm.Pilot.@@N@@.Jvm.D
/-! MADE BY PROGRAM (witnessworld.py) out of the Statement's table words and the real class files: 10 classes; the members and pool entries that the words name. The judged class is class 1, her method 2. -/
namespace start1
open Jvm.ClassFile
def u (s : String) : CpInfo := .utf8 (stringToUtf16 s)
/-- a pool by its gaps: so many unusable entries, then the entry; so many at the end -/
def gap : Nat → List CpInfo → List CpInfo
  | 0, r => r
  | n + 1, r => .unusable :: gap n r
def poolList (es : List (Nat × CpInfo)) (last : Nat) : List CpInfo := es.foldr (fun e r => gap e.1 (e.2 :: r)) (gap last [])
def pool (es : List (Nat × CpInfo)) (last : Nat) : Array CpInfo := ⟨poolList es last⟩
def fileOf (pool : Array CpInfo) (this : Nat) (attrs : Array Attribute := #[]) (ms : Array MethodInfo := #[]) (fl : Nat := 33) (sup : Nat := 0) (ifs : Array Nat := #[]) (fds : Array FieldInfo := #[]) : ClassFile where
  minorVersion := 0
  majorVersion := 65
  constantPool := pool
  accessFlags := fl
  thisClass := this
  superClass := sup
  interfaces := ifs
  fields := fds
  methods := ms
  attributes := attrs
def plain (name : String) (sup : Option ClassId) : Class where
  name := name
  kind := .ordinary
  loader := none
  accessFlags := 33
  super := sup
  interfaces := #[]
  cf := none
  fields := #[]
  methods := #[]
  instanceTypes := #[]
  staticTypes := #[]
  resolved := #[]
  callSites := []
  init := .initialized
  statics := none
  mirror := none

def pool0 : Array CpInfo := pool [(5, u "<init>"), (0, u "()V"), (1, .class_ 10), (1, u "java/lang/Object")] 113

def k0c0 : Code := { maxStack := 0, maxLocals := 1, code := object_method_1_code, exceptionTable := #[], attributes := #[] }
def k0m0 : Method := { name := "<init>", desc := "()V", sig := { parameters := [], returnType := none }, accessFlags := 1, code := some k0c0 }
/-- java/lang/Object -/
def k0 : Class := { plain "java/lang/Object" none with
  accessFlags := 33
  interfaces := #[]
  cf := some (fileOf pool0 8 #[] #[{ accessFlags := 1, nameIndex := 5, descriptorIndex := 6, attributes := #[] }] 33 0 #[] #[])
  fields := #[]
  methods := #[k0m0]
  instanceTypes := #[]
  staticTypes := #[]
  resolved := Array.replicate 124 none
  statics := none }

def pool1 : Array CpInfo := pool [(2, .class_ 4), (1, u "java/lang/Object"), (0, u "<init>"), (0, u "()V"), (0, .integer 65535), (0, .class_ 9), (0, u "com/example/tracewire/tracewire/hl7/Delimiters"), (0, .methodref 8 11), (0, .nameAndType 5 12), (0, u "(CCCCC)V"), (0, .methodref 8 14), (0, .nameAndType 15 16), (0, u "separates"), (0, u "(C)Z"), (0, .methodref 18 19), (0, .class_ 20), (0, .nameAndType 21 22), (0, u "com/example/tracewire/tracewire/hl7/DelimitersSeparatesPinLaw"), (0, u "amongSeparators"), (0, u "(CCCCC)Z"), (3, u "law"), (0, u "(IIIIII)Z")] 2

def k1m0 : Method := { name := "<init>", desc := "()V", sig := { parameters := [], returnType := none }, accessFlags := 2, code := none }
def k1c1 : Code := { maxStack := 2, maxLocals := 5, code := method_2_code, exceptionTable := #[], attributes := #[] }
def k1m1 : Method := { name := "amongSeparators", desc := "(CCCCC)Z", sig := { parameters := [.char, .char, .char, .char, .char], returnType := some .boolean }, accessFlags := 10, code := some k1c1 }
def k1c2 : Code := { maxStack := 7, maxLocals := 16, code := code, exceptionTable := #[], attributes := #[] }
def k1m2 : Method := { name := "law", desc := "(IIIIII)Z", sig := { parameters := [.int, .int, .int, .int, .int, .int], returnType := some .boolean }, accessFlags := 9, code := some k1c2 }
/-- com/example/tracewire/tracewire/hl7/DelimitersSeparatesPinLaw -/
def k1 : Class := { plain "com/example/tracewire/tracewire/hl7/DelimitersSeparatesPinLaw" (some 0) with
  accessFlags := 49
  interfaces := #[]
  cf := some (fileOf pool1 18 #[] #[{ accessFlags := 2, nameIndex := 5, descriptorIndex := 6, attributes := #[] }, { accessFlags := 10, nameIndex := 21, descriptorIndex := 22, attributes := #[] }, { accessFlags := 9, nameIndex := 26, descriptorIndex := 27, attributes := #[] }] 49 2 #[] #[])
  fields := #[]
  methods := #[k1m0, k1m1, k1m2]
  instanceTypes := #[]
  staticTypes := #[]
  resolved := Array.replicate 30 none
  statics := none }

def pool2 : Array CpInfo := pool [(1, .methodref 2 3), (0, .class_ 4), (0, .nameAndType 5 6), (0, u "java/lang/Object"), (0, u "<init>"), (0, u "()V"), (0, .class_ 8), (0, u "java/lang/Record")] 13

def k2c0 : Code := { maxStack := 1, maxLocals := 1, code := jdk_30_method_1_code, exceptionTable := #[], attributes := #[] }
def k2m0 : Method := { name := "<init>", desc := "()V", sig := { parameters := [], returnType := none }, accessFlags := 4, code := some k2c0 }
/-- java/lang/Record -/
def k2 : Class := { plain "java/lang/Record" (some 0) with
  accessFlags := 1057
  interfaces := #[]
  cf := some (fileOf pool2 7 #[] #[{ accessFlags := 4, nameIndex := 5, descriptorIndex := 6, attributes := #[] }] 1057 2 #[] #[])
  fields := #[]
  methods := #[k2m0]
  instanceTypes := #[]
  staticTypes := #[]
  resolved := Array.replicate 22 none
  statics := none }

def pool3 : Array CpInfo := pool [(1, .methodref 2 3), (0, .class_ 4), (0, .nameAndType 5 6), (0, u "java/lang/Record"), (0, u "<init>"), (0, u "()V"), (0, .fieldref 8 9), (0, .class_ 10), (0, .nameAndType 11 12), (0, u "com/example/tracewire/tracewire/hl7/Delimiters"), (0, u "field"), (0, u "C"), (0, .fieldref 8 14), (0, .nameAndType 15 12), (0, u "component"), (0, .fieldref 8 17), (0, .nameAndType 18 12), (0, u "repetition"), (0, .fieldref 8 20), (0, .nameAndType 21 12), (0, u "escape"), (0, .fieldref 8 23), (0, .nameAndType 24 12), (0, u "subcomponent"), (19, u "(CCCCC)V"), (39, u "STANDARD"), (0, u "Lcom/example/tracewire/tracewire/hl7/Delimiters;"), (7, u "separates"), (0, u "(C)Z")] 50

def k3c0 : Code := { maxStack := 2, maxLocals := 6, code := prog_42_method_1_code, exceptionTable := #[], attributes := #[] }
def k3m0 : Method := { name := "<init>", desc := "(CCCCC)V", sig := { parameters := [.char, .char, .char, .char, .char], returnType := none }, accessFlags := 1, code := some k3c0 }
def k3c1 : Code := { maxStack := 2, maxLocals := 2, code := prog_42_method_3_code, exceptionTable := #[], attributes := #[] }
def k3m1 : Method := { name := "separates", desc := "(C)Z", sig := { parameters := [.char], returnType := some .boolean }, accessFlags := 0, code := some k3c1 }
/-- com/example/tracewire/tracewire/hl7/Delimiters -/
def k3 : Class := { plain "com/example/tracewire/tracewire/hl7/Delimiters" (some 2) with
  accessFlags := 49
  interfaces := #[]
  cf := some (fileOf pool3 8 #[] #[{ accessFlags := 1, nameIndex := 5, descriptorIndex := 44, attributes := #[] }, { accessFlags := 0, nameIndex := 93, descriptorIndex := 94, attributes := #[] }] 49 2 #[] #[{ accessFlags := 18, nameIndex := 11, descriptorIndex := 12, attributes := #[] }, { accessFlags := 18, nameIndex := 15, descriptorIndex := 12, attributes := #[] }, { accessFlags := 18, nameIndex := 18, descriptorIndex := 12, attributes := #[] }, { accessFlags := 18, nameIndex := 21, descriptorIndex := 12, attributes := #[] }, { accessFlags := 18, nameIndex := 24, descriptorIndex := 12, attributes := #[] }, { accessFlags := 25, nameIndex := 84, descriptorIndex := 85, attributes := #[] }])
  fields := #[{ name := "field", type := .char, accessFlags := 18, slot := 0, constantValue := 0 }, { name := "component", type := .char, accessFlags := 18, slot := 1, constantValue := 0 }, { name := "repetition", type := .char, accessFlags := 18, slot := 2, constantValue := 0 }, { name := "escape", type := .char, accessFlags := 18, slot := 3, constantValue := 0 }, { name := "subcomponent", type := .char, accessFlags := 18, slot := 4, constantValue := 0 }, { name := "STANDARD", type := (.object "com/example/tracewire/tracewire/hl7/Delimiters"), accessFlags := 25, slot := 0, constantValue := 0 }]
  methods := #[k3m0, k3m1]
  instanceTypes := #[.char, .char, .char, .char, .char]
  staticTypes := #[(.object "com/example/tracewire/tracewire/hl7/Delimiters")]
  resolved := Array.replicate 145 none
  statics := none }

def pool4 : Array CpInfo := pool [(1, u "java/lang/Cloneable"), (0, .class_ 1), (0, u "java/lang/Object"), (0, .class_ 3)] 3

/-- java/lang/Cloneable -/
def k4 : Class := { plain "java/lang/Cloneable" (some 0) with
  accessFlags := 1537
  interfaces := #[]
  cf := some (fileOf pool4 2 #[] #[] 1537 4 #[] #[])
  fields := #[]
  methods := #[]
  instanceTypes := #[]
  staticTypes := #[]
  resolved := Array.replicate 8 none
  statics := none }

def pool5 : Array CpInfo := pool [(1, u "java/io/Serializable"), (0, .class_ 1), (0, u "java/lang/Object"), (0, .class_ 3)] 3

/-- java/io/Serializable -/
def k5 : Class := { plain "java/io/Serializable" (some 0) with
  accessFlags := 1537
  interfaces := #[]
  cf := some (fileOf pool5 2 #[] #[] 1537 4 #[] #[])
  fields := #[]
  methods := #[]
  instanceTypes := #[]
  staticTypes := #[]
  resolved := Array.replicate 8 none
  statics := none }

/-- the primitive byte -/
def k6 : Class := { plain "byte" none with kind := .primitive 'B', accessFlags := 0x411 }
/-- [B -/
def k7 : Class := { plain "[B" (some 0) with kind := .array 6 .byte, interfaces := #[4, 5], accessFlags := 1041 }

/-- the primitive int -/
def k8 : Class := { plain "int" none with kind := .primitive 'I', accessFlags := 0x411 }
/-- [I -/
def k9 : Class := { plain "[I" (some 0) with kind := .array 8 .int, interfaces := #[4, 5], accessFlags := 1041 }

def heap : Heap := #[]
def classes : Array Class := #[k0, k1, k2, k3, k4, k5, k6, k7, k8, k9]
def interned : List (Array UInt16 × Addr) := []
def slotsUsed : Nat := 0
def theMethod : MethodId := ⟨1, 2⟩
def args0 : Array Value := #[.int 5, .int 3, .int 4, .int 2, .int 1, .int 9]
def aboutOver (below : List Frame) : State where
  vm := { classes := classes, interned := interned.toArray }
  heap := heap
  slotsUsed := slotsUsed
  threads := #[{ frames := .invoking theMethod args0 :: below }]
def below0 : List Frame := [.native { method := ⟨0, 0⟩, args := #[] }]
def about1 : State := aboutOver below0
def p0 : Program := .bare "" "" ""
def e0 : Env := launch0.env 0 0 0
theorem w_frames : about1.frames = Frame.invoking theMethod args0 :: below0 := rfl
set_option maxRecDepth 65536 in
theorem w_args : argsFit about1.vm theMethod args0 = true := by decide +kernel
set_option maxRecDepth 65536 in
theorem w_heap : heapFits about1 = true := by decide +kernel
set_option maxRecDepth 65536 in
theorem w_runnable : about1.curStatus? = some .runnable := by decide +kernel
set_option maxRecDepth 65536 in
theorem w_alone : about1.alone = true := by decide +kernel
set_option maxRecDepth 65536 in
theorem w_named : about1.methodNamed? x = some theMethod := by decide +kernel
set_option maxRecDepth 65536 in
theorem w_hears : about1.hears theMethod below0 = true := by decide +kernel
set_option maxRecDepth 65536 in
theorem w_ripe : about1.ripe theMethod args0 below0 = true := by decide +kernel
theorem w_running : about1.status = .running := rfl
set_option maxRecDepth 65536 in
theorem w_room : about1.hasRoom e0.platform room_1 = true :=
  launch0.hasRoom_least _ room_1 (by decide +kernel) (by decide +kernel) (by decide +kernel) (by decide +kernel) (by decide +kernel) (by decide +kernel)
theorem allAtoms_all (ts : List Jvm.Cond) (a : Array Jvm.Value) (st : Jvm.State) : (allAtoms ts).before a st = ts.all (fun c => c.before a st) := by
  induction ts with
  | nil => rfl
  | cons c t ih =>
    show (Jvm.Cond.and c (allAtoms t)).before a st = _
    rw [Jvm.Cond.before_and, ih, List.all_cons]
def words1 : List Jvm.Cond := Jvm.Cond.code x code maxLocals ret :: tables_1
/-- a 'code' word, met by the world's own term for the bytes: nothing is compared byte by byte -/
theorem code_word {y : MethodName} {bytes : ByteArray} {mx : Nat} {rt : Option FieldType} {a : Array Value} {s : State} {m : MethodId} {meth : Method} {c : Code} (h1 : s.methodNamed? y = some m) (h2 : s.vm.method? m = some meth) (h3 : meth.code = some c) (h4 : c.code = bytes)
    (h5 : (c.maxLocals == mx && c.exceptionTable.isEmpty && decide (c.maxStack ≤ mostOperands) && decide (meth.sig.returnType = rt) && !meth.locks && decide (parseMethodDescriptor y.desc = some meth.sig)) = true) : (Jvm.Cond.code y bytes mx rt).before a s = true := by
  simp only [Bool.and_eq_true, beq_iff_eq, Bool.not_eq_true', decide_eq_true_eq] at h5
  obtain ⟨⟨⟨⟨⟨g1, g2⟩, g3⟩, g4⟩, g5⟩, g6⟩ := h5
  simp [Cond.before, Cond.holds, Cond.value, h1, h2, h3, h4, g1, g2, g3, g4, g5, g6]
def isCode : Jvm.Cond → Bool
  | .code _ _ _ _ => true
  | _ => false
theorem all_split {L : List Jvm.Cond} {P : Jvm.Cond → Bool} (h1 : L.all (fun c => isCode c || P c) = true) (h2 : ∀ c ∈ L.filter isCode, P c = true) : L.all P = true := by
  refine List.all_eq_true.mpr fun c hc => ?_
  have h := List.all_eq_true.mp h1 c hc
  rcases Bool.eq_false_or_eq_true (isCode c) with hi | hi
  · exact h2 c (List.mem_filter.mpr ⟨hc, hi⟩)
  · simpa [hi] using h
set_option maxRecDepth 65536 in
theorem w_c0 : (Jvm.Cond.code x code maxLocals ret).before args0 about1 = true := code_word (m := ⟨1, 2⟩) (meth := k1m2) (c := k1c2) (by decide +kernel) rfl rfl rfl (by decide +kernel)
set_option maxRecDepth 65536 in
theorem w_c1 : (Jvm.Cond.code ({ cls := "com/example/tracewire/tracewire/hl7/Delimiters", name := "<init>", desc := "(CCCCC)V" } : Jvm.MethodName) prog_42_method_1_code (6 : Nat) (Option.none : Option Jvm.ClassFile.FieldType)).before args0 about1 = true := code_word (m := ⟨3, 0⟩) (meth := k3m0) (c := k3c0) (by decide +kernel) rfl rfl rfl (by decide +kernel)
set_option maxRecDepth 65536 in
theorem w_c2 : (Jvm.Cond.code ({ cls := "java/lang/Record", name := "<init>", desc := "()V" } : Jvm.MethodName) jdk_30_method_1_code (1 : Nat) (Option.none : Option Jvm.ClassFile.FieldType)).before args0 about1 = true := code_word (m := ⟨2, 0⟩) (meth := k2m0) (c := k2c0) (by decide +kernel) rfl rfl rfl (by decide +kernel)
set_option maxRecDepth 65536 in
theorem w_c3 : (Jvm.Cond.code ({ cls := "java/lang/Object", name := "<init>", desc := "()V" } : Jvm.MethodName) object_method_1_code (1 : Nat) (Option.none : Option Jvm.ClassFile.FieldType)).before args0 about1 = true := code_word (m := ⟨0, 0⟩) (meth := k0m0) (c := k0c0) (by decide +kernel) rfl rfl rfl (by decide +kernel)
set_option maxRecDepth 65536 in
theorem w_c4 : (Jvm.Cond.code ({ cls := "com/example/tracewire/tracewire/hl7/Delimiters", name := "separates", desc := "(C)Z" } : Jvm.MethodName) prog_42_method_3_code (2 : Nat) (Option.some Jvm.ClassFile.FieldType.boolean)).before args0 about1 = true := code_word (m := ⟨3, 1⟩) (meth := k3m1) (c := k3c1) (by decide +kernel) rfl rfl rfl (by decide +kernel)
set_option maxRecDepth 65536 in
theorem w_c5 : (Jvm.Cond.code ({ cls := "com/example/tracewire/tracewire/hl7/DelimitersSeparatesPinLaw", name := "amongSeparators", desc := "(CCCCC)Z" } : Jvm.MethodName) method_2_code (5 : Nat) (Option.some Jvm.ClassFile.FieldType.boolean)).before args0 about1 = true := code_word (m := ⟨1, 1⟩) (meth := k1m1) (c := k1c1) (by decide +kernel) rfl rfl rfl (by decide +kernel)
def codes1 : List Jvm.Cond := [Jvm.Cond.code x code maxLocals ret, Jvm.Cond.code ({ cls := "com/example/tracewire/tracewire/hl7/Delimiters", name := "<init>", desc := "(CCCCC)V" } : Jvm.MethodName) prog_42_method_1_code (6 : Nat) (Option.none : Option Jvm.ClassFile.FieldType), Jvm.Cond.code ({ cls := "java/lang/Record", name := "<init>", desc := "()V" } : Jvm.MethodName) jdk_30_method_1_code (1 : Nat) (Option.none : Option Jvm.ClassFile.FieldType), Jvm.Cond.code ({ cls := "java/lang/Object", name := "<init>", desc := "()V" } : Jvm.MethodName) object_method_1_code (1 : Nat) (Option.none : Option Jvm.ClassFile.FieldType), Jvm.Cond.code ({ cls := "com/example/tracewire/tracewire/hl7/Delimiters", name := "separates", desc := "(C)Z" } : Jvm.MethodName) prog_42_method_3_code (2 : Nat) (Option.some Jvm.ClassFile.FieldType.boolean), Jvm.Cond.code ({ cls := "com/example/tracewire/tracewire/hl7/DelimitersSeparatesPinLaw", name := "amongSeparators", desc := "(CCCCC)Z" } : Jvm.MethodName) method_2_code (5 : Nat) (Option.some Jvm.ClassFile.FieldType.boolean)]
set_option maxRecDepth 65536 in
theorem codes_eq : words1.filter isCode = codes1 := rfl
theorem w_codes : ∀ c ∈ words1.filter isCode, c.before args0 about1 = true := by
  rw [codes_eq]
  intro c hc
  simp only [codes1, List.mem_cons, List.not_mem_nil, or_false] at hc
  rcases hc with rfl | rfl | rfl | rfl | rfl | rfl
  · exact w_c0
  · exact w_c1
  · exact w_c2
  · exact w_c3
  · exact w_c4
  · exact w_c5
set_option maxRecDepth 65536 in
theorem w_t1 : (words1.take 24).all (fun c => isCode c || c.before args0 about1) = true := by decide +kernel
set_option maxRecDepth 65536 in
theorem w_t2 : (words1.drop 24).all (fun c => isCode c || c.before args0 about1) = true := by decide +kernel
theorem w_tables : (allAtoms (Jvm.Cond.code x code maxLocals ret :: tables_1)).before args0 about1 = true := by
  rw [allAtoms_all]
  show words1.all (fun c => c.before args0 about1) = true
  refine all_split ?_ w_codes
  rw [← List.take_append_drop 24 words1, List.all_append, w_t1, w_t2]
  rfl
set_option maxRecDepth 65536 in
theorem w_case : (Jvm.Cond.and given_1 narrow_1).before args0 about1 = true := by decide +kernel
theorem w_applies : (headSpec (Jvm.Cond.code x code maxLocals ret :: tables_1) room_1).applies x e0.platform about1 = true :=
  (Spec.applies_iff w_frames).mpr ⟨w_running, w_runnable, w_alone, w_named, w_hears, w_ripe, w_room, w_tables⟩
theorem atStart : AtStart classFile x code maxLocals ret World_1 tables_1 room_1 Calls_1 rest_1 Pre_1 launch0 p0 e0 about1 theMethod args0 below0 :=
  ⟨lists_1, trivial, launch0.admits_env _ _ _, launch0.least_env, fairChoices_fair.cas, fairChoices_fair.clock, w_frames, w_args, w_heap, w_applies, trivial, trivial, w_case⟩
end start1
theorem witness_1 : WitnessClaimed_1 := ⟨start1.p0, start1.e0, start1.about1, start1.theMethod, start1.args0, start1.below0, start1.atStart⟩
end Jvm.Pilot.@@N@@
