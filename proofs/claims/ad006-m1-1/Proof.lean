import JvmDerived
import JvmDerived.Pilot.@@N@@Statement
import JvmDerived.Pilot.@@N@@Code
set_option linter.unusedVariables false
set_option linter.unusedSimpArgs false
namespace Jvm.OwnKit
open Sem ClassFile Op Lib Jvm.Stand Jvm.Free Jvm.LawKit Jvm.RoadKit
section Own
variable {p : Program} {l : Launch} {e : Env} {R : Room} {s : State} {m : MethodId} {args : Array Value} {below : List Frame} {meth : Method} {c : Code} {T : State} {h : Heap} {n0 cells slots : Nat} {Z : State} {a0 : Array Value} {Q : Option Value → Heap → Prop} {pc pc' : Nat} {Ls : Array Slot} {S rest : List Value}
/-- where the walk stands: over T, whose heap is h; nothing older than n0 was written -/
def Pn (p : Program) (l : Launch) (e : Env) (R : Room) (s : State) (m : MethodId) (args : Array Value) (below : List Frame) (meth : Method) (c : Code) (T : State) (h : Heap) (n0 cells slots : Nat) : Prop :=
  T.heap = h ∧ n0 ≤ s.heap.size ∧ ∃ locs, Stand p l e R s m args below meth c T locs cells slots ∧ Fr n0 locs
theorem Pn.here (X : Pn p l e R s m args below meth c T h n0 cells slots) : At T m c below := by obtain ⟨_, _, _, X, _⟩ := X; exact X.here
theorem Pn.le (X : Pn p l e R s m args below meth c T h n0 cells slots) : n0 ≤ h.size := by
  obtain ⟨e0, hn, _, X, _⟩ := X
  have q : s.heap.size ≤ T.heap.size := X.same.2.1
  rw [← e0]; exact Nat.le_trans hn q
theorem Pn.mono (X : Pn p l e R s m args below meth c T h n0 cells slots) {cells' slots' : Nat} (hc : cells ≤ cells') (hs : slots ≤ slots') : Pn p l e R s m args below meth c T h n0 cells' slots' := by
  obtain ⟨e0, hn, L, X, N⟩ := X
  exact ⟨e0, hn, L, ⟨X.admits, X.cas, X.clock, X.frames, X.room, X.hears, X.method, X.code, X.here, X.tail, X.warmed, X.limits, X.bytes, X.same.mono hc hs⟩, N⟩
/-- from here the run comes to a return that Q speaks of -/
def Go (p : Program) (e : Env) (s : State) (below : List Frame) (n0 : Nat) (Q : Option Value → Heap → Prop) (R : Room) (T : State) (f : JFrame) : Prop :=
  ∃ V, Steps p.tables e below (T.setTop f) V ∧ V.status = .running ∧ ∃ v L, Ended V below (.returned v) ∧ Q v V.heap ∧ Fr n0 L ∧ FrameEnd s (.returned v) V L R.cells R.slots
theorem stp {T' : State} {f f' : JFrame} (k : ∀ t, Steps p.tables e below (T'.setTop f') t → Steps p.tables e below (T.setTop f) t) (g : Go p e s below n0 Q R T' f') : Go p e s below n0 Q R T f := by
  obtain ⟨V, h1, h2⟩ := g; exact ⟨V, k V h1, h2⟩
def Con (l : Launch) (Z : State) (y : MethodName) (bytes : ByteArray) (maxL : Nat) (ret : Option FieldType) (ws : List Jvm.Cond) (rm : Room) (as : Array Value) (h0 : Heap) (n0 : Nat) (Q : Option Value → Heap → Prop) : Prop :=
  MetFree l y (head1 (Jvm.Cond.code y bytes maxL ret :: ws) rm) (fun a U => a = as ∧ Z.Warmed39 U.vm ∧ U.heap = h0) (fun _ _ _ _ _ => True) (fun _ U o U' => ∃ v L, o = .returned v ∧ (Q v U'.heap ∧ Fr n0 L) ∧ FrameEnd U o U' L rm.cells rm.slots)
theorem body {y : MethodName} {bytes : ByteArray} {maxL : Nat} {ret : Option FieldType} {ws : List Jvm.Cond} {rm : Room} {as : Array Value} {h0 : Heap} (hp : plainFor y = true) (hn : n0 ≤ h0.size) (ent : ∀ m, entryFrame m as maxL = mkF m 0 Ls [])
    (walk : ∀ (p : Program) (e : Env) (s : State) (m : MethodId) (below : List Frame) (meth : Method) (c : Code) (T : State), p.tables.exec = Jvm.exec → c.code = bytes → c.maxLocals = maxL → s.vm.findClass y.cls = some m.cls → meth.name = y.name → meth.sig.returnType = ret → meth.locks = false → Z.Warmed39 s.vm →
      Pn p l e rm s m as below meth c T h0 n0 0 0 → Go p e s below n0 Q rm T (mkF m 0 Ls [])) : Con l Z y bytes maxL ret ws rm as h0 n0 Q := by
  refine MetFree.of_bodySF hp hisR ?_
  intro p e s m args below meth c s₁ Bd hml0 hP hK
  obtain ⟨rfl, hZ, hh⟩ := hP
  have hown : s.vm.findClass y.cls = some m.cls := findClass_of_methodNamed Bd.named
  have hnm := (name_of_methodNamed Bd.named Bd.method).1
  have X0 : Stand p l e rm s m _ below meth c s₁ [] 0 0 := Stand.of_body Bd
  have e0 : s₁.heap = h0 := by rw [← hh, Bd.state]; rfl
  obtain ⟨V, h1, h2, v, L, h3, h4, h5, h6⟩ := walk p e s m below meth c s₁ Bd.exec Bd.bytes hml0 hown hnm Bd.returns Bd.notSynchronized hZ ⟨e0, by rw [hh]; exact hn, [], X0, Fr.nil n0⟩
  exact ⟨V, _, castTop (ent m) h1, h2, h3, v, L, rfl, ⟨h4, h5⟩, h6⟩
/-! the ends -/
theorem fin (X : Pn p l e R s m args below meth c T h n0 cells slots) (hlk : meth.locks = false) {v : Option Value} (hv : meth.sig.returnType = none → v = none) (hc : cells ≤ R.cells) (hs : slots ≤ R.slots) (hq : Q v h) {f : JFrame}
    (k : ∀ locs, Stand p l e R s m args below meth c T locs cells slots → ∀ fs, (∀ (f : JFrame) (acts : List Action), f.method = m → f.locked = none → f.entered = [] → (doReturn e (T.setTop f) acts v).1 = T.setFrames fs) → Steps p.tables e below (T.setTop f) (T.setFrames fs)) : Go p e s below n0 Q R T f := by
  obtain ⟨e0, hn, locs, Y, N⟩ := X
  obtain ⟨fs, hr, hrun, hended, hW, hsame⟩ := Y.leave hv hlk
  refine ⟨_, k locs Y fs hr, hrun, v, locs, hended, ?_, N, ⟨_, rfl⟩, hW, hsame.mono hc hs⟩
  show Q v T.heap
  rw [e0]; exact hq
theorem rI {z : Int32} (X : Pn p l e R s m args below meth c T h n0 cells slots) (hx : p.tables.exec = Jvm.exec) (hlk : meth.locks = false) (hret : meth.sig.returnType = some .int) (hd : decode c.code pc = .ok (.ireturn, 1)) (hc : cells ≤ R.cells) (hs : slots ≤ R.slots) (hq : Q (some (.int z)) h) :
    Go p e s below n0 Q R T (mkF m pc Ls (.int z :: S)) :=
  fin X hlk (fun q => by rw [hret] at q; cases q) hc hs hq fun _ Y fs hr => retOut Y hx hret rfl (Or.inl ⟨rfl, Or.inl rfl, z, rfl⟩) hd hr
theorem rN {z : Int32} {t : FieldType} (X : Pn p l e R s m args below meth c T h n0 cells slots) (hx : p.tables.exec = Jvm.exec) (hlk : meth.locks = false) (hret : meth.sig.returnType = some t) (ht : t = .boolean ∨ t = .byte ∨ t = .char ∨ t = .short) (hd : decode c.code pc = .ok (.ireturn, 1)) (hc : cells ≤ R.cells) (hs : slots ≤ R.slots) (hq : Q (some (.int (nar t z))) h) :
    Go p e s below n0 Q R T (mkF m pc Ls (.int z :: S)) :=
  fin X hlk (fun q => by rw [hret] at q; cases q) hc hs hq fun _ Y fs hr => retN Y hx hret ht hd hr
theorem rL {z : Int64} (X : Pn p l e R s m args below meth c T h n0 cells slots) (hx : p.tables.exec = Jvm.exec) (hlk : meth.locks = false) (hret : meth.sig.returnType = some .long) (hd : decode c.code pc = .ok (.lreturn, 1)) (hc : cells ≤ R.cells) (hs : slots ≤ R.slots) (hq : Q (some (.long z)) h) :
    Go p e s below n0 Q R T (mkF m pc Ls (.long z :: S)) :=
  fin X hlk (fun q => by rw [hret] at q; cases q) hc hs hq fun _ Y fs hr => retOut Y hx hret rfl (Or.inr (Or.inl ⟨rfl, rfl, z, rfl⟩)) hd hr
theorem rA {w : Value} {t : FieldType} (X : Pn p l e R s m args below meth c T h n0 cells slots) (hx : p.tables.exec = Jvm.exec) (hlk : meth.locks = false) (hret : meth.sig.returnType = some t) (ht : t.isReference = true) (hw : w.isRef = true) (hn : narrow t w = w) (hd : decode c.code pc = .ok (.areturn, 1)) (hc : cells ≤ R.cells) (hs : slots ≤ R.slots) (hq : Q (some w) h) :
    Go p e s below n0 Q R T (mkF m pc Ls (w :: S)) :=
  fin X hlk (fun q => by rw [hret] at q; cases q) hc hs hq fun _ Y fs hr => retOut Y hx hret hn (Or.inr (Or.inr (Or.inr (Or.inr ⟨rfl, ht, hw⟩)))) hd hr
theorem rV (X : Pn p l e R s m args below meth c T h n0 cells slots) (hx : p.tables.exec = Jvm.exec) (hlk : meth.locks = false) (hret : meth.sig.returnType = none) (hd : decode c.code pc = .ok (.return_, 1)) (hc : cells ≤ R.cells) (hs : slots ≤ R.slots) (hq : Q none h) :
    Go p e s below n0 Q R T (mkF m pc Ls []) :=
  fin X hlk (fun _ => rfl) hc hs hq fun _ Y fs hr => Y.returnOut hx hret hd hr
/-! heap and tables -/
theorem gf {own R0 O n d host : String} {index : Nat} {a : Addr} {v : Value} (X : Pn p l e R s m args below meth c T h n0 cells slots) (hx : p.tables.exec = Jvm.exec) (hZ : Z.Warmed39 s.vm) (hown : s.vm.findClass own = some m.cls) (w : (Cond.fieldLink own index R0 n d).before a0 Z = true ∨ (Cond.fieldLinkNest own index R0 n d host).before a0 Z = true) (via : Via Z R0 O n d)
    (F : Fld Z h a O n d v) (hd : decode c.code pc = .ok (.getfield index, 3)) (hp : pc + 3 = pc') (k : ∀ T', Pn p l e R s m args below meth c T' h n0 cells slots → Go p e s below n0 Q R T' (mkF m pc' Ls (v :: S))) : Go p e s below n0 Q R T (mkF m pc Ls (.ref a :: S)) := by
  subst hp
  obtain ⟨e0, hn, locs, Y, N⟩ := X
  obtain ⟨T', Y', e', st⟩ := getF Y hx hZ hown w via e0 F (g := mkF m pc Ls (.ref a :: S)) rfl rfl hd
  exact stp st (k T' ⟨e', hn, locs, Y', N⟩)
theorem gs {own R0 O n d host : String} {index : Nat} {v : Value} (X : Pn p l e R s m args below meth c T h n0 cells slots) (hx : p.tables.exec = Jvm.exec) (hZ : Z.Warmed39 s.vm) (hown : s.vm.findClass own = some m.cls) (w : (Cond.fieldLink own index R0 n d).before a0 Z = true ∨ (Cond.fieldLinkNest own index R0 n d host).before a0 Z = true) (via : Via Z R0 O n d)
    (F : Sta Z h O n d v) (hd : decode c.code pc = .ok (.getstatic index, 3)) (hp : pc + 3 = pc') (k : ∀ T', Pn p l e R s m args below meth c T' h n0 cells slots → Go p e s below n0 Q R T' (mkF m pc' Ls (v :: S))) : Go p e s below n0 Q R T (mkF m pc Ls S) := by
  subst hp
  obtain ⟨e0, hn, locs, Y, N⟩ := X
  obtain ⟨T', Y', e', st⟩ := getS2 Y hx hZ hown w via e0 F (g := mkF m pc Ls S) rfl hd
  exact stp st (k T' ⟨e', hn, locs, Y', N⟩)
theorem pf {own R0 O n d host C : String} {index kk : Nat} {ty : FieldType} {a : Addr} {v old : Value} (X : Pn p l e R s m args below meth c T h n0 cells slots) (hx : p.tables.exec = Jvm.exec) (hZ : Z.Warmed39 s.vm) (hown : s.vm.findClass own = some m.cls) (w : (Cond.fieldLink own index R0 n d).before a0 Z = true ∨ (Cond.fieldLinkNest own index R0 n d host).before a0 Z = true) (via : Via Z R0 O n d)
    (F : Fld Z h a O n d old) (E : Exa Z h a C) (L : (Cond.lays C O n d).before a0 Z = true ∨ ((Cond.laysFinal C O n d).before a0 Z = true ∧ own = O ∧ meth.name = "<init>")) (wi : (Cond.instantiable C kk).before a0 Z = true)
    (hty : parseFieldDescriptor d = some ty) (hn : narrow ty v = v) (hf : fits ty v = true) (ge : n0 ≤ a) (hd : decode c.code pc = .ok (.putfield index, 3)) (hp : pc + 3 = pc')
    (k : ∀ T' h', Pn p l e R s m args below meth c T' h' n0 cells slots → Wr h h' a (Jvm.RoadKit.slotOf Z O n d) v → Go p e s below n0 Q R T' (mkF m pc' Ls S)) : Go p e s below n0 Q R T (mkF m pc Ls (v :: .ref a :: S)) := by
  subst hp
  obtain ⟨e0, hm, locs, Y, N⟩ := X
  obtain ⟨T', h', Y', e', W, st⟩ := putF Y hx hZ hown w via e0 F E L wi hty hn hf (g := mkF m pc Ls (v :: .ref a :: S)) rfl rfl hd
  exact stp st (k T' h' ⟨e', hm, _, Y', Fr.snoc Y' N ge⟩ W)
theorem nw {own C : String} {index n : Nat} (X : Pn p l e R s m args below meth c T h n0 cells slots) (hx : p.tables.exec = Jvm.exec) (hZ : Z.Warmed39 s.vm) (hown : s.vm.findClass own = some m.cls) (w : (Cond.classLink own index C).before a0 Z = true) (wi : (Cond.instantiable C n).before a0 Z = true) (wz : (Cond.initialized C).before a0 Z = true)
    (hd : decode c.code pc = .ok (.new index, 3)) (hp : pc + 3 = pc') (hc : cells + 1 ≤ R.cells) (hl : slots + n ≤ R.slots)
    (k : ∀ T' h' b, Pn p l e R s m args below meth c T' h' n0 (cells + 1) (slots + n) → b = h.size → n0 ≤ b → Ext h h' → Exa Z h' b C → (∀ {O nm d : String} {ty : FieldType}, Laid Z a0 C O nm d → parseFieldDescriptor d = some ty → Fld Z h' b O nm d (defaultValue ty)) → Go p e s below n0 Q R T' (mkF m pc' Ls (.ref b :: S))) :
    Go p e s below n0 Q R T (mkF m pc Ls S) := by
  subst hp
  have q := X.le
  obtain ⟨e0, hn, locs, Y, N⟩ := X
  obtain ⟨T', h', Y', e', E', A', D', -, st⟩ := newO Y hx hZ hown w wi wz e0 (g := mkF m pc Ls S) rfl hd hc hl
  exact stp st (k T' h' _ ⟨e', hn, _, Y', N⟩ rfl q E' A' D')
theorem oi {own : String} {idx : Nat} {a : Addr} {W : Nat} (X : Pn p l e R s m args below meth c T h n0 cells slots) (hx : p.tables.exec = Jvm.exec) (hZ : Z.Warmed39 s.vm) (hown : s.vm.findClass own = some m.cls) (w1 : (Cond.methodLink own idx Lib.objectInit).before a0 Z = true) (w2 : (Cond.instanceMethod Lib.objectInit).before a0 Z = true) (w3 : (Cond.code Lib.objectInit ⟨#[0xb1]⟩ 1 none).before a0 Z = true)
    (hsize : Ls.size = c.maxLocals) (hd : decode c.code pc = .ok (.invokespecial idx, 3)) (hp : pc + 3 = pc') (hf : 1 ≤ R.frames) (hW : (S.map fun v => v.category).sum ≤ W) (hl : W + 12 ≤ R.locals)
    (k : ∀ T', Pn p l e R s m args below meth c T' h n0 cells slots → Go p e s below n0 Q R T' (mkF m pc' Ls S)) : Go p e s below n0 Q R T (mkF m pc Ls (.ref a :: S)) := by
  subst hp
  obtain ⟨e0, hn, locs, Y, N⟩ := X
  obtain ⟨T', Y', e', st⟩ := initO Y hx hZ hown w1 w2 w3 e0 (g := mkF m pc Ls (.ref a :: S)) rfl hsize rfl hd hf (W := W) (by show 2 * 0 + _ ≤ _; omega) hl
  exact stp st (k T' ⟨e', hn, locs, Y', N⟩)
/-! calls by their contracts -/
theorem cS {own : String} {index : Nat} {y : MethodName} {bytes : ByteArray} {maxL : Nat} {ret : Option FieldType} {rm : Room} {as : Array Value} {Q' : Option Value → Heap → Prop} (W : Nat) (argsL : List Value) (X : Pn p l e R s m args below meth c T h n0 cells slots) (hx : p.tables.exec = Jvm.exec) (hZ : Z.Warmed39 s.vm) (hown : s.vm.findClass own = some m.cls)
    (w1 : (Cond.methodLink own index y).before a0 Z = true) (w2 : (Cond.static y).before a0 Z = true) (w3 : (Cond.initialized y.cls).before a0 Z = true) (w4 : (Cond.code y bytes maxL ret).before a0 Z = true) (hy : y.cls ≠ "java/lang/invoke/MethodHandle" ∧ y.cls ≠ "java/lang/invoke/VarHandle")
    (hM : Con l Z y bytes maxL ret [] rm as h n0 Q') (hf : rm.frames + 1 ≤ R.frames) (hl : W + (maxL + 11) + rm.locals ≤ R.locals) (hsz : Ls.size = c.maxLocals) (has : as = argsL.toArray) (hlen : ∀ sig, parseMethodDescriptor y.desc = some sig → argsL.length = sig.parameters.length) (hst : S = argsL.reverse ++ rest) (hW : (rest.map fun v => v.category).sum ≤ W)
    (hd : decode c.code pc = .ok (.invokestatic index, 3)) (hp : pc + 3 = pc') (hc : cells + rm.cells ≤ R.cells) (hs : slots + rm.slots ≤ R.slots)
    (k : ∀ v T' h', Pn p l e R s m args below meth c T' h' n0 (cells + rm.cells) (slots + rm.slots) → Q' v h' → Go p e s below n0 Q R T' (mkF m pc' Ls (v.toList ++ rest))) : Go p e s below n0 Q R T (mkF m pc Ls S) := by
  subst hp has
  obtain ⟨e0, hn, locs, Y, N⟩ := X
  obtain ⟨v, _, ⟨T', L', k', n'⟩, -, Y', ⟨Lc, ⟨hq, hN⟩, l', y', z'⟩, st⟩ := Jvm.LawKit.callS Y hx (y := y) hown (mvT hZ w1) (mvT hZ w2) (mvT hZ w3) (mvT hZ w4) hy (backOf (W := W) (Q := fun v h L => Q' v h ∧ Fr n0 L) hM hZ w4 w3 hf hl) (g := mkF m pc Ls S) rfl hsz (argsL := argsL) (rest := rest) hlen hst (by show 2 * 0 + _ ≤ _; omega) hd (fun _ _ => ⟨rfl, e0, hc, hs⟩)
  dsimp only [Pt.U, Pt.locs, Pt.cells, Pt.slots] at Y' l' y' z' st hq
  subst l' y' z'
  exact stp st (k v T' _ ⟨rfl, hn, _, Y', N.app hN⟩ hq)
theorem cI {own : String} {index : Nat} {y : MethodName} {bytes : ByteArray} {maxL : Nat} {rm : Room} {as : Array Value} {a : Addr} {Q' : Option Value → Heap → Prop} (W : Nat) (argsL : List Value) (X : Pn p l e R s m args below meth c T h n0 cells slots) (hx : p.tables.exec = Jvm.exec) (hZ : Z.Warmed39 s.vm) (hown : s.vm.findClass own = some m.cls) (hy1 : y.name = "<init>")
    (w1 : (Cond.methodLink own index y).before a0 Z = true) (w2 : (Cond.instanceMethod y).before a0 Z = true) (w3 : (Cond.initialized y.cls).before a0 Z = true) (w4 : (Cond.code y bytes maxL none).before a0 Z = true) (hy : y.cls ≠ "java/lang/invoke/MethodHandle" ∧ y.cls ≠ "java/lang/invoke/VarHandle")
    (hM : Con l Z y bytes maxL none [] rm as h n0 Q') (hf : rm.frames + 1 ≤ R.frames) (hl : W + (maxL + 11) + rm.locals ≤ R.locals) (hsz : Ls.size = c.maxLocals) (has : as = (.ref a :: argsL).toArray) (hlen : ∀ sig, parseMethodDescriptor y.desc = some sig → argsL.length = sig.parameters.length) (hst : S = argsL.reverse ++ .ref a :: rest) (hW : (rest.map fun v => v.category).sum ≤ W)
    (hd : decode c.code pc = .ok (.invokespecial index, 3)) (hp : pc + 3 = pc') (hc : cells + rm.cells ≤ R.cells) (hs : slots + rm.slots ≤ R.slots)
    (k : ∀ v T' h', Pn p l e R s m args below meth c T' h' n0 (cells + rm.cells) (slots + rm.slots) → Q' v h' → Go p e s below n0 Q R T' (mkF m pc' Ls (v.toList ++ rest))) : Go p e s below n0 Q R T (mkF m pc Ls S) := by
  subst hp has
  obtain ⟨e0, hn, locs, Y, N⟩ := X
  obtain ⟨v, _, ⟨T', L', k', n'⟩, -, Y', ⟨Lc, ⟨hq, hN⟩, l', y', z'⟩, st⟩ := Y.specialBack hx (y := y) hy1 hown (mvT hZ w1) (mvT hZ w2) (mvT hZ w4) hy (backOf (W := W) (Q := fun v h L => Q' v h ∧ Fr n0 L) hM hZ w4 w3 hf hl) (g := mkF m pc Ls S) rfl hsz (Steps.refl _) (a := a) (argsL := argsL) (rest := rest) hlen hst (by show 2 * 0 + _ ≤ _; omega) hd (fun _ _ => ⟨rfl, e0, hc, hs⟩)
  dsimp only [Pt.U, Pt.locs, Pt.cells, Pt.slots] at Y' l' y' z' st hq
  subst l' y' z'
  exact stp (fun _ q => st.trans q) (k v T' _ ⟨rfl, hn, _, Y', N.app hN⟩ hq)
theorem cV {own C : String} {index : Nat} {y : MethodName} {bytes : ByteArray} {maxL : Nat} {ret : Option FieldType} {rm : Room} {as : Array Value} {a : Addr} {Q' : Option Value → Heap → Prop} (W : Nat) (argsL : List Value) (X : Pn p l e R s m args below meth c T h n0 cells slots) (hx : p.tables.exec = Jvm.exec) (hZ : Z.Warmed39 s.vm) (hown : s.vm.findClass own = some m.cls)
    (w1 : (Cond.methodLink own index y).before a0 Z = true) (w2 : (Cond.declares y).before a0 Z = true) (w5 : (Cond.selects C y y).before a0 Z = true) (w6 : (Cond.instanceMethod y).before a0 Z = true) (w3 : (Cond.initialized y.cls).before a0 Z = true) (w4 : (Cond.code y bytes maxL ret).before a0 Z = true) (hy : y.cls ≠ "java/lang/invoke/MethodHandle" ∧ y.cls ≠ "java/lang/invoke/VarHandle")
    (hE : Exa Z h a C) (hM : Con l Z y bytes maxL ret [] rm as h n0 Q') (hf : rm.frames + 1 ≤ R.frames) (hl : W + (maxL + 11) + rm.locals ≤ R.locals) (hsz : Ls.size = c.maxLocals) (has : as = (.ref a :: argsL).toArray) (hlen : ∀ sig, parseMethodDescriptor y.desc = some sig → argsL.length = sig.parameters.length) (hst : S = argsL.reverse ++ .ref a :: rest) (hW : (rest.map fun v => v.category).sum ≤ W)
    (hd : decode c.code pc = .ok (.invokevirtual index, 3)) (hp : pc + 3 = pc') (hc : cells + rm.cells ≤ R.cells) (hs : slots + rm.slots ≤ R.slots)
    (k : ∀ v T' h', Pn p l e R s m args below meth c T' h' n0 (cells + rm.cells) (slots + rm.slots) → Q' v h' → Go p e s below n0 Q R T' (mkF m pc' Ls (v.toList ++ rest))) : Go p e s below n0 Q R T (mkF m pc Ls S) := by
  subst hp has
  obtain ⟨e0, hn, locs, Y, N⟩ := X
  obtain ⟨cq, kq, q1, q2, q3⟩ := isOf hZ e0 hE
  obtain ⟨v, _, ⟨T', L', k', n'⟩, -, Y', ⟨Lc, ⟨hq, hN⟩, l', y', z'⟩, st⟩ := Y.virtualBack hx (y := y) (z := y) hown (mvT hZ w1) (mvT hZ w2) (notFace_of_selects (args := #[]) (mvT hZ w5)) (mvT hZ w5) (mvT hZ w6) hy (backOf (W := W) (Q := fun v h L => Q' v h ∧ Fr n0 L) hM hZ w4 w3 hf hl) q1 q3 (g := mkF m pc Ls S) rfl hsz (Steps.refl _) (argsL := argsL) (rest := rest) hlen hst (by show 2 * 0 + _ ≤ _; omega) hd (fun _ _ => ⟨rfl, e0, hc, hs⟩)
  dsimp only [Pt.U, Pt.locs, Pt.cells, Pt.slots] at Y' l' y' z' st hq
  subst l' y' z'
  exact stp (fun _ q => st.trans q) (k v T' _ ⟨rfl, hn, _, Y', N.app hN⟩ hq)
theorem cP {own : String} {index kk : Nat} {y : MethodName} {bytes : ByteArray} {maxL : Nat} {ret : Option FieldType} {rm : Room} {as : Array Value} {a : Addr} {C : String} {Q' : Option Value → Heap → Prop} (W : Nat) (argsL : List Value) (X : Pn p l e R s m args below meth c T h n0 cells slots) (hx : p.tables.exec = Jvm.exec) (hZ : Z.Warmed39 s.vm) (hown : s.vm.findClass own = some m.cls)
    (w1 : (Cond.methodLink own index y).before a0 Z = true) (w6 : (Cond.instanceMethod y).before a0 Z = true) (wp : (Cond.privateMethod y).before a0 Z = true) (wi : (Cond.instantiable y.cls kk).before a0 Z = true) (w3 : (Cond.initialized y.cls).before a0 Z = true) (w4 : (Cond.code y bytes maxL ret).before a0 Z = true) (hy : y.cls ≠ "java/lang/invoke/MethodHandle" ∧ y.cls ≠ "java/lang/invoke/VarHandle")
    (hE : Exa Z h a C) (hM : Con l Z y bytes maxL ret [] rm as h n0 Q') (hf : rm.frames + 1 ≤ R.frames) (hl : W + (maxL + 11) + rm.locals ≤ R.locals) (hsz : Ls.size = c.maxLocals) (has : as = (.ref a :: argsL).toArray) (hlen : ∀ sig, parseMethodDescriptor y.desc = some sig → argsL.length = sig.parameters.length) (hst : S = argsL.reverse ++ .ref a :: rest) (hW : (rest.map fun v => v.category).sum ≤ W)
    (hd : decode c.code pc = .ok (.invokevirtual index, 3)) (hp : pc + 3 = pc') (hc : cells + rm.cells ≤ R.cells) (hs : slots + rm.slots ≤ R.slots)
    (k : ∀ v T' h', Pn p l e R s m args below meth c T' h' n0 (cells + rm.cells) (slots + rm.slots) → Q' v h' → Go p e s below n0 Q R T' (mkF m pc' Ls (v.toList ++ rest))) : Go p e s below n0 Q R T (mkF m pc Ls S) := by
  subst hp has
  obtain ⟨e0, hn, locs, Y, N⟩ := X
  obtain ⟨cq, q1, q2⟩ := hE.cell
  have mi : (Cond.instantiable y.cls kk).before args s = true := mvT hZ wi
  obtain ⟨cc, kc, u1, u2, -, u3, -⟩ := Cond.instantiable_spec mi
  have hpv := Cond.privateMethod_at (mvP hZ wp (args := #[]))
  have hse := selects_self_of_private (args := args) u1 u2 (by rw [Bool.or_eq_false_iff] at u3; exact u3.1) hpv (mvT hZ w6) hy
  obtain ⟨v, _, ⟨T', L', k', n'⟩, -, Y', ⟨Lc, ⟨hq, hN⟩, l', y', z'⟩, st⟩ := Y.privateBack hx (y := y) hown (mvT hZ w1) (mvT hZ w6) hse hpv (mvT hZ w4) hy (backOf (W := W) (Q := fun v h L => Q' v h ∧ Fr n0 L) hM hZ w4 w3 hf hl) (g := mkF m pc Ls S) rfl hsz (Steps.refl _) (a := a) (by rw [e0]; exact q1) q2 (argsL := argsL) (rest := rest) hlen hst (by show 2 * 0 + _ ≤ _; omega) hd (fun _ _ => ⟨rfl, e0, hc, hs⟩)
  dsimp only [Pt.U, Pt.locs, Pt.cells, Pt.slots] at Y' l' y' z' st hq
  subst l' y' z'
  exact stp (fun _ q => st.trans q) (k v T' _ ⟨rfl, hn, _, Y', N.app hN⟩ hq)
theorem cF {own C : String} {index count : Nat} {y z : MethodName} {bytes : ByteArray} {maxL : Nat} {ret : Option FieldType} {rm : Room} {as : Array Value} {a : Addr} {Q' : Option Value → Heap → Prop} (W : Nat) (argsL : List Value) (X : Pn p l e R s m args below meth c T h n0 cells slots) (hx : p.tables.exec = Jvm.exec) (hZ : Z.Warmed39 s.vm) (hown : s.vm.findClass own = some m.cls)
    (w1 : (Cond.methodLink own index y).before a0 Z = true) (w2 : (Cond.declares y).before a0 Z = true) (w7 : (Cond.interfaceMethod y.cls y.cls y.name y.desc).before a0 Z = true) (w5 : (Cond.selects C y z).before a0 Z = true) (w6 : (Cond.instanceMethod z).before a0 Z = true) (w8 : (Cond.publicMethod z).before a0 Z = true) (w9 : (Cond.unhidden C y.name y.desc).before a0 Z = true) (w10 : (Cond.castable C y.cls).before a0 Z = true)
    (w3 : (Cond.initialized z.cls).before a0 Z = true) (w4 : (Cond.code z bytes maxL ret).before a0 Z = true) (hy : y.cls ≠ "java/lang/invoke/MethodHandle" ∧ y.cls ≠ "java/lang/invoke/VarHandle")
    (hE : Exa Z h a C) (hM : Con l Z z bytes maxL ret [] rm as h n0 Q') (hf : rm.frames + 1 ≤ R.frames) (hl : W + (maxL + 11) + rm.locals ≤ R.locals) (hsz : Ls.size = c.maxLocals) (has : as = (.ref a :: argsL).toArray) (hlen : ∀ sig, parseMethodDescriptor y.desc = some sig → argsL.length = sig.parameters.length) (hst : S = argsL.reverse ++ .ref a :: rest) (hW : (rest.map fun v => v.category).sum ≤ W)
    (hd : decode c.code pc = .ok (.invokeinterface index count, 5)) (hp : pc + 5 = pc') (hc : cells + rm.cells ≤ R.cells) (hs : slots + rm.slots ≤ R.slots)
    (k : ∀ v T' h', Pn p l e R s m args below meth c T' h' n0 (cells + rm.cells) (slots + rm.slots) → Q' v h' → Go p e s below n0 Q R T' (mkF m pc' Ls (v.toList ++ rest))) : Go p e s below n0 Q R T (mkF m pc Ls S) := by
  subst hp has
  obtain ⟨e0, hn, locs, Y, N⟩ := X
  obtain ⟨cq, kq, q1, q2, q3⟩ := isOf hZ e0 hE
  obtain ⟨v, _, ⟨T', L', k', n'⟩, -, Y', ⟨Lc, ⟨hq, hN⟩, l', y', z'⟩, st⟩ := Y.interfaceBack hx (xi := y) (y := z) hown (mvT hZ w1) (mvT hZ w2) (mvT hZ w7 (by simp [Cond.onTables, Cond.keepsFace, Cond.faceAtom, hy.1, hy.2])) (mvT hZ w5) (mvT hZ w6) (mvT hZ w8) (mvT hZ w9) (mvT hZ w10) hy (backOf (W := W) (Q := fun v h L => Q' v h ∧ Fr n0 L) hM hZ w4 w3 hf hl) q1 q2 q3 (g := mkF m pc Ls S) rfl hsz (Steps.refl _) (argsL := argsL) (rest := rest) hlen hst (by show 2 * 0 + _ ≤ _; omega) hd (fun _ _ => ⟨rfl, e0, hc, hs⟩)
  dsimp only [Pt.U, Pt.locs, Pt.cells, Pt.slots] at Y' l' y' z' st hq
  subst l' y' z'
  exact stp (fun _ q => st.trans q) (k v T' _ ⟨rfl, hn, _, Y', N.app hN⟩ hq)
theorem ioY {own K : String} {index : Nat} {a : Addr} (X : Pn p l e R s m args below meth c T h n0 cells slots) (hx : p.tables.exec = Jvm.exec) (hZ : Z.Warmed39 s.vm) (hown : s.vm.findClass own = some m.cls) (w : (Cond.classLink own index K).before a0 Z = true) (F : Ins Z h a K true) (hd : decode c.code pc = .ok (.instanceof index, 3)) (hp : pc + 3 = pc')
    (k : ∀ T', Pn p l e R s m args below meth c T' h n0 cells slots → Go p e s below n0 Q R T' (mkF m pc' Ls (.int 1 :: S))) : Go p e s below n0 Q R T (mkF m pc Ls (.ref a :: S)) := by
  subst hp
  obtain ⟨e0, hn, locs, Y, N⟩ := X
  obtain ⟨T', Y', e', st⟩ := instY Y hx hZ hown w e0 F (g := mkF m pc Ls (.ref a :: S)) rfl rfl hd
  exact stp st (k T' ⟨e', hn, locs, Y', N⟩)
theorem ioN {own K C : String} {index : Nat} {a : Addr} (X : Pn p l e R s m args below meth c T h n0 cells slots) (hx : p.tables.exec = Jvm.exec) (hZ : Z.Warmed39 s.vm) (hown : s.vm.findClass own = some m.cls) (w : (Cond.classLink own index K).before a0 Z = true) (E : Exa Z h a C) (F : ∃ c t, Z.vm.findClass C = some c ∧ Z.vm.findClass K = some t ∧ Z.vm.assignable c t = false) (hd : decode c.code pc = .ok (.instanceof index, 3)) (hp : pc + 3 = pc')
    (k : ∀ T', Pn p l e R s m args below meth c T' h n0 cells slots → Go p e s below n0 Q R T' (mkF m pc' Ls (.int 0 :: S))) : Go p e s below n0 Q R T (mkF m pc Ls (.ref a :: S)) := by
  subst hp
  obtain ⟨e0, hn, locs, Y, N⟩ := X
  obtain ⟨T', Y', e', st⟩ := instNo Y hx hZ hown w e0 E F (g := mkF m pc Ls (.ref a :: S)) rfl rfl hd
  exact stp st (k T' ⟨e', hn, locs, Y', N⟩)
theorem ioZ {index : Nat} (X : Pn p l e R s m args below meth c T h n0 cells slots) (hx : p.tables.exec = Jvm.exec) (hd : decode c.code pc = .ok (.instanceof index, 3)) (hp : pc + 3 = pc')
    (k : Go p e s below n0 Q R T (mkF m pc' Ls (.int 0 :: S))) : Go p e s below n0 Q R T (mkF m pc Ls (.null :: S)) := by
  subst hp
  obtain ⟨e0, hn, locs, Y, N⟩ := X
  exact stp (Y.instanceofNull hx (g := mkF m pc Ls (.null :: S)) rfl rfl hd) k
theorem ccY {own K : String} {index : Nat} {a : Addr} (X : Pn p l e R s m args below meth c T h n0 cells slots) (hx : p.tables.exec = Jvm.exec) (hZ : Z.Warmed39 s.vm) (hown : s.vm.findClass own = some m.cls) (w : (Cond.classLink own index K).before a0 Z = true) (F : Ins Z h a K true) (hd : decode c.code pc = .ok (.checkcast index, 3)) (hp : pc + 3 = pc')
    (k : ∀ T', Pn p l e R s m args below meth c T' h n0 cells slots → Go p e s below n0 Q R T' (mkF m pc' Ls (.ref a :: S))) : Go p e s below n0 Q R T (mkF m pc Ls (.ref a :: S)) := by
  subst hp
  obtain ⟨e0, hn, locs, Y, N⟩ := X
  obtain ⟨T', Y', e', st⟩ := castY Y hx hZ hown w e0 F (g := mkF m pc Ls (.ref a :: S)) rfl rfl hd
  exact stp st (k T' ⟨e', hn, locs, Y', N⟩)
theorem own_nsRoot {O K : String} {kk : Nat} (w : (Cond.noSuperclass O).before a0 Z = true) (wk : (Cond.instantiable K kk).before a0 Z = true) (hn : O ≠ K) : NS Z O K := by
  obtain ⟨c, k, h1, h2, h3, -, -⟩ := Cond.noSuperclass_spec w
  obtain ⟨t, _, g1, -⟩ := Cond.instantiable_spec wk
  have ne := ids_ne h1 g1 hn
  refine ⟨c, t, h1, g1, fun fuel => ?_⟩
  cases fuel with
  | zero => rfl
  | succ f => simp [Vm.isSubclassAux, ne, h2, h3]
theorem own_nsNo {C U K : String} {kk : Nat} (w : (Cond.superclass C U).before a0 Z = true) (wk : (Cond.instantiable K kk).before a0 Z = true) (n : NS Z C K) (hn : C ≠ K) : ∃ c t, Z.vm.findClass C = some c ∧ Z.vm.findClass K = some t ∧ Z.vm.assignable c t = false := by
  obtain ⟨c, t, h0, g0, n3⟩ := n
  obtain ⟨q, k, kp, h1, h2, h3, h4, h5, -, h7⟩ := Cond.superclass_spec h0 w
  obtain ⟨t', k', g1, g2, g3, g4, -⟩ := Cond.instantiable_spec wk
  cases g0.symm.trans g1
  have g7 : k'.isInterface = false := by rw [Bool.or_eq_false_iff] at g4; exact g4.1
  have ne := ids_ne h0 g0 hn
  refine ⟨c, t, h0, g0, ?_⟩
  show Z.vm.assignableAux (255 + 1) c t = false
  simp [Vm.assignableAux, ne, h2, g2, h5, g3, g7, Vm.isSubclass, n3]
/-! arrays: n places, the i-th holds f i -/
def Av (Z : State) (h : Heap) (a : Addr) (ty : FieldType) (n : Nat) (f : Nat → Value) : Prop := ∃ c : Cell, Arr Z h a c ty ∧ c.slots.size = n ∧ ∀ i, i < n → c.slots[i]? = some (f i)
theorem Av.lt {a : Addr} {ty : FieldType} {n : Nat} {f : Nat → Value} (F : Av Z h a ty n f) : a < h.size := by obtain ⟨c, A, -⟩ := F; exact A.lt
theorem Av.ext {h' : Heap} {a : Addr} {ty : FieldType} {n : Nat} {f : Nat → Value} (F : Av Z h a ty n f) (E : Ext h h') : Av Z h' a ty n f := by obtain ⟨c, A, r⟩ := F; exact ⟨c, A.ext E, r⟩
theorem Av.other {h' : Heap} {a b : Addr} {ty : FieldType} {n sl : Nat} {v : Value} {f : Nat → Value} (F : Av Z h b ty n f) (W : Wr h h' a sl v) (q : b ≠ a) : Av Z h' b ty n f := by obtain ⟨c, A, r⟩ := F; exact ⟨c, A.other W q, r⟩
theorem Av.keep {h' : Heap} {a : Addr} {ws : List Addr} {ty : FieldType} {n : Nat} {f : Nat → Value} (F : Av Z h a ty n f) (K : Keep h h' ws) (q : a ∉ ws) : Av Z h' a ty n f := by obtain ⟨c, A, r⟩ := F; exact ⟨c, ⟨K.2.1 a c A.1 q, A.2⟩, r⟩
theorem Av.same {h' : Heap} {a : Addr} {ty : FieldType} {n j : Nat} {v : Value} {f : Nat → Value} (F : Av Z h a ty n f) (W : Wr h h' a j v) : Av Z h' a ty n (fun i => if i = j then v else f i) := by
  obtain ⟨c, A, q, r⟩ := F
  refine ⟨c.setSlot j v, A.same W, by rw [sz_set]; exact q, fun i hi => ?_⟩
  obtain ⟨c', e1, -, -, -, -, e6, e7⟩ := wr_at W A.1
  obtain ⟨e8, e9, -⟩ := e7 rfl
  by_cases hj : i = j
  · subst hj; show _ = some (if i = i then v else f i); rw [if_pos rfl, ← e8]; exact e9
  · show _ = some (if i = j then v else f i); rw [if_neg hj, ← e8, e6 _ hj]; exact r i hi
theorem Av.congr {a : Addr} {ty : FieldType} {n : Nat} {f g : Nat → Value} (F : Av Z h a ty n f) (q : ∀ i, i < n → f i = g i) : Av Z h a ty n g := by obtain ⟨c, A, r, u⟩ := F; exact ⟨c, A, r, fun i hi => by rw [u i hi, q i hi]⟩
theorem na {aty : ArrayType} {z : Int32} (cap : Nat) (X : Pn p l e R s m args below meth c T h n0 cells slots) (hx : p.tables.exec = Jvm.exec) (hZ : Z.Warmed39 s.vm) (w : (Cond.arrayClass (newarray.typeOf aty)).before a0 Z = true) (hd : decode c.code pc = .ok (.newarray aty, 2)) (hp : pc + 2 = pc') (hz : ¬ z < 0) (hcap : z.toNatClampNeg ≤ cap) (hb : cap * 8 ≤ 536870912) (hc : cells + 1 ≤ R.cells) (hl : slots + cap ≤ R.slots)
    (k : ∀ T' h' b, Pn p l e R s m args below meth c T' h' n0 (cells + 1) (slots + cap) → b = h.size → n0 ≤ b → Ext h h' → Av Z h' b (newarray.typeOf aty) z.toNatClampNeg (fun _ => defaultValue (newarray.typeOf aty)) → Go p e s below n0 Q R T' (mkF m pc' Ls (.ref b :: S))) :
    Go p e s below n0 Q R T (mkF m pc Ls (.int z :: S)) := by
  subst hp
  have q := X.le
  obtain ⟨e0, hn, locs, Y, N⟩ := X
  obtain ⟨T', h', k', Y', e', E', A', st⟩ := newP Y hx hZ w e0 (g := mkF m pc Ls (.int z :: S)) rfl hd rfl hz hcap hb hc hl
  refine stp st (k T' h' _ ⟨e', hn, _, Y', N⟩ rfl q E' ⟨_, A', sz_new _ _ _, fun i hi => ?_⟩)
  simp [newA, hi]
theorem len {a : Addr} {ty : FieldType} {n : Nat} {f : Nat → Value} (z : Int32) (X : Pn p l e R s m args below meth c T h n0 cells slots) (hx : p.tables.exec = Jvm.exec) (hZ : Z.Warmed39 s.vm) (A : Av Z h a ty n f) (hz : n.toInt32 = z) (hd : decode c.code pc = .ok (.arraylength, 1)) (hp : pc + 1 = pc')
    (k : Go p e s below n0 Q R T (mkF m pc' Ls (.int z :: S))) : Go p e s below n0 Q R T (mkF m pc Ls (.ref a :: S)) := by
  subst hp hz
  obtain ⟨e0, hn, locs, Y, N⟩ := X
  obtain ⟨cl, Ar, S0, r⟩ := A
  subst S0
  exact stp (fun t q => Y.arraylength hx (by rw [e0]; exact Ar.1) (State.isArrayOf_alike hZ.alike Ar.2.1) (g := mkF m pc Ls (.ref a :: S)) rfl rfl hd t q) k
theorem inn {cl : Cell} {n : Nat} {j : Int32} (S0 : cl.slots.size = n) (q : ¬ j < 0) (r : j.toNatClampNeg < n) : ¬ (j < 0 ∨ cl.slots.size ≤ j.toNatClampNeg) := fun u => u.elim q fun v => by omega
theorem ldI {a : Addr} {n : Nat} {f : Nat → Value} {j : Int32} {v : Value} (X : Pn p l e R s m args below meth c T h n0 cells slots) (hx : p.tables.exec = Jvm.exec) (hZ : Z.Warmed39 s.vm) (A : Av Z h a .int n f) (q : ¬ j < 0) (r : j.toNatClampNeg < n) (hv : f j.toNatClampNeg = v) (hd : decode c.code pc = .ok (.iaload, 1)) (hp : pc + 1 = pc')
    (k : Go p e s below n0 Q R T (mkF m pc' Ls (v :: S))) : Go p e s below n0 Q R T (mkF m pc Ls (.int j :: .ref a :: S)) := by
  subst hp hv
  obtain ⟨e0, hn, locs, Y, N⟩ := X
  obtain ⟨cl, Ar, S0, u⟩ := A
  exact stp (fun t y => Y.iaload hx (by rw [e0]; exact Ar.1) (State.isArrayOf_alike hZ.alike Ar.2.1) Ar.2.2 (inn S0 q r) (u _ r) (g := mkF m pc Ls (.int j :: .ref a :: S)) rfl rfl hd t y) k
theorem ldJ {a : Addr} {n : Nat} {f : Nat → Value} {j : Int32} {v : Value} (X : Pn p l e R s m args below meth c T h n0 cells slots) (hx : p.tables.exec = Jvm.exec) (hZ : Z.Warmed39 s.vm) (A : Av Z h a .long n f) (q : ¬ j < 0) (r : j.toNatClampNeg < n) (hv : f j.toNatClampNeg = v) (hd : decode c.code pc = .ok (.laload, 1)) (hp : pc + 1 = pc')
    (k : Go p e s below n0 Q R T (mkF m pc' Ls (v :: S))) : Go p e s below n0 Q R T (mkF m pc Ls (.int j :: .ref a :: S)) := by
  subst hp hv
  obtain ⟨e0, hn, locs, Y, N⟩ := X
  obtain ⟨cl, Ar, S0, u⟩ := A
  exact stp (fun t y => Y.laload hx (by rw [e0]; exact Ar.1) (State.isArrayOf_alike hZ.alike Ar.2.1) Ar.2.2 (inn S0 q r) (u _ r) (g := mkF m pc Ls (.int j :: .ref a :: S)) rfl rfl hd t y) k
theorem ldB {a : Addr} {n : Nat} {f : Nat → Value} {j : Int32} {v : Value} (X : Pn p l e R s m args below meth c T h n0 cells slots) (hx : p.tables.exec = Jvm.exec) (hZ : Z.Warmed39 s.vm) (A : Av Z h a .byte n f) (q : ¬ j < 0) (r : j.toNatClampNeg < n) (hv : f j.toNatClampNeg = v) (hd : decode c.code pc = .ok (.baload, 1)) (hp : pc + 1 = pc')
    (k : Go p e s below n0 Q R T (mkF m pc' Ls (v :: S))) : Go p e s below n0 Q R T (mkF m pc Ls (.int j :: .ref a :: S)) := by
  subst hp hv
  obtain ⟨e0, hn, locs, Y, N⟩ := X
  obtain ⟨cl, Ar, S0, u⟩ := A
  exact stp (fun t y => Y.baloadBytes hx (by rw [e0]; exact Ar.1) (State.isArrayOf_alike hZ.alike Ar.2.1) Ar.2.2 (inn S0 q r) (u _ r) (g := mkF m pc Ls (.int j :: .ref a :: S)) rfl rfl hd t y) k
theorem ldR {a : Addr} {ty : FieldType} {n : Nat} {f : Nat → Value} {j : Int32} {v : Value} (X : Pn p l e R s m args below meth c T h n0 cells slots) (hx : p.tables.exec = Jvm.exec) (hZ : Z.Warmed39 s.vm) (A : Av Z h a ty n f) (hty : ty.isReference = true) (q : ¬ j < 0) (r : j.toNatClampNeg < n) (hv : f j.toNatClampNeg = v) (hd : decode c.code pc = .ok (.aaload, 1)) (hp : pc + 1 = pc')
    (k : Go p e s below n0 Q R T (mkF m pc' Ls (v :: S))) : Go p e s below n0 Q R T (mkF m pc Ls (.int j :: .ref a :: S)) := by
  subst hp hv
  obtain ⟨e0, hn, locs, Y, N⟩ := X
  obtain ⟨cl, Ar, S0, u⟩ := A
  exact stp (fun t y => Y.aaload hx (by rw [e0]; exact Ar.1) (State.isArrayOf_alike hZ.alike Ar.2.1) hty Ar.2.2 (inn S0 q r) (u _ r) (g := mkF m pc Ls (.int j :: .ref a :: S)) rfl rfl hd t y) k
theorem saI {a : Addr} {n : Nat} {f : Nat → Value} {j x : Int32} (X : Pn p l e R s m args below meth c T h n0 cells slots) (hx : p.tables.exec = Jvm.exec) (hZ : Z.Warmed39 s.vm) (A : Av Z h a .int n f) (ge : n0 ≤ a) (q : ¬ j < 0) (r : j.toNatClampNeg < n) (hd : decode c.code pc = .ok (.iastore, 1)) (hp : pc + 1 = pc')
    (k : ∀ T' h', Pn p l e R s m args below meth c T' h' n0 cells slots → Wr h h' a j.toNatClampNeg (.int x) → Go p e s below n0 Q R T' (mkF m pc' Ls S)) : Go p e s below n0 Q R T (mkF m pc Ls (.int x :: .int j :: .ref a :: S)) := by
  subst hp
  obtain ⟨e0, hn, locs, Y, N⟩ := X
  obtain ⟨cl, Ar, S0, u⟩ := A
  obtain ⟨T', h', Y', e', W', st⟩ := stI Y hx hZ e0 Ar (inn S0 q r) (g := mkF m pc Ls (.int x :: .int j :: .ref a :: S)) rfl rfl hd
  exact stp st (k T' h' ⟨e', hn, _, Y', Fr.snoc Y' N ge⟩ W')
theorem saJ {a : Addr} {n : Nat} {f : Nat → Value} {j : Int32} {x : Int64} (X : Pn p l e R s m args below meth c T h n0 cells slots) (hx : p.tables.exec = Jvm.exec) (hZ : Z.Warmed39 s.vm) (A : Av Z h a .long n f) (ge : n0 ≤ a) (q : ¬ j < 0) (r : j.toNatClampNeg < n) (hd : decode c.code pc = .ok (.lastore, 1)) (hp : pc + 1 = pc')
    (k : ∀ T' h', Pn p l e R s m args below meth c T' h' n0 cells slots → Wr h h' a j.toNatClampNeg (.long x) → Go p e s below n0 Q R T' (mkF m pc' Ls S)) : Go p e s below n0 Q R T (mkF m pc Ls (.long x :: .int j :: .ref a :: S)) := by
  subst hp
  obtain ⟨e0, hn, locs, Y, N⟩ := X
  obtain ⟨cl, Ar, S0, u⟩ := A
  obtain ⟨T', h', Y', e', W', st⟩ := stJ Y hx hZ e0 Ar (inn S0 q r) (g := mkF m pc Ls (.long x :: .int j :: .ref a :: S)) rfl rfl hd
  exact stp st (k T' h' ⟨e', hn, _, Y', Fr.snoc Y' N ge⟩ W')
theorem saB {a : Addr} {n : Nat} {f : Nat → Value} {j x : Int32} (X : Pn p l e R s m args below meth c T h n0 cells slots) (hx : p.tables.exec = Jvm.exec) (hZ : Z.Warmed39 s.vm) (A : Av Z h a .byte n f) (ge : n0 ≤ a) (q : ¬ j < 0) (r : j.toNatClampNeg < n) (hd : decode c.code pc = .ok (.bastore, 1)) (hp : pc + 1 = pc')
    (k : ∀ T' h', Pn p l e R s m args below meth c T' h' n0 cells slots → Wr h h' a j.toNatClampNeg (.int x.toInt8.toInt32) → Go p e s below n0 Q R T' (mkF m pc' Ls S)) : Go p e s below n0 Q R T (mkF m pc Ls (.int x :: .int j :: .ref a :: S)) := by
  subst hp
  obtain ⟨e0, hn, locs, Y, N⟩ := X
  obtain ⟨cl, Ar, S0, u⟩ := A
  obtain ⟨T', h', Y', e', W', st⟩ := stB Y hx hZ e0 Ar (inn S0 q r) (g := mkF m pc Ls (.int x :: .int j :: .ref a :: S)) rfl rfl hd
  exact stp st (k T' h' ⟨e', hn, _, Y', Fr.snoc Y' N ge⟩ W')
/-! arrays of references: the class is known too -/
def AvR (Z : State) (h : Heap) (a : Addr) (C : String) (n : Nat) (f : Nat → Value) : Prop := ∃ c : Cell, Arr Z h a c (.object C) ∧ Ovr Z c.cls C ∧ c.slots.size = n ∧ ∀ i, i < n → c.slots[i]? = some (f i)
theorem AvR.lt {a : Addr} {C : String} {n : Nat} {f : Nat → Value} (F : AvR Z h a C n f) : a < h.size := by obtain ⟨c, A, -⟩ := F; exact A.lt
theorem AvR.av {a : Addr} {C : String} {n : Nat} {f : Nat → Value} (F : AvR Z h a C n f) : Av Z h a (.object C) n f := by obtain ⟨c, A, -, r⟩ := F; exact ⟨c, A, r⟩
theorem AvR.ext {h' : Heap} {a : Addr} {C : String} {n : Nat} {f : Nat → Value} (F : AvR Z h a C n f) (E : Ext h h') : AvR Z h' a C n f := by obtain ⟨c, A, r⟩ := F; exact ⟨c, A.ext E, r⟩
theorem AvR.other {h' : Heap} {a b : Addr} {C : String} {n sl : Nat} {v : Value} {f : Nat → Value} (F : AvR Z h b C n f) (W : Wr h h' a sl v) (q : b ≠ a) : AvR Z h' b C n f := by obtain ⟨c, A, r⟩ := F; exact ⟨c, A.other W q, r⟩
theorem AvR.set {h' : Heap} {a : Addr} {C : String} {n k : Nat} {j : Int32} {v : Value} {f : Nat → Value} (e : j.toNatClampNeg = k) (F : AvR Z h a C n f) (W : Wr h h' a j.toNatClampNeg v) : AvR Z h' a C n (fun i => if i = k then v else f i) := by
  subst e
  obtain ⟨c, A, O, q, r⟩ := F
  refine ⟨c.setSlot j.toNatClampNeg v, A.same W, O, by rw [sz_set]; exact q, fun i hi => ?_⟩
  obtain ⟨c', e1, -, -, -, -, e6, e7⟩ := wr_at W A.1
  obtain ⟨e8, e9, -⟩ := e7 rfl
  by_cases hj : i = j.toNatClampNeg
  · subst hj; show _ = some (if j.toNatClampNeg = j.toNatClampNeg then v else f j.toNatClampNeg); rw [if_pos rfl, ← e8]; exact e9
  · show _ = some (if i = j.toNatClampNeg then v else f i); rw [if_neg hj, ← e8, e6 _ hj]; exact r i hi
theorem nr {own C : String} {index : Nat} {z : Int32} (cap : Nat) (X : Pn p l e R s m args below meth c T h n0 cells slots) (hx : p.tables.exec = Jvm.exec) (hZ : Z.Warmed39 s.vm) (hown : s.vm.findClass own = some m.cls) (w1 : (Cond.classLink own index C).before a0 Z = true) (w2 : (Cond.arrayOver (.object C)).before a0 Z = true) (hd : decode c.code pc = .ok (.anewarray index, 3)) (hp : pc + 3 = pc') (hz : ¬ z < 0) (hcap : z.toNatClampNeg ≤ cap) (hb : cap * 8 ≤ 536870912) (hc : cells + 1 ≤ R.cells) (hl : slots + cap ≤ R.slots)
    (k : ∀ T' h' b, Pn p l e R s m args below meth c T' h' n0 (cells + 1) (slots + cap) → b = h.size → n0 ≤ b → Ext h h' → AvR Z h' b C z.toNatClampNeg (fun _ => .null) → Go p e s below n0 Q R T' (mkF m pc' Ls (.ref b :: S))) :
    Go p e s below n0 Q R T (mkF m pc Ls (.int z :: S)) := by
  subst hp
  have q := X.le
  obtain ⟨e0, hn, locs, Y, N⟩ := X
  obtain ⟨T', h', k', Y', e', E', A', O', st⟩ := newR Y hx hZ hown w1 w2 e0 (g := mkF m pc Ls (.int z :: S)) rfl hd rfl hz hcap hb hc hl
  refine stp st (k T' h' _ ⟨e', hn, _, Y', N⟩ rfl q E' ⟨_, A', O', sz_new _ _ _, fun i hi => ?_⟩)
  simp [newA, hi, defaultValue]
theorem saR {a y : Addr} {C : String} {n : Nat} {f : Nat → Value} {j : Int32} (X : Pn p l e R s m args below meth c T h n0 cells slots) (hx : p.tables.exec = Jvm.exec) (hZ : Z.Warmed39 s.vm) (A : AvR Z h a C n f) (I : Ins Z h y C true) (ge : n0 ≤ a) (q : ¬ j < 0) (r : j.toNatClampNeg < n) (hd : decode c.code pc = .ok (.aastore, 1)) (hp : pc + 1 = pc')
    (k : ∀ T' h', Pn p l e R s m args below meth c T' h' n0 cells slots → Wr h h' a j.toNatClampNeg (.ref y) → Go p e s below n0 Q R T' (mkF m pc' Ls S)) : Go p e s below n0 Q R T (mkF m pc Ls (.ref y :: .int j :: .ref a :: S)) := by
  subst hp
  obtain ⟨e0, hn, locs, Y, N⟩ := X
  obtain ⟨cl, Ar, O, S0, u⟩ := A
  obtain ⟨T', h', Y', e', W', st⟩ := stR Y hx hZ e0 Ar (inn S0 q r) rfl (Sto.of Ar O I) (g := mkF m pc Ls (.ref y :: .int j :: .ref a :: S)) rfl rfl hd
  exact stp st (k T' h' ⟨e', hn, _, Y', Fr.snoc Y' N ge⟩ W')
theorem i_iadd {x y : Int32} (X : Pn p l e R s m args below meth c T h n0 cells slots) (hx : p.tables.exec = Jvm.exec) (hd : decode c.code pc = .ok (.iadd, 1)) (hp : pc + 1 = pc')
    (k : Go p e s below n0 Q R T (mkF m pc' Ls (.int (x + y) :: S))) : Go p e s below n0 Q R T (mkF m pc Ls (.int y :: .int x :: S)) := by subst hp; exact stp (fun _ q => XS.iadd X.here hx rfl hd rfl q) k
theorem i_isub {x y : Int32} (X : Pn p l e R s m args below meth c T h n0 cells slots) (hx : p.tables.exec = Jvm.exec) (hd : decode c.code pc = .ok (.isub, 1)) (hp : pc + 1 = pc')
    (k : Go p e s below n0 Q R T (mkF m pc' Ls (.int (x - y) :: S))) : Go p e s below n0 Q R T (mkF m pc Ls (.int y :: .int x :: S)) := by subst hp; exact stp (fun _ q => XS.isub X.here hx rfl hd rfl q) k
theorem i_imul {x y : Int32} (X : Pn p l e R s m args below meth c T h n0 cells slots) (hx : p.tables.exec = Jvm.exec) (hd : decode c.code pc = .ok (.imul, 1)) (hp : pc + 1 = pc')
    (k : Go p e s below n0 Q R T (mkF m pc' Ls (.int (x * y) :: S))) : Go p e s below n0 Q R T (mkF m pc Ls (.int y :: .int x :: S)) := by subst hp; exact stp (fun _ q => XS.imul X.here hx rfl hd rfl q) k
theorem i_iand {x y : Int32} (X : Pn p l e R s m args below meth c T h n0 cells slots) (hx : p.tables.exec = Jvm.exec) (hd : decode c.code pc = .ok (.iand, 1)) (hp : pc + 1 = pc')
    (k : Go p e s below n0 Q R T (mkF m pc' Ls (.int (x &&& y) :: S))) : Go p e s below n0 Q R T (mkF m pc Ls (.int y :: .int x :: S)) := by subst hp; exact stp (fun _ q => XS.iand X.here hx rfl hd rfl q) k
theorem i_ior {x y : Int32} (X : Pn p l e R s m args below meth c T h n0 cells slots) (hx : p.tables.exec = Jvm.exec) (hd : decode c.code pc = .ok (.ior, 1)) (hp : pc + 1 = pc')
    (k : Go p e s below n0 Q R T (mkF m pc' Ls (.int (x ||| y) :: S))) : Go p e s below n0 Q R T (mkF m pc Ls (.int y :: .int x :: S)) := by subst hp; exact stp (fun _ q => XT.ior X.here hx rfl hd rfl q) k
theorem i_ixor {x y : Int32} (X : Pn p l e R s m args below meth c T h n0 cells slots) (hx : p.tables.exec = Jvm.exec) (hd : decode c.code pc = .ok (.ixor, 1)) (hp : pc + 1 = pc')
    (k : Go p e s below n0 Q R T (mkF m pc' Ls (.int (x ^^^ y) :: S))) : Go p e s below n0 Q R T (mkF m pc Ls (.int y :: .int x :: S)) := by subst hp; exact stp (fun _ q => XT.ixor X.here hx rfl hd rfl q) k
theorem i_ishl {x y : Int32} (X : Pn p l e R s m args below meth c T h n0 cells slots) (hx : p.tables.exec = Jvm.exec) (hd : decode c.code pc = .ok (.ishl, 1)) (hp : pc + 1 = pc')
    (k : Go p e s below n0 Q R T (mkF m pc' Ls (.int (x <<< (y &&& 31)) :: S))) : Go p e s below n0 Q R T (mkF m pc Ls (.int y :: .int x :: S)) := by subst hp; exact stp (fun _ q => XT.ishl X.here hx rfl hd rfl q) k
theorem i_ishr {x y : Int32} (X : Pn p l e R s m args below meth c T h n0 cells slots) (hx : p.tables.exec = Jvm.exec) (hd : decode c.code pc = .ok (.ishr, 1)) (hp : pc + 1 = pc')
    (k : Go p e s below n0 Q R T (mkF m pc' Ls (.int (x >>> (y &&& 31)) :: S))) : Go p e s below n0 Q R T (mkF m pc Ls (.int y :: .int x :: S)) := by subst hp; exact stp (fun _ q => XT.ishr X.here hx rfl hd rfl q) k
theorem i_iushr {x y : Int32} (X : Pn p l e R s m args below meth c T h n0 cells slots) (hx : p.tables.exec = Jvm.exec) (hd : decode c.code pc = .ok (.iushr, 1)) (hp : pc + 1 = pc')
    (k : Go p e s below n0 Q R T (mkF m pc' Ls (.int (XT.ushr x y) :: S))) : Go p e s below n0 Q R T (mkF m pc Ls (.int y :: .int x :: S)) := by subst hp; exact stp (fun _ q => XT.iushr X.here hx rfl hd rfl q) k
theorem i_ladd {x y : Int64} (X : Pn p l e R s m args below meth c T h n0 cells slots) (hx : p.tables.exec = Jvm.exec) (hd : decode c.code pc = .ok (.ladd, 1)) (hp : pc + 1 = pc')
    (k : Go p e s below n0 Q R T (mkF m pc' Ls (.long (x + y) :: S))) : Go p e s below n0 Q R T (mkF m pc Ls (.long y :: .long x :: S)) := by subst hp; exact stp (fun _ q => XT.ladd X.here hx rfl hd rfl q) k
theorem i_lsub {x y : Int64} (X : Pn p l e R s m args below meth c T h n0 cells slots) (hx : p.tables.exec = Jvm.exec) (hd : decode c.code pc = .ok (.lsub, 1)) (hp : pc + 1 = pc')
    (k : Go p e s below n0 Q R T (mkF m pc' Ls (.long (x - y) :: S))) : Go p e s below n0 Q R T (mkF m pc Ls (.long y :: .long x :: S)) := by subst hp; exact stp (fun _ q => XT.lsub X.here hx rfl hd rfl q) k
theorem i_lmul {x y : Int64} (X : Pn p l e R s m args below meth c T h n0 cells slots) (hx : p.tables.exec = Jvm.exec) (hd : decode c.code pc = .ok (.lmul, 1)) (hp : pc + 1 = pc')
    (k : Go p e s below n0 Q R T (mkF m pc' Ls (.long (x * y) :: S))) : Go p e s below n0 Q R T (mkF m pc Ls (.long y :: .long x :: S)) := by subst hp; exact stp (fun _ q => XT.lmul X.here hx rfl hd rfl q) k
theorem i_land {x y : Int64} (X : Pn p l e R s m args below meth c T h n0 cells slots) (hx : p.tables.exec = Jvm.exec) (hd : decode c.code pc = .ok (.land, 1)) (hp : pc + 1 = pc')
    (k : Go p e s below n0 Q R T (mkF m pc' Ls (.long (x &&& y) :: S))) : Go p e s below n0 Q R T (mkF m pc Ls (.long y :: .long x :: S)) := by subst hp; exact stp (fun _ q => XT.land X.here hx rfl hd rfl q) k
theorem i_lor {x y : Int64} (X : Pn p l e R s m args below meth c T h n0 cells slots) (hx : p.tables.exec = Jvm.exec) (hd : decode c.code pc = .ok (.lor, 1)) (hp : pc + 1 = pc')
    (k : Go p e s below n0 Q R T (mkF m pc' Ls (.long (x ||| y) :: S))) : Go p e s below n0 Q R T (mkF m pc Ls (.long y :: .long x :: S)) := by subst hp; exact stp (fun _ q => XT.lor X.here hx rfl hd rfl q) k
theorem i_lxor {x y : Int64} (X : Pn p l e R s m args below meth c T h n0 cells slots) (hx : p.tables.exec = Jvm.exec) (hd : decode c.code pc = .ok (.lxor, 1)) (hp : pc + 1 = pc')
    (k : Go p e s below n0 Q R T (mkF m pc' Ls (.long (x ^^^ y) :: S))) : Go p e s below n0 Q R T (mkF m pc Ls (.long y :: .long x :: S)) := by subst hp; exact stp (fun _ q => XT.lxor X.here hx rfl hd rfl q) k
theorem i_lshl {x : Int64} {y : Int32} (X : Pn p l e R s m args below meth c T h n0 cells slots) (hx : p.tables.exec = Jvm.exec) (hd : decode c.code pc = .ok (.lshl, 1)) (hp : pc + 1 = pc')
    (k : Go p e s below n0 Q R T (mkF m pc' Ls (.long (x <<< (y.toInt64 &&& 63)) :: S))) : Go p e s below n0 Q R T (mkF m pc Ls (.int y :: .long x :: S)) := by subst hp; exact stp (fun _ q => XT.lshl X.here hx rfl hd rfl q) k
theorem i_lshr {x : Int64} {y : Int32} (X : Pn p l e R s m args below meth c T h n0 cells slots) (hx : p.tables.exec = Jvm.exec) (hd : decode c.code pc = .ok (.lshr, 1)) (hp : pc + 1 = pc')
    (k : Go p e s below n0 Q R T (mkF m pc' Ls (.long (x >>> (y.toInt64 &&& 63)) :: S))) : Go p e s below n0 Q R T (mkF m pc Ls (.int y :: .long x :: S)) := by subst hp; exact stp (fun _ q => XT.lshr X.here hx rfl hd rfl q) k
theorem i_lushr {x : Int64} {y : Int32} (X : Pn p l e R s m args below meth c T h n0 cells slots) (hx : p.tables.exec = Jvm.exec) (hd : decode c.code pc = .ok (.lushr, 1)) (hp : pc + 1 = pc')
    (k : Go p e s below n0 Q R T (mkF m pc' Ls (.long (XT.ushrL x y) :: S))) : Go p e s below n0 Q R T (mkF m pc Ls (.int y :: .long x :: S)) := by subst hp; exact stp (fun _ q => XT.lushr X.here hx rfl hd rfl q) k
theorem i_idiv {x y : Int32} (X : Pn p l e R s m args below meth c T h n0 cells slots) (hx : p.tables.exec = Jvm.exec) (hd : decode c.code pc = .ok (.idiv, 1)) (hp : pc + 1 = pc') (hy : y ≠ 0)
    (k : Go p e s below n0 Q R T (mkF m pc' Ls (.int (x / y) :: S))) : Go p e s below n0 Q R T (mkF m pc Ls (.int y :: .int x :: S)) := by subst hp; exact stp (fun _ q => XS.idiv X.here hx rfl hd rfl hy q) k
theorem i_ldiv {x y : Int64} (X : Pn p l e R s m args below meth c T h n0 cells slots) (hx : p.tables.exec = Jvm.exec) (hd : decode c.code pc = .ok (.ldiv, 1)) (hp : pc + 1 = pc') (hy : y ≠ 0)
    (k : Go p e s below n0 Q R T (mkF m pc' Ls (.long (x / y) :: S))) : Go p e s below n0 Q R T (mkF m pc Ls (.long y :: .long x :: S)) := by subst hp; exact stp (fun _ q => XT.ldiv X.here hx rfl hd rfl hy q) k
theorem i_lrem {x y : Int64} (X : Pn p l e R s m args below meth c T h n0 cells slots) (hx : p.tables.exec = Jvm.exec) (hd : decode c.code pc = .ok (.lrem, 1)) (hp : pc + 1 = pc') (hy : y ≠ 0)
    (k : Go p e s below n0 Q R T (mkF m pc' Ls (.long (x - (x / y) * y) :: S))) : Go p e s below n0 Q R T (mkF m pc Ls (.long y :: .long x :: S)) := by subst hp; exact stp (fun _ q => XT.lrem X.here hx rfl hd rfl hy q) k
theorem i_irem {x y : Int32} (X : Pn p l e R s m args below meth c T h n0 cells slots) (hx : p.tables.exec = Jvm.exec) (hd : decode c.code pc = .ok (.irem, 1)) (hp : pc + 1 = pc') (hy : y ≠ 0)
    (k : Go p e s below n0 Q R T (mkF m pc' Ls (.int (x % y) :: S))) : Go p e s below n0 Q R T (mkF m pc Ls (.int y :: .int x :: S)) := by subst hp; obtain ⟨e0, hn, locs, Y, N⟩ := X; exact stp (fun _ q => iremM Y hx rfl hd rfl hy q) k
theorem i_ineg {x : Int32} (X : Pn p l e R s m args below meth c T h n0 cells slots) (hx : p.tables.exec = Jvm.exec) (hd : decode c.code pc = .ok (.ineg, 1)) (hp : pc + 1 = pc')
    (k : Go p e s below n0 Q R T (mkF m pc' Ls (.int (-x) :: S))) : Go p e s below n0 Q R T (mkF m pc Ls (.int x :: S)) := by subst hp; exact stp (fun _ q => XS.ineg X.here hx rfl hd rfl q) k
theorem i_lneg {x : Int64} (X : Pn p l e R s m args below meth c T h n0 cells slots) (hx : p.tables.exec = Jvm.exec) (hd : decode c.code pc = .ok (.lneg, 1)) (hp : pc + 1 = pc')
    (k : Go p e s below n0 Q R T (mkF m pc' Ls (.long (-x) :: S))) : Go p e s below n0 Q R T (mkF m pc Ls (.long x :: S)) := by subst hp; exact stp (fun _ q => XT.lneg X.here hx rfl hd rfl q) k
theorem i_i2l {x : Int32} (X : Pn p l e R s m args below meth c T h n0 cells slots) (hx : p.tables.exec = Jvm.exec) (hd : decode c.code pc = .ok (.i2l, 1)) (hp : pc + 1 = pc')
    (k : Go p e s below n0 Q R T (mkF m pc' Ls (.long x.toInt64 :: S))) : Go p e s below n0 Q R T (mkF m pc Ls (.int x :: S)) := by subst hp; exact stp (fun _ q => XT.i2l X.here hx rfl hd rfl q) k
theorem i_l2i {x : Int64} (X : Pn p l e R s m args below meth c T h n0 cells slots) (hx : p.tables.exec = Jvm.exec) (hd : decode c.code pc = .ok (.l2i, 1)) (hp : pc + 1 = pc')
    (k : Go p e s below n0 Q R T (mkF m pc' Ls (.int x.toInt32 :: S))) : Go p e s below n0 Q R T (mkF m pc Ls (.long x :: S)) := by subst hp; exact stp (fun _ q => XT.l2i X.here hx rfl hd rfl q) k
theorem i_i2b {x : Int32} (X : Pn p l e R s m args below meth c T h n0 cells slots) (hx : p.tables.exec = Jvm.exec) (hd : decode c.code pc = .ok (.i2b, 1)) (hp : pc + 1 = pc')
    (k : Go p e s below n0 Q R T (mkF m pc' Ls (.int x.toInt8.toInt32 :: S))) : Go p e s below n0 Q R T (mkF m pc Ls (.int x :: S)) := by subst hp; exact stp (fun _ q => XT.i2b X.here hx rfl hd rfl q) k
theorem i_i2c {x : Int32} (X : Pn p l e R s m args below meth c T h n0 cells slots) (hx : p.tables.exec = Jvm.exec) (hd : decode c.code pc = .ok (.i2c, 1)) (hp : pc + 1 = pc')
    (k : Go p e s below n0 Q R T (mkF m pc' Ls (.int x.toUInt32.toUInt16.toUInt32.toInt32 :: S))) : Go p e s below n0 Q R T (mkF m pc Ls (.int x :: S)) := by subst hp; exact stp (fun _ q => XT.i2c X.here hx rfl hd rfl q) k
theorem i_i2s {x : Int32} (X : Pn p l e R s m args below meth c T h n0 cells slots) (hx : p.tables.exec = Jvm.exec) (hd : decode c.code pc = .ok (.i2s, 1)) (hp : pc + 1 = pc')
    (k : Go p e s below n0 Q R T (mkF m pc' Ls (.int x.toInt16.toInt32 :: S))) : Go p e s below n0 Q R T (mkF m pc Ls (.int x :: S)) := by subst hp; exact stp (fun _ q => XT.i2s X.here hx rfl hd rfl q) k
theorem i_lcmp {x y : Int64} (X : Pn p l e R s m args below meth c T h n0 cells slots) (hx : p.tables.exec = Jvm.exec) (hd : decode c.code pc = .ok (.lcmp, 1)) (hp : pc + 1 = pc')
    (k : Go p e s below n0 Q R T (mkF m pc' Ls (.int (XT.cmpL x y) :: S))) : Go p e s below n0 Q R T (mkF m pc Ls (.long y :: .long x :: S)) := by subst hp; exact stp (fun _ q => XT.lcmp X.here hx rfl hd rfl q) k
theorem i_aloadN {k : Fin 4} {v : Value} (X : Pn p l e R s m args below meth c T h n0 cells slots) (hx : p.tables.exec = Jvm.exec) (hd : decode c.code pc = .ok (.aload_n k, 1)) (hp : pc + 1 = pc') (hl : Ls[k.val]? = some (.val v)) (hv : v.isRef = true)
    (k : Go p e s below n0 Q R T (mkF m pc' Ls (v :: S))) : Go p e s below n0 Q R T (mkF m pc Ls S) := by subst hp; exact stp (fun _ q => XS.aloadN X.here hx rfl hd hl hv q) k
theorem i_aload {k : Nat} {v : Value} (X : Pn p l e R s m args below meth c T h n0 cells slots) (hx : p.tables.exec = Jvm.exec) (hd : decode c.code pc = .ok (.aload k, 2)) (hp : pc + 2 = pc') (hl : Ls[k]? = some (.val v)) (hv : v.isRef = true)
    (k : Go p e s below n0 Q R T (mkF m pc' Ls (v :: S))) : Go p e s below n0 Q R T (mkF m pc Ls S) := by subst hp; exact stp (fun _ q => XS.aload X.here hx rfl hd hl hv q) k
theorem i_iloadN {k : Fin 4} {v : Int32} (X : Pn p l e R s m args below meth c T h n0 cells slots) (hx : p.tables.exec = Jvm.exec) (hd : decode c.code pc = .ok (.iload_n k, 1)) (hp : pc + 1 = pc') (hl : Ls[k.val]? = some (.val (.int v)))
    (k : Go p e s below n0 Q R T (mkF m pc' Ls (.int v :: S))) : Go p e s below n0 Q R T (mkF m pc Ls S) := by subst hp; exact stp (fun _ q => XS.iloadN X.here hx rfl hd hl q) k
theorem i_iload {k : Nat} {v : Int32} (X : Pn p l e R s m args below meth c T h n0 cells slots) (hx : p.tables.exec = Jvm.exec) (hd : decode c.code pc = .ok (.iload k, 2)) (hp : pc + 2 = pc') (hl : Ls[k]? = some (.val (.int v)))
    (k : Go p e s below n0 Q R T (mkF m pc' Ls (.int v :: S))) : Go p e s below n0 Q R T (mkF m pc Ls S) := by subst hp; exact stp (fun _ q => XS.iload X.here hx rfl hd hl q) k
theorem i_lloadN {k : Fin 4} {v : Int64} (X : Pn p l e R s m args below meth c T h n0 cells slots) (hx : p.tables.exec = Jvm.exec) (hd : decode c.code pc = .ok (.lload_n k, 1)) (hp : pc + 1 = pc') (hl : Ls[k.val]? = some (.val (.long v)))
    (k : Go p e s below n0 Q R T (mkF m pc' Ls (.long v :: S))) : Go p e s below n0 Q R T (mkF m pc Ls S) := by subst hp; exact stp (fun _ q => XT.lloadN X.here hx rfl hd hl q) k
theorem i_lload {k : Nat} {v : Int64} (X : Pn p l e R s m args below meth c T h n0 cells slots) (hx : p.tables.exec = Jvm.exec) (hd : decode c.code pc = .ok (.lload k, 2)) (hp : pc + 2 = pc') (hl : Ls[k]? = some (.val (.long v)))
    (k : Go p e s below n0 Q R T (mkF m pc' Ls (.long v :: S))) : Go p e s below n0 Q R T (mkF m pc Ls S) := by subst hp; exact stp (fun _ q => XT.lload X.here hx rfl hd hl q) k
theorem i_istoreN {k : Fin 4} {x : Int32} {L' : Array Slot} (X : Pn p l e R s m args below meth c T h n0 cells slots) (hx : p.tables.exec = Jvm.exec) (hd : decode c.code pc = .ok (.istore_n k, 1)) (hp : pc + 1 = pc') (hl : storeLocals Ls k.val (.int x) = some L')
    (k : Go p e s below n0 Q R T (mkF m pc' L' S)) : Go p e s below n0 Q R T (mkF m pc Ls (.int x :: S)) := by subst hp; exact stp (fun _ q => XS.istoreN X.here hx rfl hd rfl hl q) k
theorem i_istore {k : Nat} {x : Int32} {L' : Array Slot} (X : Pn p l e R s m args below meth c T h n0 cells slots) (hx : p.tables.exec = Jvm.exec) (hd : decode c.code pc = .ok (.istore k, 2)) (hp : pc + 2 = pc') (hl : storeLocals Ls k (.int x) = some L')
    (k : Go p e s below n0 Q R T (mkF m pc' L' S)) : Go p e s below n0 Q R T (mkF m pc Ls (.int x :: S)) := by subst hp; exact stp (fun _ q => XS.istore X.here hx rfl hd rfl hl q) k
theorem i_lstoreN {k : Fin 4} {x : Int64} {L' : Array Slot} (X : Pn p l e R s m args below meth c T h n0 cells slots) (hx : p.tables.exec = Jvm.exec) (hd : decode c.code pc = .ok (.lstore_n k, 1)) (hp : pc + 1 = pc') (hl : storeLocals Ls k.val (.long x) = some L')
    (k : Go p e s below n0 Q R T (mkF m pc' L' S)) : Go p e s below n0 Q R T (mkF m pc Ls (.long x :: S)) := by subst hp; exact stp (fun _ q => XT.lstoreN X.here hx rfl hd rfl hl q) k
theorem i_lstore {k : Nat} {x : Int64} {L' : Array Slot} (X : Pn p l e R s m args below meth c T h n0 cells slots) (hx : p.tables.exec = Jvm.exec) (hd : decode c.code pc = .ok (.lstore k, 2)) (hp : pc + 2 = pc') (hl : storeLocals Ls k (.long x) = some L')
    (k : Go p e s below n0 Q R T (mkF m pc' L' S)) : Go p e s below n0 Q R T (mkF m pc Ls (.long x :: S)) := by subst hp; exact stp (fun _ q => XT.lstore X.here hx rfl hd rfl hl q) k
theorem i_astoreN {k : Fin 4} {x : Value} {L' : Array Slot} (X : Pn p l e R s m args below meth c T h n0 cells slots) (hx : p.tables.exec = Jvm.exec) (hd : decode c.code pc = .ok (.astore_n k, 1)) (hp : pc + 1 = pc') (hv : x.isRef = true) (hl : storeLocals Ls k.val x = some L')
    (k : Go p e s below n0 Q R T (mkF m pc' L' S)) : Go p e s below n0 Q R T (mkF m pc Ls (x :: S)) := by subst hp; exact stp (fun _ q => XS.astoreN X.here hx rfl hd rfl hv hl q) k
theorem i_astore {k : Nat} {x : Value} {L' : Array Slot} (X : Pn p l e R s m args below meth c T h n0 cells slots) (hx : p.tables.exec = Jvm.exec) (hd : decode c.code pc = .ok (.astore k, 2)) (hp : pc + 2 = pc') (hv : x.isRef = true) (hl : storeLocals Ls k x = some L')
    (k : Go p e s below n0 Q R T (mkF m pc' L' S)) : Go p e s below n0 Q R T (mkF m pc Ls (x :: S)) := by subst hp; exact stp (fun _ q => XS.astore X.here hx rfl hd rfl hv hl q) k
theorem i_iconst {i : Int} (v : Int32) (X : Pn p l e R s m args below meth c T h n0 cells slots) (hx : p.tables.exec = Jvm.exec) (hd : decode c.code pc = .ok (.iconst i, 1)) (hp : pc + 1 = pc') (hv : Int32.ofInt i = v)
    (k : Go p e s below n0 Q R T (mkF m pc' Ls (.int v :: S))) : Go p e s below n0 Q R T (mkF m pc Ls S) := by subst hp; exact stp (fun _ q => XT.iconstV X.here hx rfl v hd hv q) k
theorem i_bipush {i : Int} (v : Int32) (X : Pn p l e R s m args below meth c T h n0 cells slots) (hx : p.tables.exec = Jvm.exec) (hd : decode c.code pc = .ok (.bipush i, 2)) (hp : pc + 2 = pc') (hv : (Int8.ofInt i).toInt32 = v)
    (k : Go p e s below n0 Q R T (mkF m pc' Ls (.int v :: S))) : Go p e s below n0 Q R T (mkF m pc Ls S) := by subst hp; exact stp (fun _ q => XT.bipushV X.here hx rfl v hd hv q) k
theorem i_sipush {i : Int} (v : Int32) (X : Pn p l e R s m args below meth c T h n0 cells slots) (hx : p.tables.exec = Jvm.exec) (hd : decode c.code pc = .ok (.sipush i, 3)) (hp : pc + 3 = pc') (hv : (Int16.ofInt i).toInt32 = v)
    (k : Go p e s below n0 Q R T (mkF m pc' Ls (.int v :: S))) : Go p e s below n0 Q R T (mkF m pc Ls S) := by subst hp; exact stp (fun _ q => XT.sipushV X.here hx rfl v hd hv q) k
theorem i_lconst {i : Fin 2} (v : Int64) (X : Pn p l e R s m args below meth c T h n0 cells slots) (hx : p.tables.exec = Jvm.exec) (hd : decode c.code pc = .ok (.lconst i, 1)) (hp : pc + 1 = pc') (hv : Int64.ofNat i = v)
    (k : Go p e s below n0 Q R T (mkF m pc' Ls (.long v :: S))) : Go p e s below n0 Q R T (mkF m pc Ls S) := by subst hp; exact stp (fun _ q => XT.lconstV X.here hx rfl v hd hv q) k
theorem i_aconstNull (X : Pn p l e R s m args below meth c T h n0 cells slots) (hx : p.tables.exec = Jvm.exec) (hd : decode c.code pc = .ok (.aconst_null, 1)) (hp : pc + 1 = pc')
    (k : Go p e s below n0 Q R T (mkF m pc' Ls (.null :: S))) : Go p e s below n0 Q R T (mkF m pc Ls S) := by subst hp; exact stp (fun _ q => XS.aconstNull X.here hx rfl hd q) k
theorem i_iinc {i : Nat} {cst : Int} {x : Int32} {L' : Array Slot} (v : Int32) (X : Pn p l e R s m args below meth c T h n0 cells slots) (hx : p.tables.exec = Jvm.exec) (hd : decode c.code pc = .ok (.iinc i cst, 3)) (hp : pc + 3 = pc') (hv : Int32.ofInt cst = v) (hl : Ls[i]? = some (.val (.int x))) (hl' : storeLocals Ls i (.int (x + v)) = some L')
    (k : Go p e s below n0 Q R T (mkF m pc' L' S)) : Go p e s below n0 Q R T (mkF m pc Ls S) := by subst hp; exact stp (fun _ q => XT.iincV X.here hx rfl v hd hv hl hl' q) k
theorem i_ldc {own : String} {i : Nat} (v : Int32) (X : Pn p l e R s m args below meth c T h n0 cells slots) (hx : p.tables.exec = Jvm.exec) (hZ : Z.Warmed39 s.vm) (hown : s.vm.findClass own = some m.cls) (w : (Cond.constant own i v).before a0 Z = true) (hd : decode c.code pc = .ok (.ldc i, 2)) (hp : pc + 2 = pc')
    (k : Go p e s below n0 Q R T (mkF m pc' Ls (.int v :: S))) : Go p e s below n0 Q R T (mkF m pc Ls S) := by subst hp; obtain ⟨e0, hn, locs, Y, N⟩ := X; exact stp (fun _ q => Y.ldcI hx hown (mv hZ w) (g := mkF m pc Ls S) rfl hd q) k
theorem i_ldcW {own : String} {i : Nat} (v : Int32) (X : Pn p l e R s m args below meth c T h n0 cells slots) (hx : p.tables.exec = Jvm.exec) (hZ : Z.Warmed39 s.vm) (hown : s.vm.findClass own = some m.cls) (w : (Cond.constant own i v).before a0 Z = true) (hd : decode c.code pc = .ok (.ldc_w i, 3)) (hp : pc + 3 = pc')
    (k : Go p e s below n0 Q R T (mkF m pc' Ls (.int v :: S))) : Go p e s below n0 Q R T (mkF m pc Ls S) := by subst hp; obtain ⟨e0, hn, locs, Y, N⟩ := X; exact stp (fun _ q => Y.ldcWI hx hown (mv hZ w) (g := mkF m pc Ls S) rfl hd q) k
theorem i_ldc2 {own : String} {i : Nat} (v : Int64) (X : Pn p l e R s m args below meth c T h n0 cells slots) (hx : p.tables.exec = Jvm.exec) (hZ : Z.Warmed39 s.vm) (hown : s.vm.findClass own = some m.cls) (w : (Cond.constantLong own i v).before a0 Z = true) (hd : decode c.code pc = .ok (.ldc2_w i, 3)) (hp : pc + 3 = pc')
    (k : Go p e s below n0 Q R T (mkF m pc' Ls (.long v :: S))) : Go p e s below n0 Q R T (mkF m pc Ls S) := by subst hp; obtain ⟨e0, hn, locs, Y, N⟩ := X; exact stp (fun _ q => Y.ldc2J hx hown (mv hZ w) (g := mkF m pc Ls S) rfl hd q) k
theorem i_dup {x : Value} (X : Pn p l e R s m args below meth c T h n0 cells slots) (hx : p.tables.exec = Jvm.exec) (hd : decode c.code pc = .ok (.dup, 1)) (hp : pc + 1 = pc') (hc : x.category = 1)
    (k : Go p e s below n0 Q R T (mkF m pc' Ls (x :: x :: S))) : Go p e s below n0 Q R T (mkF m pc Ls (x :: S)) := by subst hp; exact stp (fun _ q => XS.dup X.here hx rfl hd rfl hc q) k
theorem i_pop {x : Value} (X : Pn p l e R s m args below meth c T h n0 cells slots) (hx : p.tables.exec = Jvm.exec) (hd : decode c.code pc = .ok (.pop, 1)) (hp : pc + 1 = pc') (hc : x.category = 1)
    (k : Go p e s below n0 Q R T (mkF m pc' Ls S)) : Go p e s below n0 Q R T (mkF m pc Ls (x :: S)) := by subst hp; exact stp (fun _ q => XT.pop X.here hx rfl hd rfl hc q) k
theorem i_dupX1 {x y : Value} (X : Pn p l e R s m args below meth c T h n0 cells slots) (hx : p.tables.exec = Jvm.exec) (hd : decode c.code pc = .ok (.dup_x1, 1)) (hp : pc + 1 = pc') (hc : x.category = 1) (hc' : y.category = 1)
    (k : Go p e s below n0 Q R T (mkF m pc' Ls (x :: y :: x :: S))) : Go p e s below n0 Q R T (mkF m pc Ls (x :: y :: S)) := by subst hp; exact stp (fun _ q => XT.dupX1 X.here hx rfl hd rfl hc hc' q) k
theorem i_dup2 {x y : Value} (X : Pn p l e R s m args below meth c T h n0 cells slots) (hx : p.tables.exec = Jvm.exec) (hd : decode c.code pc = .ok (.dup2, 1)) (hp : pc + 1 = pc') (hc : x.category = 1) (hc' : y.category = 1)
    (k : Go p e s below n0 Q R T (mkF m pc' Ls (x :: y :: x :: y :: S))) : Go p e s below n0 Q R T (mkF m pc Ls (x :: y :: S)) := by subst hp; exact stp (fun _ q => XT.dup2 X.here hx rfl hd rfl hc hc' q) k
theorem i_dup2L {x : Int64} (X : Pn p l e R s m args below meth c T h n0 cells slots) (hx : p.tables.exec = Jvm.exec) (hd : decode c.code pc = .ok (.dup2, 1)) (hp : pc + 1 = pc')
    (k : Go p e s below n0 Q R T (mkF m pc' Ls (.long x :: .long x :: S))) : Go p e s below n0 Q R T (mkF m pc Ls (.long x :: S)) := by subst hp; exact stp (fun _ q => XT.dup2L X.here hx rfl hd rfl q) k
theorem i_goto {o : Int} (X : Pn p l e R s m args below meth c T h n0 cells slots) (hx : p.tables.exec = Jvm.exec) (hd : decode c.code pc = .ok (.goto o, 3)) (ho : 0 ≤ (pc : Int) + o) (hp : ((pc : Int) + o).toNat = pc')
    (k : Go p e s below n0 Q R T (mkF m pc' Ls S)) : Go p e s below n0 Q R T (mkF m pc Ls S) := stp (fun _ q => XS.goto X.here hx rfl rfl hd ho hp q) k
theorem i_ifT {cd : ClassFile.Cond} {o : Int} {x : Int32} (X : Pn p l e R s m args below meth c T h n0 cells slots) (hx : p.tables.exec = Jvm.exec) (hd : decode c.code pc = .ok (.ifCond cd o, 3)) (hc : ifCond.holds cd x = true) (ho : 0 ≤ (pc : Int) + o) (hp : ((pc : Int) + o).toNat = pc')
    (k : Go p e s below n0 Q R T (mkF m pc' Ls S)) : Go p e s below n0 Q R T (mkF m pc Ls (.int x :: S)) := stp (fun _ q => XS.ifYes X.here hx rfl rfl hd rfl hc ho hp q) k
theorem i_ifF {cd : ClassFile.Cond} {o : Int} {x : Int32} (X : Pn p l e R s m args below meth c T h n0 cells slots) (hx : p.tables.exec = Jvm.exec) (hd : decode c.code pc = .ok (.ifCond cd o, 3)) (hp : pc + 3 = pc') (hc : ifCond.holds cd x = false)
    (k : Go p e s below n0 Q R T (mkF m pc' Ls S)) : Go p e s below n0 Q R T (mkF m pc Ls (.int x :: S)) := by subst hp; exact stp (fun _ q => XS.ifNo X.here hx rfl hd rfl hc q) k
theorem i_icT {cd : ClassFile.Cond} {o : Int} {x y : Int32} (X : Pn p l e R s m args below meth c T h n0 cells slots) (hx : p.tables.exec = Jvm.exec) (hd : decode c.code pc = .ok (.if_icmp cd o, 3)) (hc : if_icmp.holds cd x y = true) (ho : 0 ≤ (pc : Int) + o) (hp : ((pc : Int) + o).toNat = pc')
    (k : Go p e s below n0 Q R T (mkF m pc' Ls S)) : Go p e s below n0 Q R T (mkF m pc Ls (.int y :: .int x :: S)) := stp (fun _ q => XS.icmpYes X.here hx rfl rfl hd rfl hc ho hp q) k
theorem i_icF {cd : ClassFile.Cond} {o : Int} {x y : Int32} (X : Pn p l e R s m args below meth c T h n0 cells slots) (hx : p.tables.exec = Jvm.exec) (hd : decode c.code pc = .ok (.if_icmp cd o, 3)) (hp : pc + 3 = pc') (hc : if_icmp.holds cd x y = false)
    (k : Go p e s below n0 Q R T (mkF m pc' Ls S)) : Go p e s below n0 Q R T (mkF m pc Ls (.int y :: .int x :: S)) := by subst hp; exact stp (fun _ q => XS.icmpNo X.here hx rfl hd rfl hc q) k
theorem i_acT {cd : ClassFile.ACond} {o : Int} {x y : Value} (X : Pn p l e R s m args below meth c T h n0 cells slots) (hx : p.tables.exec = Jvm.exec) (hd : decode c.code pc = .ok (.if_acmp cd o, 3)) (hx' : x.isRef = true) (hy' : y.isRef = true) (hc : XT.acmp cd x y = true) (ho : 0 ≤ (pc : Int) + o) (hp : ((pc : Int) + o).toNat = pc')
    (k : Go p e s below n0 Q R T (mkF m pc' Ls S)) : Go p e s below n0 Q R T (mkF m pc Ls (y :: x :: S)) := stp (fun _ q => XT.acmpYes X.here hx rfl rfl hd rfl hx' hy' hc ho hp q) k
theorem i_acF {cd : ClassFile.ACond} {o : Int} {x y : Value} (X : Pn p l e R s m args below meth c T h n0 cells slots) (hx : p.tables.exec = Jvm.exec) (hd : decode c.code pc = .ok (.if_acmp cd o, 3)) (hp : pc + 3 = pc') (hx' : x.isRef = true) (hy' : y.isRef = true) (hc : XT.acmp cd x y = false)
    (k : Go p e s below n0 Q R T (mkF m pc' Ls S)) : Go p e s below n0 Q R T (mkF m pc Ls (y :: x :: S)) := by subst hp; exact stp (fun _ q => XT.acmpNo X.here hx rfl hd rfl hx' hy' hc q) k
theorem i_nuT {o : Int} {x : Value} (X : Pn p l e R s m args below meth c T h n0 cells slots) (hx : p.tables.exec = Jvm.exec) (hd : decode c.code pc = .ok (.ifnull o, 3)) (hv : x = .null) (ho : 0 ≤ (pc : Int) + o) (hp : ((pc : Int) + o).toNat = pc')
    (k : Go p e s below n0 Q R T (mkF m pc' Ls S)) : Go p e s below n0 Q R T (mkF m pc Ls (x :: S)) := stp (fun _ q => XT.nullYes X.here hx rfl rfl hd rfl hv ho hp q) k
theorem i_nuF {o : Int} {x : Value} (X : Pn p l e R s m args below meth c T h n0 cells slots) (hx : p.tables.exec = Jvm.exec) (hd : decode c.code pc = .ok (.ifnull o, 3)) (hp : pc + 3 = pc') (hr : x.isRef = true) (hv : ¬ x = .null)
    (k : Go p e s below n0 Q R T (mkF m pc' Ls S)) : Go p e s below n0 Q R T (mkF m pc Ls (x :: S)) := by subst hp; exact stp (fun _ q => XT.nullNo X.here hx rfl hd rfl hr hv q) k
theorem i_nnT {o : Int} {x : Value} (X : Pn p l e R s m args below meth c T h n0 cells slots) (hx : p.tables.exec = Jvm.exec) (hd : decode c.code pc = .ok (.ifnonnull o, 3)) (hr : x.isRef = true) (hv : ¬ x = .null) (ho : 0 ≤ (pc : Int) + o) (hp : ((pc : Int) + o).toNat = pc')
    (k : Go p e s below n0 Q R T (mkF m pc' Ls S)) : Go p e s below n0 Q R T (mkF m pc Ls (x :: S)) := stp (fun _ q => XT.nonnullYes X.here hx rfl rfl hd rfl hr hv ho hp q) k
theorem i_nnF {o : Int} {x : Value} (X : Pn p l e R s m args below meth c T h n0 cells slots) (hx : p.tables.exec = Jvm.exec) (hd : decode c.code pc = .ok (.ifnonnull o, 3)) (hp : pc + 3 = pc') (hv : x = .null)
    (k : Go p e s below n0 Q R T (mkF m pc' Ls S)) : Go p e s below n0 Q R T (mkF m pc Ls (x :: S)) := by subst hp; exact stp (fun _ q => XT.nonnullNo X.here hx rfl hd rfl hv q) k
theorem i_tsI {dflt low high : Int} {offs : Array Int} {ln : Nat} {o : Int} {x : Int32} (X : Pn p l e R s m args below meth c T h n0 cells slots) (hx : p.tables.exec = Jvm.exec) (hd : decode c.code pc = .ok (.tableswitch dflt low high offs, ln)) (hin : ¬ (x.toInt < low ∨ x.toInt > high)) (hoff : offs[(x.toInt - low).toNat]? = some o) (ho : 0 ≤ (pc : Int) + o) (hp : ((pc : Int) + o).toNat = pc')
    (k : Go p e s below n0 Q R T (mkF m pc' Ls S)) : Go p e s below n0 Q R T (mkF m pc Ls (.int x :: S)) := stp (fun _ q => XS.tswIn X.here hx rfl rfl hd rfl hin hoff ho hp q) k
theorem i_tsO {dflt low high : Int} {offs : Array Int} {ln : Nat} {x : Int32} (X : Pn p l e R s m args below meth c T h n0 cells slots) (hx : p.tables.exec = Jvm.exec) (hd : decode c.code pc = .ok (.tableswitch dflt low high offs, ln)) (hout : x.toInt < low ∨ x.toInt > high) (ho : 0 ≤ (pc : Int) + dflt) (hp : ((pc : Int) + dflt).toNat = pc')
    (k : Go p e s below n0 Q R T (mkF m pc' Ls S)) : Go p e s below n0 Q R T (mkF m pc Ls (.int x :: S)) := stp (fun _ q => XS.tswOut X.here hx rfl rfl hd rfl hout ho hp q) k
theorem own_irr (x : Int32) : ¬ x < x := Int32.lt_irrefl
theorem own_nar {t : FieldType} {w : Value} (h : w.isRef = true) : narrow t w = w := by rcases XT.refc h with rfl | ⟨_, rfl⟩ <;> cases t <;> rfl
theorem own_fitO {C : String} {w : Value} (h : w.isRef = true) : fits (.object C) w = true := by rcases XT.refc h with rfl | ⟨_, rfl⟩ <;> rfl
theorem own_fitA {t : FieldType} {w : Value} (h : w.isRef = true) : fits (.array t) w = true := by rcases XT.refc h with rfl | ⟨_, rfl⟩ <;> rfl
theorem own_sta_keep {h' : Heap} {ws : List Addr} {C n d : String} {v : Value} (F : Sta Z h C n d v) (K : Keep h h' ws) (q : ∀ (a : Addr) (cl : Cell), a ∈ ws → h[a]? = some cl → cl.vm.isStatics = false) : Sta Z h' C n d v := by
  obtain ⟨cf, i, k, f, st, cell, h1, h2, h3, h4, h5, h6, h7⟩ := F
  refine ⟨cf, i, k, f, st, cell, h1, h2, h3, h4, K.2.1 st cell h5 (fun hm => ?_), h6, h7⟩
  rw [q st cell hm h5] at h6; cases h6
theorem own_sw3 {x : Int32} (h0 : ¬ x = (0 : Int32)) (h1 : ¬ x = (1 : Int32)) (h2 : ¬ x = (2 : Int32)) : x.toInt < 0 ∨ x.toInt > 2 := by
  have a : ¬ x.toInt = 0 := fun q => h0 (Int32.toInt_inj.mp q)
  have b : ¬ x.toInt = 1 := fun q => h1 (Int32.toInt_inj.mp q)
  have c : ¬ x.toInt = 2 := fun q => h2 (Int32.toInt_inj.mp q)
  omega
def Two (a b : Slot) : Prop := (a = .unset ∧ b = .unset) ∨ ∃ z, a = .val (.long z) ∧ b = .second
theorem Two.u : Two .unset .unset := Or.inl ⟨rfl, rfl⟩
theorem Two.v (z : Int64) : Two (.val (.long z)) .second := Or.inr ⟨z, rfl, rfl⟩
theorem own_nar1 : nar .boolean 1 = 1 := by decide
theorem own_nar0 : nar .boolean 0 = 0 := by decide
end Own
end Jvm.OwnKit
namespace Jvm.Pilot.@@N@@
open Jvm Jvm.ClassFile Sem Op Lib Jvm.Free Jvm.Stand Jvm.LawKit Jvm.RoadKit Jvm.OwnKit Bundle Jvm.Pilot.@@N@@.Jvm.D
theorem own_lt (x y : Int32) : x < y ↔ x.toInt < y.toInt := Int32.lt_iff_toInt_lt
theorem own_z : (0 : Int32).toInt = 0 := by decide
theorem own_nat {j : Int32} (q : 0 ≤ j.toInt) : (j.toNatClampNeg : Int) = j.toInt := (nat_of (by rw [own_lt, own_z]; omega)).symm
theorem own_in {a : Int32} {k : Nat} (h : a.toInt = (k : Int)) (hk : k < 10) : ¬ a < 0 ∧ a.toNatClampNeg < 10 ∧ a.toNatClampNeg = k := by
  have := own_nat (j := a) (by omega)
  exact ⟨by rw [own_lt, own_z]; omega, by omega, by omega⟩
theorem own_s {a : Int32} {k : Nat} (h : a.toInt = (k : Int)) (hk : k < 100) : (a + (1 : Int32)).toInt = ((k + 1 : Nat) : Int) := by
  have c : (1 : Int32).toInt = 1 := by decide
  rw [XT.add32 (by unfold XT.fits32; omega), h, c]; omega
theorem own_stB {Z : State} {h h' : Heap} {a : Addr} {ty : FieldType} {n k : Nat} {g : Nat → Int32} {j : Int32} {x : Int32} (e : j.toNatClampNeg = k) (A : Av Z h a ty n (fun i => .int (g i))) (W : Wr h h' a j.toNatClampNeg (.int x)) : Av Z h' a ty n (fun i => .int (if i = k then x else g i)) := by
  subst e; exact (A.same W).congr fun i _ => by split <;> rfl
theorem own_bb (x : Int32) : x.toInt8.toInt32.toInt8.toInt32 = x.toInt8.toInt32 := by simp
theorem own_stBB {Z : State} {h h' : Heap} {a : Addr} {ty : FieldType} {n k : Nat} {g : Nat → Int32} {j : Int32} {x : Int32} (e : j.toNatClampNeg = k) (A : Av Z h a ty n (fun i => .int (g i))) (W : Wr h h' a j.toNatClampNeg (.int x.toInt8.toInt32.toInt8.toInt32)) : Av Z h' a ty n (fun i => .int (if i = k then x.toInt8.toInt32 else g i)) := by
  rw [own_bb] at W; exact own_stB e A W
def own_rd (b0 b1 b2 b3 b4 : Int32) : Int32 :=
  if b0 < 0 then
    if b1 < 0 then
      if b2 < 0 then
        if b3 < 0 then (((((0 : Int32) ||| ((b0 &&& (127 : Int32)) <<< ((0 : Int32) &&& 31))) ||| ((b1 &&& (127 : Int32)) <<< ((7 : Int32) &&& 31))) ||| ((b2 &&& (127 : Int32)) <<< ((14 : Int32) &&& 31))) ||| ((b3 &&& (127 : Int32)) <<< ((21 : Int32) &&& 31))) ||| ((b4 &&& (127 : Int32)) <<< ((28 : Int32) &&& 31))
        else (((((0 : Int32) ||| ((b0 &&& (127 : Int32)) <<< ((0 : Int32) &&& 31))) ||| ((b1 &&& (127 : Int32)) <<< ((7 : Int32) &&& 31))) ||| ((b2 &&& (127 : Int32)) <<< ((14 : Int32) &&& 31))) ||| ((b3 &&& (127 : Int32)) <<< ((21 : Int32) &&& 31)))
      else ((((0 : Int32) ||| ((b0 &&& (127 : Int32)) <<< ((0 : Int32) &&& 31))) ||| ((b1 &&& (127 : Int32)) <<< ((7 : Int32) &&& 31))) ||| ((b2 &&& (127 : Int32)) <<< ((14 : Int32) &&& 31)))
    else (((0 : Int32) ||| ((b0 &&& (127 : Int32)) <<< ((0 : Int32) &&& 31))) ||| ((b1 &&& (127 : Int32)) <<< ((7 : Int32) &&& 31)))
  else ((0 : Int32) ||| ((b0 &&& (127 : Int32)) <<< ((0 : Int32) &&& 31)))
theorem own_m7 (x : Int32) : (x &&& (127 : Int32)).toInt = x.toInt % 128 := c_mask x 127 7 (by decide) (by decide)
theorem own_or0 (x : Int32) : x ||| (0 : Int32) = x := by simp
theorem own_0or (x : Int32) : (0 : Int32) ||| x = x := by simp
theorem own_b8 (x : Int32) : (x.toInt8.toInt32.toInt - x.toInt) % 256 = 0 ∧ -128 ≤ x.toInt8.toInt32.toInt ∧ x.toInt8.toInt32.toInt < 128 := c_i2b x
/-- a byte of a varint: w with the mark, or without -/
theorem own_hi {w : Int32} (h : 0 ≤ w.toInt ∧ w.toInt < 128) : (w ||| (128 : Int32)).toInt8.toInt32 < 0 ∧ ((w ||| (128 : Int32)).toInt8.toInt32 &&& (127 : Int32)).toInt = w.toInt := by
  have c : (128 : Int32).toInt = 128 := by decide
  have a := c_or' w 128 7 (by decide) 128 (by decide) (by rw [c]; decide) h.1 h.2
  have r := rng32 (w ||| (128 : Int32))
  have b := own_b8 (w ||| (128 : Int32))
  rw [c] at a
  rw [own_lt, own_z, own_m7]
  omega
theorem own_low {w : Int32} (h : 0 ≤ w.toInt ∧ w.toInt < 128) : ¬ w.toInt8.toInt32 < 0 ∧ (w.toInt8.toInt32 &&& (127 : Int32)).toInt = w.toInt := by
  have b := own_b8 w
  rw [own_lt, own_z, own_m7]
  omega
theorem own_w (v q : Int32) (k : Nat) (hv : 0 ≤ v.toInt) (hk : q.toBitVec.toNat % 32 = k) (h0 : 0 < k) : (XT.ushr v q &&& (127 : Int32)).toInt = (v.toInt / (2 ^ k : Nat)) % 128 ∧ 0 ≤ (XT.ushr v q &&& (127 : Int32)).toInt ∧ (XT.ushr v q &&& (127 : Int32)).toInt < 128 := by
  have u : (XT.ushr v q).toInt = (v.toInt % 4294967296) / (2 ^ k : Nat) := c_iushr v q k hk h0
  have r := rng32 v
  rw [own_m7, u]
  have : v.toInt % 4294967296 = v.toInt := by omega
  rw [this]
  omega
theorem own_acc {l w q : Int32} (k : Nat) (P : Int) (hq : q.toBitVec.toNat % 32 = k) (hk : k ≤ 31) (hP : P = (2 ^ k : Nat)) (hl : 0 ≤ l.toInt ∧ l.toInt < P) (hw : 0 ≤ w.toInt) (hs : l.toInt + w.toInt * P < 2147483648) : (l ||| (w <<< (q &&& 31))).toInt = l.toInt + w.toInt * P := by
  have a := c_ishl w q k hq
  rw [← hP] at a
  have r := rng32 (w <<< (q &&& 31))
  have p0 : 0 ≤ w.toInt * P := Int.mul_nonneg hw (by omega)
  have e : (w <<< (q &&& 31)).toInt = w.toInt * P := by omega
  have b := c_or' l (w <<< (q &&& 31)) k hk P hP (by rw [e]; exact Int.mul_emod_left _ _) hl.1 hl.2
  have r2 := rng32 (l ||| (w <<< (q &&& 31)))
  rw [e] at b
  omega
theorem own_sh0 (w : Int32) : (0 : Int32) ||| (w <<< ((0 : Int32) &&& 31)) = w := by
  have : ((0 : Int32) &&& 31) = 0 := by decide
  rw [this, own_0or]; simp
section OwnV
variable {v b0 b1 b2 b3 b4 : Int32}
theorem own_w0 (hv : 0 ≤ v.toInt) : (v &&& (127 : Int32)).toInt = v.toInt % 128 ∧ 0 ≤ (v &&& (127 : Int32)).toInt ∧ (v &&& (127 : Int32)).toInt < 128 := by rw [own_m7]; omega
theorem own_v1 (hv : 0 ≤ v.toInt) (h : v.toInt < 128) (e0 : b0 = ((v &&& (127 : Int32)) ||| (0 : Int32)).toInt8.toInt32) : own_rd b0 b1 b2 b3 b4 = v := by
  rw [own_or0] at e0
  have w0 := own_w0 hv
  have x0 := own_low w0.2
  rw [← e0] at x0
  unfold own_rd
  rw [if_neg x0.1, own_sh0]
  exact Int32.toInt_inj.mp (by omega)
theorem own_v2 (hv : 0 ≤ v.toInt) (h : v.toInt < 16384) (e0 : b0 = ((v &&& (127 : Int32)) ||| (128 : Int32)).toInt8.toInt32) (e1 : b1 = ((XT.ushr v (7 : Int32) &&& (127 : Int32)) ||| (0 : Int32)).toInt8.toInt32) : own_rd b0 b1 b2 b3 b4 = v := by
  rw [own_or0] at e1
  have w0 := own_w0 hv
  have w1 := own_w v 7 7 hv (by decide) (by decide)
  have x0 := own_hi w0.2
  have x1 := own_low w1.2
  rw [← e0] at x0; rw [← e1] at x1
  unfold own_rd
  rw [if_pos x0.1, if_neg x1.1, own_sh0]
  refine Int32.toInt_inj.mp ?_
  rw [own_acc 7 128 (by decide) (by decide) (by decide) (by omega) (by omega) (by omega)]
  omega
theorem own_v3 (hv : 0 ≤ v.toInt) (h : v.toInt < 2097152) (e0 : b0 = ((v &&& (127 : Int32)) ||| (128 : Int32)).toInt8.toInt32) (e1 : b1 = ((XT.ushr v (7 : Int32) &&& (127 : Int32)) ||| (128 : Int32)).toInt8.toInt32)
    (e2 : b2 = ((XT.ushr v (14 : Int32) &&& (127 : Int32)) ||| (0 : Int32)).toInt8.toInt32) : own_rd b0 b1 b2 b3 b4 = v := by
  rw [own_or0] at e2
  have w0 := own_w0 hv
  have w1 := own_w v 7 7 hv (by decide) (by decide)
  have w2 := own_w v 14 14 hv (by decide) (by decide)
  have x0 := own_hi w0.2
  have x1 := own_hi w1.2
  have x2 := own_low w2.2
  rw [← e0] at x0; rw [← e1] at x1; rw [← e2] at x2
  unfold own_rd
  rw [if_pos x0.1, if_pos x1.1, if_neg x2.1, own_sh0]
  refine Int32.toInt_inj.mp ?_
  have s1 := own_acc (l := b0 &&& 127) (w := b1 &&& 127) (q := 7) 7 128 (by decide) (by decide) (by decide) (by omega) (by omega) (by omega)
  rw [own_acc 14 16384 (by decide) (by decide) (by decide) (by omega) (by omega) (by omega), s1]
  omega
theorem own_v4 (hv : 0 ≤ v.toInt) (h : v.toInt < 268435456) (e0 : b0 = ((v &&& (127 : Int32)) ||| (128 : Int32)).toInt8.toInt32) (e1 : b1 = ((XT.ushr v (7 : Int32) &&& (127 : Int32)) ||| (128 : Int32)).toInt8.toInt32)
    (e2 : b2 = ((XT.ushr v (14 : Int32) &&& (127 : Int32)) ||| (128 : Int32)).toInt8.toInt32) (e3 : b3 = ((XT.ushr v (21 : Int32) &&& (127 : Int32)) ||| (0 : Int32)).toInt8.toInt32) : own_rd b0 b1 b2 b3 b4 = v := by
  rw [own_or0] at e3
  have w0 := own_w0 hv
  have w1 := own_w v 7 7 hv (by decide) (by decide)
  have w2 := own_w v 14 14 hv (by decide) (by decide)
  have w3 := own_w v 21 21 hv (by decide) (by decide)
  have x0 := own_hi w0.2
  have x1 := own_hi w1.2
  have x2 := own_hi w2.2
  have x3 := own_low w3.2
  rw [← e0] at x0; rw [← e1] at x1; rw [← e2] at x2; rw [← e3] at x3
  unfold own_rd
  rw [if_pos x0.1, if_pos x1.1, if_pos x2.1, if_neg x3.1, own_sh0]
  refine Int32.toInt_inj.mp ?_
  have s1 := own_acc (l := b0 &&& 127) (w := b1 &&& 127) (q := 7) 7 128 (by decide) (by decide) (by decide) (by omega) (by omega) (by omega)
  have s2 := own_acc (l := (b0 &&& 127) ||| ((b1 &&& 127) <<< ((7 : Int32) &&& 31))) (w := b2 &&& 127) (q := 14) 14 16384 (by decide) (by decide) (by decide) (by omega) (by omega) (by omega)
  rw [own_acc 21 2097152 (by decide) (by decide) (by decide) (by omega) (by omega) (by omega), s2, s1]
  omega
theorem own_v5 (hv : 0 ≤ v.toInt) (e0 : b0 = ((v &&& (127 : Int32)) ||| (128 : Int32)).toInt8.toInt32) (e1 : b1 = ((XT.ushr v (7 : Int32) &&& (127 : Int32)) ||| (128 : Int32)).toInt8.toInt32)
    (e2 : b2 = ((XT.ushr v (14 : Int32) &&& (127 : Int32)) ||| (128 : Int32)).toInt8.toInt32) (e3 : b3 = ((XT.ushr v (21 : Int32) &&& (127 : Int32)) ||| (128 : Int32)).toInt8.toInt32) (e4 : b4 = (XT.ushr v (28 : Int32) &&& (127 : Int32)).toInt8.toInt32) : own_rd b0 b1 b2 b3 b4 = v ∧ ¬ b4 < 0 := by
  have w0 := own_w0 hv
  have w1 := own_w v 7 7 hv (by decide) (by decide)
  have w2 := own_w v 14 14 hv (by decide) (by decide)
  have w3 := own_w v 21 21 hv (by decide) (by decide)
  have w4 := own_w v 28 28 hv (by decide) (by decide)
  have x0 := own_hi w0.2
  have x1 := own_hi w1.2
  have x2 := own_hi w2.2
  have x3 := own_hi w3.2
  have x4 := own_low w4.2
  have r := rng32 v
  rw [← e0] at x0; rw [← e1] at x1; rw [← e2] at x2; rw [← e3] at x3; rw [← e4] at x4
  refine ⟨?_, x4.1⟩
  unfold own_rd
  rw [if_pos x0.1, if_pos x1.1, if_pos x2.1, if_pos x3.1, own_sh0]
  refine Int32.toInt_inj.mp ?_
  have s1 := own_acc (l := b0 &&& 127) (w := b1 &&& 127) (q := 7) 7 128 (by decide) (by decide) (by decide) (by omega) (by omega) (by omega)
  have s2 := own_acc (l := (b0 &&& 127) ||| ((b1 &&& 127) <<< ((7 : Int32) &&& 31))) (w := b2 &&& 127) (q := 14) 14 16384 (by decide) (by decide) (by decide) (by omega) (by omega) (by omega)
  have s3 := own_acc (l := ((b0 &&& 127) ||| ((b1 &&& 127) <<< ((7 : Int32) &&& 31))) ||| ((b2 &&& 127) <<< ((14 : Int32) &&& 31))) (w := b3 &&& 127) (q := 21) 21 2097152 (by decide) (by decide) (by decide) (by omega) (by omega) (by omega)
  rw [own_acc 28 268435456 (by decide) (by decide) (by decide) (by omega) (by omega) (by omega), s3, s2, s1]
  omega
end OwnV
theorem own_vn (x : Int32) : 0 ≤ (x &&& (2147483647 : Int32)).toInt := (c_and x 2147483647 (by decide)).1
theorem own_o3 (x : Int32) : ∃ k : Nat, (x &&& (3 : Int32)).toInt = (k : Int) ∧ k ≤ 3 := by
  have a := c_and x 3 (by decide)
  have c : (3 : Int32).toInt = 3 := by decide
  exact ⟨(x &&& (3 : Int32)).toInt.toNat, by omega, by omega⟩
theorem own_oj {a j : Int32} {k n : Nat} (h : a.toInt = (k : Int)) (hk : k ≤ 3) (hj : j.toInt = (n : Int)) (hn : n ≤ 4) : (a + j).toInt = ((k + n : Nat) : Int) := by
  rw [XT.add32 (by unfold XT.fits32; omega)]; omega
theorem d1_0 : decode prog_24_method_10_code 0 = .ok (.iconst 0, 1) := by decide +kernel
theorem d1_1 : decode prog_24_method_10_code 1 = .ok (.istore_n 2, 1) := by decide +kernel
theorem d1_2 : decode prog_24_method_10_code 2 = .ok (.iload_n 1, 1) := by decide +kernel
theorem d1_3 : decode prog_24_method_10_code 3 = .ok (.istore_n 3, 1) := by decide +kernel
theorem d1_4 : decode prog_24_method_10_code 4 = .ok (.iconst 0, 1) := by decide +kernel
theorem d1_5 : decode prog_24_method_10_code 5 = .ok (.istore 4, 2) := by decide +kernel
theorem d1_7 : decode prog_24_method_10_code 7 = .ok (.iload_n 2, 1) := by decide +kernel
theorem d1_8 : decode prog_24_method_10_code 8 = .ok (.aload_n 0, 1) := by decide +kernel
theorem d1_9 : decode prog_24_method_10_code 9 = .ok (.iload_n 3, 1) := by decide +kernel
theorem d1_10 : decode prog_24_method_10_code 10 = .ok (.baload, 1) := by decide +kernel
theorem d1_11 : decode prog_24_method_10_code 11 = .ok (.bipush 127, 2) := by decide +kernel
theorem d1_13 : decode prog_24_method_10_code 13 = .ok (.iand, 1) := by decide +kernel
theorem d1_14 : decode prog_24_method_10_code 14 = .ok (.iload 4, 2) := by decide +kernel
theorem d1_16 : decode prog_24_method_10_code 16 = .ok (.ishl, 1) := by decide +kernel
theorem d1_17 : decode prog_24_method_10_code 17 = .ok (.ior, 1) := by decide +kernel
theorem d1_18 : decode prog_24_method_10_code 18 = .ok (.istore_n 2, 1) := by decide +kernel
theorem d1_19 : decode prog_24_method_10_code 19 = .ok (.aload_n 0, 1) := by decide +kernel
theorem d1_20 : decode prog_24_method_10_code 20 = .ok (.iload_n 3, 1) := by decide +kernel
theorem d1_21 : decode prog_24_method_10_code 21 = .ok (.baload, 1) := by decide +kernel
theorem d1_22 : decode prog_24_method_10_code 22 = .ok (.ifCond .lt 5, 3) := by decide +kernel
theorem d1_25 : decode prog_24_method_10_code 25 = .ok (.iload_n 2, 1) := by decide +kernel
theorem d1_26 : decode prog_24_method_10_code 26 = .ok (.ireturn, 1) := by decide +kernel
theorem d1_27 : decode prog_24_method_10_code 27 = .ok (.iinc 3 1, 3) := by decide +kernel
theorem d1_30 : decode prog_24_method_10_code 30 = .ok (.iinc 4 7, 3) := by decide +kernel
theorem d1_33 : decode prog_24_method_10_code 33 = .ok (.goto (-26), 3) := by decide +kernel
theorem pn0 : plainName "com/example/rangewright/rangewright/storage/Codec" = true := by first | (simp [plainName, overriddenIn]; done) | decide +kernel
theorem ef_rm1 (m : MethodId) (t : Addr) (o : Int32) : entryFrame m #[(.ref t), (.int o)] 5 = mkF m 0 #[.val (.ref t), .val (.int o), .unset, .unset, .unset] [] := by first | (simp [entryFrame, mkF, argsToLocals, Value.category, maxLocals]; done) | rfl
def Qrm1 (Z : State) (t : Addr) (o : Int32) (K : Nat) (g : Nat → Int32) (n0 : Nat) (h0 : Heap) (v : Option Value) (h : Heap) : Prop := v = some (.int (own_rd (g K) (g (K + 1)) (g (K + 2)) (g (K + 3)) (g (K + 4)))) ∧ h0 = h
abbrev Rrm1 : Room := { frames := 0, cells := 0, slots := 0, locals := 0 }
set_option maxRecDepth 65536 in
set_option maxHeartbeats 40000000 in
theorem rm1 (l : Launch) (Z : State) (a0 : Array Value) (hw : ∀ d ∈ tables_1, d.before a0 Z = true) (ws : List Jvm.Cond) (t : Addr) (o : Int32) (K : Nat) (g : Nat → Int32) (n0 : Nat) (h0 : Heap) (hn : n0 ≤ h0.size) (H0 : Av Z h0 t .byte 10 (fun i => .int (g i))) (hK : o.toInt = (K : Int)) (hK3 : K ≤ 3) (ht : g K < 0 → g (K + 1) < 0 → g (K + 2) < 0 → g (K + 3) < 0 → ¬ g (K + 4) < 0) :
    Con l Z (⟨"com/example/rangewright/rangewright/storage/Codec", "lengthAt", "([BI)I"⟩ : MethodName) prog_24_method_10_code 5 (some .int) ws Rrm1 #[(.ref t), (.int o)] h0 n0 (Qrm1 Z t o K g n0 h0) := by
  refine body (y := (⟨"com/example/rangewright/rangewright/storage/Codec", "lengthAt", "([BI)I"⟩ : MethodName)) (Ls := #[.val (.ref t), .val (.int o), .unset, .unset, .unset]) (plainFor_of_name pn0) hn (fun m => ef_rm1 m t o) ?_
  intro p e s m below meth c T0 hx hby hml hown hnm hret hlk hZ X0
  refine i_iconst (pc' := 1) (0 : Int32) X0 hx (hb hby d1_0) rfl (by decide) ?_
  refine i_istoreN (L' := #[.val (.ref t), .val (.int o), .val (.int (0 : Int32)), .unset, .unset]) (pc' := 2) X0 hx (hb hby d1_1) rfl rfl ?_
  refine i_iloadN (v := o) (pc' := 3) X0 hx (hb hby d1_2) rfl rfl ?_
  refine i_istoreN (L' := #[.val (.ref t), .val (.int o), .val (.int (0 : Int32)), .val (.int o), .unset]) (pc' := 4) X0 hx (hb hby d1_3) rfl rfl ?_
  refine i_iconst (pc' := 5) (0 : Int32) X0 hx (hb hby d1_4) rfl (by decide) ?_
  refine i_istore (L' := #[.val (.ref t), .val (.int o), .val (.int (0 : Int32)), .val (.int o), .val (.int (0 : Int32))]) (pc' := 7) X0 hx (hb hby d1_5) rfl rfl ?_
  have H0_0 := hK
  have hN0 := own_in (k := K) hK (by omega)
  refine i_iloadN (v := (0 : Int32)) (pc' := 8) X0 hx (hb hby d1_7) rfl rfl ?_
  refine i_aloadN (v := (.ref t)) (pc' := 9) X0 hx (hb hby d1_8) rfl rfl rfl ?_
  refine i_iloadN (v := o) (pc' := 10) X0 hx (hb hby d1_9) rfl rfl ?_
  refine ldB (v := (.int (g K))) (pc' := 11) X0 hx hZ H0 hN0.1 hN0.2.1 (congrArg (fun i => Value.int (g i)) hN0.2.2) (hb hby d1_10) rfl ?_
  refine i_bipush (pc' := 13) (127 : Int32) X0 hx (hb hby d1_11) rfl (by decide) ?_
  refine i_iand (pc' := 14) X0 hx (hb hby d1_13) rfl ?_
  refine i_iload (v := (0 : Int32)) (pc' := 16) X0 hx (hb hby d1_14) rfl rfl ?_
  refine i_ishl (pc' := 17) X0 hx (hb hby d1_16) rfl ?_
  refine i_ior (pc' := 18) X0 hx (hb hby d1_17) rfl ?_
  refine i_istoreN (L' := #[.val (.ref t), .val (.int o), .val (.int ((0 : Int32) ||| (((g K) &&& (127 : Int32)) <<< ((0 : Int32) &&& 31)))), .val (.int o), .val (.int (0 : Int32))]) (pc' := 19) X0 hx (hb hby d1_18) rfl rfl ?_
  refine i_aloadN (v := (.ref t)) (pc' := 20) X0 hx (hb hby d1_19) rfl rfl rfl ?_
  refine i_iloadN (v := o) (pc' := 21) X0 hx (hb hby d1_20) rfl rfl ?_
  refine ldB (v := (.int (g K))) (pc' := 22) X0 hx hZ H0 hN0.1 hN0.2.1 (congrArg (fun i => Value.int (g i)) hN0.2.2) (hb hby d1_21) rfl ?_
  by_cases hc1 : (g K) < 0
  · skip
    refine i_ifT (pc' := 27) X0 hx (hb hby d1_22) (XT.i0_lt_t hc1) (by decide) (by decide) ?_
    refine i_iinc (pc' := 30) (L' := #[.val (.ref t), .val (.int o), .val (.int ((0 : Int32) ||| (((g K) &&& (127 : Int32)) <<< ((0 : Int32) &&& 31)))), .val (.int (o + (1 : Int32))), .val (.int (0 : Int32))]) (1 : Int32) X0 hx (hb hby d1_27) rfl (by decide) rfl rfl ?_
    refine i_iinc (pc' := 33) (L' := #[.val (.ref t), .val (.int o), .val (.int ((0 : Int32) ||| (((g K) &&& (127 : Int32)) <<< ((0 : Int32) &&& 31)))), .val (.int (o + (1 : Int32))), .val (.int (7 : Int32))]) (7 : Int32) X0 hx (hb hby d1_30) rfl (by decide) rfl (by rw [show ((0 : Int32) + (7 : Int32)) = (7 : Int32) from by decide]; rfl) ?_
    refine i_goto (pc' := 7) X0 hx (hb hby d1_33) (by decide) (by decide) ?_
    have hT1 := own_s hK (by omega)
    have hN1 := own_in (k := K + 1) hT1 (by omega)
    refine i_iloadN (v := ((0 : Int32) ||| (((g K) &&& (127 : Int32)) <<< ((0 : Int32) &&& 31)))) (pc' := 8) X0 hx (hb hby d1_7) rfl rfl ?_
    refine i_aloadN (v := (.ref t)) (pc' := 9) X0 hx (hb hby d1_8) rfl rfl rfl ?_
    refine i_iloadN (v := (o + (1 : Int32))) (pc' := 10) X0 hx (hb hby d1_9) rfl rfl ?_
    refine ldB (v := (.int (g (K + 1)))) (pc' := 11) X0 hx hZ H0 hN1.1 hN1.2.1 (congrArg (fun i => Value.int (g i)) hN1.2.2) (hb hby d1_10) rfl ?_
    refine i_bipush (pc' := 13) (127 : Int32) X0 hx (hb hby d1_11) rfl (by decide) ?_
    refine i_iand (pc' := 14) X0 hx (hb hby d1_13) rfl ?_
    refine i_iload (v := (7 : Int32)) (pc' := 16) X0 hx (hb hby d1_14) rfl rfl ?_
    refine i_ishl (pc' := 17) X0 hx (hb hby d1_16) rfl ?_
    refine i_ior (pc' := 18) X0 hx (hb hby d1_17) rfl ?_
    refine i_istoreN (L' := #[.val (.ref t), .val (.int o), .val (.int (((0 : Int32) ||| (((g K) &&& (127 : Int32)) <<< ((0 : Int32) &&& 31))) ||| (((g (K + 1)) &&& (127 : Int32)) <<< ((7 : Int32) &&& 31)))), .val (.int (o + (1 : Int32))), .val (.int (7 : Int32))]) (pc' := 19) X0 hx (hb hby d1_18) rfl rfl ?_
    refine i_aloadN (v := (.ref t)) (pc' := 20) X0 hx (hb hby d1_19) rfl rfl rfl ?_
    refine i_iloadN (v := (o + (1 : Int32))) (pc' := 21) X0 hx (hb hby d1_20) rfl rfl ?_
    refine ldB (v := (.int (g (K + 1)))) (pc' := 22) X0 hx hZ H0 hN1.1 hN1.2.1 (congrArg (fun i => Value.int (g i)) hN1.2.2) (hb hby d1_21) rfl ?_
    by_cases hc2 : (g (K + 1)) < 0
    · skip
      refine i_ifT (pc' := 27) X0 hx (hb hby d1_22) (XT.i0_lt_t hc2) (by decide) (by decide) ?_
      refine i_iinc (pc' := 30) (L' := #[.val (.ref t), .val (.int o), .val (.int (((0 : Int32) ||| (((g K) &&& (127 : Int32)) <<< ((0 : Int32) &&& 31))) ||| (((g (K + 1)) &&& (127 : Int32)) <<< ((7 : Int32) &&& 31)))), .val (.int ((o + (1 : Int32)) + (1 : Int32))), .val (.int (7 : Int32))]) (1 : Int32) X0 hx (hb hby d1_27) rfl (by decide) rfl rfl ?_
      refine i_iinc (pc' := 33) (L' := #[.val (.ref t), .val (.int o), .val (.int (((0 : Int32) ||| (((g K) &&& (127 : Int32)) <<< ((0 : Int32) &&& 31))) ||| (((g (K + 1)) &&& (127 : Int32)) <<< ((7 : Int32) &&& 31)))), .val (.int ((o + (1 : Int32)) + (1 : Int32))), .val (.int (14 : Int32))]) (7 : Int32) X0 hx (hb hby d1_30) rfl (by decide) rfl (by rw [show ((7 : Int32) + (7 : Int32)) = (14 : Int32) from by decide]; rfl) ?_
      refine i_goto (pc' := 7) X0 hx (hb hby d1_33) (by decide) (by decide) ?_
      have hT2 := own_s hT1 (by omega)
      have hN2 := own_in (k := K + 1 + 1) hT2 (by omega)
      refine i_iloadN (v := (((0 : Int32) ||| (((g K) &&& (127 : Int32)) <<< ((0 : Int32) &&& 31))) ||| (((g (K + 1)) &&& (127 : Int32)) <<< ((7 : Int32) &&& 31)))) (pc' := 8) X0 hx (hb hby d1_7) rfl rfl ?_
      refine i_aloadN (v := (.ref t)) (pc' := 9) X0 hx (hb hby d1_8) rfl rfl rfl ?_
      refine i_iloadN (v := ((o + (1 : Int32)) + (1 : Int32))) (pc' := 10) X0 hx (hb hby d1_9) rfl rfl ?_
      refine ldB (v := (.int (g (K + 2)))) (pc' := 11) X0 hx hZ H0 hN2.1 hN2.2.1 (congrArg (fun i => Value.int (g i)) hN2.2.2) (hb hby d1_10) rfl ?_
      refine i_bipush (pc' := 13) (127 : Int32) X0 hx (hb hby d1_11) rfl (by decide) ?_
      refine i_iand (pc' := 14) X0 hx (hb hby d1_13) rfl ?_
      refine i_iload (v := (14 : Int32)) (pc' := 16) X0 hx (hb hby d1_14) rfl rfl ?_
      refine i_ishl (pc' := 17) X0 hx (hb hby d1_16) rfl ?_
      refine i_ior (pc' := 18) X0 hx (hb hby d1_17) rfl ?_
      refine i_istoreN (L' := #[.val (.ref t), .val (.int o), .val (.int ((((0 : Int32) ||| (((g K) &&& (127 : Int32)) <<< ((0 : Int32) &&& 31))) ||| (((g (K + 1)) &&& (127 : Int32)) <<< ((7 : Int32) &&& 31))) ||| (((g (K + 2)) &&& (127 : Int32)) <<< ((14 : Int32) &&& 31)))), .val (.int ((o + (1 : Int32)) + (1 : Int32))), .val (.int (14 : Int32))]) (pc' := 19) X0 hx (hb hby d1_18) rfl rfl ?_
      refine i_aloadN (v := (.ref t)) (pc' := 20) X0 hx (hb hby d1_19) rfl rfl rfl ?_
      refine i_iloadN (v := ((o + (1 : Int32)) + (1 : Int32))) (pc' := 21) X0 hx (hb hby d1_20) rfl rfl ?_
      refine ldB (v := (.int (g (K + 2)))) (pc' := 22) X0 hx hZ H0 hN2.1 hN2.2.1 (congrArg (fun i => Value.int (g i)) hN2.2.2) (hb hby d1_21) rfl ?_
      by_cases hc3 : (g (K + 2)) < 0
      · skip
        refine i_ifT (pc' := 27) X0 hx (hb hby d1_22) (XT.i0_lt_t hc3) (by decide) (by decide) ?_
        refine i_iinc (pc' := 30) (L' := #[.val (.ref t), .val (.int o), .val (.int ((((0 : Int32) ||| (((g K) &&& (127 : Int32)) <<< ((0 : Int32) &&& 31))) ||| (((g (K + 1)) &&& (127 : Int32)) <<< ((7 : Int32) &&& 31))) ||| (((g (K + 2)) &&& (127 : Int32)) <<< ((14 : Int32) &&& 31)))), .val (.int (((o + (1 : Int32)) + (1 : Int32)) + (1 : Int32))), .val (.int (14 : Int32))]) (1 : Int32) X0 hx (hb hby d1_27) rfl (by decide) rfl rfl ?_
        refine i_iinc (pc' := 33) (L' := #[.val (.ref t), .val (.int o), .val (.int ((((0 : Int32) ||| (((g K) &&& (127 : Int32)) <<< ((0 : Int32) &&& 31))) ||| (((g (K + 1)) &&& (127 : Int32)) <<< ((7 : Int32) &&& 31))) ||| (((g (K + 2)) &&& (127 : Int32)) <<< ((14 : Int32) &&& 31)))), .val (.int (((o + (1 : Int32)) + (1 : Int32)) + (1 : Int32))), .val (.int (21 : Int32))]) (7 : Int32) X0 hx (hb hby d1_30) rfl (by decide) rfl (by rw [show ((14 : Int32) + (7 : Int32)) = (21 : Int32) from by decide]; rfl) ?_
        refine i_goto (pc' := 7) X0 hx (hb hby d1_33) (by decide) (by decide) ?_
        have hT3 := own_s hT2 (by omega)
        have hN3 := own_in (k := K + 1 + 1 + 1) hT3 (by omega)
        refine i_iloadN (v := ((((0 : Int32) ||| (((g K) &&& (127 : Int32)) <<< ((0 : Int32) &&& 31))) ||| (((g (K + 1)) &&& (127 : Int32)) <<< ((7 : Int32) &&& 31))) ||| (((g (K + 2)) &&& (127 : Int32)) <<< ((14 : Int32) &&& 31)))) (pc' := 8) X0 hx (hb hby d1_7) rfl rfl ?_
        refine i_aloadN (v := (.ref t)) (pc' := 9) X0 hx (hb hby d1_8) rfl rfl rfl ?_
        refine i_iloadN (v := (((o + (1 : Int32)) + (1 : Int32)) + (1 : Int32))) (pc' := 10) X0 hx (hb hby d1_9) rfl rfl ?_
        refine ldB (v := (.int (g (K + 3)))) (pc' := 11) X0 hx hZ H0 hN3.1 hN3.2.1 (congrArg (fun i => Value.int (g i)) hN3.2.2) (hb hby d1_10) rfl ?_
        refine i_bipush (pc' := 13) (127 : Int32) X0 hx (hb hby d1_11) rfl (by decide) ?_
        refine i_iand (pc' := 14) X0 hx (hb hby d1_13) rfl ?_
        refine i_iload (v := (21 : Int32)) (pc' := 16) X0 hx (hb hby d1_14) rfl rfl ?_
        refine i_ishl (pc' := 17) X0 hx (hb hby d1_16) rfl ?_
        refine i_ior (pc' := 18) X0 hx (hb hby d1_17) rfl ?_
        refine i_istoreN (L' := #[.val (.ref t), .val (.int o), .val (.int (((((0 : Int32) ||| (((g K) &&& (127 : Int32)) <<< ((0 : Int32) &&& 31))) ||| (((g (K + 1)) &&& (127 : Int32)) <<< ((7 : Int32) &&& 31))) ||| (((g (K + 2)) &&& (127 : Int32)) <<< ((14 : Int32) &&& 31))) ||| (((g (K + 3)) &&& (127 : Int32)) <<< ((21 : Int32) &&& 31)))), .val (.int (((o + (1 : Int32)) + (1 : Int32)) + (1 : Int32))), .val (.int (21 : Int32))]) (pc' := 19) X0 hx (hb hby d1_18) rfl rfl ?_
        refine i_aloadN (v := (.ref t)) (pc' := 20) X0 hx (hb hby d1_19) rfl rfl rfl ?_
        refine i_iloadN (v := (((o + (1 : Int32)) + (1 : Int32)) + (1 : Int32))) (pc' := 21) X0 hx (hb hby d1_20) rfl rfl ?_
        refine ldB (v := (.int (g (K + 3)))) (pc' := 22) X0 hx hZ H0 hN3.1 hN3.2.1 (congrArg (fun i => Value.int (g i)) hN3.2.2) (hb hby d1_21) rfl ?_
        by_cases hc4 : (g (K + 3)) < 0
        · skip
          refine i_ifT (pc' := 27) X0 hx (hb hby d1_22) (XT.i0_lt_t hc4) (by decide) (by decide) ?_
          refine i_iinc (pc' := 30) (L' := #[.val (.ref t), .val (.int o), .val (.int (((((0 : Int32) ||| (((g K) &&& (127 : Int32)) <<< ((0 : Int32) &&& 31))) ||| (((g (K + 1)) &&& (127 : Int32)) <<< ((7 : Int32) &&& 31))) ||| (((g (K + 2)) &&& (127 : Int32)) <<< ((14 : Int32) &&& 31))) ||| (((g (K + 3)) &&& (127 : Int32)) <<< ((21 : Int32) &&& 31)))), .val (.int ((((o + (1 : Int32)) + (1 : Int32)) + (1 : Int32)) + (1 : Int32))), .val (.int (21 : Int32))]) (1 : Int32) X0 hx (hb hby d1_27) rfl (by decide) rfl rfl ?_
          refine i_iinc (pc' := 33) (L' := #[.val (.ref t), .val (.int o), .val (.int (((((0 : Int32) ||| (((g K) &&& (127 : Int32)) <<< ((0 : Int32) &&& 31))) ||| (((g (K + 1)) &&& (127 : Int32)) <<< ((7 : Int32) &&& 31))) ||| (((g (K + 2)) &&& (127 : Int32)) <<< ((14 : Int32) &&& 31))) ||| (((g (K + 3)) &&& (127 : Int32)) <<< ((21 : Int32) &&& 31)))), .val (.int ((((o + (1 : Int32)) + (1 : Int32)) + (1 : Int32)) + (1 : Int32))), .val (.int (28 : Int32))]) (7 : Int32) X0 hx (hb hby d1_30) rfl (by decide) rfl (by rw [show ((21 : Int32) + (7 : Int32)) = (28 : Int32) from by decide]; rfl) ?_
          refine i_goto (pc' := 7) X0 hx (hb hby d1_33) (by decide) (by decide) ?_
          have hT4 := own_s hT3 (by omega)
          have hN4 := own_in (k := K + 1 + 1 + 1 + 1) hT4 (by omega)
          refine i_iloadN (v := (((((0 : Int32) ||| (((g K) &&& (127 : Int32)) <<< ((0 : Int32) &&& 31))) ||| (((g (K + 1)) &&& (127 : Int32)) <<< ((7 : Int32) &&& 31))) ||| (((g (K + 2)) &&& (127 : Int32)) <<< ((14 : Int32) &&& 31))) ||| (((g (K + 3)) &&& (127 : Int32)) <<< ((21 : Int32) &&& 31)))) (pc' := 8) X0 hx (hb hby d1_7) rfl rfl ?_
          refine i_aloadN (v := (.ref t)) (pc' := 9) X0 hx (hb hby d1_8) rfl rfl rfl ?_
          refine i_iloadN (v := ((((o + (1 : Int32)) + (1 : Int32)) + (1 : Int32)) + (1 : Int32))) (pc' := 10) X0 hx (hb hby d1_9) rfl rfl ?_
          refine ldB (v := (.int (g (K + 4)))) (pc' := 11) X0 hx hZ H0 hN4.1 hN4.2.1 (congrArg (fun i => Value.int (g i)) hN4.2.2) (hb hby d1_10) rfl ?_
          refine i_bipush (pc' := 13) (127 : Int32) X0 hx (hb hby d1_11) rfl (by decide) ?_
          refine i_iand (pc' := 14) X0 hx (hb hby d1_13) rfl ?_
          refine i_iload (v := (28 : Int32)) (pc' := 16) X0 hx (hb hby d1_14) rfl rfl ?_
          refine i_ishl (pc' := 17) X0 hx (hb hby d1_16) rfl ?_
          refine i_ior (pc' := 18) X0 hx (hb hby d1_17) rfl ?_
          refine i_istoreN (L' := #[.val (.ref t), .val (.int o), .val (.int ((((((0 : Int32) ||| (((g K) &&& (127 : Int32)) <<< ((0 : Int32) &&& 31))) ||| (((g (K + 1)) &&& (127 : Int32)) <<< ((7 : Int32) &&& 31))) ||| (((g (K + 2)) &&& (127 : Int32)) <<< ((14 : Int32) &&& 31))) ||| (((g (K + 3)) &&& (127 : Int32)) <<< ((21 : Int32) &&& 31))) ||| (((g (K + 4)) &&& (127 : Int32)) <<< ((28 : Int32) &&& 31)))), .val (.int ((((o + (1 : Int32)) + (1 : Int32)) + (1 : Int32)) + (1 : Int32))), .val (.int (28 : Int32))]) (pc' := 19) X0 hx (hb hby d1_18) rfl rfl ?_
          refine i_aloadN (v := (.ref t)) (pc' := 20) X0 hx (hb hby d1_19) rfl rfl rfl ?_
          refine i_iloadN (v := ((((o + (1 : Int32)) + (1 : Int32)) + (1 : Int32)) + (1 : Int32))) (pc' := 21) X0 hx (hb hby d1_20) rfl rfl ?_
          refine ldB (v := (.int (g (K + 4)))) (pc' := 22) X0 hx hZ H0 hN4.1 hN4.2.1 (congrArg (fun i => Value.int (g i)) hN4.2.2) (hb hby d1_21) rfl ?_
          refine i_ifF (pc' := 25) X0 hx (hb hby d1_22) rfl (XT.i0_lt_f (ht hc1 hc2 hc3 hc4)) ?_
          refine i_iloadN (v := ((((((0 : Int32) ||| (((g K) &&& (127 : Int32)) <<< ((0 : Int32) &&& 31))) ||| (((g (K + 1)) &&& (127 : Int32)) <<< ((7 : Int32) &&& 31))) ||| (((g (K + 2)) &&& (127 : Int32)) <<< ((14 : Int32) &&& 31))) ||| (((g (K + 3)) &&& (127 : Int32)) <<< ((21 : Int32) &&& 31))) ||| (((g (K + 4)) &&& (127 : Int32)) <<< ((28 : Int32) &&& 31)))) (pc' := 26) X0 hx (hb hby d1_25) rfl rfl ?_
          refine rI X0 hx hlk hret (hb hby d1_26) (by decide) (by decide) ?_
          exact ⟨(by simp only [own_rd, hc1, hc2, hc3, hc4, if_true, if_false]), rfl⟩
        · skip
          refine i_ifF (pc' := 25) X0 hx (hb hby d1_22) rfl (XT.i0_lt_f hc4) ?_
          refine i_iloadN (v := (((((0 : Int32) ||| (((g K) &&& (127 : Int32)) <<< ((0 : Int32) &&& 31))) ||| (((g (K + 1)) &&& (127 : Int32)) <<< ((7 : Int32) &&& 31))) ||| (((g (K + 2)) &&& (127 : Int32)) <<< ((14 : Int32) &&& 31))) ||| (((g (K + 3)) &&& (127 : Int32)) <<< ((21 : Int32) &&& 31)))) (pc' := 26) X0 hx (hb hby d1_25) rfl rfl ?_
          refine rI X0 hx hlk hret (hb hby d1_26) (by decide) (by decide) ?_
          exact ⟨(by simp only [own_rd, hc1, hc2, hc3, hc4, if_true, if_false]), rfl⟩
      · skip
        refine i_ifF (pc' := 25) X0 hx (hb hby d1_22) rfl (XT.i0_lt_f hc3) ?_
        refine i_iloadN (v := ((((0 : Int32) ||| (((g K) &&& (127 : Int32)) <<< ((0 : Int32) &&& 31))) ||| (((g (K + 1)) &&& (127 : Int32)) <<< ((7 : Int32) &&& 31))) ||| (((g (K + 2)) &&& (127 : Int32)) <<< ((14 : Int32) &&& 31)))) (pc' := 26) X0 hx (hb hby d1_25) rfl rfl ?_
        refine rI X0 hx hlk hret (hb hby d1_26) (by decide) (by decide) ?_
        exact ⟨(by simp only [own_rd, hc1, hc2, hc3, if_true, if_false]), rfl⟩
    · skip
      refine i_ifF (pc' := 25) X0 hx (hb hby d1_22) rfl (XT.i0_lt_f hc2) ?_
      refine i_iloadN (v := (((0 : Int32) ||| (((g K) &&& (127 : Int32)) <<< ((0 : Int32) &&& 31))) ||| (((g (K + 1)) &&& (127 : Int32)) <<< ((7 : Int32) &&& 31)))) (pc' := 26) X0 hx (hb hby d1_25) rfl rfl ?_
      refine rI X0 hx hlk hret (hb hby d1_26) (by decide) (by decide) ?_
      exact ⟨(by simp only [own_rd, hc1, hc2, if_true, if_false]), rfl⟩
  · skip
    refine i_ifF (pc' := 25) X0 hx (hb hby d1_22) rfl (XT.i0_lt_f hc1) ?_
    refine i_iloadN (v := ((0 : Int32) ||| (((g K) &&& (127 : Int32)) <<< ((0 : Int32) &&& 31)))) (pc' := 26) X0 hx (hb hby d1_25) rfl rfl ?_
    refine rI X0 hx hlk hret (hb hby d1_26) (by decide) (by decide) ?_
    exact ⟨(by simp only [own_rd, hc1, if_true, if_false]), rfl⟩
theorem pn1 : plainName "com/example/rangewright/rangewright/storage/CodecLengthAtPinLaw" = true := by first | (simp [plainName, overriddenIn]; done) | decide +kernel
theorem ef_rm0 (m : MethodId) (p1 : Int32) (p2 : Int32) (p3 : Int32) (p4 : Int64) : entryFrame m #[(.int p1), (.int p2), (.int p3), (.long p4)] maxLocals = mkF m 0 #[.val (.int p1), .val (.int p2), .val (.int p3), .val (.long p4), .second, .unset, .unset, .unset, .unset] [] := by first | (simp [entryFrame, mkF, argsToLocals, Value.category, maxLocals]; done) | rfl
abbrev Q0 : Option Value → Heap → Prop := fun v _ => v = some (.int 1)
theorem pd0 : parseMethodDescriptor "([BI)I" = some ⟨[(.array .byte), .int], some .int⟩ := by decide +kernel
set_option maxRecDepth 65536 in
set_option maxHeartbeats 40000000 in
theorem rm0 (l : Launch) (Z : State) (a0 : Array Value) (hw : ∀ d ∈ tables_1, d.before a0 Z = true) (ws : List Jvm.Cond) (p1 : Int32) (p2 : Int32) (p3 : Int32) (p4 : Int64) (n0 : Nat) (h0 : Heap) (hn : n0 ≤ h0.size)   :
    Con l Z x code maxLocals ret ws room_1 #[(.int p1), (.int p2), (.int p3), (.long p4)] h0 n0 Q0 := by
  refine body (y := x) (Ls := #[.val (.int p1), .val (.int p2), .val (.int p3), .val (.long p4), .second, .unset, .unset, .unset, .unset]) (plainFor_of_name pn1) hn (fun m => ef_rm0 m p1 p2 p3 p4) ?_
  intro p e s m below meth c T0 hx hby hml hown hnm hret hlk hZ X0
  replace hown : s.vm.findClass "com/example/rangewright/rangewright/storage/CodecLengthAtPinLaw" = some m.cls := hown
  replace hml : c.maxLocals = 9 := hml
  replace hret : meth.sig.returnType = (some .boolean) := hret
  refine i_iloadN (v := p1) (pc' := 1) X0 hx (hb hby at_0) rfl rfl ?_
  refine i_ldc (pc' := 3) (2147483647 : Int32) X0 hx hZ hown (hw _ (List.mem_of_getElem? (i := 0) rfl)) (hb hby at_1) rfl ?_
  refine i_iand (pc' := 4) X0 hx (hb hby at_3) rfl ?_
  obtain ⟨v1, hv1⟩ : ∃ zz : Int32, zz = (p1 &&& (2147483647 : Int32)) := ⟨_, rfl⟩
  rw [← hv1]
  refine i_istore (L' := #[.val (.int p1), .val (.int p2), .val (.int p3), .val (.long p4), .second, .val (.int v1), .unset, .unset, .unset]) (pc' := 6) X0 hx (hb hby at_4) rfl rfl ?_
  refine i_iloadN (v := p2) (pc' := 7) X0 hx (hb hby at_6) rfl rfl ?_
  refine i_iconst (pc' := 8) (3 : Int32) X0 hx (hb hby at_7) rfl (by decide) ?_
  refine i_iand (pc' := 9) X0 hx (hb hby at_8) rfl ?_
  obtain ⟨v2, hv2⟩ : ∃ zz : Int32, zz = (p2 &&& (3 : Int32)) := ⟨_, rfl⟩
  rw [← hv2]
  refine i_istore (L' := #[.val (.int p1), .val (.int p2), .val (.int p3), .val (.long p4), .second, .val (.int v1), .val (.int v2), .unset, .unset]) (pc' := 11) X0 hx (hb hby at_9) rfl rfl ?_
  have hV : 0 ≤ v1.toInt := by rw [hv1]; exact own_vn _
  obtain ⟨K, hO, hK3⟩ : ∃ k : Nat, v2.toInt = (k : Int) ∧ k ≤ 3 := by rw [hv2]; exact own_o3 _
  refine i_bipush (pc' := 13) (10 : Int32) X0 hx (hb hby at_11) rfl (by decide) ?_
  refine na (aty := .byte) (pc' := 15) 10 X0 hx hZ (hw _ (List.mem_of_getElem? (i := 1) rfl)) (hb hby at_13) rfl (by decide) (by decide) (by decide) (by decide) (by decide) fun T3 h3 b3 X3 g3 ge3 E3 V3 => ?_
  have sz_b3 : h0.size ≤ b3 := Nat.le_trans ((Keep.refl h0 _) : Keep h0 h0 []).1 (Nat.le_of_eq g3.symm)
  have K3 : Keep h0 h3 [] := ((Keep.refl h0 _) : Keep h0 h0 []).ext E3
  have A3 : Av Z h3 b3 .byte 10 (fun _ => .int 0) := V3
  refine i_astore (L' := #[.val (.int p1), .val (.int p2), .val (.int p3), .val (.long p4), .second, .val (.int v1), .val (.int v2), .val (.ref b3), .unset]) (pc' := 17) X3 hx (hb hby at_15) rfl rfl rfl ?_
  refine i_aload (v := (.ref b3)) (pc' := 19) X3 hx (hb hby at_17) rfl rfl rfl ?_
  refine i_iconst (pc' := 20) (0 : Int32) X3 hx (hb hby at_19) rfl (by decide) ?_
  refine i_iloadN (v := p3) (pc' := 21) X3 hx (hb hby at_20) rfl rfl ?_
  refine i_i2b (pc' := 22) X3 hx (hb hby at_21) rfl ?_
  refine saB (pc' := 23) X3 hx hZ A3 ge3 (by decide) (by decide) (hb hby at_22) rfl fun T4 h4 X4 W4 => ?_
  obtain ⟨g4, A4⟩ : ∃ g : Nat → Int32, Av Z h4 b3 .byte 10 (fun i => .int (g i)) := ⟨_, (own_stBB (k := 0) (g := (fun _ => (0 : Int32))) (by decide) A3 W4)⟩
  refine i_aload (v := (.ref b3)) (pc' := 25) X4 hx (hb hby at_23) rfl rfl rfl ?_
  refine i_iconst (pc' := 26) (1 : Int32) X4 hx (hb hby at_25) rfl (by decide) ?_
  refine i_iloadN (v := p3) (pc' := 27) X4 hx (hb hby at_26) rfl rfl ?_
  refine i_bipush (pc' := 29) (8 : Int32) X4 hx (hb hby at_27) rfl (by decide) ?_
  refine i_iushr (pc' := 30) X4 hx (hb hby at_29) rfl ?_
  refine i_i2b (pc' := 31) X4 hx (hb hby at_30) rfl ?_
  refine saB (pc' := 32) X4 hx hZ A4 ge3 (by decide) (by decide) (hb hby at_31) rfl fun T5 h5 X5 W5 => ?_
  obtain ⟨g5, A5⟩ : ∃ g : Nat → Int32, Av Z h5 b3 .byte 10 (fun i => .int (g i)) := ⟨_, (own_stBB (k := 1) (g := g4) (by decide) A4 W5)⟩
  refine i_aload (v := (.ref b3)) (pc' := 34) X5 hx (hb hby at_32) rfl rfl rfl ?_
  refine i_iconst (pc' := 35) (2 : Int32) X5 hx (hb hby at_34) rfl (by decide) ?_
  refine i_iloadN (v := p3) (pc' := 36) X5 hx (hb hby at_35) rfl rfl ?_
  refine i_bipush (pc' := 38) (16 : Int32) X5 hx (hb hby at_36) rfl (by decide) ?_
  refine i_iushr (pc' := 39) X5 hx (hb hby at_38) rfl ?_
  refine i_i2b (pc' := 40) X5 hx (hb hby at_39) rfl ?_
  refine saB (pc' := 41) X5 hx hZ A5 ge3 (by decide) (by decide) (hb hby at_40) rfl fun T6 h6 X6 W6 => ?_
  obtain ⟨g6, A6⟩ : ∃ g : Nat → Int32, Av Z h6 b3 .byte 10 (fun i => .int (g i)) := ⟨_, (own_stBB (k := 2) (g := g5) (by decide) A5 W6)⟩
  refine i_aload (v := (.ref b3)) (pc' := 43) X6 hx (hb hby at_41) rfl rfl rfl ?_
  refine i_iconst (pc' := 44) (3 : Int32) X6 hx (hb hby at_43) rfl (by decide) ?_
  refine i_iloadN (v := p3) (pc' := 45) X6 hx (hb hby at_44) rfl rfl ?_
  refine i_bipush (pc' := 47) (24 : Int32) X6 hx (hb hby at_45) rfl (by decide) ?_
  refine i_iushr (pc' := 48) X6 hx (hb hby at_47) rfl ?_
  refine i_i2b (pc' := 49) X6 hx (hb hby at_48) rfl ?_
  refine saB (pc' := 50) X6 hx hZ A6 ge3 (by decide) (by decide) (hb hby at_49) rfl fun T7 h7 X7 W7 => ?_
  obtain ⟨g7, A7⟩ : ∃ g : Nat → Int32, Av Z h7 b3 .byte 10 (fun i => .int (g i)) := ⟨_, (own_stBB (k := 3) (g := g6) (by decide) A6 W7)⟩
  refine i_aload (v := (.ref b3)) (pc' := 52) X7 hx (hb hby at_50) rfl rfl rfl ?_
  refine i_iconst (pc' := 53) (4 : Int32) X7 hx (hb hby at_52) rfl (by decide) ?_
  refine i_lloadN (v := p4) (pc' := 54) X7 hx (hb hby at_53) rfl rfl ?_
  refine i_l2i (pc' := 55) X7 hx (hb hby at_54) rfl ?_
  refine i_i2b (pc' := 56) X7 hx (hb hby at_55) rfl ?_
  refine saB (pc' := 57) X7 hx hZ A7 ge3 (by decide) (by decide) (hb hby at_56) rfl fun T8 h8 X8 W8 => ?_
  obtain ⟨g8, A8⟩ : ∃ g : Nat → Int32, Av Z h8 b3 .byte 10 (fun i => .int (g i)) := ⟨_, (own_stBB (k := 4) (g := g7) (by decide) A7 W8)⟩
  refine i_aload (v := (.ref b3)) (pc' := 59) X8 hx (hb hby at_57) rfl rfl rfl ?_
  refine i_iconst (pc' := 60) (5 : Int32) X8 hx (hb hby at_59) rfl (by decide) ?_
  refine i_lloadN (v := p4) (pc' := 61) X8 hx (hb hby at_60) rfl rfl ?_
  refine i_bipush (pc' := 63) (8 : Int32) X8 hx (hb hby at_61) rfl (by decide) ?_
  refine i_lushr (pc' := 64) X8 hx (hb hby at_63) rfl ?_
  refine i_l2i (pc' := 65) X8 hx (hb hby at_64) rfl ?_
  refine i_i2b (pc' := 66) X8 hx (hb hby at_65) rfl ?_
  refine saB (pc' := 67) X8 hx hZ A8 ge3 (by decide) (by decide) (hb hby at_66) rfl fun T9 h9 X9 W9 => ?_
  obtain ⟨g9, A9⟩ : ∃ g : Nat → Int32, Av Z h9 b3 .byte 10 (fun i => .int (g i)) := ⟨_, (own_stBB (k := 5) (g := g8) (by decide) A8 W9)⟩
  refine i_aload (v := (.ref b3)) (pc' := 69) X9 hx (hb hby at_67) rfl rfl rfl ?_
  refine i_bipush (pc' := 71) (6 : Int32) X9 hx (hb hby at_69) rfl (by decide) ?_
  refine i_lloadN (v := p4) (pc' := 72) X9 hx (hb hby at_71) rfl rfl ?_
  refine i_bipush (pc' := 74) (16 : Int32) X9 hx (hb hby at_72) rfl (by decide) ?_
  refine i_lushr (pc' := 75) X9 hx (hb hby at_74) rfl ?_
  refine i_l2i (pc' := 76) X9 hx (hb hby at_75) rfl ?_
  refine i_i2b (pc' := 77) X9 hx (hb hby at_76) rfl ?_
  refine saB (pc' := 78) X9 hx hZ A9 ge3 (by decide) (by decide) (hb hby at_77) rfl fun T10 h10 X10 W10 => ?_
  obtain ⟨g10, A10⟩ : ∃ g : Nat → Int32, Av Z h10 b3 .byte 10 (fun i => .int (g i)) := ⟨_, (own_stBB (k := 6) (g := g9) (by decide) A9 W10)⟩
  refine i_aload (v := (.ref b3)) (pc' := 80) X10 hx (hb hby at_78) rfl rfl rfl ?_
  refine i_bipush (pc' := 82) (7 : Int32) X10 hx (hb hby at_80) rfl (by decide) ?_
  refine i_lloadN (v := p4) (pc' := 83) X10 hx (hb hby at_82) rfl rfl ?_
  refine i_bipush (pc' := 85) (24 : Int32) X10 hx (hb hby at_83) rfl (by decide) ?_
  refine i_lushr (pc' := 86) X10 hx (hb hby at_85) rfl ?_
  refine i_l2i (pc' := 87) X10 hx (hb hby at_86) rfl ?_
  refine i_i2b (pc' := 88) X10 hx (hb hby at_87) rfl ?_
  refine saB (pc' := 89) X10 hx hZ A10 ge3 (by decide) (by decide) (hb hby at_88) rfl fun T11 h11 X11 W11 => ?_
  obtain ⟨g11, A11⟩ : ∃ g : Nat → Int32, Av Z h11 b3 .byte 10 (fun i => .int (g i)) := ⟨_, (own_stBB (k := 7) (g := g10) (by decide) A10 W11)⟩
  refine i_aload (v := (.ref b3)) (pc' := 91) X11 hx (hb hby at_89) rfl rfl rfl ?_
  refine i_bipush (pc' := 93) (8 : Int32) X11 hx (hb hby at_91) rfl (by decide) ?_
  refine i_lloadN (v := p4) (pc' := 94) X11 hx (hb hby at_93) rfl rfl ?_
  refine i_bipush (pc' := 96) (32 : Int32) X11 hx (hb hby at_94) rfl (by decide) ?_
  refine i_lushr (pc' := 97) X11 hx (hb hby at_96) rfl ?_
  refine i_l2i (pc' := 98) X11 hx (hb hby at_97) rfl ?_
  refine i_i2b (pc' := 99) X11 hx (hb hby at_98) rfl ?_
  refine saB (pc' := 100) X11 hx hZ A11 ge3 (by decide) (by decide) (hb hby at_99) rfl fun T12 h12 X12 W12 => ?_
  obtain ⟨g12, A12⟩ : ∃ g : Nat → Int32, Av Z h12 b3 .byte 10 (fun i => .int (g i)) := ⟨_, (own_stBB (k := 8) (g := g11) (by decide) A11 W12)⟩
  refine i_aload (v := (.ref b3)) (pc' := 102) X12 hx (hb hby at_100) rfl rfl rfl ?_
  refine i_bipush (pc' := 104) (9 : Int32) X12 hx (hb hby at_102) rfl (by decide) ?_
  refine i_lloadN (v := p4) (pc' := 105) X12 hx (hb hby at_104) rfl rfl ?_
  refine i_bipush (pc' := 107) (40 : Int32) X12 hx (hb hby at_105) rfl (by decide) ?_
  refine i_lushr (pc' := 108) X12 hx (hb hby at_107) rfl ?_
  refine i_l2i (pc' := 109) X12 hx (hb hby at_108) rfl ?_
  refine i_i2b (pc' := 110) X12 hx (hb hby at_109) rfl ?_
  refine saB (pc' := 111) X12 hx hZ A12 ge3 (by decide) (by decide) (hb hby at_110) rfl fun T13 h13 X13 W13 => ?_
  obtain ⟨g13, A13⟩ : ∃ g : Nat → Int32, Av Z h13 b3 .byte 10 (fun i => .int (g i)) := ⟨_, (own_stBB (k := 9) (g := g12) (by decide) A12 W13)⟩
  refine i_iload (v := v1) (pc' := 113) X13 hx (hb hby at_111) rfl rfl ?_
  refine i_sipush (pc' := 116) (128 : Int32) X13 hx (hb hby at_113) rfl (by decide) ?_
  by_cases hc14 : v1 < (128 : Int32)
  · skip
    refine i_icF (pc' := 119) X13 hx (hb hby at_116) rfl (XT.ii_ge_f hc14) ?_
    refine i_iconst (pc' := 120) (1 : Int32) X13 hx (hb hby at_119) rfl (by decide) ?_
    refine i_goto (pc' := 158) X13 hx (hb hby at_120) (by decide) (by decide) ?_
    refine i_istore (L' := #[.val (.int p1), .val (.int p2), .val (.int p3), .val (.long p4), .second, .val (.int v1), .val (.int v2), .val (.ref b3), .val (.int (1 : Int32))]) (pc' := 160) X13 hx (hb hby at_158) rfl rfl ?_
    refine i_aload (v := (.ref b3)) (pc' := 162) X13 hx (hb hby at_160) rfl rfl rfl ?_
    refine i_iload (v := v2) (pc' := 164) X13 hx (hb hby at_162) rfl rfl ?_
    refine i_iload (v := v1) (pc' := 166) X13 hx (hb hby at_164) rfl rfl ?_
    refine i_bipush (pc' := 168) (127 : Int32) X13 hx (hb hby at_166) rfl (by decide) ?_
    refine i_iand (pc' := 169) X13 hx (hb hby at_168) rfl ?_
    refine i_iload (v := (1 : Int32)) (pc' := 171) X13 hx (hb hby at_169) rfl rfl ?_
    refine i_iconst (pc' := 172) (1 : Int32) X13 hx (hb hby at_171) rfl (by decide) ?_
    refine i_icT (pc' := 181) X13 hx (hb hby at_172) (XT.ii_le_t (by decide)) (by decide) (by decide) ?_
    refine i_iconst (pc' := 182) (0 : Int32) X13 hx (hb hby at_181) rfl (by decide) ?_
    refine i_ior (pc' := 183) X13 hx (hb hby at_182) rfl ?_
    refine i_i2b (pc' := 184) X13 hx (hb hby at_183) rfl ?_
    refine saB (pc' := 185) X13 hx hZ A13 ge3 (own_in (k := K) hO (by omega)).1 (own_in (k := K) hO (by omega)).2.1 (hb hby at_184) rfl fun T15 h15 X15 W15 => ?_
    obtain ⟨g15, hg15, A15⟩ : ∃ g : Nat → Int32, (∀ i, g i = if i = K then (((v1 &&& (127 : Int32)) ||| (0 : Int32)).toInt8.toInt32) else g13 i) ∧ Av Z h15 b3 .byte 10 (fun i => .int (g i)) := ⟨_, fun _ => rfl, (own_stBB (k := K) (g := g13) (own_in hO (by omega)).2.2 A13 W15)⟩
    refine i_iload (v := (1 : Int32)) (pc' := 187) X15 hx (hb hby at_185) rfl rfl ?_
    refine i_iconst (pc' := 188) (1 : Int32) X15 hx (hb hby at_187) rfl (by decide) ?_
    refine i_icT (pc' := 221) X15 hx (hb hby at_188) (XT.ii_le_t (by decide)) (by decide) (by decide) ?_
    refine i_iload (v := (1 : Int32)) (pc' := 223) X15 hx (hb hby at_221) rfl rfl ?_
    refine i_iconst (pc' := 224) (2 : Int32) X15 hx (hb hby at_223) rfl (by decide) ?_
    refine i_icT (pc' := 257) X15 hx (hb hby at_224) (XT.ii_le_t (by decide)) (by decide) (by decide) ?_
    refine i_iload (v := (1 : Int32)) (pc' := 259) X15 hx (hb hby at_257) rfl rfl ?_
    refine i_iconst (pc' := 260) (3 : Int32) X15 hx (hb hby at_259) rfl (by decide) ?_
    refine i_icT (pc' := 293) X15 hx (hb hby at_260) (XT.ii_le_t (by decide)) (by decide) (by decide) ?_
    refine i_iload (v := (1 : Int32)) (pc' := 295) X15 hx (hb hby at_293) rfl rfl ?_
    refine i_iconst (pc' := 296) (4 : Int32) X15 hx (hb hby at_295) rfl (by decide) ?_
    refine i_icT (pc' := 315) X15 hx (hb hby at_296) (XT.ii_le_t (by decide)) (by decide) (by decide) ?_
    have hend : ¬ g15 K < 0 := by
      rw [show g15 K = (((v1 &&& (127 : Int32)) ||| (0 : Int32)).toInt8.toInt32) from (by simp only [hg15]; simp), own_or0]
      exact (own_low (own_w0 hV).2).1
    have hbd : v1.toInt < 128 := by
      have q := (own_lt _ _).mp hc14
      have c : (128 : Int32).toInt = 128 := by decide
      omega
    refine i_aload (v := (.ref b3)) (pc' := 317) X15 hx (hb hby at_315) rfl rfl rfl ?_
    refine i_iload (v := v2) (pc' := 319) X15 hx (hb hby at_317) rfl rfl ?_
    refine cS (y := (⟨"com/example/rangewright/rangewright/storage/Codec", "lengthAt", "([BI)I"⟩ : MethodName)) (rest := []) (pc' := 322) 0 [(.ref b3), (.int v2)] X15 hx hZ hown (hw _ (List.mem_of_getElem? (i := 2) rfl)) (hw _ (List.mem_of_getElem? (i := 3) rfl)) (hw _ (List.mem_of_getElem? (i := 4) rfl)) (hw _ (List.mem_of_getElem? (i := 5) rfl)) (by decide) (rm1 l Z a0 hw [] b3 v2 K g15 n0 h15 X15.le A15 hO hK3 (fun q _ _ _ => absurd q hend)) (by decide) (by decide) (by rw [hml]; rfl) rfl (lenOf pd0 rfl) rfl (Nat.le_of_eq rfl) (hb hby at_319) rfl (by decide) (by decide) ?_
    intro r16 T16 h16 X16 q16
    obtain ⟨rfl, eh16⟩ := q16
    subst eh16
    show Go _ _ _ _ _ _ _ T16 (mkF m 322 #[.val (.int p1), .val (.int p2), .val (.int p3), .val (.long p4), .second, .val (.int v1), .val (.int v2), .val (.ref b3), .val (.int (1 : Int32))] [(.int (own_rd (g15 K) (g15 (K + 1)) (g15 (K + 2)) (g15 (K + 3)) (g15 (K + 4))))])
    refine i_iload (v := v1) (pc' := 324) X16 hx (hb hby at_322) rfl rfl ?_
    refine i_icF (pc' := 327) X16 hx (hb hby at_324) rfl (XT.ii_ne_f (own_v1 (v := v1) (b0 := g15 K) (b1 := g15 (K + 1)) (b2 := g15 (K + 2)) (b3 := g15 (K + 3)) (b4 := g15 (K + 4)) hV hbd (by simp only [hg15]; simp))) ?_
    refine i_iconst (pc' := 328) (1 : Int32) X16 hx (hb hby at_327) rfl (by decide) ?_
    refine i_goto (pc' := 332) X16 hx (hb hby at_328) (by decide) (by decide) ?_
    refine rN X16 hx hlk hret (by simp) (hb hby at_332) (by decide) (by decide) ?_
    exact rfl
  · skip
    refine i_icT (pc' := 123) X13 hx (hb hby at_116) (XT.ii_ge_t hc14) (by decide) (by decide) ?_
    refine i_iload (v := v1) (pc' := 125) X13 hx (hb hby at_123) rfl rfl ?_
    refine i_sipush (pc' := 128) (16384 : Int32) X13 hx (hb hby at_125) rfl (by decide) ?_
    by_cases hc17 : v1 < (16384 : Int32)
    · skip
      refine i_icF (pc' := 131) X13 hx (hb hby at_128) rfl (XT.ii_ge_f hc17) ?_
      refine i_iconst (pc' := 132) (2 : Int32) X13 hx (hb hby at_131) rfl (by decide) ?_
      refine i_goto (pc' := 158) X13 hx (hb hby at_132) (by decide) (by decide) ?_
      refine i_istore (L' := #[.val (.int p1), .val (.int p2), .val (.int p3), .val (.long p4), .second, .val (.int v1), .val (.int v2), .val (.ref b3), .val (.int (2 : Int32))]) (pc' := 160) X13 hx (hb hby at_158) rfl rfl ?_
      refine i_aload (v := (.ref b3)) (pc' := 162) X13 hx (hb hby at_160) rfl rfl rfl ?_
      refine i_iload (v := v2) (pc' := 164) X13 hx (hb hby at_162) rfl rfl ?_
      refine i_iload (v := v1) (pc' := 166) X13 hx (hb hby at_164) rfl rfl ?_
      refine i_bipush (pc' := 168) (127 : Int32) X13 hx (hb hby at_166) rfl (by decide) ?_
      refine i_iand (pc' := 169) X13 hx (hb hby at_168) rfl ?_
      refine i_iload (v := (2 : Int32)) (pc' := 171) X13 hx (hb hby at_169) rfl rfl ?_
      refine i_iconst (pc' := 172) (1 : Int32) X13 hx (hb hby at_171) rfl (by decide) ?_
      refine i_icF (pc' := 175) X13 hx (hb hby at_172) rfl (XT.ii_le_f (by decide)) ?_
      refine i_sipush (pc' := 178) (128 : Int32) X13 hx (hb hby at_175) rfl (by decide) ?_
      refine i_goto (pc' := 182) X13 hx (hb hby at_178) (by decide) (by decide) ?_
      refine i_ior (pc' := 183) X13 hx (hb hby at_182) rfl ?_
      refine i_i2b (pc' := 184) X13 hx (hb hby at_183) rfl ?_
      refine saB (pc' := 185) X13 hx hZ A13 ge3 (own_in (k := K) hO (by omega)).1 (own_in (k := K) hO (by omega)).2.1 (hb hby at_184) rfl fun T18 h18 X18 W18 => ?_
      obtain ⟨g18, hg18, A18⟩ : ∃ g : Nat → Int32, (∀ i, g i = if i = K then (((v1 &&& (127 : Int32)) ||| (128 : Int32)).toInt8.toInt32) else g13 i) ∧ Av Z h18 b3 .byte 10 (fun i => .int (g i)) := ⟨_, fun _ => rfl, (own_stBB (k := K) (g := g13) (own_in hO (by omega)).2.2 A13 W18)⟩
      refine i_iload (v := (2 : Int32)) (pc' := 187) X18 hx (hb hby at_185) rfl rfl ?_
      refine i_iconst (pc' := 188) (1 : Int32) X18 hx (hb hby at_187) rfl (by decide) ?_
      refine i_icF (pc' := 191) X18 hx (hb hby at_188) rfl (XT.ii_le_f (by decide)) ?_
      refine i_aload (v := (.ref b3)) (pc' := 193) X18 hx (hb hby at_191) rfl rfl rfl ?_
      refine i_iload (v := v2) (pc' := 195) X18 hx (hb hby at_193) rfl rfl ?_
      refine i_iconst (pc' := 196) (1 : Int32) X18 hx (hb hby at_195) rfl (by decide) ?_
      refine i_iadd (pc' := 197) X18 hx (hb hby at_196) rfl ?_
      refine i_iload (v := v1) (pc' := 199) X18 hx (hb hby at_197) rfl rfl ?_
      refine i_bipush (pc' := 201) (7 : Int32) X18 hx (hb hby at_199) rfl (by decide) ?_
      refine i_iushr (pc' := 202) X18 hx (hb hby at_201) rfl ?_
      refine i_bipush (pc' := 204) (127 : Int32) X18 hx (hb hby at_202) rfl (by decide) ?_
      refine i_iand (pc' := 205) X18 hx (hb hby at_204) rfl ?_
      refine i_iload (v := (2 : Int32)) (pc' := 207) X18 hx (hb hby at_205) rfl rfl ?_
      refine i_iconst (pc' := 208) (2 : Int32) X18 hx (hb hby at_207) rfl (by decide) ?_
      refine i_icT (pc' := 217) X18 hx (hb hby at_208) (XT.ii_le_t (by decide)) (by decide) (by decide) ?_
      refine i_iconst (pc' := 218) (0 : Int32) X18 hx (hb hby at_217) rfl (by decide) ?_
      refine i_ior (pc' := 219) X18 hx (hb hby at_218) rfl ?_
      refine i_i2b (pc' := 220) X18 hx (hb hby at_219) rfl ?_
      refine saB (pc' := 221) X18 hx hZ A18 ge3 (own_in (k := (K + 1)) (own_oj hO hK3 (n := 1) (by decide) (by decide)) (by omega)).1 (own_in (k := (K + 1)) (own_oj hO hK3 (n := 1) (by decide) (by decide)) (by omega)).2.1 (hb hby at_220) rfl fun T19 h19 X19 W19 => ?_
      obtain ⟨g19, hg19, A19⟩ : ∃ g : Nat → Int32, (∀ i, g i = if i = (K + 1) then ((((XT.ushr v1 (7 : Int32)) &&& (127 : Int32)) ||| (0 : Int32)).toInt8.toInt32) else g18 i) ∧ Av Z h19 b3 .byte 10 (fun i => .int (g i)) := ⟨_, fun _ => rfl, (own_stBB (k := (K + 1)) (g := g18) (own_in (own_oj hO hK3 (n := 1) (by decide) (by decide)) (by omega)).2.2 A18 W19)⟩
      refine i_iload (v := (2 : Int32)) (pc' := 223) X19 hx (hb hby at_221) rfl rfl ?_
      refine i_iconst (pc' := 224) (2 : Int32) X19 hx (hb hby at_223) rfl (by decide) ?_
      refine i_icT (pc' := 257) X19 hx (hb hby at_224) (XT.ii_le_t (by decide)) (by decide) (by decide) ?_
      refine i_iload (v := (2 : Int32)) (pc' := 259) X19 hx (hb hby at_257) rfl rfl ?_
      refine i_iconst (pc' := 260) (3 : Int32) X19 hx (hb hby at_259) rfl (by decide) ?_
      refine i_icT (pc' := 293) X19 hx (hb hby at_260) (XT.ii_le_t (by decide)) (by decide) (by decide) ?_
      refine i_iload (v := (2 : Int32)) (pc' := 295) X19 hx (hb hby at_293) rfl rfl ?_
      refine i_iconst (pc' := 296) (4 : Int32) X19 hx (hb hby at_295) rfl (by decide) ?_
      refine i_icT (pc' := 315) X19 hx (hb hby at_296) (XT.ii_le_t (by decide)) (by decide) (by decide) ?_
      have hend : ¬ g19 (K + 1) < 0 := by
        rw [show g19 (K + 1) = ((((XT.ushr v1 (7 : Int32)) &&& (127 : Int32)) ||| (0 : Int32)).toInt8.toInt32) from (by simp only [hg19, hg18]; simp), own_or0]
        exact (own_low (own_w v1 7 7 hV (by decide) (by decide)).2).1
      have hbd : v1.toInt < 16384 := by
        have q := (own_lt _ _).mp hc17
        have c : (16384 : Int32).toInt = 16384 := by decide
        omega
      refine i_aload (v := (.ref b3)) (pc' := 317) X19 hx (hb hby at_315) rfl rfl rfl ?_
      refine i_iload (v := v2) (pc' := 319) X19 hx (hb hby at_317) rfl rfl ?_
      refine cS (y := (⟨"com/example/rangewright/rangewright/storage/Codec", "lengthAt", "([BI)I"⟩ : MethodName)) (rest := []) (pc' := 322) 0 [(.ref b3), (.int v2)] X19 hx hZ hown (hw _ (List.mem_of_getElem? (i := 2) rfl)) (hw _ (List.mem_of_getElem? (i := 3) rfl)) (hw _ (List.mem_of_getElem? (i := 4) rfl)) (hw _ (List.mem_of_getElem? (i := 5) rfl)) (by decide) (rm1 l Z a0 hw [] b3 v2 K g19 n0 h19 X19.le A19 hO hK3 (fun _ q _ _ => absurd q hend)) (by decide) (by decide) (by rw [hml]; rfl) rfl (lenOf pd0 rfl) rfl (Nat.le_of_eq rfl) (hb hby at_319) rfl (by decide) (by decide) ?_
      intro r20 T20 h20 X20 q20
      obtain ⟨rfl, eh20⟩ := q20
      subst eh20
      show Go _ _ _ _ _ _ _ T20 (mkF m 322 #[.val (.int p1), .val (.int p2), .val (.int p3), .val (.long p4), .second, .val (.int v1), .val (.int v2), .val (.ref b3), .val (.int (2 : Int32))] [(.int (own_rd (g19 K) (g19 (K + 1)) (g19 (K + 2)) (g19 (K + 3)) (g19 (K + 4))))])
      refine i_iload (v := v1) (pc' := 324) X20 hx (hb hby at_322) rfl rfl ?_
      refine i_icF (pc' := 327) X20 hx (hb hby at_324) rfl (XT.ii_ne_f (own_v2 (v := v1) (b0 := g19 K) (b1 := g19 (K + 1)) (b2 := g19 (K + 2)) (b3 := g19 (K + 3)) (b4 := g19 (K + 4)) hV hbd (by simp only [hg19, hg18]; simp) (by simp only [hg19, hg18]; simp))) ?_
      refine i_iconst (pc' := 328) (1 : Int32) X20 hx (hb hby at_327) rfl (by decide) ?_
      refine i_goto (pc' := 332) X20 hx (hb hby at_328) (by decide) (by decide) ?_
      refine rN X20 hx hlk hret (by simp) (hb hby at_332) (by decide) (by decide) ?_
      exact rfl
    · skip
      refine i_icT (pc' := 135) X13 hx (hb hby at_128) (XT.ii_ge_t hc17) (by decide) (by decide) ?_
      refine i_iload (v := v1) (pc' := 137) X13 hx (hb hby at_135) rfl rfl ?_
      refine i_ldc (pc' := 139) (2097152 : Int32) X13 hx hZ hown (hw _ (List.mem_of_getElem? (i := 6) rfl)) (hb hby at_137) rfl ?_
      by_cases hc21 : v1 < (2097152 : Int32)
      · skip
        refine i_icF (pc' := 142) X13 hx (hb hby at_139) rfl (XT.ii_ge_f hc21) ?_
        refine i_iconst (pc' := 143) (3 : Int32) X13 hx (hb hby at_142) rfl (by decide) ?_
        refine i_goto (pc' := 158) X13 hx (hb hby at_143) (by decide) (by decide) ?_
        refine i_istore (L' := #[.val (.int p1), .val (.int p2), .val (.int p3), .val (.long p4), .second, .val (.int v1), .val (.int v2), .val (.ref b3), .val (.int (3 : Int32))]) (pc' := 160) X13 hx (hb hby at_158) rfl rfl ?_
        refine i_aload (v := (.ref b3)) (pc' := 162) X13 hx (hb hby at_160) rfl rfl rfl ?_
        refine i_iload (v := v2) (pc' := 164) X13 hx (hb hby at_162) rfl rfl ?_
        refine i_iload (v := v1) (pc' := 166) X13 hx (hb hby at_164) rfl rfl ?_
        refine i_bipush (pc' := 168) (127 : Int32) X13 hx (hb hby at_166) rfl (by decide) ?_
        refine i_iand (pc' := 169) X13 hx (hb hby at_168) rfl ?_
        refine i_iload (v := (3 : Int32)) (pc' := 171) X13 hx (hb hby at_169) rfl rfl ?_
        refine i_iconst (pc' := 172) (1 : Int32) X13 hx (hb hby at_171) rfl (by decide) ?_
        refine i_icF (pc' := 175) X13 hx (hb hby at_172) rfl (XT.ii_le_f (by decide)) ?_
        refine i_sipush (pc' := 178) (128 : Int32) X13 hx (hb hby at_175) rfl (by decide) ?_
        refine i_goto (pc' := 182) X13 hx (hb hby at_178) (by decide) (by decide) ?_
        refine i_ior (pc' := 183) X13 hx (hb hby at_182) rfl ?_
        refine i_i2b (pc' := 184) X13 hx (hb hby at_183) rfl ?_
        refine saB (pc' := 185) X13 hx hZ A13 ge3 (own_in (k := K) hO (by omega)).1 (own_in (k := K) hO (by omega)).2.1 (hb hby at_184) rfl fun T22 h22 X22 W22 => ?_
        obtain ⟨g22, hg22, A22⟩ : ∃ g : Nat → Int32, (∀ i, g i = if i = K then (((v1 &&& (127 : Int32)) ||| (128 : Int32)).toInt8.toInt32) else g13 i) ∧ Av Z h22 b3 .byte 10 (fun i => .int (g i)) := ⟨_, fun _ => rfl, (own_stBB (k := K) (g := g13) (own_in hO (by omega)).2.2 A13 W22)⟩
        refine i_iload (v := (3 : Int32)) (pc' := 187) X22 hx (hb hby at_185) rfl rfl ?_
        refine i_iconst (pc' := 188) (1 : Int32) X22 hx (hb hby at_187) rfl (by decide) ?_
        refine i_icF (pc' := 191) X22 hx (hb hby at_188) rfl (XT.ii_le_f (by decide)) ?_
        refine i_aload (v := (.ref b3)) (pc' := 193) X22 hx (hb hby at_191) rfl rfl rfl ?_
        refine i_iload (v := v2) (pc' := 195) X22 hx (hb hby at_193) rfl rfl ?_
        refine i_iconst (pc' := 196) (1 : Int32) X22 hx (hb hby at_195) rfl (by decide) ?_
        refine i_iadd (pc' := 197) X22 hx (hb hby at_196) rfl ?_
        refine i_iload (v := v1) (pc' := 199) X22 hx (hb hby at_197) rfl rfl ?_
        refine i_bipush (pc' := 201) (7 : Int32) X22 hx (hb hby at_199) rfl (by decide) ?_
        refine i_iushr (pc' := 202) X22 hx (hb hby at_201) rfl ?_
        refine i_bipush (pc' := 204) (127 : Int32) X22 hx (hb hby at_202) rfl (by decide) ?_
        refine i_iand (pc' := 205) X22 hx (hb hby at_204) rfl ?_
        refine i_iload (v := (3 : Int32)) (pc' := 207) X22 hx (hb hby at_205) rfl rfl ?_
        refine i_iconst (pc' := 208) (2 : Int32) X22 hx (hb hby at_207) rfl (by decide) ?_
        refine i_icF (pc' := 211) X22 hx (hb hby at_208) rfl (XT.ii_le_f (by decide)) ?_
        refine i_sipush (pc' := 214) (128 : Int32) X22 hx (hb hby at_211) rfl (by decide) ?_
        refine i_goto (pc' := 218) X22 hx (hb hby at_214) (by decide) (by decide) ?_
        refine i_ior (pc' := 219) X22 hx (hb hby at_218) rfl ?_
        refine i_i2b (pc' := 220) X22 hx (hb hby at_219) rfl ?_
        refine saB (pc' := 221) X22 hx hZ A22 ge3 (own_in (k := (K + 1)) (own_oj hO hK3 (n := 1) (by decide) (by decide)) (by omega)).1 (own_in (k := (K + 1)) (own_oj hO hK3 (n := 1) (by decide) (by decide)) (by omega)).2.1 (hb hby at_220) rfl fun T23 h23 X23 W23 => ?_
        obtain ⟨g23, hg23, A23⟩ : ∃ g : Nat → Int32, (∀ i, g i = if i = (K + 1) then ((((XT.ushr v1 (7 : Int32)) &&& (127 : Int32)) ||| (128 : Int32)).toInt8.toInt32) else g22 i) ∧ Av Z h23 b3 .byte 10 (fun i => .int (g i)) := ⟨_, fun _ => rfl, (own_stBB (k := (K + 1)) (g := g22) (own_in (own_oj hO hK3 (n := 1) (by decide) (by decide)) (by omega)).2.2 A22 W23)⟩
        refine i_iload (v := (3 : Int32)) (pc' := 223) X23 hx (hb hby at_221) rfl rfl ?_
        refine i_iconst (pc' := 224) (2 : Int32) X23 hx (hb hby at_223) rfl (by decide) ?_
        refine i_icF (pc' := 227) X23 hx (hb hby at_224) rfl (XT.ii_le_f (by decide)) ?_
        refine i_aload (v := (.ref b3)) (pc' := 229) X23 hx (hb hby at_227) rfl rfl rfl ?_
        refine i_iload (v := v2) (pc' := 231) X23 hx (hb hby at_229) rfl rfl ?_
        refine i_iconst (pc' := 232) (2 : Int32) X23 hx (hb hby at_231) rfl (by decide) ?_
        refine i_iadd (pc' := 233) X23 hx (hb hby at_232) rfl ?_
        refine i_iload (v := v1) (pc' := 235) X23 hx (hb hby at_233) rfl rfl ?_
        refine i_bipush (pc' := 237) (14 : Int32) X23 hx (hb hby at_235) rfl (by decide) ?_
        refine i_iushr (pc' := 238) X23 hx (hb hby at_237) rfl ?_
        refine i_bipush (pc' := 240) (127 : Int32) X23 hx (hb hby at_238) rfl (by decide) ?_
        refine i_iand (pc' := 241) X23 hx (hb hby at_240) rfl ?_
        refine i_iload (v := (3 : Int32)) (pc' := 243) X23 hx (hb hby at_241) rfl rfl ?_
        refine i_iconst (pc' := 244) (3 : Int32) X23 hx (hb hby at_243) rfl (by decide) ?_
        refine i_icT (pc' := 253) X23 hx (hb hby at_244) (XT.ii_le_t (by decide)) (by decide) (by decide) ?_
        refine i_iconst (pc' := 254) (0 : Int32) X23 hx (hb hby at_253) rfl (by decide) ?_
        refine i_ior (pc' := 255) X23 hx (hb hby at_254) rfl ?_
        refine i_i2b (pc' := 256) X23 hx (hb hby at_255) rfl ?_
        refine saB (pc' := 257) X23 hx hZ A23 ge3 (own_in (k := (K + 2)) (own_oj hO hK3 (n := 2) (by decide) (by decide)) (by omega)).1 (own_in (k := (K + 2)) (own_oj hO hK3 (n := 2) (by decide) (by decide)) (by omega)).2.1 (hb hby at_256) rfl fun T24 h24 X24 W24 => ?_
        obtain ⟨g24, hg24, A24⟩ : ∃ g : Nat → Int32, (∀ i, g i = if i = (K + 2) then ((((XT.ushr v1 (14 : Int32)) &&& (127 : Int32)) ||| (0 : Int32)).toInt8.toInt32) else g23 i) ∧ Av Z h24 b3 .byte 10 (fun i => .int (g i)) := ⟨_, fun _ => rfl, (own_stBB (k := (K + 2)) (g := g23) (own_in (own_oj hO hK3 (n := 2) (by decide) (by decide)) (by omega)).2.2 A23 W24)⟩
        refine i_iload (v := (3 : Int32)) (pc' := 259) X24 hx (hb hby at_257) rfl rfl ?_
        refine i_iconst (pc' := 260) (3 : Int32) X24 hx (hb hby at_259) rfl (by decide) ?_
        refine i_icT (pc' := 293) X24 hx (hb hby at_260) (XT.ii_le_t (by decide)) (by decide) (by decide) ?_
        refine i_iload (v := (3 : Int32)) (pc' := 295) X24 hx (hb hby at_293) rfl rfl ?_
        refine i_iconst (pc' := 296) (4 : Int32) X24 hx (hb hby at_295) rfl (by decide) ?_
        refine i_icT (pc' := 315) X24 hx (hb hby at_296) (XT.ii_le_t (by decide)) (by decide) (by decide) ?_
        have hend : ¬ g24 (K + 2) < 0 := by
          rw [show g24 (K + 2) = ((((XT.ushr v1 (14 : Int32)) &&& (127 : Int32)) ||| (0 : Int32)).toInt8.toInt32) from (by simp only [hg24, hg23, hg22]; simp), own_or0]
          exact (own_low (own_w v1 14 14 hV (by decide) (by decide)).2).1
        have hbd : v1.toInt < 2097152 := by
          have q := (own_lt _ _).mp hc21
          have c : (2097152 : Int32).toInt = 2097152 := by decide
          omega
        refine i_aload (v := (.ref b3)) (pc' := 317) X24 hx (hb hby at_315) rfl rfl rfl ?_
        refine i_iload (v := v2) (pc' := 319) X24 hx (hb hby at_317) rfl rfl ?_
        refine cS (y := (⟨"com/example/rangewright/rangewright/storage/Codec", "lengthAt", "([BI)I"⟩ : MethodName)) (rest := []) (pc' := 322) 0 [(.ref b3), (.int v2)] X24 hx hZ hown (hw _ (List.mem_of_getElem? (i := 2) rfl)) (hw _ (List.mem_of_getElem? (i := 3) rfl)) (hw _ (List.mem_of_getElem? (i := 4) rfl)) (hw _ (List.mem_of_getElem? (i := 5) rfl)) (by decide) (rm1 l Z a0 hw [] b3 v2 K g24 n0 h24 X24.le A24 hO hK3 (fun _ _ q _ => absurd q hend)) (by decide) (by decide) (by rw [hml]; rfl) rfl (lenOf pd0 rfl) rfl (Nat.le_of_eq rfl) (hb hby at_319) rfl (by decide) (by decide) ?_
        intro r25 T25 h25 X25 q25
        obtain ⟨rfl, eh25⟩ := q25
        subst eh25
        show Go _ _ _ _ _ _ _ T25 (mkF m 322 #[.val (.int p1), .val (.int p2), .val (.int p3), .val (.long p4), .second, .val (.int v1), .val (.int v2), .val (.ref b3), .val (.int (3 : Int32))] [(.int (own_rd (g24 K) (g24 (K + 1)) (g24 (K + 2)) (g24 (K + 3)) (g24 (K + 4))))])
        refine i_iload (v := v1) (pc' := 324) X25 hx (hb hby at_322) rfl rfl ?_
        refine i_icF (pc' := 327) X25 hx (hb hby at_324) rfl (XT.ii_ne_f (own_v3 (v := v1) (b0 := g24 K) (b1 := g24 (K + 1)) (b2 := g24 (K + 2)) (b3 := g24 (K + 3)) (b4 := g24 (K + 4)) hV hbd (by simp only [hg24, hg23, hg22]; simp) (by simp only [hg24, hg23, hg22]; simp) (by simp only [hg24, hg23, hg22]; simp))) ?_
        refine i_iconst (pc' := 328) (1 : Int32) X25 hx (hb hby at_327) rfl (by decide) ?_
        refine i_goto (pc' := 332) X25 hx (hb hby at_328) (by decide) (by decide) ?_
        refine rN X25 hx hlk hret (by simp) (hb hby at_332) (by decide) (by decide) ?_
        exact rfl
      · skip
        refine i_icT (pc' := 146) X13 hx (hb hby at_139) (XT.ii_ge_t hc21) (by decide) (by decide) ?_
        refine i_iload (v := v1) (pc' := 148) X13 hx (hb hby at_146) rfl rfl ?_
        refine i_ldc (pc' := 150) (268435456 : Int32) X13 hx hZ hown (hw _ (List.mem_of_getElem? (i := 7) rfl)) (hb hby at_148) rfl ?_
        by_cases hc26 : v1 < (268435456 : Int32)
        · skip
          refine i_icF (pc' := 153) X13 hx (hb hby at_150) rfl (XT.ii_ge_f hc26) ?_
          refine i_iconst (pc' := 154) (4 : Int32) X13 hx (hb hby at_153) rfl (by decide) ?_
          refine i_goto (pc' := 158) X13 hx (hb hby at_154) (by decide) (by decide) ?_
          refine i_istore (L' := #[.val (.int p1), .val (.int p2), .val (.int p3), .val (.long p4), .second, .val (.int v1), .val (.int v2), .val (.ref b3), .val (.int (4 : Int32))]) (pc' := 160) X13 hx (hb hby at_158) rfl rfl ?_
          refine i_aload (v := (.ref b3)) (pc' := 162) X13 hx (hb hby at_160) rfl rfl rfl ?_
          refine i_iload (v := v2) (pc' := 164) X13 hx (hb hby at_162) rfl rfl ?_
          refine i_iload (v := v1) (pc' := 166) X13 hx (hb hby at_164) rfl rfl ?_
          refine i_bipush (pc' := 168) (127 : Int32) X13 hx (hb hby at_166) rfl (by decide) ?_
          refine i_iand (pc' := 169) X13 hx (hb hby at_168) rfl ?_
          refine i_iload (v := (4 : Int32)) (pc' := 171) X13 hx (hb hby at_169) rfl rfl ?_
          refine i_iconst (pc' := 172) (1 : Int32) X13 hx (hb hby at_171) rfl (by decide) ?_
          refine i_icF (pc' := 175) X13 hx (hb hby at_172) rfl (XT.ii_le_f (by decide)) ?_
          refine i_sipush (pc' := 178) (128 : Int32) X13 hx (hb hby at_175) rfl (by decide) ?_
          refine i_goto (pc' := 182) X13 hx (hb hby at_178) (by decide) (by decide) ?_
          refine i_ior (pc' := 183) X13 hx (hb hby at_182) rfl ?_
          refine i_i2b (pc' := 184) X13 hx (hb hby at_183) rfl ?_
          refine saB (pc' := 185) X13 hx hZ A13 ge3 (own_in (k := K) hO (by omega)).1 (own_in (k := K) hO (by omega)).2.1 (hb hby at_184) rfl fun T27 h27 X27 W27 => ?_
          obtain ⟨g27, hg27, A27⟩ : ∃ g : Nat → Int32, (∀ i, g i = if i = K then (((v1 &&& (127 : Int32)) ||| (128 : Int32)).toInt8.toInt32) else g13 i) ∧ Av Z h27 b3 .byte 10 (fun i => .int (g i)) := ⟨_, fun _ => rfl, (own_stBB (k := K) (g := g13) (own_in hO (by omega)).2.2 A13 W27)⟩
          refine i_iload (v := (4 : Int32)) (pc' := 187) X27 hx (hb hby at_185) rfl rfl ?_
          refine i_iconst (pc' := 188) (1 : Int32) X27 hx (hb hby at_187) rfl (by decide) ?_
          refine i_icF (pc' := 191) X27 hx (hb hby at_188) rfl (XT.ii_le_f (by decide)) ?_
          refine i_aload (v := (.ref b3)) (pc' := 193) X27 hx (hb hby at_191) rfl rfl rfl ?_
          refine i_iload (v := v2) (pc' := 195) X27 hx (hb hby at_193) rfl rfl ?_
          refine i_iconst (pc' := 196) (1 : Int32) X27 hx (hb hby at_195) rfl (by decide) ?_
          refine i_iadd (pc' := 197) X27 hx (hb hby at_196) rfl ?_
          refine i_iload (v := v1) (pc' := 199) X27 hx (hb hby at_197) rfl rfl ?_
          refine i_bipush (pc' := 201) (7 : Int32) X27 hx (hb hby at_199) rfl (by decide) ?_
          refine i_iushr (pc' := 202) X27 hx (hb hby at_201) rfl ?_
          refine i_bipush (pc' := 204) (127 : Int32) X27 hx (hb hby at_202) rfl (by decide) ?_
          refine i_iand (pc' := 205) X27 hx (hb hby at_204) rfl ?_
          refine i_iload (v := (4 : Int32)) (pc' := 207) X27 hx (hb hby at_205) rfl rfl ?_
          refine i_iconst (pc' := 208) (2 : Int32) X27 hx (hb hby at_207) rfl (by decide) ?_
          refine i_icF (pc' := 211) X27 hx (hb hby at_208) rfl (XT.ii_le_f (by decide)) ?_
          refine i_sipush (pc' := 214) (128 : Int32) X27 hx (hb hby at_211) rfl (by decide) ?_
          refine i_goto (pc' := 218) X27 hx (hb hby at_214) (by decide) (by decide) ?_
          refine i_ior (pc' := 219) X27 hx (hb hby at_218) rfl ?_
          refine i_i2b (pc' := 220) X27 hx (hb hby at_219) rfl ?_
          refine saB (pc' := 221) X27 hx hZ A27 ge3 (own_in (k := (K + 1)) (own_oj hO hK3 (n := 1) (by decide) (by decide)) (by omega)).1 (own_in (k := (K + 1)) (own_oj hO hK3 (n := 1) (by decide) (by decide)) (by omega)).2.1 (hb hby at_220) rfl fun T28 h28 X28 W28 => ?_
          obtain ⟨g28, hg28, A28⟩ : ∃ g : Nat → Int32, (∀ i, g i = if i = (K + 1) then ((((XT.ushr v1 (7 : Int32)) &&& (127 : Int32)) ||| (128 : Int32)).toInt8.toInt32) else g27 i) ∧ Av Z h28 b3 .byte 10 (fun i => .int (g i)) := ⟨_, fun _ => rfl, (own_stBB (k := (K + 1)) (g := g27) (own_in (own_oj hO hK3 (n := 1) (by decide) (by decide)) (by omega)).2.2 A27 W28)⟩
          refine i_iload (v := (4 : Int32)) (pc' := 223) X28 hx (hb hby at_221) rfl rfl ?_
          refine i_iconst (pc' := 224) (2 : Int32) X28 hx (hb hby at_223) rfl (by decide) ?_
          refine i_icF (pc' := 227) X28 hx (hb hby at_224) rfl (XT.ii_le_f (by decide)) ?_
          refine i_aload (v := (.ref b3)) (pc' := 229) X28 hx (hb hby at_227) rfl rfl rfl ?_
          refine i_iload (v := v2) (pc' := 231) X28 hx (hb hby at_229) rfl rfl ?_
          refine i_iconst (pc' := 232) (2 : Int32) X28 hx (hb hby at_231) rfl (by decide) ?_
          refine i_iadd (pc' := 233) X28 hx (hb hby at_232) rfl ?_
          refine i_iload (v := v1) (pc' := 235) X28 hx (hb hby at_233) rfl rfl ?_
          refine i_bipush (pc' := 237) (14 : Int32) X28 hx (hb hby at_235) rfl (by decide) ?_
          refine i_iushr (pc' := 238) X28 hx (hb hby at_237) rfl ?_
          refine i_bipush (pc' := 240) (127 : Int32) X28 hx (hb hby at_238) rfl (by decide) ?_
          refine i_iand (pc' := 241) X28 hx (hb hby at_240) rfl ?_
          refine i_iload (v := (4 : Int32)) (pc' := 243) X28 hx (hb hby at_241) rfl rfl ?_
          refine i_iconst (pc' := 244) (3 : Int32) X28 hx (hb hby at_243) rfl (by decide) ?_
          refine i_icF (pc' := 247) X28 hx (hb hby at_244) rfl (XT.ii_le_f (by decide)) ?_
          refine i_sipush (pc' := 250) (128 : Int32) X28 hx (hb hby at_247) rfl (by decide) ?_
          refine i_goto (pc' := 254) X28 hx (hb hby at_250) (by decide) (by decide) ?_
          refine i_ior (pc' := 255) X28 hx (hb hby at_254) rfl ?_
          refine i_i2b (pc' := 256) X28 hx (hb hby at_255) rfl ?_
          refine saB (pc' := 257) X28 hx hZ A28 ge3 (own_in (k := (K + 2)) (own_oj hO hK3 (n := 2) (by decide) (by decide)) (by omega)).1 (own_in (k := (K + 2)) (own_oj hO hK3 (n := 2) (by decide) (by decide)) (by omega)).2.1 (hb hby at_256) rfl fun T29 h29 X29 W29 => ?_
          obtain ⟨g29, hg29, A29⟩ : ∃ g : Nat → Int32, (∀ i, g i = if i = (K + 2) then ((((XT.ushr v1 (14 : Int32)) &&& (127 : Int32)) ||| (128 : Int32)).toInt8.toInt32) else g28 i) ∧ Av Z h29 b3 .byte 10 (fun i => .int (g i)) := ⟨_, fun _ => rfl, (own_stBB (k := (K + 2)) (g := g28) (own_in (own_oj hO hK3 (n := 2) (by decide) (by decide)) (by omega)).2.2 A28 W29)⟩
          refine i_iload (v := (4 : Int32)) (pc' := 259) X29 hx (hb hby at_257) rfl rfl ?_
          refine i_iconst (pc' := 260) (3 : Int32) X29 hx (hb hby at_259) rfl (by decide) ?_
          refine i_icF (pc' := 263) X29 hx (hb hby at_260) rfl (XT.ii_le_f (by decide)) ?_
          refine i_aload (v := (.ref b3)) (pc' := 265) X29 hx (hb hby at_263) rfl rfl rfl ?_
          refine i_iload (v := v2) (pc' := 267) X29 hx (hb hby at_265) rfl rfl ?_
          refine i_iconst (pc' := 268) (3 : Int32) X29 hx (hb hby at_267) rfl (by decide) ?_
          refine i_iadd (pc' := 269) X29 hx (hb hby at_268) rfl ?_
          refine i_iload (v := v1) (pc' := 271) X29 hx (hb hby at_269) rfl rfl ?_
          refine i_bipush (pc' := 273) (21 : Int32) X29 hx (hb hby at_271) rfl (by decide) ?_
          refine i_iushr (pc' := 274) X29 hx (hb hby at_273) rfl ?_
          refine i_bipush (pc' := 276) (127 : Int32) X29 hx (hb hby at_274) rfl (by decide) ?_
          refine i_iand (pc' := 277) X29 hx (hb hby at_276) rfl ?_
          refine i_iload (v := (4 : Int32)) (pc' := 279) X29 hx (hb hby at_277) rfl rfl ?_
          refine i_iconst (pc' := 280) (4 : Int32) X29 hx (hb hby at_279) rfl (by decide) ?_
          refine i_icT (pc' := 289) X29 hx (hb hby at_280) (XT.ii_le_t (by decide)) (by decide) (by decide) ?_
          refine i_iconst (pc' := 290) (0 : Int32) X29 hx (hb hby at_289) rfl (by decide) ?_
          refine i_ior (pc' := 291) X29 hx (hb hby at_290) rfl ?_
          refine i_i2b (pc' := 292) X29 hx (hb hby at_291) rfl ?_
          refine saB (pc' := 293) X29 hx hZ A29 ge3 (own_in (k := (K + 3)) (own_oj hO hK3 (n := 3) (by decide) (by decide)) (by omega)).1 (own_in (k := (K + 3)) (own_oj hO hK3 (n := 3) (by decide) (by decide)) (by omega)).2.1 (hb hby at_292) rfl fun T30 h30 X30 W30 => ?_
          obtain ⟨g30, hg30, A30⟩ : ∃ g : Nat → Int32, (∀ i, g i = if i = (K + 3) then ((((XT.ushr v1 (21 : Int32)) &&& (127 : Int32)) ||| (0 : Int32)).toInt8.toInt32) else g29 i) ∧ Av Z h30 b3 .byte 10 (fun i => .int (g i)) := ⟨_, fun _ => rfl, (own_stBB (k := (K + 3)) (g := g29) (own_in (own_oj hO hK3 (n := 3) (by decide) (by decide)) (by omega)).2.2 A29 W30)⟩
          refine i_iload (v := (4 : Int32)) (pc' := 295) X30 hx (hb hby at_293) rfl rfl ?_
          refine i_iconst (pc' := 296) (4 : Int32) X30 hx (hb hby at_295) rfl (by decide) ?_
          refine i_icT (pc' := 315) X30 hx (hb hby at_296) (XT.ii_le_t (by decide)) (by decide) (by decide) ?_
          have hend : ¬ g30 (K + 3) < 0 := by
            rw [show g30 (K + 3) = ((((XT.ushr v1 (21 : Int32)) &&& (127 : Int32)) ||| (0 : Int32)).toInt8.toInt32) from (by simp only [hg30, hg29, hg28, hg27]; simp), own_or0]
            exact (own_low (own_w v1 21 21 hV (by decide) (by decide)).2).1
          have hbd : v1.toInt < 268435456 := by
            have q := (own_lt _ _).mp hc26
            have c : (268435456 : Int32).toInt = 268435456 := by decide
            omega
          refine i_aload (v := (.ref b3)) (pc' := 317) X30 hx (hb hby at_315) rfl rfl rfl ?_
          refine i_iload (v := v2) (pc' := 319) X30 hx (hb hby at_317) rfl rfl ?_
          refine cS (y := (⟨"com/example/rangewright/rangewright/storage/Codec", "lengthAt", "([BI)I"⟩ : MethodName)) (rest := []) (pc' := 322) 0 [(.ref b3), (.int v2)] X30 hx hZ hown (hw _ (List.mem_of_getElem? (i := 2) rfl)) (hw _ (List.mem_of_getElem? (i := 3) rfl)) (hw _ (List.mem_of_getElem? (i := 4) rfl)) (hw _ (List.mem_of_getElem? (i := 5) rfl)) (by decide) (rm1 l Z a0 hw [] b3 v2 K g30 n0 h30 X30.le A30 hO hK3 (fun _ _ _ q => absurd q hend)) (by decide) (by decide) (by rw [hml]; rfl) rfl (lenOf pd0 rfl) rfl (Nat.le_of_eq rfl) (hb hby at_319) rfl (by decide) (by decide) ?_
          intro r31 T31 h31 X31 q31
          obtain ⟨rfl, eh31⟩ := q31
          subst eh31
          show Go _ _ _ _ _ _ _ T31 (mkF m 322 #[.val (.int p1), .val (.int p2), .val (.int p3), .val (.long p4), .second, .val (.int v1), .val (.int v2), .val (.ref b3), .val (.int (4 : Int32))] [(.int (own_rd (g30 K) (g30 (K + 1)) (g30 (K + 2)) (g30 (K + 3)) (g30 (K + 4))))])
          refine i_iload (v := v1) (pc' := 324) X31 hx (hb hby at_322) rfl rfl ?_
          refine i_icF (pc' := 327) X31 hx (hb hby at_324) rfl (XT.ii_ne_f (own_v4 (v := v1) (b0 := g30 K) (b1 := g30 (K + 1)) (b2 := g30 (K + 2)) (b3 := g30 (K + 3)) (b4 := g30 (K + 4)) hV hbd (by simp only [hg30, hg29, hg28, hg27]; simp) (by simp only [hg30, hg29, hg28, hg27]; simp) (by simp only [hg30, hg29, hg28, hg27]; simp) (by simp only [hg30, hg29, hg28, hg27]; simp))) ?_
          refine i_iconst (pc' := 328) (1 : Int32) X31 hx (hb hby at_327) rfl (by decide) ?_
          refine i_goto (pc' := 332) X31 hx (hb hby at_328) (by decide) (by decide) ?_
          refine rN X31 hx hlk hret (by simp) (hb hby at_332) (by decide) (by decide) ?_
          exact rfl
        · skip
          refine i_icT (pc' := 157) X13 hx (hb hby at_150) (XT.ii_ge_t hc26) (by decide) (by decide) ?_
          refine i_iconst (pc' := 158) (5 : Int32) X13 hx (hb hby at_157) rfl (by decide) ?_
          refine i_istore (L' := #[.val (.int p1), .val (.int p2), .val (.int p3), .val (.long p4), .second, .val (.int v1), .val (.int v2), .val (.ref b3), .val (.int (5 : Int32))]) (pc' := 160) X13 hx (hb hby at_158) rfl rfl ?_
          refine i_aload (v := (.ref b3)) (pc' := 162) X13 hx (hb hby at_160) rfl rfl rfl ?_
          refine i_iload (v := v2) (pc' := 164) X13 hx (hb hby at_162) rfl rfl ?_
          refine i_iload (v := v1) (pc' := 166) X13 hx (hb hby at_164) rfl rfl ?_
          refine i_bipush (pc' := 168) (127 : Int32) X13 hx (hb hby at_166) rfl (by decide) ?_
          refine i_iand (pc' := 169) X13 hx (hb hby at_168) rfl ?_
          refine i_iload (v := (5 : Int32)) (pc' := 171) X13 hx (hb hby at_169) rfl rfl ?_
          refine i_iconst (pc' := 172) (1 : Int32) X13 hx (hb hby at_171) rfl (by decide) ?_
          refine i_icF (pc' := 175) X13 hx (hb hby at_172) rfl (XT.ii_le_f (by decide)) ?_
          refine i_sipush (pc' := 178) (128 : Int32) X13 hx (hb hby at_175) rfl (by decide) ?_
          refine i_goto (pc' := 182) X13 hx (hb hby at_178) (by decide) (by decide) ?_
          refine i_ior (pc' := 183) X13 hx (hb hby at_182) rfl ?_
          refine i_i2b (pc' := 184) X13 hx (hb hby at_183) rfl ?_
          refine saB (pc' := 185) X13 hx hZ A13 ge3 (own_in (k := K) hO (by omega)).1 (own_in (k := K) hO (by omega)).2.1 (hb hby at_184) rfl fun T32 h32 X32 W32 => ?_
          obtain ⟨g32, hg32, A32⟩ : ∃ g : Nat → Int32, (∀ i, g i = if i = K then (((v1 &&& (127 : Int32)) ||| (128 : Int32)).toInt8.toInt32) else g13 i) ∧ Av Z h32 b3 .byte 10 (fun i => .int (g i)) := ⟨_, fun _ => rfl, (own_stBB (k := K) (g := g13) (own_in hO (by omega)).2.2 A13 W32)⟩
          refine i_iload (v := (5 : Int32)) (pc' := 187) X32 hx (hb hby at_185) rfl rfl ?_
          refine i_iconst (pc' := 188) (1 : Int32) X32 hx (hb hby at_187) rfl (by decide) ?_
          refine i_icF (pc' := 191) X32 hx (hb hby at_188) rfl (XT.ii_le_f (by decide)) ?_
          refine i_aload (v := (.ref b3)) (pc' := 193) X32 hx (hb hby at_191) rfl rfl rfl ?_
          refine i_iload (v := v2) (pc' := 195) X32 hx (hb hby at_193) rfl rfl ?_
          refine i_iconst (pc' := 196) (1 : Int32) X32 hx (hb hby at_195) rfl (by decide) ?_
          refine i_iadd (pc' := 197) X32 hx (hb hby at_196) rfl ?_
          refine i_iload (v := v1) (pc' := 199) X32 hx (hb hby at_197) rfl rfl ?_
          refine i_bipush (pc' := 201) (7 : Int32) X32 hx (hb hby at_199) rfl (by decide) ?_
          refine i_iushr (pc' := 202) X32 hx (hb hby at_201) rfl ?_
          refine i_bipush (pc' := 204) (127 : Int32) X32 hx (hb hby at_202) rfl (by decide) ?_
          refine i_iand (pc' := 205) X32 hx (hb hby at_204) rfl ?_
          refine i_iload (v := (5 : Int32)) (pc' := 207) X32 hx (hb hby at_205) rfl rfl ?_
          refine i_iconst (pc' := 208) (2 : Int32) X32 hx (hb hby at_207) rfl (by decide) ?_
          refine i_icF (pc' := 211) X32 hx (hb hby at_208) rfl (XT.ii_le_f (by decide)) ?_
          refine i_sipush (pc' := 214) (128 : Int32) X32 hx (hb hby at_211) rfl (by decide) ?_
          refine i_goto (pc' := 218) X32 hx (hb hby at_214) (by decide) (by decide) ?_
          refine i_ior (pc' := 219) X32 hx (hb hby at_218) rfl ?_
          refine i_i2b (pc' := 220) X32 hx (hb hby at_219) rfl ?_
          refine saB (pc' := 221) X32 hx hZ A32 ge3 (own_in (k := (K + 1)) (own_oj hO hK3 (n := 1) (by decide) (by decide)) (by omega)).1 (own_in (k := (K + 1)) (own_oj hO hK3 (n := 1) (by decide) (by decide)) (by omega)).2.1 (hb hby at_220) rfl fun T33 h33 X33 W33 => ?_
          obtain ⟨g33, hg33, A33⟩ : ∃ g : Nat → Int32, (∀ i, g i = if i = (K + 1) then ((((XT.ushr v1 (7 : Int32)) &&& (127 : Int32)) ||| (128 : Int32)).toInt8.toInt32) else g32 i) ∧ Av Z h33 b3 .byte 10 (fun i => .int (g i)) := ⟨_, fun _ => rfl, (own_stBB (k := (K + 1)) (g := g32) (own_in (own_oj hO hK3 (n := 1) (by decide) (by decide)) (by omega)).2.2 A32 W33)⟩
          refine i_iload (v := (5 : Int32)) (pc' := 223) X33 hx (hb hby at_221) rfl rfl ?_
          refine i_iconst (pc' := 224) (2 : Int32) X33 hx (hb hby at_223) rfl (by decide) ?_
          refine i_icF (pc' := 227) X33 hx (hb hby at_224) rfl (XT.ii_le_f (by decide)) ?_
          refine i_aload (v := (.ref b3)) (pc' := 229) X33 hx (hb hby at_227) rfl rfl rfl ?_
          refine i_iload (v := v2) (pc' := 231) X33 hx (hb hby at_229) rfl rfl ?_
          refine i_iconst (pc' := 232) (2 : Int32) X33 hx (hb hby at_231) rfl (by decide) ?_
          refine i_iadd (pc' := 233) X33 hx (hb hby at_232) rfl ?_
          refine i_iload (v := v1) (pc' := 235) X33 hx (hb hby at_233) rfl rfl ?_
          refine i_bipush (pc' := 237) (14 : Int32) X33 hx (hb hby at_235) rfl (by decide) ?_
          refine i_iushr (pc' := 238) X33 hx (hb hby at_237) rfl ?_
          refine i_bipush (pc' := 240) (127 : Int32) X33 hx (hb hby at_238) rfl (by decide) ?_
          refine i_iand (pc' := 241) X33 hx (hb hby at_240) rfl ?_
          refine i_iload (v := (5 : Int32)) (pc' := 243) X33 hx (hb hby at_241) rfl rfl ?_
          refine i_iconst (pc' := 244) (3 : Int32) X33 hx (hb hby at_243) rfl (by decide) ?_
          refine i_icF (pc' := 247) X33 hx (hb hby at_244) rfl (XT.ii_le_f (by decide)) ?_
          refine i_sipush (pc' := 250) (128 : Int32) X33 hx (hb hby at_247) rfl (by decide) ?_
          refine i_goto (pc' := 254) X33 hx (hb hby at_250) (by decide) (by decide) ?_
          refine i_ior (pc' := 255) X33 hx (hb hby at_254) rfl ?_
          refine i_i2b (pc' := 256) X33 hx (hb hby at_255) rfl ?_
          refine saB (pc' := 257) X33 hx hZ A33 ge3 (own_in (k := (K + 2)) (own_oj hO hK3 (n := 2) (by decide) (by decide)) (by omega)).1 (own_in (k := (K + 2)) (own_oj hO hK3 (n := 2) (by decide) (by decide)) (by omega)).2.1 (hb hby at_256) rfl fun T34 h34 X34 W34 => ?_
          obtain ⟨g34, hg34, A34⟩ : ∃ g : Nat → Int32, (∀ i, g i = if i = (K + 2) then ((((XT.ushr v1 (14 : Int32)) &&& (127 : Int32)) ||| (128 : Int32)).toInt8.toInt32) else g33 i) ∧ Av Z h34 b3 .byte 10 (fun i => .int (g i)) := ⟨_, fun _ => rfl, (own_stBB (k := (K + 2)) (g := g33) (own_in (own_oj hO hK3 (n := 2) (by decide) (by decide)) (by omega)).2.2 A33 W34)⟩
          refine i_iload (v := (5 : Int32)) (pc' := 259) X34 hx (hb hby at_257) rfl rfl ?_
          refine i_iconst (pc' := 260) (3 : Int32) X34 hx (hb hby at_259) rfl (by decide) ?_
          refine i_icF (pc' := 263) X34 hx (hb hby at_260) rfl (XT.ii_le_f (by decide)) ?_
          refine i_aload (v := (.ref b3)) (pc' := 265) X34 hx (hb hby at_263) rfl rfl rfl ?_
          refine i_iload (v := v2) (pc' := 267) X34 hx (hb hby at_265) rfl rfl ?_
          refine i_iconst (pc' := 268) (3 : Int32) X34 hx (hb hby at_267) rfl (by decide) ?_
          refine i_iadd (pc' := 269) X34 hx (hb hby at_268) rfl ?_
          refine i_iload (v := v1) (pc' := 271) X34 hx (hb hby at_269) rfl rfl ?_
          refine i_bipush (pc' := 273) (21 : Int32) X34 hx (hb hby at_271) rfl (by decide) ?_
          refine i_iushr (pc' := 274) X34 hx (hb hby at_273) rfl ?_
          refine i_bipush (pc' := 276) (127 : Int32) X34 hx (hb hby at_274) rfl (by decide) ?_
          refine i_iand (pc' := 277) X34 hx (hb hby at_276) rfl ?_
          refine i_iload (v := (5 : Int32)) (pc' := 279) X34 hx (hb hby at_277) rfl rfl ?_
          refine i_iconst (pc' := 280) (4 : Int32) X34 hx (hb hby at_279) rfl (by decide) ?_
          refine i_icF (pc' := 283) X34 hx (hb hby at_280) rfl (XT.ii_le_f (by decide)) ?_
          refine i_sipush (pc' := 286) (128 : Int32) X34 hx (hb hby at_283) rfl (by decide) ?_
          refine i_goto (pc' := 290) X34 hx (hb hby at_286) (by decide) (by decide) ?_
          refine i_ior (pc' := 291) X34 hx (hb hby at_290) rfl ?_
          refine i_i2b (pc' := 292) X34 hx (hb hby at_291) rfl ?_
          refine saB (pc' := 293) X34 hx hZ A34 ge3 (own_in (k := (K + 3)) (own_oj hO hK3 (n := 3) (by decide) (by decide)) (by omega)).1 (own_in (k := (K + 3)) (own_oj hO hK3 (n := 3) (by decide) (by decide)) (by omega)).2.1 (hb hby at_292) rfl fun T35 h35 X35 W35 => ?_
          obtain ⟨g35, hg35, A35⟩ : ∃ g : Nat → Int32, (∀ i, g i = if i = (K + 3) then ((((XT.ushr v1 (21 : Int32)) &&& (127 : Int32)) ||| (128 : Int32)).toInt8.toInt32) else g34 i) ∧ Av Z h35 b3 .byte 10 (fun i => .int (g i)) := ⟨_, fun _ => rfl, (own_stBB (k := (K + 3)) (g := g34) (own_in (own_oj hO hK3 (n := 3) (by decide) (by decide)) (by omega)).2.2 A34 W35)⟩
          refine i_iload (v := (5 : Int32)) (pc' := 295) X35 hx (hb hby at_293) rfl rfl ?_
          refine i_iconst (pc' := 296) (4 : Int32) X35 hx (hb hby at_295) rfl (by decide) ?_
          refine i_icF (pc' := 299) X35 hx (hb hby at_296) rfl (XT.ii_le_f (by decide)) ?_
          refine i_aload (v := (.ref b3)) (pc' := 301) X35 hx (hb hby at_299) rfl rfl rfl ?_
          refine i_iload (v := v2) (pc' := 303) X35 hx (hb hby at_301) rfl rfl ?_
          refine i_iconst (pc' := 304) (4 : Int32) X35 hx (hb hby at_303) rfl (by decide) ?_
          refine i_iadd (pc' := 305) X35 hx (hb hby at_304) rfl ?_
          refine i_iload (v := v1) (pc' := 307) X35 hx (hb hby at_305) rfl rfl ?_
          refine i_bipush (pc' := 309) (28 : Int32) X35 hx (hb hby at_307) rfl (by decide) ?_
          refine i_iushr (pc' := 310) X35 hx (hb hby at_309) rfl ?_
          refine i_bipush (pc' := 312) (127 : Int32) X35 hx (hb hby at_310) rfl (by decide) ?_
          refine i_iand (pc' := 313) X35 hx (hb hby at_312) rfl ?_
          refine i_i2b (pc' := 314) X35 hx (hb hby at_313) rfl ?_
          refine saB (pc' := 315) X35 hx hZ A35 ge3 (own_in (k := (K + 4)) (own_oj hO hK3 (n := 4) (by decide) (by decide)) (by omega)).1 (own_in (k := (K + 4)) (own_oj hO hK3 (n := 4) (by decide) (by decide)) (by omega)).2.1 (hb hby at_314) rfl fun T36 h36 X36 W36 => ?_
          obtain ⟨g36, hg36, A36⟩ : ∃ g : Nat → Int32, (∀ i, g i = if i = (K + 4) then (((XT.ushr v1 (28 : Int32)) &&& (127 : Int32)).toInt8.toInt32) else g35 i) ∧ Av Z h36 b3 .byte 10 (fun i => .int (g i)) := ⟨_, fun _ => rfl, (own_stBB (k := (K + 4)) (g := g35) (own_in (own_oj hO hK3 (n := 4) (by decide) (by decide)) (by omega)).2.2 A35 W36)⟩
          refine i_aload (v := (.ref b3)) (pc' := 317) X36 hx (hb hby at_315) rfl rfl rfl ?_
          refine i_iload (v := v2) (pc' := 319) X36 hx (hb hby at_317) rfl rfl ?_
          refine cS (y := (⟨"com/example/rangewright/rangewright/storage/Codec", "lengthAt", "([BI)I"⟩ : MethodName)) (rest := []) (pc' := 322) 0 [(.ref b3), (.int v2)] X36 hx hZ hown (hw _ (List.mem_of_getElem? (i := 2) rfl)) (hw _ (List.mem_of_getElem? (i := 3) rfl)) (hw _ (List.mem_of_getElem? (i := 4) rfl)) (hw _ (List.mem_of_getElem? (i := 5) rfl)) (by decide) (rm1 l Z a0 hw [] b3 v2 K g36 n0 h36 X36.le A36 hO hK3 (fun _ _ _ _ => (own_v5 (v := v1) (b0 := g36 K) (b1 := g36 (K + 1)) (b2 := g36 (K + 2)) (b3 := g36 (K + 3)) (b4 := g36 (K + 4)) hV (by simp only [hg36, hg35, hg34, hg33, hg32]; simp) (by simp only [hg36, hg35, hg34, hg33, hg32]; simp) (by simp only [hg36, hg35, hg34, hg33, hg32]; simp) (by simp only [hg36, hg35, hg34, hg33, hg32]; simp) (by simp only [hg36, hg35, hg34, hg33, hg32]; simp)).2)) (by decide) (by decide) (by rw [hml]; rfl) rfl (lenOf pd0 rfl) rfl (Nat.le_of_eq rfl) (hb hby at_319) rfl (by decide) (by decide) ?_
          intro r37 T37 h37 X37 q37
          obtain ⟨rfl, eh37⟩ := q37
          subst eh37
          show Go _ _ _ _ _ _ _ T37 (mkF m 322 #[.val (.int p1), .val (.int p2), .val (.int p3), .val (.long p4), .second, .val (.int v1), .val (.int v2), .val (.ref b3), .val (.int (5 : Int32))] [(.int (own_rd (g36 K) (g36 (K + 1)) (g36 (K + 2)) (g36 (K + 3)) (g36 (K + 4))))])
          refine i_iload (v := v1) (pc' := 324) X37 hx (hb hby at_322) rfl rfl ?_
          refine i_icF (pc' := 327) X37 hx (hb hby at_324) rfl (XT.ii_ne_f (own_v5 (v := v1) (b0 := g36 K) (b1 := g36 (K + 1)) (b2 := g36 (K + 2)) (b3 := g36 (K + 3)) (b4 := g36 (K + 4)) hV (by simp only [hg36, hg35, hg34, hg33, hg32]; simp) (by simp only [hg36, hg35, hg34, hg33, hg32]; simp) (by simp only [hg36, hg35, hg34, hg33, hg32]; simp) (by simp only [hg36, hg35, hg34, hg33, hg32]; simp) (by simp only [hg36, hg35, hg34, hg33, hg32]; simp)).1) ?_
          refine i_iconst (pc' := 328) (1 : Int32) X37 hx (hb hby at_327) rfl (by decide) ?_
          refine i_goto (pc' := 332) X37 hx (hb hby at_328) (by decide) (by decide) ?_
          refine rN X37 hx hlk hret (by simp) (hb hby at_332) (by decide) (by decide) ?_
          exact rfl
set_option maxRecDepth 65536 in
set_option maxHeartbeats 40000000 in
theorem comes_1 {Post : Tables → Env → Array Value → State → Outcome → State → Prop} (hpost : ∀ tb e args s v u, (limb_1_1.after args s (.returned v) u = true ∧ limb_1_2.after args s (.returned v) u = true ∧ True) → FrameEnd s (.returned v) u (Jvm.fieldLocs frame_1_writes args s ++ Jvm.arrayLocs frame_1_arrays args s ++ Jvm.staticLocs frame_1_statics s) 16 128 → Post tb e args s (.returned v) u) :
    ArmFor flags0 classFile x code maxLocals ret World_1 tables_1 room_1 Calls_1 rest_1 Pre_1 Post := by
  intro l hfl _ _ p e ha hc hk s m args below hf hA hF happ hP
  obtain ⟨hcalls, hrest, hpre⟩ := hP
  obtain ⟨-, -, -, hnamed, -, -, -, hat⟩ := (Spec.applies_iff hf).mp happ
  obtain ⟨hg, hn⟩ := and_e (Cond.before_iff.mp (show (Jvm.Cond.and given_1 narrow_1).before args s = true from hpre))
  obtain ⟨g0, k0⟩ := and_e hg
  obtain ⟨g1, k1⟩ := and_e k0
  obtain ⟨g2, k2⟩ := and_e k1
  obtain ⟨g3, k3⟩ := and_e k2
  obtain ⟨w0, w1, w2, w3, rfl⟩ : ∃ w0 w1 w2 w3 : Value, args = #[w0, w1, w2, w3] := by
    have hs : args.size = 4 := by simpa [Cond.value, given_1] using g0
    obtain ⟨L⟩ := args
    match L, hs with
    | [w0, w1, w2, w3], _ => exact ⟨w0, w1, w2, w3, rfl⟩
  have hw := fun d (hd : d ∈ tables_1) => atoms_spec (ws := Jvm.Cond.code x code maxLocals ret :: tables_1) hat d (List.mem_cons_of_mem _ hd)
  have hfit : Fit s := fun {y c} hc i hi => by
    obtain ⟨ha, rfl⟩ := Array.getElem?_eq_some_iff.mp hc
    have q := List.all_eq_true.mp ((Array.all_eq_true_iff_forall_mem.mp hF) _ (Array.getElem_mem ha)) i (List.mem_range.mpr hi)
    simpa [Array.getElem?_eq_getElem hi] using q
  obtain ⟨i0, ei0⟩ := is_v g1
  obtain rfl : w0 = (.int i0) := Option.some.inj ei0
  obtain ⟨i1, ei1⟩ := is_v g2
  obtain rfl : w1 = (.int i1) := Option.some.inj ei1
  obtain ⟨i2, ei2⟩ := is_v g3
  obtain rfl : w2 = (.int i2) := Option.some.inj ei2
  obtain ⟨i3, ei3⟩ := isL_v k3
  obtain rfl : w3 = (.long i3) := Option.some.inj ei3
  obtain ⟨n, o, h1, h2, h3, _, L, rfl, ⟨rfl, N⟩, hq⟩ := rm0 l s _ hw tables_1 i0 i1 i2 i3 s.heap.size s.heap (Nat.le_refl _)  p e ha hc hk s m _ below hf ((Spec.applies_iff_loose hf).mp happ).1 ⟨rfl, State.Warmed39.refl s, rfl⟩ trivial
  refine ⟨n, _, h1, h2, h3, hpost _ _ _ _ _ _ ⟨Cond.after_iff.mpr rfl, Cond.after_iff.mpr (eq_i res_at (Term.int_eval (1)) rfl), trivial⟩ ⟨hq.1, hq.2.1, (hq.2.2.sift fun y hy => Or.inr (N y hy)).mono (by decide) (by decide)⟩⟩
theorem main_1_1 : Claimed_1_1 := comes_1 fun _ _ _ _ _ _ h hF => ⟨h.1, hF⟩
theorem main_1_2 : Claimed_1_2 := comes_1 fun _ _ _ _ _ _ h hF => ⟨h.2.1, hF⟩
end Jvm.Pilot.@@N@@
namespace Jvm.Pilot.@@N@@
open Jvm Jvm.ClassFile Sem Op Lib Jvm.Free Jvm.Stand Jvm.Pilot.@@N@@.Jvm.D
/-! MADE BY PROGRAM (witnessworld.py) out of the Statement's table words and the real class files: 9 classes; the members and pool entries that the words name. The judged class is class 1, her method 1. -/
namespace start1
open Jvm.ClassFile
def u (s : String) : CpInfo := .utf8 (stringToUtf16 s)
/-- a pool by its gaps: so many unusable entries, then the entry; so many at the end -/
def gap : Nat → List CpInfo → List CpInfo
  | 0, r => r
  | n + 1, r => .unusable :: gap n r
def poolList (es : List (Nat × CpInfo)) (last : Nat) : List CpInfo := es.foldr (fun e r => gap e.1 (e.2 :: r)) (gap last [])
def pool (es : List (Nat × CpInfo)) (last : Nat) : Array CpInfo := ⟨poolList es last⟩
def fileOf (pool : Array CpInfo) (this : Nat) (attrs : Array Attribute := #[]) (ms : Array MethodInfo := #[]) (fl : Nat := 33) (sup : Nat := 0) (ifs : Array Nat := #[]) (fds : Array FieldInfo := #[]) : ClassFile where
  minorVersion := 0
  majorVersion := 65
  constantPool := pool
  accessFlags := fl
  thisClass := this
  superClass := sup
  interfaces := ifs
  fields := fds
  methods := ms
  attributes := attrs
def plain (name : String) (sup : Option ClassId) : Class where
  name := name
  kind := .ordinary
  loader := none
  accessFlags := 33
  super := sup
  interfaces := #[]
  cf := none
  fields := #[]
  methods := #[]
  instanceTypes := #[]
  staticTypes := #[]
  resolved := #[]
  callSites := []
  init := .initialized
  statics := none
  mirror := none

def pool0 : Array CpInfo := pool [(5, u "<init>"), (0, u "()V"), (1, .class_ 10), (1, u "java/lang/Object")] 113

def k0m0 : Method := { name := "<init>", desc := "()V", sig := { parameters := [], returnType := none }, accessFlags := 1, code := none }
/-- java/lang/Object -/
def k0 : Class := { plain "java/lang/Object" none with
  accessFlags := 33
  interfaces := #[]
  cf := some (fileOf pool0 8 #[] #[{ accessFlags := 1, nameIndex := 5, descriptorIndex := 6, attributes := #[] }] 33 0 #[] #[])
  fields := #[]
  methods := #[k0m0]
  instanceTypes := #[]
  staticTypes := #[]
  resolved := Array.replicate 124 none
  statics := none }

def pool1 : Array CpInfo := pool [(2, .class_ 4), (1, u "java/lang/Object"), (0, u "<init>"), (0, u "()V"), (0, .integer 2147483647), (0, .integer 2097152), (0, .integer 268435456), (0, .methodref 11 12), (0, .class_ 13), (0, .nameAndType 14 15), (0, u "com/example/rangewright/rangewright/storage/Codec"), (0, u "lengthAt"), (0, u "([BI)I"), (0, .class_ 17), (0, u "com/example/rangewright/rangewright/storage/CodecLengthAtPinLaw"), (2, u "law"), (0, u "(IIIJ)Z")] 5

def k1m0 : Method := { name := "<init>", desc := "()V", sig := { parameters := [], returnType := none }, accessFlags := 2, code := none }
def k1c1 : Code := { maxStack := 5, maxLocals := 9, code := code, exceptionTable := #[], attributes := #[] }
def k1m1 : Method := { name := "law", desc := "(IIIJ)Z", sig := { parameters := [.int, .int, .int, .long], returnType := some .boolean }, accessFlags := 9, code := some k1c1 }
/-- com/example/rangewright/rangewright/storage/CodecLengthAtPinLaw -/
def k1 : Class := { plain "com/example/rangewright/rangewright/storage/CodecLengthAtPinLaw" (some 0) with
  accessFlags := 49
  interfaces := #[]
  cf := some (fileOf pool1 16 #[] #[{ accessFlags := 2, nameIndex := 5, descriptorIndex := 6, attributes := #[] }, { accessFlags := 9, nameIndex := 20, descriptorIndex := 21, attributes := #[] }] 49 2 #[] #[])
  fields := #[]
  methods := #[k1m0, k1m1]
  instanceTypes := #[]
  staticTypes := #[]
  resolved := Array.replicate 27 none
  statics := none }

def pool2 : Array CpInfo := pool [(2, .class_ 4), (1, u "java/lang/Object"), (0, u "<init>"), (0, u "()V"), (1, .class_ 10), (1, u "com/example/rangewright/rangewright/storage/Codec"), (99, u "lengthAt"), (0, u "([BI)I")] 3

def k2m0 : Method := { name := "<init>", desc := "()V", sig := { parameters := [], returnType := none }, accessFlags := 2, code := none }
def k2c1 : Code := { maxStack := 3, maxLocals := 5, code := prog_24_method_10_code, exceptionTable := #[], attributes := #[] }
def k2m1 : Method := { name := "lengthAt", desc := "([BI)I", sig := { parameters := [(.array .byte), .int], returnType := some .int }, accessFlags := 8, code := some k2c1 }
/-- com/example/rangewright/rangewright/storage/Codec -/
def k2 : Class := { plain "com/example/rangewright/rangewright/storage/Codec" (some 0) with
  accessFlags := 32
  interfaces := #[]
  cf := some (fileOf pool2 8 #[] #[{ accessFlags := 2, nameIndex := 5, descriptorIndex := 6, attributes := #[] }, { accessFlags := 8, nameIndex := 110, descriptorIndex := 111, attributes := #[] }] 32 2 #[] #[])
  fields := #[]
  methods := #[k2m0, k2m1]
  instanceTypes := #[]
  staticTypes := #[]
  resolved := Array.replicate 115 none
  statics := none }

def pool3 : Array CpInfo := pool [(1, u "java/lang/Cloneable"), (0, .class_ 1), (0, u "java/lang/Object"), (0, .class_ 3)] 3

/-- java/lang/Cloneable -/
def k3 : Class := { plain "java/lang/Cloneable" (some 0) with
  accessFlags := 1537
  interfaces := #[]
  cf := some (fileOf pool3 2 #[] #[] 1537 4 #[] #[])
  fields := #[]
  methods := #[]
  instanceTypes := #[]
  staticTypes := #[]
  resolved := Array.replicate 8 none
  statics := none }

def pool4 : Array CpInfo := pool [(1, u "java/io/Serializable"), (0, .class_ 1), (0, u "java/lang/Object"), (0, .class_ 3)] 3

/-- java/io/Serializable -/
def k4 : Class := { plain "java/io/Serializable" (some 0) with
  accessFlags := 1537
  interfaces := #[]
  cf := some (fileOf pool4 2 #[] #[] 1537 4 #[] #[])
  fields := #[]
  methods := #[]
  instanceTypes := #[]
  staticTypes := #[]
  resolved := Array.replicate 8 none
  statics := none }

/-- the primitive byte -/
def k5 : Class := { plain "byte" none with kind := .primitive 'B', accessFlags := 0x411 }
/-- [B -/
def k6 : Class := { plain "[B" (some 0) with kind := .array 5 .byte, interfaces := #[3, 4], accessFlags := 1041 }

/-- the primitive int -/
def k7 : Class := { plain "int" none with kind := .primitive 'I', accessFlags := 0x411 }
/-- [I -/
def k8 : Class := { plain "[I" (some 0) with kind := .array 7 .int, interfaces := #[3, 4], accessFlags := 1041 }

def heap : Heap := #[]
def classes : Array Class := #[k0, k1, k2, k3, k4, k5, k6, k7, k8]
def interned : List (Array UInt16 × Addr) := []
def slotsUsed : Nat := 0
def theMethod : MethodId := ⟨1, 1⟩
def args0 : Array Value := #[.int 300, .int 2, .int 77, .long 5]
def aboutOver (below : List Frame) : State where
  vm := { classes := classes, interned := interned.toArray }
  heap := heap
  slotsUsed := slotsUsed
  threads := #[{ frames := .invoking theMethod args0 :: below }]
def below0 : List Frame := [.native { method := ⟨0, 0⟩, args := #[] }]
def about1 : State := aboutOver below0
def p0 : Program := .bare "" "" ""
def e0 : Env := launch0.env 0 0 0
theorem w_frames : about1.frames = Frame.invoking theMethod args0 :: below0 := rfl
set_option maxRecDepth 65536 in
theorem w_args : argsFit about1.vm theMethod args0 = true := by decide +kernel
set_option maxRecDepth 65536 in
theorem w_heap : heapFits about1 = true := by decide +kernel
set_option maxRecDepth 65536 in
theorem w_runnable : about1.curStatus? = some .runnable := by decide +kernel
set_option maxRecDepth 65536 in
theorem w_alone : about1.alone = true := by decide +kernel
set_option maxRecDepth 65536 in
theorem w_named : about1.methodNamed? x = some theMethod := by decide +kernel
set_option maxRecDepth 65536 in
theorem w_hears : about1.hears theMethod below0 = true := by decide +kernel
set_option maxRecDepth 65536 in
theorem w_ripe : about1.ripe theMethod args0 below0 = true := by decide +kernel
theorem w_running : about1.status = .running := rfl
set_option maxRecDepth 65536 in
theorem w_room : about1.hasRoom e0.platform room_1 = true :=
  launch0.hasRoom_least _ room_1 (by decide +kernel) (by decide +kernel) (by decide +kernel) (by decide +kernel) (by decide +kernel) (by decide +kernel)
theorem allAtoms_all (ts : List Jvm.Cond) (a : Array Jvm.Value) (st : Jvm.State) : (allAtoms ts).before a st = ts.all (fun c => c.before a st) := by
  induction ts with
  | nil => rfl
  | cons c t ih =>
    show (Jvm.Cond.and c (allAtoms t)).before a st = _
    rw [Jvm.Cond.before_and, ih, List.all_cons]
def words1 : List Jvm.Cond := Jvm.Cond.code x code maxLocals ret :: tables_1
/-- a 'code' word, met by the world's own term for the bytes: nothing is compared byte by byte -/
theorem code_word {y : MethodName} {bytes : ByteArray} {mx : Nat} {rt : Option FieldType} {a : Array Value} {s : State} {m : MethodId} {meth : Method} {c : Code} (h1 : s.methodNamed? y = some m) (h2 : s.vm.method? m = some meth) (h3 : meth.code = some c) (h4 : c.code = bytes)
    (h5 : (c.maxLocals == mx && c.exceptionTable.isEmpty && decide (c.maxStack ≤ mostOperands) && decide (meth.sig.returnType = rt) && !meth.locks && decide (parseMethodDescriptor y.desc = some meth.sig)) = true) : (Jvm.Cond.code y bytes mx rt).before a s = true := by
  simp only [Bool.and_eq_true, beq_iff_eq, Bool.not_eq_true', decide_eq_true_eq] at h5
  obtain ⟨⟨⟨⟨⟨g1, g2⟩, g3⟩, g4⟩, g5⟩, g6⟩ := h5
  simp [Cond.before, Cond.holds, Cond.value, h1, h2, h3, h4, g1, g2, g3, g4, g5, g6]
def isCode : Jvm.Cond → Bool
  | .code _ _ _ _ => true
  | _ => false
theorem all_split {L : List Jvm.Cond} {P : Jvm.Cond → Bool} (h1 : L.all (fun c => isCode c || P c) = true) (h2 : ∀ c ∈ L.filter isCode, P c = true) : L.all P = true := by
  refine List.all_eq_true.mpr fun c hc => ?_
  have h := List.all_eq_true.mp h1 c hc
  rcases Bool.eq_false_or_eq_true (isCode c) with hi | hi
  · exact h2 c (List.mem_filter.mpr ⟨hc, hi⟩)
  · simpa [hi] using h
set_option maxRecDepth 65536 in
theorem w_c0 : (Jvm.Cond.code x code maxLocals ret).before args0 about1 = true := code_word (m := ⟨1, 1⟩) (meth := k1m1) (c := k1c1) (by decide +kernel) rfl rfl rfl (by decide +kernel)
set_option maxRecDepth 65536 in
theorem w_c1 : (Jvm.Cond.code ({ cls := "com/example/rangewright/rangewright/storage/Codec", name := "lengthAt", desc := "([BI)I" } : Jvm.MethodName) prog_24_method_10_code (5 : Nat) (Option.some Jvm.ClassFile.FieldType.int)).before args0 about1 = true := code_word (m := ⟨2, 1⟩) (meth := k2m1) (c := k2c1) (by decide +kernel) rfl rfl rfl (by decide +kernel)
def codes1 : List Jvm.Cond := [Jvm.Cond.code x code maxLocals ret, Jvm.Cond.code ({ cls := "com/example/rangewright/rangewright/storage/Codec", name := "lengthAt", desc := "([BI)I" } : Jvm.MethodName) prog_24_method_10_code (5 : Nat) (Option.some Jvm.ClassFile.FieldType.int)]
set_option maxRecDepth 65536 in
theorem codes_eq : words1.filter isCode = codes1 := rfl
theorem w_codes : ∀ c ∈ words1.filter isCode, c.before args0 about1 = true := by
  rw [codes_eq]
  intro c hc
  simp only [codes1, List.mem_cons, List.not_mem_nil, or_false] at hc
  rcases hc with rfl | rfl
  · exact w_c0
  · exact w_c1
set_option maxRecDepth 65536 in
theorem w_t1 : words1.all (fun c => isCode c || c.before args0 about1) = true := by decide +kernel
theorem w_tables : (allAtoms (Jvm.Cond.code x code maxLocals ret :: tables_1)).before args0 about1 = true := by
  rw [allAtoms_all]
  show words1.all (fun c => c.before args0 about1) = true
  refine all_split ?_ w_codes
  rw [w_t1]
set_option maxRecDepth 65536 in
theorem w_case : (Jvm.Cond.and given_1 narrow_1).before args0 about1 = true := by decide +kernel
theorem w_applies : (headSpec (Jvm.Cond.code x code maxLocals ret :: tables_1) room_1).applies x e0.platform about1 = true :=
  (Spec.applies_iff w_frames).mpr ⟨w_running, w_runnable, w_alone, w_named, w_hears, w_ripe, w_room, w_tables⟩
theorem atStart : AtStart classFile x code maxLocals ret World_1 tables_1 room_1 Calls_1 rest_1 Pre_1 launch0 p0 e0 about1 theMethod args0 below0 :=
  ⟨lists_1, trivial, launch0.admits_env _ _ _, launch0.least_env, fairChoices_fair.cas, fairChoices_fair.clock, w_frames, w_args, w_heap, w_applies, trivial, trivial, w_case⟩
end start1
theorem witness_1 : WitnessClaimed_1 := ⟨start1.p0, start1.e0, start1.about1, start1.theMethod, start1.args0, start1.below0, start1.atStart⟩
end Jvm.Pilot.@@N@@
