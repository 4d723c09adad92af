import JvmDerived
import JvmDerived.Pilot.@@N@@Statement
import JvmDerived.Pilot.@@N@@Code
set_option linter.unusedVariables false
set_option linter.unusedSimpArgs false
namespace Jvm.OwnKit
open Sem ClassFile Op Lib Jvm.Stand Jvm.Free Jvm.LawKit Jvm.RoadKit
section Own
variable {p : Program} {l : Launch} {e : Env} {R : Room} {s : State} {m : MethodId} {args : Array Value} {below : List Frame} {meth : Method} {c : Code} {T : State} {h : Heap} {n0 cells slots : Nat} {Z : State} {a0 : Array Value} {Q : Option Value → Heap → Prop} {pc pc' : Nat} {Ls : Array Slot} {S rest : List Value}
/-- where the walk stands: over T, whose heap is h; nothing older than n0 was written -/
def Pn (p : Program) (l : Launch) (e : Env) (R : Room) (s : State) (m : MethodId) (args : Array Value) (below : List Frame) (meth : Method) (c : Code) (T : State) (h : Heap) (n0 cells slots : Nat) : Prop :=
  T.heap = h ∧ n0 ≤ s.heap.size ∧ ∃ locs, Stand p l e R s m args below meth c T locs cells slots ∧ Fr n0 locs
theorem Pn.here (X : Pn p l e R s m args below meth c T h n0 cells slots) : At T m c below := by obtain ⟨_, _, _, X, _⟩ := X; exact X.here
theorem Pn.le (X : Pn p l e R s m args below meth c T h n0 cells slots) : n0 ≤ h.size := by
  obtain ⟨e0, hn, _, X, _⟩ := X
  have q : s.heap.size ≤ T.heap.size := X.same.2.1
  rw [← e0]; exact Nat.le_trans hn q
theorem Pn.mono (X : Pn p l e R s m args below meth c T h n0 cells slots) {cells' slots' : Nat} (hc : cells ≤ cells') (hs : slots ≤ slots') : Pn p l e R s m args below meth c T h n0 cells' slots' := by
  obtain ⟨e0, hn, L, X, N⟩ := X
  exact ⟨e0, hn, L, ⟨X.admits, X.cas, X.clock, X.frames, X.room, X.hears, X.method, X.code, X.here, X.tail, X.warmed, X.limits, X.bytes, X.same.mono hc hs⟩, N⟩
/-- from here the run comes to a return that Q speaks of -/
def Go (p : Program) (e : Env) (s : State) (below : List Frame) (n0 : Nat) (Q : Option Value → Heap → Prop) (R : Room) (T : State) (f : JFrame) : Prop :=
  ∃ V, Steps p.tables e below (T.setTop f) V ∧ V.status = .running ∧ ∃ v L, Ended V below (.returned v) ∧ Q v V.heap ∧ Fr n0 L ∧ FrameEnd s (.returned v) V L R.cells R.slots
theorem stp {T' : State} {f f' : JFrame} (k : ∀ t, Steps p.tables e below (T'.setTop f') t → Steps p.tables e below (T.setTop f) t) (g : Go p e s below n0 Q R T' f') : Go p e s below n0 Q R T f := by
  obtain ⟨V, h1, h2⟩ := g; exact ⟨V, k V h1, h2⟩
def Con (l : Launch) (Z : State) (y : MethodName) (bytes : ByteArray) (maxL : Nat) (ret : Option FieldType) (ws : List Jvm.Cond) (rm : Room) (as : Array Value) (h0 : Heap) (n0 : Nat) (Q : Option Value → Heap → Prop) : Prop :=
  MetFree l y (head1 (Jvm.Cond.code y bytes maxL ret :: ws) rm) (fun a U => a = as ∧ Z.Warmed39 U.vm ∧ U.heap = h0) (fun _ _ _ _ _ => True) (fun _ U o U' => ∃ v L, o = .returned v ∧ (Q v U'.heap ∧ Fr n0 L) ∧ FrameEnd U o U' L rm.cells rm.slots)
theorem body {y : MethodName} {bytes : ByteArray} {maxL : Nat} {ret : Option FieldType} {ws : List Jvm.Cond} {rm : Room} {as : Array Value} {h0 : Heap} (hp : plainName y.cls = true) (hn : n0 ≤ h0.size) (ent : ∀ m, entryFrame m as maxL = mkF m 0 Ls [])
    (walk : ∀ (p : Program) (e : Env) (s : State) (m : MethodId) (below : List Frame) (meth : Method) (c : Code) (T : State), p.tables.exec = Jvm.exec → c.code = bytes → c.maxLocals = maxL → s.vm.findClass y.cls = some m.cls → meth.name = y.name → meth.sig.returnType = ret → meth.locks = false → Z.Warmed39 s.vm →
      Pn p l e rm s m as below meth c T h0 n0 0 0 → Go p e s below n0 Q rm T (mkF m 0 Ls [])) : Con l Z y bytes maxL ret ws rm as h0 n0 Q := by
  refine MetFree.of_bodySF (plainFor_of_name hp) hisR ?_
  intro p e s m args below meth c s₁ Bd hml0 hP hK
  obtain ⟨rfl, hZ, hh⟩ := hP
  have hown : s.vm.findClass y.cls = some m.cls := findClass_of_methodNamed Bd.named
  have hnm := (name_of_methodNamed Bd.named Bd.method).1
  have X0 : Stand p l e rm s m _ below meth c s₁ [] 0 0 := Stand.of_body Bd
  have e0 : s₁.heap = h0 := by rw [← hh, Bd.state]; rfl
  obtain ⟨V, h1, h2, v, L, h3, h4, h5, h6⟩ := walk p e s m below meth c s₁ Bd.exec Bd.bytes hml0 hown hnm Bd.returns Bd.notSynchronized hZ ⟨e0, by rw [hh]; exact hn, [], X0, Fr.nil n0⟩
  exact ⟨V, _, castTop (ent m) h1, h2, h3, v, L, rfl, ⟨h4, h5⟩, h6⟩
/-! the ends -/
theorem fin (X : Pn p l e R s m args below meth c T h n0 cells slots) (hlk : meth.locks = false) {v : Option Value} (hv : meth.sig.returnType = none → v = none) (hc : cells ≤ R.cells) (hs : slots ≤ R.slots) (hq : Q v h) {f : JFrame}
    (k : ∀ locs, Stand p l e R s m args below meth c T locs cells slots → ∀ fs, (∀ (f : JFrame) (acts : List Action), f.method = m → f.locked = none → f.entered = [] → (doReturn e (T.setTop f) acts v).1 = T.setFrames fs) → Steps p.tables e below (T.setTop f) (T.setFrames fs)) : Go p e s below n0 Q R T f := by
  obtain ⟨e0, hn, locs, Y, N⟩ := X
  obtain ⟨fs, hr, hrun, hended, hW, hsame⟩ := Y.leave hv hlk
  refine ⟨_, k locs Y fs hr, hrun, v, locs, hended, ?_, N, ⟨_, rfl⟩, hW, hsame.mono hc hs⟩
  show Q v T.heap
  rw [e0]; exact hq
theorem rI {z : Int32} (X : Pn p l e R s m args below meth c T h n0 cells slots) (hx : p.tables.exec = Jvm.exec) (hlk : meth.locks = false) (hret : meth.sig.returnType = some .int) (hd : decode c.code pc = .ok (.ireturn, 1)) (hc : cells ≤ R.cells) (hs : slots ≤ R.slots) (hq : Q (some (.int z)) h) :
    Go p e s below n0 Q R T (mkF m pc Ls (.int z :: S)) :=
  fin X hlk (fun q => by rw [hret] at q; cases q) hc hs hq fun _ Y fs hr => retOut Y hx hret rfl (Or.inl ⟨rfl, Or.inl rfl, z, rfl⟩) hd hr
theorem rN {z : Int32} {t : FieldType} (X : Pn p l e R s m args below meth c T h n0 cells slots) (hx : p.tables.exec = Jvm.exec) (hlk : meth.locks = false) (hret : meth.sig.returnType = some t) (ht : t = .boolean ∨ t = .byte ∨ t = .char ∨ t = .short) (hd : decode c.code pc = .ok (.ireturn, 1)) (hc : cells ≤ R.cells) (hs : slots ≤ R.slots) (hq : Q (some (.int (nar t z))) h) :
    Go p e s below n0 Q R T (mkF m pc Ls (.int z :: S)) :=
  fin X hlk (fun q => by rw [hret] at q; cases q) hc hs hq fun _ Y fs hr => retN Y hx hret ht hd hr
theorem rL {z : Int64} (X : Pn p l e R s m args below meth c T h n0 cells slots) (hx : p.tables.exec = Jvm.exec) (hlk : meth.locks = false) (hret : meth.sig.returnType = some .long) (hd : decode c.code pc = .ok (.lreturn, 1)) (hc : cells ≤ R.cells) (hs : slots ≤ R.slots) (hq : Q (some (.long z)) h) :
    Go p e s below n0 Q R T (mkF m pc Ls (.long z :: S)) :=
  fin X hlk (fun q => by rw [hret] at q; cases q) hc hs hq fun _ Y fs hr => retOut Y hx hret rfl (Or.inr (Or.inl ⟨rfl, rfl, z, rfl⟩)) hd hr
theorem rA {w : Value} {t : FieldType} (X : Pn p l e R s m args below meth c T h n0 cells slots) (hx : p.tables.exec = Jvm.exec) (hlk : meth.locks = false) (hret : meth.sig.returnType = some t) (ht : t.isReference = true) (hw : w.isRef = true) (hn : narrow t w = w) (hd : decode c.code pc = .ok (.areturn, 1)) (hc : cells ≤ R.cells) (hs : slots ≤ R.slots) (hq : Q (some w) h) :
    Go p e s below n0 Q R T (mkF m pc Ls (w :: S)) :=
  fin X hlk (fun q => by rw [hret] at q; cases q) hc hs hq fun _ Y fs hr => retOut Y hx hret hn (Or.inr (Or.inr (Or.inr (Or.inr ⟨rfl, ht, hw⟩)))) hd hr
theorem rV (X : Pn p l e R s m args below meth c T h n0 cells slots) (hx : p.tables.exec = Jvm.exec) (hlk : meth.locks = false) (hret : meth.sig.returnType = none) (hd : decode c.code pc = .ok (.return_, 1)) (hc : cells ≤ R.cells) (hs : slots ≤ R.slots) (hq : Q none h) :
    Go p e s below n0 Q R T (mkF m pc Ls []) :=
  fin X hlk (fun _ => rfl) hc hs hq fun _ Y fs hr => Y.returnOut hx hret hd hr
/-! heap and tables -/
theorem gf {own R0 O n d host : String} {index : Nat} {a : Addr} {v : Value} (X : Pn p l e R s m args below meth c T h n0 cells slots) (hx : p.tables.exec = Jvm.exec) (hZ : Z.Warmed39 s.vm) (hown : s.vm.findClass own = some m.cls) (w : (Cond.fieldLink own index R0 n d).before a0 Z = true ∨ (Cond.fieldLinkNest own index R0 n d host).before a0 Z = true) (via : Via Z R0 O n d)
    (F : Fld Z h a O n d v) (hd : decode c.code pc = .ok (.getfield index, 3)) (hp : pc + 3 = pc') (k : ∀ T', Pn p l e R s m args below meth c T' h n0 cells slots → Go p e s below n0 Q R T' (mkF m pc' Ls (v :: S))) : Go p e s below n0 Q R T (mkF m pc Ls (.ref a :: S)) := by
  subst hp
  obtain ⟨e0, hn, locs, Y, N⟩ := X
  obtain ⟨T', Y', e', st⟩ := getF Y hx hZ hown w via e0 F (g := mkF m pc Ls (.ref a :: S)) rfl rfl hd
  exact stp st (k T' ⟨e', hn, locs, Y', N⟩)
theorem gs {own R0 O n d host : String} {index : Nat} {v : Value} (X : Pn p l e R s m args below meth c T h n0 cells slots) (hx : p.tables.exec = Jvm.exec) (hZ : Z.Warmed39 s.vm) (hown : s.vm.findClass own = some m.cls) (w : (Cond.fieldLink own index R0 n d).before a0 Z = true ∨ (Cond.fieldLinkNest own index R0 n d host).before a0 Z = true) (via : Via Z R0 O n d)
    (F : Sta Z h O n d v) (hd : decode c.code pc = .ok (.getstatic index, 3)) (hp : pc + 3 = pc') (k : ∀ T', Pn p l e R s m args below meth c T' h n0 cells slots → Go p e s below n0 Q R T' (mkF m pc' Ls (v :: S))) : Go p e s below n0 Q R T (mkF m pc Ls S) := by
  subst hp
  obtain ⟨e0, hn, locs, Y, N⟩ := X
  obtain ⟨T', Y', e', st⟩ := getS2 Y hx hZ hown w via e0 F (g := mkF m pc Ls S) rfl hd
  exact stp st (k T' ⟨e', hn, locs, Y', N⟩)
theorem pf {own R0 O n d host C : String} {index kk : Nat} {ty : FieldType} {a : Addr} {v old : Value} (X : Pn p l e R s m args below meth c T h n0 cells slots) (hx : p.tables.exec = Jvm.exec) (hZ : Z.Warmed39 s.vm) (hown : s.vm.findClass own = some m.cls) (w : (Cond.fieldLink own index R0 n d).before a0 Z = true ∨ (Cond.fieldLinkNest own index R0 n d host).before a0 Z = true) (via : Via Z R0 O n d)
    (F : Fld Z h a O n d old) (E : Exa Z h a C) (L : (Cond.lays C O n d).before a0 Z = true ∨ ((Cond.laysFinal C O n d).before a0 Z = true ∧ own = O ∧ meth.name = "<init>")) (wi : (Cond.instantiable C kk).before a0 Z = true)
    (hty : parseFieldDescriptor d = some ty) (hn : narrow ty v = v) (hf : fits ty v = true) (ge : n0 ≤ a) (hd : decode c.code pc = .ok (.putfield index, 3)) (hp : pc + 3 = pc')
    (k : ∀ T' h', Pn p l e R s m args below meth c T' h' n0 cells slots → Wr h h' a (Jvm.RoadKit.slotOf Z O n d) v → Go p e s below n0 Q R T' (mkF m pc' Ls S)) : Go p e s below n0 Q R T (mkF m pc Ls (v :: .ref a :: S)) := by
  subst hp
  obtain ⟨e0, hm, locs, Y, N⟩ := X
  obtain ⟨T', h', Y', e', W, st⟩ := putF Y hx hZ hown w via e0 F E L wi hty hn hf (g := mkF m pc Ls (v :: .ref a :: S)) rfl rfl hd
  exact stp st (k T' h' ⟨e', hm, _, Y', Fr.snoc Y' N ge⟩ W)
theorem nw {own C : String} {index n : Nat} (X : Pn p l e R s m args below meth c T h n0 cells slots) (hx : p.tables.exec = Jvm.exec) (hZ : Z.Warmed39 s.vm) (hown : s.vm.findClass own = some m.cls) (w : (Cond.classLink own index C).before a0 Z = true) (wi : (Cond.instantiable C n).before a0 Z = true) (wz : (Cond.initialized C).before a0 Z = true)
    (hd : decode c.code pc = .ok (.new index, 3)) (hp : pc + 3 = pc') (hc : cells + 1 ≤ R.cells) (hl : slots + n ≤ R.slots)
    (k : ∀ T' h' b, Pn p l e R s m args below meth c T' h' n0 (cells + 1) (slots + n) → b = h.size → n0 ≤ b → Ext h h' → Exa Z h' b C → (∀ {O nm d : String} {ty : FieldType}, Laid Z a0 C O nm d → parseFieldDescriptor d = some ty → Fld Z h' b O nm d (defaultValue ty)) → Go p e s below n0 Q R T' (mkF m pc' Ls (.ref b :: S))) :
    Go p e s below n0 Q R T (mkF m pc Ls S) := by
  subst hp
  have q := X.le
  obtain ⟨e0, hn, locs, Y, N⟩ := X
  obtain ⟨T', h', Y', e', E', A', D', -, st⟩ := newO Y hx hZ hown w wi wz e0 (g := mkF m pc Ls S) rfl hd hc hl
  exact stp st (k T' h' _ ⟨e', hn, _, Y', N⟩ rfl q E' A' D')
theorem oi {own : String} {idx : Nat} {a : Addr} {W : Nat} (X : Pn p l e R s m args below meth c T h n0 cells slots) (hx : p.tables.exec = Jvm.exec) (hZ : Z.Warmed39 s.vm) (hown : s.vm.findClass own = some m.cls) (w1 : (Cond.methodLink own idx Lib.objectInit).before a0 Z = true) (w2 : (Cond.instanceMethod Lib.objectInit).before a0 Z = true) (w3 : (Cond.code Lib.objectInit ⟨#[0xb1]⟩ 1 none).before a0 Z = true)
    (hsize : Ls.size = c.maxLocals) (hd : decode c.code pc = .ok (.invokespecial idx, 3)) (hp : pc + 3 = pc') (hf : 1 ≤ R.frames) (hW : (S.map fun v => v.category).sum ≤ W) (hl : W + 12 ≤ R.locals)
    (k : ∀ T', Pn p l e R s m args below meth c T' h n0 cells slots → Go p e s below n0 Q R T' (mkF m pc' Ls S)) : Go p e s below n0 Q R T (mkF m pc Ls (.ref a :: S)) := by
  subst hp
  obtain ⟨e0, hn, locs, Y, N⟩ := X
  obtain ⟨T', Y', e', st⟩ := initO Y hx hZ hown w1 w2 w3 e0 (g := mkF m pc Ls (.ref a :: S)) rfl hsize rfl hd hf (W := W) (by show 2 * 0 + _ ≤ _; omega) hl
  exact stp st (k T' ⟨e', hn, locs, Y', N⟩)
/-! calls by their contracts -/
theorem cS {own : String} {index : Nat} {y : MethodName} {bytes : ByteArray} {maxL : Nat} {ret : Option FieldType} {rm : Room} {as : Array Value} {Q' : Option Value → Heap → Prop} (W : Nat) (argsL : List Value) (X : Pn p l e R s m args below meth c T h n0 cells slots) (hx : p.tables.exec = Jvm.exec) (hZ : Z.Warmed39 s.vm) (hown : s.vm.findClass own = some m.cls)
    (w1 : (Cond.methodLink own index y).before a0 Z = true) (w2 : (Cond.static y).before a0 Z = true) (w3 : (Cond.initialized y.cls).before a0 Z = true) (w4 : (Cond.code y bytes maxL ret).before a0 Z = true) (hy : y.cls ≠ "java/lang/invoke/MethodHandle" ∧ y.cls ≠ "java/lang/invoke/VarHandle")
    (hM : Con l Z y bytes maxL ret [] rm as h n0 Q') (hf : rm.frames + 1 ≤ R.frames) (hl : W + (maxL + 11) + rm.locals ≤ R.locals) (hsz : Ls.size = c.maxLocals) (has : as = argsL.toArray) (hlen : ∀ sig, parseMethodDescriptor y.desc = some sig → argsL.length = sig.parameters.length) (hst : S = argsL.reverse ++ rest) (hW : (rest.map fun v => v.category).sum ≤ W)
    (hd : decode c.code pc = .ok (.invokestatic index, 3)) (hp : pc + 3 = pc') (hc : cells + rm.cells ≤ R.cells) (hs : slots + rm.slots ≤ R.slots)
    (k : ∀ v T' h', Pn p l e R s m args below meth c T' h' n0 (cells + rm.cells) (slots + rm.slots) → Q' v h' → Go p e s below n0 Q R T' (mkF m pc' Ls (v.toList ++ rest))) : Go p e s below n0 Q R T (mkF m pc Ls S) := by
  subst hp has
  obtain ⟨e0, hn, locs, Y, N⟩ := X
  obtain ⟨v, _, ⟨T', L', k', n'⟩, -, Y', ⟨Lc, ⟨hq, hN⟩, l', y', z'⟩, st⟩ := Jvm.LawKit.callS Y hx (y := y) hown (mvT hZ w1) (mvT hZ w2) (mvT hZ w3) (mvT hZ w4) hy (backOf (W := W) (Q := fun v h L => Q' v h ∧ Fr n0 L) hM hZ w4 w3 hf hl) (g := mkF m pc Ls S) rfl hsz (argsL := argsL) (rest := rest) hlen hst (by show 2 * 0 + _ ≤ _; omega) hd (fun _ _ => ⟨rfl, e0, hc, hs⟩)
  dsimp only [Pt.U, Pt.locs, Pt.cells, Pt.slots] at Y' l' y' z' st hq
  subst l' y' z'
  exact stp st (k v T' _ ⟨rfl, hn, _, Y', N.app hN⟩ hq)
theorem cI {own : String} {index : Nat} {y : MethodName} {bytes : ByteArray} {maxL : Nat} {rm : Room} {as : Array Value} {a : Addr} {Q' : Option Value → Heap → Prop} (W : Nat) (argsL : List Value) (X : Pn p l e R s m args below meth c T h n0 cells slots) (hx : p.tables.exec = Jvm.exec) (hZ : Z.Warmed39 s.vm) (hown : s.vm.findClass own = some m.cls) (hy1 : y.name = "<init>")
    (w1 : (Cond.methodLink own index y).before a0 Z = true) (w2 : (Cond.instanceMethod y).before a0 Z = true) (w3 : (Cond.initialized y.cls).before a0 Z = true) (w4 : (Cond.code y bytes maxL none).before a0 Z = true) (hy : y.cls ≠ "java/lang/invoke/MethodHandle" ∧ y.cls ≠ "java/lang/invoke/VarHandle")
    (hM : Con l Z y bytes maxL none [] rm as h n0 Q') (hf : rm.frames + 1 ≤ R.frames) (hl : W + (maxL + 11) + rm.locals ≤ R.locals) (hsz : Ls.size = c.maxLocals) (has : as = (.ref a :: argsL).toArray) (hlen : ∀ sig, parseMethodDescriptor y.desc = some sig → argsL.length = sig.parameters.length) (hst : S = argsL.reverse ++ .ref a :: rest) (hW : (rest.map fun v => v.category).sum ≤ W)
    (hd : decode c.code pc = .ok (.invokespecial index, 3)) (hp : pc + 3 = pc') (hc : cells + rm.cells ≤ R.cells) (hs : slots + rm.slots ≤ R.slots)
    (k : ∀ v T' h', Pn p l e R s m args below meth c T' h' n0 (cells + rm.cells) (slots + rm.slots) → Q' v h' → Go p e s below n0 Q R T' (mkF m pc' Ls (v.toList ++ rest))) : Go p e s below n0 Q R T (mkF m pc Ls S) := by
  subst hp has
  obtain ⟨e0, hn, locs, Y, N⟩ := X
  obtain ⟨v, _, ⟨T', L', k', n'⟩, -, Y', ⟨Lc, ⟨hq, hN⟩, l', y', z'⟩, st⟩ := Y.specialBack hx (y := y) hy1 hown (mvT hZ w1) (mvT hZ w2) (mvT hZ w4) hy (backOf (W := W) (Q := fun v h L => Q' v h ∧ Fr n0 L) hM hZ w4 w3 hf hl) (g := mkF m pc Ls S) rfl hsz (Steps.refl _) (a := a) (argsL := argsL) (rest := rest) hlen hst (by show 2 * 0 + _ ≤ _; omega) hd (fun _ _ => ⟨rfl, e0, hc, hs⟩)
  dsimp only [Pt.U, Pt.locs, Pt.cells, Pt.slots] at Y' l' y' z' st hq
  subst l' y' z'
  exact stp (fun _ q => st.trans q) (k v T' _ ⟨rfl, hn, _, Y', N.app hN⟩ hq)
theorem cV {own C : String} {index : Nat} {y : MethodName} {bytes : ByteArray} {maxL : Nat} {ret : Option FieldType} {rm : Room} {as : Array Value} {a : Addr} {Q' : Option Value → Heap → Prop} (W : Nat) (argsL : List Value) (X : Pn p l e R s m args below meth c T h n0 cells slots) (hx : p.tables.exec = Jvm.exec) (hZ : Z.Warmed39 s.vm) (hown : s.vm.findClass own = some m.cls)
    (w1 : (Cond.methodLink own index y).before a0 Z = true) (w2 : (Cond.declares y).before a0 Z = true) (w5 : (Cond.selects C y y).before a0 Z = true) (w6 : (Cond.instanceMethod y).before a0 Z = true) (w3 : (Cond.initialized y.cls).before a0 Z = true) (w4 : (Cond.code y bytes maxL ret).before a0 Z = true) (hy : y.cls ≠ "java/lang/invoke/MethodHandle" ∧ y.cls ≠ "java/lang/invoke/VarHandle")
    (hE : Exa Z h a C) (hM : Con l Z y bytes maxL ret [] rm as h n0 Q') (hf : rm.frames + 1 ≤ R.frames) (hl : W + (maxL + 11) + rm.locals ≤ R.locals) (hsz : Ls.size = c.maxLocals) (has : as = (.ref a :: argsL).toArray) (hlen : ∀ sig, parseMethodDescriptor y.desc = some sig → argsL.length = sig.parameters.length) (hst : S = argsL.reverse ++ .ref a :: rest) (hW : (rest.map fun v => v.category).sum ≤ W)
    (hd : decode c.code pc = .ok (.invokevirtual index, 3)) (hp : pc + 3 = pc') (hc : cells + rm.cells ≤ R.cells) (hs : slots + rm.slots ≤ R.slots)
    (k : ∀ v T' h', Pn p l e R s m args below meth c T' h' n0 (cells + rm.cells) (slots + rm.slots) → Q' v h' → Go p e s below n0 Q R T' (mkF m pc' Ls (v.toList ++ rest))) : Go p e s below n0 Q R T (mkF m pc Ls S) := by
  subst hp has
  obtain ⟨e0, hn, locs, Y, N⟩ := X
  obtain ⟨cq, kq, q1, q2, q3⟩ := isOf hZ e0 hE
  obtain ⟨v, _, ⟨T', L', k', n'⟩, -, Y', ⟨Lc, ⟨hq, hN⟩, l', y', z'⟩, st⟩ := Y.virtualBack hx (y := y) (z := y) hown (mvT hZ w1) (mvT hZ w2) (notFace_of_selects (args := #[]) (mvT hZ w5)) (mvT hZ w5) (mvT hZ w6) hy (backOf (W := W) (Q := fun v h L => Q' v h ∧ Fr n0 L) hM hZ w4 w3 hf hl) q1 q3 (g := mkF m pc Ls S) rfl hsz (Steps.refl _) (argsL := argsL) (rest := rest) hlen hst (by show 2 * 0 + _ ≤ _; omega) hd (fun _ _ => ⟨rfl, e0, hc, hs⟩)
  dsimp only [Pt.U, Pt.locs, Pt.cells, Pt.slots] at Y' l' y' z' st hq
  subst l' y' z'
  exact stp (fun _ q => st.trans q) (k v T' _ ⟨rfl, hn, _, Y', N.app hN⟩ hq)
theorem cP {own : String} {index kk : Nat} {y : MethodName} {bytes : ByteArray} {maxL : Nat} {ret : Option FieldType} {rm : Room} {as : Array Value} {a : Addr} {C : String} {Q' : Option Value → Heap → Prop} (W : Nat) (argsL : List Value) (X : Pn p l e R s m args below meth c T h n0 cells slots) (hx : p.tables.exec = Jvm.exec) (hZ : Z.Warmed39 s.vm) (hown : s.vm.findClass own = some m.cls)
    (w1 : (Cond.methodLink own index y).before a0 Z = true) (w6 : (Cond.instanceMethod y).before a0 Z = true) (wp : (Cond.privateMethod y).before a0 Z = true) (wi : (Cond.instantiable y.cls kk).before a0 Z = true) (w3 : (Cond.initialized y.cls).before a0 Z = true) (w4 : (Cond.code y bytes maxL ret).before a0 Z = true) (hy : y.cls ≠ "java/lang/invoke/MethodHandle" ∧ y.cls ≠ "java/lang/invoke/VarHandle")
    (hE : Exa Z h a C) (hM : Con l Z y bytes maxL ret [] rm as h n0 Q') (hf : rm.frames + 1 ≤ R.frames) (hl : W + (maxL + 11) + rm.locals ≤ R.locals) (hsz : Ls.size = c.maxLocals) (has : as = (.ref a :: argsL).toArray) (hlen : ∀ sig, parseMethodDescriptor y.desc = some sig → argsL.length = sig.parameters.length) (hst : S = argsL.reverse ++ .ref a :: rest) (hW : (rest.map fun v => v.category).sum ≤ W)
    (hd : decode c.code pc = .ok (.invokevirtual index, 3)) (hp : pc + 3 = pc') (hc : cells + rm.cells ≤ R.cells) (hs : slots + rm.slots ≤ R.slots)
    (k : ∀ v T' h', Pn p l e R s m args below meth c T' h' n0 (cells + rm.cells) (slots + rm.slots) → Q' v h' → Go p e s below n0 Q R T' (mkF m pc' Ls (v.toList ++ rest))) : Go p e s below n0 Q R T (mkF m pc Ls S) := by
  subst hp has
  obtain ⟨e0, hn, locs, Y, N⟩ := X
  obtain ⟨cq, q1, q2⟩ := hE.cell
  have mi : (Cond.instantiable y.cls kk).before args s = true := mvT hZ wi
  obtain ⟨cc, kc, u1, u2, -, u3, -⟩ := Cond.instantiable_spec mi
  have hpv := Cond.privateMethod_at (mvP hZ wp (args := #[]))
  have hse := selects_self_of_private (args := args) u1 u2 (by rw [Bool.or_eq_false_iff] at u3; exact u3.1) hpv (mvT hZ w6) hy
  obtain ⟨v, _, ⟨T', L', k', n'⟩, -, Y', ⟨Lc, ⟨hq, hN⟩, l', y', z'⟩, st⟩ := Y.privateBack hx (y := y) hown (mvT hZ w1) (mvT hZ w6) hse hpv (mvT hZ w4) hy (backOf (W := W) (Q := fun v h L => Q' v h ∧ Fr n0 L) hM hZ w4 w3 hf hl) (g := mkF m pc Ls S) rfl hsz (Steps.refl _) (a := a) (by rw [e0]; exact q1) q2 (argsL := argsL) (rest := rest) hlen hst (by show 2 * 0 + _ ≤ _; omega) hd (fun _ _ => ⟨rfl, e0, hc, hs⟩)
  dsimp only [Pt.U, Pt.locs, Pt.cells, Pt.slots] at Y' l' y' z' st hq
  subst l' y' z'
  exact stp (fun _ q => st.trans q) (k v T' _ ⟨rfl, hn, _, Y', N.app hN⟩ hq)
theorem cF {own C : String} {index count : Nat} {y z : MethodName} {bytes : ByteArray} {maxL : Nat} {ret : Option FieldType} {rm : Room} {as : Array Value} {a : Addr} {Q' : Option Value → Heap → Prop} (W : Nat) (argsL : List Value) (X : Pn p l e R s m args below meth c T h n0 cells slots) (hx : p.tables.exec = Jvm.exec) (hZ : Z.Warmed39 s.vm) (hown : s.vm.findClass own = some m.cls)
    (w1 : (Cond.methodLink own index y).before a0 Z = true) (w2 : (Cond.declares y).before a0 Z = true) (w7 : (Cond.interfaceMethod y.cls y.cls y.name y.desc).before a0 Z = true) (w5 : (Cond.selects C y z).before a0 Z = true) (w6 : (Cond.instanceMethod z).before a0 Z = true) (w8 : (Cond.publicMethod z).before a0 Z = true) (w9 : (Cond.unhidden C y.name y.desc).before a0 Z = true) (w10 : (Cond.castable C y.cls).before a0 Z = true)
    (w3 : (Cond.initialized z.cls).before a0 Z = true) (w4 : (Cond.code z bytes maxL ret).before a0 Z = true) (hy : y.cls ≠ "java/lang/invoke/MethodHandle" ∧ y.cls ≠ "java/lang/invoke/VarHandle")
    (hE : Exa Z h a C) (hM : Con l Z z bytes maxL ret [] rm as h n0 Q') (hf : rm.frames + 1 ≤ R.frames) (hl : W + (maxL + 11) + rm.locals ≤ R.locals) (hsz : Ls.size = c.maxLocals) (has : as = (.ref a :: argsL).toArray) (hlen : ∀ sig, parseMethodDescriptor y.desc = some sig → argsL.length = sig.parameters.length) (hst : S = argsL.reverse ++ .ref a :: rest) (hW : (rest.map fun v => v.category).sum ≤ W)
    (hd : decode c.code pc = .ok (.invokeinterface index count, 5)) (hp : pc + 5 = pc') (hc : cells + rm.cells ≤ R.cells) (hs : slots + rm.slots ≤ R.slots)
    (k : ∀ v T' h', Pn p l e R s m args below meth c T' h' n0 (cells + rm.cells) (slots + rm.slots) → Q' v h' → Go p e s below n0 Q R T' (mkF m pc' Ls (v.toList ++ rest))) : Go p e s below n0 Q R T (mkF m pc Ls S) := by
  subst hp has
  obtain ⟨e0, hn, locs, Y, N⟩ := X
  obtain ⟨cq, kq, q1, q2, q3⟩ := isOf hZ e0 hE
  obtain ⟨v, _, ⟨T', L', k', n'⟩, -, Y', ⟨Lc, ⟨hq, hN⟩, l', y', z'⟩, st⟩ := Y.interfaceBack hx (xi := y) (y := z) hown (mvT hZ w1) (mvT hZ w2) (mvT hZ w7 (by simp [Cond.onTables, Cond.keepsFace, Cond.faceAtom, hy.1, hy.2])) (mvT hZ w5) (mvT hZ w6) (mvT hZ w8) (mvT hZ w9) (mvT hZ w10) hy (backOf (W := W) (Q := fun v h L => Q' v h ∧ Fr n0 L) hM hZ w4 w3 hf hl) q1 q2 q3 (g := mkF m pc Ls S) rfl hsz (Steps.refl _) (argsL := argsL) (rest := rest) hlen hst (by show 2 * 0 + _ ≤ _; omega) hd (fun _ _ => ⟨rfl, e0, hc, hs⟩)
  dsimp only [Pt.U, Pt.locs, Pt.cells, Pt.slots] at Y' l' y' z' st hq
  subst l' y' z'
  exact stp (fun _ q => st.trans q) (k v T' _ ⟨rfl, hn, _, Y', N.app hN⟩ hq)
theorem ioY {own K : String} {index : Nat} {a : Addr} (X : Pn p l e R s m args below meth c T h n0 cells slots) (hx : p.tables.exec = Jvm.exec) (hZ : Z.Warmed39 s.vm) (hown : s.vm.findClass own = some m.cls) (w : (Cond.classLink own index K).before a0 Z = true) (F : Ins Z h a K true) (hd : decode c.code pc = .ok (.instanceof index, 3)) (hp : pc + 3 = pc')
    (k : ∀ T', Pn p l e R s m args below meth c T' h n0 cells slots → Go p e s below n0 Q R T' (mkF m pc' Ls (.int 1 :: S))) : Go p e s below n0 Q R T (mkF m pc Ls (.ref a :: S)) := by
  subst hp
  obtain ⟨e0, hn, locs, Y, N⟩ := X
  obtain ⟨T', Y', e', st⟩ := instY Y hx hZ hown w e0 F (g := mkF m pc Ls (.ref a :: S)) rfl rfl hd
  exact stp st (k T' ⟨e', hn, locs, Y', N⟩)
theorem ioN {own K C : String} {index : Nat} {a : Addr} (X : Pn p l e R s m args below meth c T h n0 cells slots) (hx : p.tables.exec = Jvm.exec) (hZ : Z.Warmed39 s.vm) (hown : s.vm.findClass own = some m.cls) (w : (Cond.classLink own index K).before a0 Z = true) (E : Exa Z h a C) (F : ∃ c t, Z.vm.findClass C = some c ∧ Z.vm.findClass K = some t ∧ Z.vm.assignable c t = false) (hd : decode c.code pc = .ok (.instanceof index, 3)) (hp : pc + 3 = pc')
    (k : ∀ T', Pn p l e R s m args below meth c T' h n0 cells slots → Go p e s below n0 Q R T' (mkF m pc' Ls (.int 0 :: S))) : Go p e s below n0 Q R T (mkF m pc Ls (.ref a :: S)) := by
  subst hp
  obtain ⟨e0, hn, locs, Y, N⟩ := X
  obtain ⟨T', Y', e', st⟩ := instNo Y hx hZ hown w e0 E F (g := mkF m pc Ls (.ref a :: S)) rfl rfl hd
  exact stp st (k T' ⟨e', hn, locs, Y', N⟩)
theorem ioZ {index : Nat} (X : Pn p l e R s m args below meth c T h n0 cells slots) (hx : p.tables.exec = Jvm.exec) (hd : decode c.code pc = .ok (.instanceof index, 3)) (hp : pc + 3 = pc')
    (k : Go p e s below n0 Q R T (mkF m pc' Ls (.int 0 :: S))) : Go p e s below n0 Q R T (mkF m pc Ls (.null :: S)) := by
  subst hp
  obtain ⟨e0, hn, locs, Y, N⟩ := X
  exact stp (Y.instanceofNull hx (g := mkF m pc Ls (.null :: S)) rfl rfl hd) k
theorem ccY {own K : String} {index : Nat} {a : Addr} (X : Pn p l e R s m args below meth c T h n0 cells slots) (hx : p.tables.exec = Jvm.exec) (hZ : Z.Warmed39 s.vm) (hown : s.vm.findClass own = some m.cls) (w : (Cond.classLink own index K).before a0 Z = true) (F : Ins Z h a K true) (hd : decode c.code pc = .ok (.checkcast index, 3)) (hp : pc + 3 = pc')
    (k : ∀ T', Pn p l e R s m args below meth c T' h n0 cells slots → Go p e s below n0 Q R T' (mkF m pc' Ls (.ref a :: S))) : Go p e s below n0 Q R T (mkF m pc Ls (.ref a :: S)) := by
  subst hp
  obtain ⟨e0, hn, locs, Y, N⟩ := X
  obtain ⟨T', Y', e', st⟩ := castY Y hx hZ hown w e0 F (g := mkF m pc Ls (.ref a :: S)) rfl rfl hd
  exact stp st (k T' ⟨e', hn, locs, Y', N⟩)
theorem own_nsRoot {O K : String} {kk : Nat} (w : (Cond.noSuperclass O).before a0 Z = true) (wk : (Cond.instantiable K kk).before a0 Z = true) (hn : O ≠ K) : NS Z O K := by
  obtain ⟨c, k, h1, h2, h3, -, -⟩ := Cond.noSuperclass_spec w
  obtain ⟨t, _, g1, -⟩ := Cond.instantiable_spec wk
  have ne := ids_ne h1 g1 hn
  refine ⟨c, t, h1, g1, fun fuel => ?_⟩
  cases fuel with
  | zero => rfl
  | succ f => simp [Vm.isSubclassAux, ne, h2, h3]
theorem own_nsNo {C U K : String} {kk : Nat} (w : (Cond.superclass C U).before a0 Z = true) (wk : (Cond.instantiable K kk).before a0 Z = true) (n : NS Z C K) (hn : C ≠ K) : ∃ c t, Z.vm.findClass C = some c ∧ Z.vm.findClass K = some t ∧ Z.vm.assignable c t = false := by
  obtain ⟨c, t, h0, g0, n3⟩ := n
  obtain ⟨q, k, kp, h1, h2, h3, h4, h5, -, h7⟩ := Cond.superclass_spec h0 w
  obtain ⟨t', k', g1, g2, g3, g4, -⟩ := Cond.instantiable_spec wk
  cases g0.symm.trans g1
  have g7 : k'.isInterface = false := by rw [Bool.or_eq_false_iff] at g4; exact g4.1
  have ne := ids_ne h0 g0 hn
  refine ⟨c, t, h0, g0, ?_⟩
  show Z.vm.assignableAux (255 + 1) c t = false
  simp [Vm.assignableAux, ne, h2, g2, h5, g3, g7, Vm.isSubclass, n3]
/-! arrays: n places, the i-th holds f i -/
def Av (Z : State) (h : Heap) (a : Addr) (ty : FieldType) (n : Nat) (f : Nat → Value) : Prop := ∃ c : Cell, Arr Z h a c ty ∧ c.slots.size = n ∧ ∀ i, i < n → c.slots[i]? = some (f i)
theorem Av.lt {a : Addr} {ty : FieldType} {n : Nat} {f : Nat → Value} (F : Av Z h a ty n f) : a < h.size := by obtain ⟨c, A, -⟩ := F; exact A.lt
theorem Av.ext {h' : Heap} {a : Addr} {ty : FieldType} {n : Nat} {f : Nat → Value} (F : Av Z h a ty n f) (E : Ext h h') : Av Z h' a ty n f := by obtain ⟨c, A, r⟩ := F; exact ⟨c, A.ext E, r⟩
theorem Av.other {h' : Heap} {a b : Addr} {ty : FieldType} {n sl : Nat} {v : Value} {f : Nat → Value} (F : Av Z h b ty n f) (W : Wr h h' a sl v) (q : b ≠ a) : Av Z h' b ty n f := by obtain ⟨c, A, r⟩ := F; exact ⟨c, A.other W q, r⟩
theorem Av.keep {h' : Heap} {a : Addr} {ws : List Addr} {ty : FieldType} {n : Nat} {f : Nat → Value} (F : Av Z h a ty n f) (K : Keep h h' ws) (q : a ∉ ws) : Av Z h' a ty n f := by obtain ⟨c, A, r⟩ := F; exact ⟨c, ⟨K.2.1 a c A.1 q, A.2⟩, r⟩
theorem Av.same {h' : Heap} {a : Addr} {ty : FieldType} {n j : Nat} {v : Value} {f : Nat → Value} (F : Av Z h a ty n f) (W : Wr h h' a j v) : Av Z h' a ty n (fun i => if i = j then v else f i) := by
  obtain ⟨c, A, q, r⟩ := F
  refine ⟨c.setSlot j v, A.same W, by rw [sz_set]; exact q, fun i hi => ?_⟩
  obtain ⟨c', e1, -, -, -, -, e6, e7⟩ := wr_at W A.1
  obtain ⟨e8, e9, -⟩ := e7 rfl
  by_cases hj : i = j
  · subst hj; show _ = some (if i = i then v else f i); rw [if_pos rfl, ← e8]; exact e9
  · show _ = some (if i = j then v else f i); rw [if_neg hj, ← e8, e6 _ hj]; exact r i hi
theorem Av.congr {a : Addr} {ty : FieldType} {n : Nat} {f g : Nat → Value} (F : Av Z h a ty n f) (q : ∀ i, i < n → f i = g i) : Av Z h a ty n g := by obtain ⟨c, A, r, u⟩ := F; exact ⟨c, A, r, fun i hi => by rw [u i hi, q i hi]⟩
theorem na {aty : ArrayType} {z : Int32} (cap : Nat) (X : Pn p l e R s m args below meth c T h n0 cells slots) (hx : p.tables.exec = Jvm.exec) (hZ : Z.Warmed39 s.vm) (w : (Cond.arrayClass (newarray.typeOf aty)).before a0 Z = true) (hd : decode c.code pc = .ok (.newarray aty, 2)) (hp : pc + 2 = pc') (hz : ¬ z < 0) (hcap : z.toNatClampNeg ≤ cap) (hb : cap * 8 ≤ 536870912) (hc : cells + 1 ≤ R.cells) (hl : slots + cap ≤ R.slots)
    (k : ∀ T' h' b, Pn p l e R s m args below meth c T' h' n0 (cells + 1) (slots + cap) → b = h.size → n0 ≤ b → Ext h h' → Av Z h' b (newarray.typeOf aty) z.toNatClampNeg (fun _ => defaultValue (newarray.typeOf aty)) → Go p e s below n0 Q R T' (mkF m pc' Ls (.ref b :: S))) :
    Go p e s below n0 Q R T (mkF m pc Ls (.int z :: S)) := by
  subst hp
  have q := X.le
  obtain ⟨e0, hn, locs, Y, N⟩ := X
  obtain ⟨T', h', k', Y', e', E', A', st⟩ := newP Y hx hZ w e0 (g := mkF m pc Ls (.int z :: S)) rfl hd rfl hz hcap hb hc hl
  refine stp st (k T' h' _ ⟨e', hn, _, Y', N⟩ rfl q E' ⟨_, A', sz_new _ _ _, fun i hi => ?_⟩)
  simp [newA, hi]
theorem len {a : Addr} {ty : FieldType} {n : Nat} {f : Nat → Value} (z : Int32) (X : Pn p l e R s m args below meth c T h n0 cells slots) (hx : p.tables.exec = Jvm.exec) (hZ : Z.Warmed39 s.vm) (A : Av Z h a ty n f) (hz : n.toInt32 = z) (hd : decode c.code pc = .ok (.arraylength, 1)) (hp : pc + 1 = pc')
    (k : Go p e s below n0 Q R T (mkF m pc' Ls (.int z :: S))) : Go p e s below n0 Q R T (mkF m pc Ls (.ref a :: S)) := by
  subst hp hz
  obtain ⟨e0, hn, locs, Y, N⟩ := X
  obtain ⟨cl, Ar, S0, r⟩ := A
  subst S0
  exact stp (fun t q => Y.arraylength hx (by rw [e0]; exact Ar.1) (State.isArrayOf_alike hZ.alike Ar.2.1) (g := mkF m pc Ls (.ref a :: S)) rfl rfl hd t q) k
theorem inn {cl : Cell} {n : Nat} {j : Int32} (S0 : cl.slots.size = n) (q : ¬ j < 0) (r : j.toNatClampNeg < n) : ¬ (j < 0 ∨ cl.slots.size ≤ j.toNatClampNeg) := fun u => u.elim q fun v => by omega
theorem ldI {a : Addr} {n : Nat} {f : Nat → Value} {j : Int32} {v : Value} (X : Pn p l e R s m args below meth c T h n0 cells slots) (hx : p.tables.exec = Jvm.exec) (hZ : Z.Warmed39 s.vm) (A : Av Z h a .int n f) (q : ¬ j < 0) (r : j.toNatClampNeg < n) (hv : f j.toNatClampNeg = v) (hd : decode c.code pc = .ok (.iaload, 1)) (hp : pc + 1 = pc')
    (k : Go p e s below n0 Q R T (mkF m pc' Ls (v :: S))) : Go p e s below n0 Q R T (mkF m pc Ls (.int j :: .ref a :: S)) := by
  subst hp hv
  obtain ⟨e0, hn, locs, Y, N⟩ := X
  obtain ⟨cl, Ar, S0, u⟩ := A
  exact stp (fun t y => Y.iaload hx (by rw [e0]; exact Ar.1) (State.isArrayOf_alike hZ.alike Ar.2.1) Ar.2.2 (inn S0 q r) (u _ r) (g := mkF m pc Ls (.int j :: .ref a :: S)) rfl rfl hd t y) k
theorem ldJ {a : Addr} {n : Nat} {f : Nat → Value} {j : Int32} {v : Value} (X : Pn p l e R s m args below meth c T h n0 cells slots) (hx : p.tables.exec = Jvm.exec) (hZ : Z.Warmed39 s.vm) (A : Av Z h a .long n f) (q : ¬ j < 0) (r : j.toNatClampNeg < n) (hv : f j.toNatClampNeg = v) (hd : decode c.code pc = .ok (.laload, 1)) (hp : pc + 1 = pc')
    (k : Go p e s below n0 Q R T (mkF m pc' Ls (v :: S))) : Go p e s below n0 Q R T (mkF m pc Ls (.int j :: .ref a :: S)) := by
  subst hp hv
  obtain ⟨e0, hn, locs, Y, N⟩ := X
  obtain ⟨cl, Ar, S0, u⟩ := A
  exact stp (fun t y => Y.laload hx (by rw [e0]; exact Ar.1) (State.isArrayOf_alike hZ.alike Ar.2.1) Ar.2.2 (inn S0 q r) (u _ r) (g := mkF m pc Ls (.int j :: .ref a :: S)) rfl rfl hd t y) k
theorem ldB {a : Addr} {n : Nat} {f : Nat → Value} {j : Int32} {v : Value} (X : Pn p l e R s m args below meth c T h n0 cells slots) (hx : p.tables.exec = Jvm.exec) (hZ : Z.Warmed39 s.vm) (A : Av Z h a .byte n f) (q : ¬ j < 0) (r : j.toNatClampNeg < n) (hv : f j.toNatClampNeg = v) (hd : decode c.code pc = .ok (.baload, 1)) (hp : pc + 1 = pc')
    (k : Go p e s below n0 Q R T (mkF m pc' Ls (v :: S))) : Go p e s below n0 Q R T (mkF m pc Ls (.int j :: .ref a :: S)) := by
  subst hp hv
  obtain ⟨e0, hn, locs, Y, N⟩ := X
  obtain ⟨cl, Ar, S0, u⟩ := A
  exact stp (fun t y => Y.baloadBytes hx (by rw [e0]; exact Ar.1) (State.isArrayOf_alike hZ.alike Ar.2.1) Ar.2.2 (inn S0 q r) (u _ r) (g := mkF m pc Ls (.int j :: .ref a :: S)) rfl rfl hd t y) k
theorem ldR {a : Addr} {ty : FieldType} {n : Nat} {f : Nat → Value} {j : Int32} {v : Value} (X : Pn p l e R s m args below meth c T h n0 cells slots) (hx : p.tables.exec = Jvm.exec) (hZ : Z.Warmed39 s.vm) (A : Av Z h a ty n f) (hty : ty.isReference = true) (q : ¬ j < 0) (r : j.toNatClampNeg < n) (hv : f j.toNatClampNeg = v) (hd : decode c.code pc = .ok (.aaload, 1)) (hp : pc + 1 = pc')
    (k : Go p e s below n0 Q R T (mkF m pc' Ls (v :: S))) : Go p e s below n0 Q R T (mkF m pc Ls (.int j :: .ref a :: S)) := by
  subst hp hv
  obtain ⟨e0, hn, locs, Y, N⟩ := X
  obtain ⟨cl, Ar, S0, u⟩ := A
  exact stp (fun t y => Y.aaload hx (by rw [e0]; exact Ar.1) (State.isArrayOf_alike hZ.alike Ar.2.1) hty Ar.2.2 (inn S0 q r) (u _ r) (g := mkF m pc Ls (.int j :: .ref a :: S)) rfl rfl hd t y) k
theorem saI {a : Addr} {n : Nat} {f : Nat → Value} {j x : Int32} (X : Pn p l e R s m args below meth c T h n0 cells slots) (hx : p.tables.exec = Jvm.exec) (hZ : Z.Warmed39 s.vm) (A : Av Z h a .int n f) (ge : n0 ≤ a) (q : ¬ j < 0) (r : j.toNatClampNeg < n) (hd : decode c.code pc = .ok (.iastore, 1)) (hp : pc + 1 = pc')
    (k : ∀ T' h', Pn p l e R s m args below meth c T' h' n0 cells slots → Wr h h' a j.toNatClampNeg (.int x) → Go p e s below n0 Q R T' (mkF m pc' Ls S)) : Go p e s below n0 Q R T (mkF m pc Ls (.int x :: .int j :: .ref a :: S)) := by
  subst hp
  obtain ⟨e0, hn, locs, Y, N⟩ := X
  obtain ⟨cl, Ar, S0, u⟩ := A
  obtain ⟨T', h', Y', e', W', st⟩ := stI Y hx hZ e0 Ar (inn S0 q r) (g := mkF m pc Ls (.int x :: .int j :: .ref a :: S)) rfl rfl hd
  exact stp st (k T' h' ⟨e', hn, _, Y', Fr.snoc Y' N ge⟩ W')
theorem saJ {a : Addr} {n : Nat} {f : Nat → Value} {j : Int32} {x : Int64} (X : Pn p l e R s m args below meth c T h n0 cells slots) (hx : p.tables.exec = Jvm.exec) (hZ : Z.Warmed39 s.vm) (A : Av Z h a .long n f) (ge : n0 ≤ a) (q : ¬ j < 0) (r : j.toNatClampNeg < n) (hd : decode c.code pc = .ok (.lastore, 1)) (hp : pc + 1 = pc')
    (k : ∀ T' h', Pn p l e R s m args below meth c T' h' n0 cells slots → Wr h h' a j.toNatClampNeg (.long x) → Go p e s below n0 Q R T' (mkF m pc' Ls S)) : Go p e s below n0 Q R T (mkF m pc Ls (.long x :: .int j :: .ref a :: S)) := by
  subst hp
  obtain ⟨e0, hn, locs, Y, N⟩ := X
  obtain ⟨cl, Ar, S0, u⟩ := A
  obtain ⟨T', h', Y', e', W', st⟩ := stJ Y hx hZ e0 Ar (inn S0 q r) (g := mkF m pc Ls (.long x :: .int j :: .ref a :: S)) rfl rfl hd
  exact stp st (k T' h' ⟨e', hn, _, Y', Fr.snoc Y' N ge⟩ W')
theorem saB {a : Addr} {n : Nat} {f : Nat → Value} {j x : Int32} (X : Pn p l e R s m args below meth c T h n0 cells slots) (hx : p.tables.exec = Jvm.exec) (hZ : Z.Warmed39 s.vm) (A : Av Z h a .byte n f) (ge : n0 ≤ a) (q : ¬ j < 0) (r : j.toNatClampNeg < n) (hd : decode c.code pc = .ok (.bastore, 1)) (hp : pc + 1 = pc')
    (k : ∀ T' h', Pn p l e R s m args below meth c T' h' n0 cells slots → Wr h h' a j.toNatClampNeg (.int x.toInt8.toInt32) → Go p e s below n0 Q R T' (mkF m pc' Ls S)) : Go p e s below n0 Q R T (mkF m pc Ls (.int x :: .int j :: .ref a :: S)) := by
  subst hp
  obtain ⟨e0, hn, locs, Y, N⟩ := X
  obtain ⟨cl, Ar, S0, u⟩ := A
  obtain ⟨T', h', Y', e', W', st⟩ := stB Y hx hZ e0 Ar (inn S0 q r) (g := mkF m pc Ls (.int x :: .int j :: .ref a :: S)) rfl rfl hd
  exact stp st (k T' h' ⟨e', hn, _, Y', Fr.snoc Y' N ge⟩ W')
/-! arrays of references: the class is known too -/
def AvR (Z : State) (h : Heap) (a : Addr) (C : String) (n : Nat) (f : Nat → Value) : Prop := ∃ c : Cell, Arr Z h a c (.object C) ∧ Ovr Z c.cls C ∧ c.slots.size = n ∧ ∀ i, i < n → c.slots[i]? = some (f i)
theorem AvR.lt {a : Addr} {C : String} {n : Nat} {f : Nat → Value} (F : AvR Z h a C n f) : a < h.size := by obtain ⟨c, A, -⟩ := F; exact A.lt
theorem AvR.av {a : Addr} {C : String} {n : Nat} {f : Nat → Value} (F : AvR Z h a C n f) : Av Z h a (.object C) n f := by obtain ⟨c, A, -, r⟩ := F; exact ⟨c, A, r⟩
theorem AvR.ext {h' : Heap} {a : Addr} {C : String} {n : Nat} {f : Nat → Value} (F : AvR Z h a C n f) (E : Ext h h') : AvR Z h' a C n f := by obtain ⟨c, A, r⟩ := F; exact ⟨c, A.ext E, r⟩
theorem AvR.other {h' : Heap} {a b : Addr} {C : String} {n sl : Nat} {v : Value} {f : Nat → Value} (F : AvR Z h b C n f) (W : Wr h h' a sl v) (q : b ≠ a) : AvR Z h' b C n f := by obtain ⟨c, A, r⟩ := F; exact ⟨c, A.other W q, r⟩
theorem AvR.set {h' : Heap} {a : Addr} {C : String} {n k : Nat} {j : Int32} {v : Value} {f : Nat → Value} (e : j.toNatClampNeg = k) (F : AvR Z h a C n f) (W : Wr h h' a j.toNatClampNeg v) : AvR Z h' a C n (fun i => if i = k then v else f i) := by
  subst e
  obtain ⟨c, A, O, q, r⟩ := F
  refine ⟨c.setSlot j.toNatClampNeg v, A.same W, O, by rw [sz_set]; exact q, fun i hi => ?_⟩
  obtain ⟨c', e1, -, -, -, -, e6, e7⟩ := wr_at W A.1
  obtain ⟨e8, e9, -⟩ := e7 rfl
  by_cases hj : i = j.toNatClampNeg
  · subst hj; show _ = some (if j.toNatClampNeg = j.toNatClampNeg then v else f j.toNatClampNeg); rw [if_pos rfl, ← e8]; exact e9
  · show _ = some (if i = j.toNatClampNeg then v else f i); rw [if_neg hj, ← e8, e6 _ hj]; exact r i hi
theorem nr {own C : String} {index : Nat} {z : Int32} (cap : Nat) (X : Pn p l e R s m args below meth c T h n0 cells slots) (hx : p.tables.exec = Jvm.exec) (hZ : Z.Warmed39 s.vm) (hown : s.vm.findClass own = some m.cls) (w1 : (Cond.classLink own index C).before a0 Z = true) (w2 : (Cond.arrayOver (.object C)).before a0 Z = true) (hd : decode c.code pc = .ok (.anewarray index, 3)) (hp : pc + 3 = pc') (hz : ¬ z < 0) (hcap : z.toNatClampNeg ≤ cap) (hb : cap * 8 ≤ 536870912) (hc : cells + 1 ≤ R.cells) (hl : slots + cap ≤ R.slots)
    (k : ∀ T' h' b, Pn p l e R s m args below meth c T' h' n0 (cells + 1) (slots + cap) → b = h.size → n0 ≤ b → Ext h h' → AvR Z h' b C z.toNatClampNeg (fun _ => .null) → Go p e s below n0 Q R T' (mkF m pc' Ls (.ref b :: S))) :
    Go p e s below n0 Q R T (mkF m pc Ls (.int z :: S)) := by
  subst hp
  have q := X.le
  obtain ⟨e0, hn, locs, Y, N⟩ := X
  obtain ⟨T', h', k', Y', e', E', A', O', st⟩ := newR Y hx hZ hown w1 w2 e0 (g := mkF m pc Ls (.int z :: S)) rfl hd rfl hz hcap hb hc hl
  refine stp st (k T' h' _ ⟨e', hn, _, Y', N⟩ rfl q E' ⟨_, A', O', sz_new _ _ _, fun i hi => ?_⟩)
  simp [newA, hi, defaultValue]
theorem saR {a y : Addr} {C : String} {n : Nat} {f : Nat → Value} {j : Int32} (X : Pn p l e R s m args below meth c T h n0 cells slots) (hx : p.tables.exec = Jvm.exec) (hZ : Z.Warmed39 s.vm) (A : AvR Z h a C n f) (I : Ins Z h y C true) (ge : n0 ≤ a) (q : ¬ j < 0) (r : j.toNatClampNeg < n) (hd : decode c.code pc = .ok (.aastore, 1)) (hp : pc + 1 = pc')
    (k : ∀ T' h', Pn p l e R s m args below meth c T' h' n0 cells slots → Wr h h' a j.toNatClampNeg (.ref y) → Go p e s below n0 Q R T' (mkF m pc' Ls S)) : Go p e s below n0 Q R T (mkF m pc Ls (.ref y :: .int j :: .ref a :: S)) := by
  subst hp
  obtain ⟨e0, hn, locs, Y, N⟩ := X
  obtain ⟨cl, Ar, O, S0, u⟩ := A
  obtain ⟨T', h', Y', e', W', st⟩ := stR Y hx hZ e0 Ar (inn S0 q r) rfl (Sto.of Ar O I) (g := mkF m pc Ls (.ref y :: .int j :: .ref a :: S)) rfl rfl hd
  exact stp st (k T' h' ⟨e', hn, _, Y', Fr.snoc Y' N ge⟩ W')
theorem i_iadd {x y : Int32} (X : Pn p l e R s m args below meth c T h n0 cells slots) (hx : p.tables.exec = Jvm.exec) (hd : decode c.code pc = .ok (.iadd, 1)) (hp : pc + 1 = pc')
    (k : Go p e s below n0 Q R T (mkF m pc' Ls (.int (x + y) :: S))) : Go p e s below n0 Q R T (mkF m pc Ls (.int y :: .int x :: S)) := by subst hp; exact stp (fun _ q => XS.iadd X.here hx rfl hd rfl q) k
theorem i_isub {x y : Int32} (X : Pn p l e R s m args below meth c T h n0 cells slots) (hx : p.tables.exec = Jvm.exec) (hd : decode c.code pc = .ok (.isub, 1)) (hp : pc + 1 = pc')
    (k : Go p e s below n0 Q R T (mkF m pc' Ls (.int (x - y) :: S))) : Go p e s below n0 Q R T (mkF m pc Ls (.int y :: .int x :: S)) := by subst hp; exact stp (fun _ q => XS.isub X.here hx rfl hd rfl q) k
theorem i_imul {x y : Int32} (X : Pn p l e R s m args below meth c T h n0 cells slots) (hx : p.tables.exec = Jvm.exec) (hd : decode c.code pc = .ok (.imul, 1)) (hp : pc + 1 = pc')
    (k : Go p e s below n0 Q R T (mkF m pc' Ls (.int (x * y) :: S))) : Go p e s below n0 Q R T (mkF m pc Ls (.int y :: .int x :: S)) := by subst hp; exact stp (fun _ q => XS.imul X.here hx rfl hd rfl q) k
theorem i_iand {x y : Int32} (X : Pn p l e R s m args below meth c T h n0 cells slots) (hx : p.tables.exec = Jvm.exec) (hd : decode c.code pc = .ok (.iand, 1)) (hp : pc + 1 = pc')
    (k : Go p e s below n0 Q R T (mkF m pc' Ls (.int (x &&& y) :: S))) : Go p e s below n0 Q R T (mkF m pc Ls (.int y :: .int x :: S)) := by subst hp; exact stp (fun _ q => XS.iand X.here hx rfl hd rfl q) k
theorem i_ior {x y : Int32} (X : Pn p l e R s m args below meth c T h n0 cells slots) (hx : p.tables.exec = Jvm.exec) (hd : decode c.code pc = .ok (.ior, 1)) (hp : pc + 1 = pc')
    (k : Go p e s below n0 Q R T (mkF m pc' Ls (.int (x ||| y) :: S))) : Go p e s below n0 Q R T (mkF m pc Ls (.int y :: .int x :: S)) := by subst hp; exact stp (fun _ q => XT.ior X.here hx rfl hd rfl q) k
theorem i_ixor {x y : Int32} (X : Pn p l e R s m args below meth c T h n0 cells slots) (hx : p.tables.exec = Jvm.exec) (hd : decode c.code pc = .ok (.ixor, 1)) (hp : pc + 1 = pc')
    (k : Go p e s below n0 Q R T (mkF m pc' Ls (.int (x ^^^ y) :: S))) : Go p e s below n0 Q R T (mkF m pc Ls (.int y :: .int x :: S)) := by subst hp; exact stp (fun _ q => XT.ixor X.here hx rfl hd rfl q) k
theorem i_ishl {x y : Int32} (X : Pn p l e R s m args below meth c T h n0 cells slots) (hx : p.tables.exec = Jvm.exec) (hd : decode c.code pc = .ok (.ishl, 1)) (hp : pc + 1 = pc')
    (k : Go p e s below n0 Q R T (mkF m pc' Ls (.int (x <<< (y &&& 31)) :: S))) : Go p e s below n0 Q R T (mkF m pc Ls (.int y :: .int x :: S)) := by subst hp; exact stp (fun _ q => XT.ishl X.here hx rfl hd rfl q) k
theorem i_ishr {x y : Int32} (X : Pn p l e R s m args below meth c T h n0 cells slots) (hx : p.tables.exec = Jvm.exec) (hd : decode c.code pc = .ok (.ishr, 1)) (hp : pc + 1 = pc')
    (k : Go p e s below n0 Q R T (mkF m pc' Ls (.int (x >>> (y &&& 31)) :: S))) : Go p e s below n0 Q R T (mkF m pc Ls (.int y :: .int x :: S)) := by subst hp; exact stp (fun _ q => XT.ishr X.here hx rfl hd rfl q) k
theorem i_iushr {x y : Int32} (X : Pn p l e R s m args below meth c T h n0 cells slots) (hx : p.tables.exec = Jvm.exec) (hd : decode c.code pc = .ok (.iushr, 1)) (hp : pc + 1 = pc')
    (k : Go p e s below n0 Q R T (mkF m pc' Ls (.int (XT.ushr x y) :: S))) : Go p e s below n0 Q R T (mkF m pc Ls (.int y :: .int x :: S)) := by subst hp; exact stp (fun _ q => XT.iushr X.here hx rfl hd rfl q) k
theorem i_ladd {x y : Int64} (X : Pn p l e R s m args below meth c T h n0 cells slots) (hx : p.tables.exec = Jvm.exec) (hd : decode c.code pc = .ok (.ladd, 1)) (hp : pc + 1 = pc')
    (k : Go p e s below n0 Q R T (mkF m pc' Ls (.long (x + y) :: S))) : Go p e s below n0 Q R T (mkF m pc Ls (.long y :: .long x :: S)) := by subst hp; exact stp (fun _ q => XT.ladd X.here hx rfl hd rfl q) k
theorem i_lsub {x y : Int64} (X : Pn p l e R s m args below meth c T h n0 cells slots) (hx : p.tables.exec = Jvm.exec) (hd : decode c.code pc = .ok (.lsub, 1)) (hp : pc + 1 = pc')
    (k : Go p e s below n0 Q R T (mkF m pc' Ls (.long (x - y) :: S))) : Go p e s below n0 Q R T (mkF m pc Ls (.long y :: .long x :: S)) := by subst hp; exact stp (fun _ q => XT.lsub X.here hx rfl hd rfl q) k
theorem i_lmul {x y : Int64} (X : Pn p l e R s m args below meth c T h n0 cells slots) (hx : p.tables.exec = Jvm.exec) (hd : decode c.code pc = .ok (.lmul, 1)) (hp : pc + 1 = pc')
    (k : Go p e s below n0 Q R T (mkF m pc' Ls (.long (x * y) :: S))) : Go p e s below n0 Q R T (mkF m pc Ls (.long y :: .long x :: S)) := by subst hp; exact stp (fun _ q => XT.lmul X.here hx rfl hd rfl q) k
theorem i_land {x y : Int64} (X : Pn p l e R s m args below meth c T h n0 cells slots) (hx : p.tables.exec = Jvm.exec) (hd : decode c.code pc = .ok (.land, 1)) (hp : pc + 1 = pc')
    (k : Go p e s below n0 Q R T (mkF m pc' Ls (.long (x &&& y) :: S))) : Go p e s below n0 Q R T (mkF m pc Ls (.long y :: .long x :: S)) := by subst hp; exact stp (fun _ q => XT.land X.here hx rfl hd rfl q) k
theorem i_lor {x y : Int64} (X : Pn p l e R s m args below meth c T h n0 cells slots) (hx : p.tables.exec = Jvm.exec) (hd : decode c.code pc = .ok (.lor, 1)) (hp : pc + 1 = pc')
    (k : Go p e s below n0 Q R T (mkF m pc' Ls (.long (x ||| y) :: S))) : Go p e s below n0 Q R T (mkF m pc Ls (.long y :: .long x :: S)) := by subst hp; exact stp (fun _ q => XT.lor X.here hx rfl hd rfl q) k
theorem i_lxor {x y : Int64} (X : Pn p l e R s m args below meth c T h n0 cells slots) (hx : p.tables.exec = Jvm.exec) (hd : decode c.code pc = .ok (.lxor, 1)) (hp : pc + 1 = pc')
    (k : Go p e s below n0 Q R T (mkF m pc' Ls (.long (x ^^^ y) :: S))) : Go p e s below n0 Q R T (mkF m pc Ls (.long y :: .long x :: S)) := by subst hp; exact stp (fun _ q => XT.lxor X.here hx rfl hd rfl q) k
theorem i_lshl {x : Int64} {y : Int32} (X : Pn p l e R s m args below meth c T h n0 cells slots) (hx : p.tables.exec = Jvm.exec) (hd : decode c.code pc = .ok (.lshl, 1)) (hp : pc + 1 = pc')
    (k : Go p e s below n0 Q R T (mkF m pc' Ls (.long (x <<< (y.toInt64 &&& 63)) :: S))) : Go p e s below n0 Q R T (mkF m pc Ls (.int y :: .long x :: S)) := by subst hp; exact stp (fun _ q => XT.lshl X.here hx rfl hd rfl q) k
theorem i_lshr {x : Int64} {y : Int32} (X : Pn p l e R s m args below meth c T h n0 cells slots) (hx : p.tables.exec = Jvm.exec) (hd : decode c.code pc = .ok (.lshr, 1)) (hp : pc + 1 = pc')
    (k : Go p e s below n0 Q R T (mkF m pc' Ls (.long (x >>> (y.toInt64 &&& 63)) :: S))) : Go p e s below n0 Q R T (mkF m pc Ls (.int y :: .long x :: S)) := by subst hp; exact stp (fun _ q => XT.lshr X.here hx rfl hd rfl q) k
theorem i_lushr {x : Int64} {y : Int32} (X : Pn p l e R s m args below meth c T h n0 cells slots) (hx : p.tables.exec = Jvm.exec) (hd : decode c.code pc = .ok (.lushr, 1)) (hp : pc + 1 = pc')
    (k : Go p e s below n0 Q R T (mkF m pc' Ls (.long (XT.ushrL x y) :: S))) : Go p e s below n0 Q R T (mkF m pc Ls (.int y :: .long x :: S)) := by subst hp; exact stp (fun _ q => XT.lushr X.here hx rfl hd rfl q) k
theorem i_idiv {x y : Int32} (X : Pn p l e R s m args below meth c T h n0 cells slots) (hx : p.tables.exec = Jvm.exec) (hd : decode c.code pc = .ok (.idiv, 1)) (hp : pc + 1 = pc') (hy : y ≠ 0)
    (k : Go p e s below n0 Q R T (mkF m pc' Ls (.int (x / y) :: S))) : Go p e s below n0 Q R T (mkF m pc Ls (.int y :: .int x :: S)) := by subst hp; exact stp (fun _ q => XS.idiv X.here hx rfl hd rfl hy q) k
theorem i_ldiv {x y : Int64} (X : Pn p l e R s m args below meth c T h n0 cells slots) (hx : p.tables.exec = Jvm.exec) (hd : decode c.code pc = .ok (.ldiv, 1)) (hp : pc + 1 = pc') (hy : y ≠ 0)
    (k : Go p e s below n0 Q R T (mkF m pc' Ls (.long (x / y) :: S))) : Go p e s below n0 Q R T (mkF m pc Ls (.long y :: .long x :: S)) := by subst hp; exact stp (fun _ q => XT.ldiv X.here hx rfl hd rfl hy q) k
theorem i_lrem {x y : Int64} (X : Pn p l e R s m args below meth c T h n0 cells slots) (hx : p.tables.exec = Jvm.exec) (hd : decode c.code pc = .ok (.lrem, 1)) (hp : pc + 1 = pc') (hy : y ≠ 0)
    (k : Go p e s below n0 Q R T (mkF m pc' Ls (.long (x - (x / y) * y) :: S))) : Go p e s below n0 Q R T (mkF m pc Ls (.long y :: .long x :: S)) := by subst hp; exact stp (fun _ q => XT.lrem X.here hx rfl hd rfl hy q) k
theorem i_irem {x y : Int32} (X : Pn p l e R s m args below meth c T h n0 cells slots) (hx : p.tables.exec = Jvm.exec) (hd : decode c.code pc = .ok (.irem, 1)) (hp : pc + 1 = pc') (hy : y ≠ 0)
    (k : Go p e s below n0 Q R T (mkF m pc' Ls (.int (x % y) :: S))) : Go p e s below n0 Q R T (mkF m pc Ls (.int y :: .int x :: S)) := by subst hp; obtain ⟨e0, hn, locs, Y, N⟩ := X; exact stp (fun _ q => iremM Y hx rfl hd rfl hy q) k
theorem i_ineg {x : Int32} (X : Pn p l e R s m args below meth c T h n0 cells slots) (hx : p.tables.exec = Jvm.exec) (hd : decode c.code pc = .ok (.ineg, 1)) (hp : pc + 1 = pc')
    (k : Go p e s below n0 Q R T (mkF m pc' Ls (.int (-x) :: S))) : Go p e s below n0 Q R T (mkF m pc Ls (.int x :: S)) := by subst hp; exact stp (fun _ q => XS.ineg X.here hx rfl hd rfl q) k
theorem i_lneg {x : Int64} (X : Pn p l e R s m args below meth c T h n0 cells slots) (hx : p.tables.exec = Jvm.exec) (hd : decode c.code pc = .ok (.lneg, 1)) (hp : pc + 1 = pc')
    (k : Go p e s below n0 Q R T (mkF m pc' Ls (.long (-x) :: S))) : Go p e s below n0 Q R T (mkF m pc Ls (.long x :: S)) := by subst hp; exact stp (fun _ q => XT.lneg X.here hx rfl hd rfl q) k
theorem i_i2l {x : Int32} (X : Pn p l e R s m args below meth c T h n0 cells slots) (hx : p.tables.exec = Jvm.exec) (hd : decode c.code pc = .ok (.i2l, 1)) (hp : pc + 1 = pc')
    (k : Go p e s below n0 Q R T (mkF m pc' Ls (.long x.toInt64 :: S))) : Go p e s below n0 Q R T (mkF m pc Ls (.int x :: S)) := by subst hp; exact stp (fun _ q => XT.i2l X.here hx rfl hd rfl q) k
theorem i_l2i {x : Int64} (X : Pn p l e R s m args below meth c T h n0 cells slots) (hx : p.tables.exec = Jvm.exec) (hd : decode c.code pc = .ok (.l2i, 1)) (hp : pc + 1 = pc')
    (k : Go p e s below n0 Q R T (mkF m pc' Ls (.int x.toInt32 :: S))) : Go p e s below n0 Q R T (mkF m pc Ls (.long x :: S)) := by subst hp; exact stp (fun _ q => XT.l2i X.here hx rfl hd rfl q) k
theorem i_i2b {x : Int32} (X : Pn p l e R s m args below meth c T h n0 cells slots) (hx : p.tables.exec = Jvm.exec) (hd : decode c.code pc = .ok (.i2b, 1)) (hp : pc + 1 = pc')
    (k : Go p e s below n0 Q R T (mkF m pc' Ls (.int x.toInt8.toInt32 :: S))) : Go p e s below n0 Q R T (mkF m pc Ls (.int x :: S)) := by subst hp; exact stp (fun _ q => XT.i2b X.here hx rfl hd rfl q) k
theorem i_i2c {x : Int32} (X : Pn p l e R s m args below meth c T h n0 cells slots) (hx : p.tables.exec = Jvm.exec) (hd : decode c.code pc = .ok (.i2c, 1)) (hp : pc + 1 = pc')
    (k : Go p e s below n0 Q R T (mkF m pc' Ls (.int x.toUInt32.toUInt16.toUInt32.toInt32 :: S))) : Go p e s below n0 Q R T (mkF m pc Ls (.int x :: S)) := by subst hp; exact stp (fun _ q => XT.i2c X.here hx rfl hd rfl q) k
theorem i_i2s {x : Int32} (X : Pn p l e R s m args below meth c T h n0 cells slots) (hx : p.tables.exec = Jvm.exec) (hd : decode c.code pc = .ok (.i2s, 1)) (hp : pc + 1 = pc')
    (k : Go p e s below n0 Q R T (mkF m pc' Ls (.int x.toInt16.toInt32 :: S))) : Go p e s below n0 Q R T (mkF m pc Ls (.int x :: S)) := by subst hp; exact stp (fun _ q => XT.i2s X.here hx rfl hd rfl q) k
theorem i_lcmp {x y : Int64} (X : Pn p l e R s m args below meth c T h n0 cells slots) (hx : p.tables.exec = Jvm.exec) (hd : decode c.code pc = .ok (.lcmp, 1)) (hp : pc + 1 = pc')
    (k : Go p e s below n0 Q R T (mkF m pc' Ls (.int (XT.cmpL x y) :: S))) : Go p e s below n0 Q R T (mkF m pc Ls (.long y :: .long x :: S)) := by subst hp; exact stp (fun _ q => XT.lcmp X.here hx rfl hd rfl q) k
theorem i_aloadN {k : Fin 4} {v : Value} (X : Pn p l e R s m args below meth c T h n0 cells slots) (hx : p.tables.exec = Jvm.exec) (hd : decode c.code pc = .ok (.aload_n k, 1)) (hp : pc + 1 = pc') (hl : Ls[k.val]? = some (.val v)) (hv : v.isRef = true)
    (k : Go p e s below n0 Q R T (mkF m pc' Ls (v :: S))) : Go p e s below n0 Q R T (mkF m pc Ls S) := by subst hp; exact stp (fun _ q => XS.aloadN X.here hx rfl hd hl hv q) k
theorem i_aload {k : Nat} {v : Value} (X : Pn p l e R s m args below meth c T h n0 cells slots) (hx : p.tables.exec = Jvm.exec) (hd : decode c.code pc = .ok (.aload k, 2)) (hp : pc + 2 = pc') (hl : Ls[k]? = some (.val v)) (hv : v.isRef = true)
    (k : Go p e s below n0 Q R T (mkF m pc' Ls (v :: S))) : Go p e s below n0 Q R T (mkF m pc Ls S) := by subst hp; exact stp (fun _ q => XS.aload X.here hx rfl hd hl hv q) k
theorem i_iloadN {k : Fin 4} {v : Int32} (X : Pn p l e R s m args below meth c T h n0 cells slots) (hx : p.tables.exec = Jvm.exec) (hd : decode c.code pc = .ok (.iload_n k, 1)) (hp : pc + 1 = pc') (hl : Ls[k.val]? = some (.val (.int v)))
    (k : Go p e s below n0 Q R T (mkF m pc' Ls (.int v :: S))) : Go p e s below n0 Q R T (mkF m pc Ls S) := by subst hp; exact stp (fun _ q => XS.iloadN X.here hx rfl hd hl q) k
theorem i_iload {k : Nat} {v : Int32} (X : Pn p l e R s m args below meth c T h n0 cells slots) (hx : p.tables.exec = Jvm.exec) (hd : decode c.code pc = .ok (.iload k, 2)) (hp : pc + 2 = pc') (hl : Ls[k]? = some (.val (.int v)))
    (k : Go p e s below n0 Q R T (mkF m pc' Ls (.int v :: S))) : Go p e s below n0 Q R T (mkF m pc Ls S) := by subst hp; exact stp (fun _ q => XS.iload X.here hx rfl hd hl q) k
theorem i_lloadN {k : Fin 4} {v : Int64} (X : Pn p l e R s m args below meth c T h n0 cells slots) (hx : p.tables.exec = Jvm.exec) (hd : decode c.code pc = .ok (.lload_n k, 1)) (hp : pc + 1 = pc') (hl : Ls[k.val]? = some (.val (.long v)))
    (k : Go p e s below n0 Q R T (mkF m pc' Ls (.long v :: S))) : Go p e s below n0 Q R T (mkF m pc Ls S) := by subst hp; exact stp (fun _ q => XT.lloadN X.here hx rfl hd hl q) k
theorem i_lload {k : Nat} {v : Int64} (X : Pn p l e R s m args below meth c T h n0 cells slots) (hx : p.tables.exec = Jvm.exec) (hd : decode c.code pc = .ok (.lload k, 2)) (hp : pc + 2 = pc') (hl : Ls[k]? = some (.val (.long v)))
    (k : Go p e s below n0 Q R T (mkF m pc' Ls (.long v :: S))) : Go p e s below n0 Q R T (mkF m pc Ls S) := by subst hp; exact stp (fun _ q => XT.lload X.here hx rfl hd hl q) k
theorem i_istoreN {k : Fin 4} {x : Int32} {L' : Array Slot} (X : Pn p l e R s m args below meth c T h n0 cells slots) (hx : p.tables.exec = Jvm.exec) (hd : decode c.code pc = .ok (.istore_n k, 1)) (hp : pc + 1 = pc') (hl : storeLocals Ls k.val (.int x) = some L')
    (k : Go p e s below n0 Q R T (mkF m pc' L' S)) : Go p e s below n0 Q R T (mkF m pc Ls (.int x :: S)) := by subst hp; exact stp (fun _ q => XS.istoreN X.here hx rfl hd rfl hl q) k
theorem i_istore {k : Nat} {x : Int32} {L' : Array Slot} (X : Pn p l e R s m args below meth c T h n0 cells slots) (hx : p.tables.exec = Jvm.exec) (hd : decode c.code pc = .ok (.istore k, 2)) (hp : pc + 2 = pc') (hl : storeLocals Ls k (.int x) = some L')
    (k : Go p e s below n0 Q R T (mkF m pc' L' S)) : Go p e s below n0 Q R T (mkF m pc Ls (.int x :: S)) := by subst hp; exact stp (fun _ q => XS.istore X.here hx rfl hd rfl hl q) k
theorem i_lstoreN {k : Fin 4} {x : Int64} {L' : Array Slot} (X : Pn p l e R s m args below meth c T h n0 cells slots) (hx : p.tables.exec = Jvm.exec) (hd : decode c.code pc = .ok (.lstore_n k, 1)) (hp : pc + 1 = pc') (hl : storeLocals Ls k.val (.long x) = some L')
    (k : Go p e s below n0 Q R T (mkF m pc' L' S)) : Go p e s below n0 Q R T (mkF m pc Ls (.long x :: S)) := by subst hp; exact stp (fun _ q => XT.lstoreN X.here hx rfl hd rfl hl q) k
theorem i_lstore {k : Nat} {x : Int64} {L' : Array Slot} (X : Pn p l e R s m args below meth c T h n0 cells slots) (hx : p.tables.exec = Jvm.exec) (hd : decode c.code pc = .ok (.lstore k, 2)) (hp : pc + 2 = pc') (hl : storeLocals Ls k (.long x) = some L')
    (k : Go p e s below n0 Q R T (mkF m pc' L' S)) : Go p e s below n0 Q R T (mkF m pc Ls (.long x :: S)) := by subst hp; exact stp (fun _ q => XT.lstore X.here hx rfl hd rfl hl q) k
theorem i_astoreN {k : Fin 4} {x : Value} {L' : Array Slot} (X : Pn p l e R s m args below meth c T h n0 cells slots) (hx : p.tables.exec = Jvm.exec) (hd : decode c.code pc = .ok (.astore_n k, 1)) (hp : pc + 1 = pc') (hv : x.isRef = true) (hl : storeLocals Ls k.val x = some L')
    (k : Go p e s below n0 Q R T (mkF m pc' L' S)) : Go p e s below n0 Q R T (mkF m pc Ls (x :: S)) := by subst hp; exact stp (fun _ q => XS.astoreN X.here hx rfl hd rfl hv hl q) k
theorem i_astore {k : Nat} {x : Value} {L' : Array Slot} (X : Pn p l e R s m args below meth c T h n0 cells slots) (hx : p.tables.exec = Jvm.exec) (hd : decode c.code pc = .ok (.astore k, 2)) (hp : pc + 2 = pc') (hv : x.isRef = true) (hl : storeLocals Ls k x = some L')
    (k : Go p e s below n0 Q R T (mkF m pc' L' S)) : Go p e s below n0 Q R T (mkF m pc Ls (x :: S)) := by subst hp; exact stp (fun _ q => XS.astore X.here hx rfl hd rfl hv hl q) k
theorem i_iconst {i : Int} (v : Int32) (X : Pn p l e R s m args below meth c T h n0 cells slots) (hx : p.tables.exec = Jvm.exec) (hd : decode c.code pc = .ok (.iconst i, 1)) (hp : pc + 1 = pc') (hv : Int32.ofInt i = v)
    (k : Go p e s below n0 Q R T (mkF m pc' Ls (.int v :: S))) : Go p e s below n0 Q R T (mkF m pc Ls S) := by subst hp; exact stp (fun _ q => XT.iconstV X.here hx rfl v hd hv q) k
theorem i_bipush {i : Int} (v : Int32) (X : Pn p l e R s m args below meth c T h n0 cells slots) (hx : p.tables.exec = Jvm.exec) (hd : decode c.code pc = .ok (.bipush i, 2)) (hp : pc + 2 = pc') (hv : (Int8.ofInt i).toInt32 = v)
    (k : Go p e s below n0 Q R T (mkF m pc' Ls (.int v :: S))) : Go p e s below n0 Q R T (mkF m pc Ls S) := by subst hp; exact stp (fun _ q => XT.bipushV X.here hx rfl v hd hv q) k
theorem i_sipush {i : Int} (v : Int32) (X : Pn p l e R s m args below meth c T h n0 cells slots) (hx : p.tables.exec = Jvm.exec) (hd : decode c.code pc = .ok (.sipush i, 3)) (hp : pc + 3 = pc') (hv : (Int16.ofInt i).toInt32 = v)
    (k : Go p e s below n0 Q R T (mkF m pc' Ls (.int v :: S))) : Go p e s below n0 Q R T (mkF m pc Ls S) := by subst hp; exact stp (fun _ q => XT.sipushV X.here hx rfl v hd hv q) k
theorem i_lconst {i : Fin 2} (v : Int64) (X : Pn p l e R s m args below meth c T h n0 cells slots) (hx : p.tables.exec = Jvm.exec) (hd : decode c.code pc = .ok (.lconst i, 1)) (hp : pc + 1 = pc') (hv : Int64.ofNat i = v)
    (k : Go p e s below n0 Q R T (mkF m pc' Ls (.long v :: S))) : Go p e s below n0 Q R T (mkF m pc Ls S) := by subst hp; exact stp (fun _ q => XT.lconstV X.here hx rfl v hd hv q) k
theorem i_aconstNull (X : Pn p l e R s m args below meth c T h n0 cells slots) (hx : p.tables.exec = Jvm.exec) (hd : decode c.code pc = .ok (.aconst_null, 1)) (hp : pc + 1 = pc')
    (k : Go p e s below n0 Q R T (mkF m pc' Ls (.null :: S))) : Go p e s below n0 Q R T (mkF m pc Ls S) := by subst hp; exact stp (fun _ q => XS.aconstNull X.here hx rfl hd q) k
theorem i_iinc {i : Nat} {cst : Int} {x : Int32} {L' : Array Slot} (v : Int32) (X : Pn p l e R s m args below meth c T h n0 cells slots) (hx : p.tables.exec = Jvm.exec) (hd : decode c.code pc = .ok (.iinc i cst, 3)) (hp : pc + 3 = pc') (hv : Int32.ofInt cst = v) (hl : Ls[i]? = some (.val (.int x))) (hl' : storeLocals Ls i (.int (x + v)) = some L')
    (k : Go p e s below n0 Q R T (mkF m pc' L' S)) : Go p e s below n0 Q R T (mkF m pc Ls S) := by subst hp; exact stp (fun _ q => XT.iincV X.here hx rfl v hd hv hl hl' q) k
theorem i_ldc {own : String} {i : Nat} (v : Int32) (X : Pn p l e R s m args below meth c T h n0 cells slots) (hx : p.tables.exec = Jvm.exec) (hZ : Z.Warmed39 s.vm) (hown : s.vm.findClass own = some m.cls) (w : (Cond.constant own i v).before a0 Z = true) (hd : decode c.code pc = .ok (.ldc i, 2)) (hp : pc + 2 = pc')
    (k : Go p e s below n0 Q R T (mkF m pc' Ls (.int v :: S))) : Go p e s below n0 Q R T (mkF m pc Ls S) := by subst hp; obtain ⟨e0, hn, locs, Y, N⟩ := X; exact stp (fun _ q => Y.ldcI hx hown (mv hZ w) (g := mkF m pc Ls S) rfl hd q) k
theorem i_ldcW {own : String} {i : Nat} (v : Int32) (X : Pn p l e R s m args below meth c T h n0 cells slots) (hx : p.tables.exec = Jvm.exec) (hZ : Z.Warmed39 s.vm) (hown : s.vm.findClass own = some m.cls) (w : (Cond.constant own i v).before a0 Z = true) (hd : decode c.code pc = .ok (.ldc_w i, 3)) (hp : pc + 3 = pc')
    (k : Go p e s below n0 Q R T (mkF m pc' Ls (.int v :: S))) : Go p e s below n0 Q R T (mkF m pc Ls S) := by subst hp; obtain ⟨e0, hn, locs, Y, N⟩ := X; exact stp (fun _ q => Y.ldcWI hx hown (mv hZ w) (g := mkF m pc Ls S) rfl hd q) k
theorem i_ldc2 {own : String} {i : Nat} (v : Int64) (X : Pn p l e R s m args below meth c T h n0 cells slots) (hx : p.tables.exec = Jvm.exec) (hZ : Z.Warmed39 s.vm) (hown : s.vm.findClass own = some m.cls) (w : (Cond.constantLong own i v).before a0 Z = true) (hd : decode c.code pc = .ok (.ldc2_w i, 3)) (hp : pc + 3 = pc')
    (k : Go p e s below n0 Q R T (mkF m pc' Ls (.long v :: S))) : Go p e s below n0 Q R T (mkF m pc Ls S) := by subst hp; obtain ⟨e0, hn, locs, Y, N⟩ := X; exact stp (fun _ q => Y.ldc2J hx hown (mv hZ w) (g := mkF m pc Ls S) rfl hd q) k
theorem i_dup {x : Value} (X : Pn p l e R s m args below meth c T h n0 cells slots) (hx : p.tables.exec = Jvm.exec) (hd : decode c.code pc = .ok (.dup, 1)) (hp : pc + 1 = pc') (hc : x.category = 1)
    (k : Go p e s below n0 Q R T (mkF m pc' Ls (x :: x :: S))) : Go p e s below n0 Q R T (mkF m pc Ls (x :: S)) := by subst hp; exact stp (fun _ q => XS.dup X.here hx rfl hd rfl hc q) k
theorem i_pop {x : Value} (X : Pn p l e R s m args below meth c T h n0 cells slots) (hx : p.tables.exec = Jvm.exec) (hd : decode c.code pc = .ok (.pop, 1)) (hp : pc + 1 = pc') (hc : x.category = 1)
    (k : Go p e s below n0 Q R T (mkF m pc' Ls S)) : Go p e s below n0 Q R T (mkF m pc Ls (x :: S)) := by subst hp; exact stp (fun _ q => XT.pop X.here hx rfl hd rfl hc q) k
theorem i_dupX1 {x y : Value} (X : Pn p l e R s m args below meth c T h n0 cells slots) (hx : p.tables.exec = Jvm.exec) (hd : decode c.code pc = .ok (.dup_x1, 1)) (hp : pc + 1 = pc') (hc : x.category = 1) (hc' : y.category = 1)
    (k : Go p e s below n0 Q R T (mkF m pc' Ls (x :: y :: x :: S))) : Go p e s below n0 Q R T (mkF m pc Ls (x :: y :: S)) := by subst hp; exact stp (fun _ q => XT.dupX1 X.here hx rfl hd rfl hc hc' q) k
theorem i_dup2 {x y : Value} (X : Pn p l e R s m args below meth c T h n0 cells slots) (hx : p.tables.exec = Jvm.exec) (hd : decode c.code pc = .ok (.dup2, 1)) (hp : pc + 1 = pc') (hc : x.category = 1) (hc' : y.category = 1)
    (k : Go p e s below n0 Q R T (mkF m pc' Ls (x :: y :: x :: y :: S))) : Go p e s below n0 Q R T (mkF m pc Ls (x :: y :: S)) := by subst hp; exact stp (fun _ q => XT.dup2 X.here hx rfl hd rfl hc hc' q) k
theorem i_dup2L {x : Int64} (X : Pn p l e R s m args below meth c T h n0 cells slots) (hx : p.tables.exec = Jvm.exec) (hd : decode c.code pc = .ok (.dup2, 1)) (hp : pc + 1 = pc')
    (k : Go p e s below n0 Q R T (mkF m pc' Ls (.long x :: .long x :: S))) : Go p e s below n0 Q R T (mkF m pc Ls (.long x :: S)) := by subst hp; exact stp (fun _ q => XT.dup2L X.here hx rfl hd rfl q) k
theorem i_goto {o : Int} (X : Pn p l e R s m args below meth c T h n0 cells slots) (hx : p.tables.exec = Jvm.exec) (hd : decode c.code pc = .ok (.goto o, 3)) (ho : 0 ≤ (pc : Int) + o) (hp : ((pc : Int) + o).toNat = pc')
    (k : Go p e s below n0 Q R T (mkF m pc' Ls S)) : Go p e s below n0 Q R T (mkF m pc Ls S) := stp (fun _ q => XS.goto X.here hx rfl rfl hd ho hp q) k
theorem i_ifT {cd : ClassFile.Cond} {o : Int} {x : Int32} (X : Pn p l e R s m args below meth c T h n0 cells slots) (hx : p.tables.exec = Jvm.exec) (hd : decode c.code pc = .ok (.ifCond cd o, 3)) (hc : ifCond.holds cd x = true) (ho : 0 ≤ (pc : Int) + o) (hp : ((pc : Int) + o).toNat = pc')
    (k : Go p e s below n0 Q R T (mkF m pc' Ls S)) : Go p e s below n0 Q R T (mkF m pc Ls (.int x :: S)) := stp (fun _ q => XS.ifYes X.here hx rfl rfl hd rfl hc ho hp q) k
theorem i_ifF {cd : ClassFile.Cond} {o : Int} {x : Int32} (X : Pn p l e R s m args below meth c T h n0 cells slots) (hx : p.tables.exec = Jvm.exec) (hd : decode c.code pc = .ok (.ifCond cd o, 3)) (hp : pc + 3 = pc') (hc : ifCond.holds cd x = false)
    (k : Go p e s below n0 Q R T (mkF m pc' Ls S)) : Go p e s below n0 Q R T (mkF m pc Ls (.int x :: S)) := by subst hp; exact stp (fun _ q => XS.ifNo X.here hx rfl hd rfl hc q) k
theorem i_icT {cd : ClassFile.Cond} {o : Int} {x y : Int32} (X : Pn p l e R s m args below meth c T h n0 cells slots) (hx : p.tables.exec = Jvm.exec) (hd : decode c.code pc = .ok (.if_icmp cd o, 3)) (hc : if_icmp.holds cd x y = true) (ho : 0 ≤ (pc : Int) + o) (hp : ((pc : Int) + o).toNat = pc')
    (k : Go p e s below n0 Q R T (mkF m pc' Ls S)) : Go p e s below n0 Q R T (mkF m pc Ls (.int y :: .int x :: S)) := stp (fun _ q => XS.icmpYes X.here hx rfl rfl hd rfl hc ho hp q) k
theorem i_icF {cd : ClassFile.Cond} {o : Int} {x y : Int32} (X : Pn p l e R s m args below meth c T h n0 cells slots) (hx : p.tables.exec = Jvm.exec) (hd : decode c.code pc = .ok (.if_icmp cd o, 3)) (hp : pc + 3 = pc') (hc : if_icmp.holds cd x y = false)
    (k : Go p e s below n0 Q R T (mkF m pc' Ls S)) : Go p e s below n0 Q R T (mkF m pc Ls (.int y :: .int x :: S)) := by subst hp; exact stp (fun _ q => XS.icmpNo X.here hx rfl hd rfl hc q) k
theorem i_acT {cd : ClassFile.ACond} {o : Int} {x y : Value} (X : Pn p l e R s m args below meth c T h n0 cells slots) (hx : p.tables.exec = Jvm.exec) (hd : decode c.code pc = .ok (.if_acmp cd o, 3)) (hx' : x.isRef = true) (hy' : y.isRef = true) (hc : XT.acmp cd x y = true) (ho : 0 ≤ (pc : Int) + o) (hp : ((pc : Int) + o).toNat = pc')
    (k : Go p e s below n0 Q R T (mkF m pc' Ls S)) : Go p e s below n0 Q R T (mkF m pc Ls (y :: x :: S)) := stp (fun _ q => XT.acmpYes X.here hx rfl rfl hd rfl hx' hy' hc ho hp q) k
theorem i_acF {cd : ClassFile.ACond} {o : Int} {x y : Value} (X : Pn p l e R s m args below meth c T h n0 cells slots) (hx : p.tables.exec = Jvm.exec) (hd : decode c.code pc = .ok (.if_acmp cd o, 3)) (hp : pc + 3 = pc') (hx' : x.isRef = true) (hy' : y.isRef = true) (hc : XT.acmp cd x y = false)
    (k : Go p e s below n0 Q R T (mkF m pc' Ls S)) : Go p e s below n0 Q R T (mkF m pc Ls (y :: x :: S)) := by subst hp; exact stp (fun _ q => XT.acmpNo X.here hx rfl hd rfl hx' hy' hc q) k
theorem i_nuT {o : Int} {x : Value} (X : Pn p l e R s m args below meth c T h n0 cells slots) (hx : p.tables.exec = Jvm.exec) (hd : decode c.code pc = .ok (.ifnull o, 3)) (hv : x = .null) (ho : 0 ≤ (pc : Int) + o) (hp : ((pc : Int) + o).toNat = pc')
    (k : Go p e s below n0 Q R T (mkF m pc' Ls S)) : Go p e s below n0 Q R T (mkF m pc Ls (x :: S)) := stp (fun _ q => XT.nullYes X.here hx rfl rfl hd rfl hv ho hp q) k
theorem i_nuF {o : Int} {x : Value} (X : Pn p l e R s m args below meth c T h n0 cells slots) (hx : p.tables.exec = Jvm.exec) (hd : decode c.code pc = .ok (.ifnull o, 3)) (hp : pc + 3 = pc') (hr : x.isRef = true) (hv : ¬ x = .null)
    (k : Go p e s below n0 Q R T (mkF m pc' Ls S)) : Go p e s below n0 Q R T (mkF m pc Ls (x :: S)) := by subst hp; exact stp (fun _ q => XT.nullNo X.here hx rfl hd rfl hr hv q) k
theorem i_nnT {o : Int} {x : Value} (X : Pn p l e R s m args below meth c T h n0 cells slots) (hx : p.tables.exec = Jvm.exec) (hd : decode c.code pc = .ok (.ifnonnull o, 3)) (hr : x.isRef = true) (hv : ¬ x = .null) (ho : 0 ≤ (pc : Int) + o) (hp : ((pc : Int) + o).toNat = pc')
    (k : Go p e s below n0 Q R T (mkF m pc' Ls S)) : Go p e s below n0 Q R T (mkF m pc Ls (x :: S)) := stp (fun _ q => XT.nonnullYes X.here hx rfl rfl hd rfl hr hv ho hp q) k
theorem i_nnF {o : Int} {x : Value} (X : Pn p l e R s m args below meth c T h n0 cells slots) (hx : p.tables.exec = Jvm.exec) (hd : decode c.code pc = .ok (.ifnonnull o, 3)) (hp : pc + 3 = pc') (hv : x = .null)
    (k : Go p e s below n0 Q R T (mkF m pc' Ls S)) : Go p e s below n0 Q R T (mkF m pc Ls (x :: S)) := by subst hp; exact stp (fun _ q => XT.nonnullNo X.here hx rfl hd rfl hv q) k
theorem i_tsI {dflt low high : Int} {offs : Array Int} {ln : Nat} {o : Int} {x : Int32} (X : Pn p l e R s m args below meth c T h n0 cells slots) (hx : p.tables.exec = Jvm.exec) (hd : decode c.code pc = .ok (.tableswitch dflt low high offs, ln)) (hin : ¬ (x.toInt < low ∨ x.toInt > high)) (hoff : offs[(x.toInt - low).toNat]? = some o) (ho : 0 ≤ (pc : Int) + o) (hp : ((pc : Int) + o).toNat = pc')
    (k : Go p e s below n0 Q R T (mkF m pc' Ls S)) : Go p e s below n0 Q R T (mkF m pc Ls (.int x :: S)) := stp (fun _ q => XS.tswIn X.here hx rfl rfl hd rfl hin hoff ho hp q) k
theorem i_tsO {dflt low high : Int} {offs : Array Int} {ln : Nat} {x : Int32} (X : Pn p l e R s m args below meth c T h n0 cells slots) (hx : p.tables.exec = Jvm.exec) (hd : decode c.code pc = .ok (.tableswitch dflt low high offs, ln)) (hout : x.toInt < low ∨ x.toInt > high) (ho : 0 ≤ (pc : Int) + dflt) (hp : ((pc : Int) + dflt).toNat = pc')
    (k : Go p e s below n0 Q R T (mkF m pc' Ls S)) : Go p e s below n0 Q R T (mkF m pc Ls (.int x :: S)) := stp (fun _ q => XS.tswOut X.here hx rfl rfl hd rfl hout ho hp q) k
theorem own_irr (x : Int32) : ¬ x < x := Int32.lt_irrefl
theorem own_nar {t : FieldType} {w : Value} (h : w.isRef = true) : narrow t w = w := by rcases XT.refc h with rfl | ⟨_, rfl⟩ <;> cases t <;> rfl
theorem own_fitO {C : String} {w : Value} (h : w.isRef = true) : fits (.object C) w = true := by rcases XT.refc h with rfl | ⟨_, rfl⟩ <;> rfl
theorem own_fitA {t : FieldType} {w : Value} (h : w.isRef = true) : fits (.array t) w = true := by rcases XT.refc h with rfl | ⟨_, rfl⟩ <;> rfl
theorem own_sta_keep {h' : Heap} {ws : List Addr} {C n d : String} {v : Value} (F : Sta Z h C n d v) (K : Keep h h' ws) (q : ∀ (a : Addr) (cl : Cell), a ∈ ws → h[a]? = some cl → cl.vm.isStatics = false) : Sta Z h' C n d v := by
  obtain ⟨cf, i, k, f, st, cell, h1, h2, h3, h4, h5, h6, h7⟩ := F
  refine ⟨cf, i, k, f, st, cell, h1, h2, h3, h4, K.2.1 st cell h5 (fun hm => ?_), h6, h7⟩
  rw [q st cell hm h5] at h6; cases h6
theorem own_sw3 {x : Int32} (h0 : ¬ x = (0 : Int32)) (h1 : ¬ x = (1 : Int32)) (h2 : ¬ x = (2 : Int32)) : x.toInt < 0 ∨ x.toInt > 2 := by
  have a : ¬ x.toInt = 0 := fun q => h0 (Int32.toInt_inj.mp q)
  have b : ¬ x.toInt = 1 := fun q => h1 (Int32.toInt_inj.mp q)
  have c : ¬ x.toInt = 2 := fun q => h2 (Int32.toInt_inj.mp q)
  omega
def Two (a b : Slot) : Prop := (a = .unset ∧ b = .unset) ∨ ∃ z, a = .val (.long z) ∧ b = .second
theorem Two.u : Two .unset .unset := Or.inl ⟨rfl, rfl⟩
theorem Two.v (z : Int64) : Two (.val (.long z)) .second := Or.inr ⟨z, rfl, rfl⟩
theorem own_nar1 : nar .boolean 1 = 1 := by decide
theorem own_nar0 : nar .boolean 0 = 0 := by decide
end Own
end Jvm.OwnKit
namespace Jvm.Pilot.@@N@@
open Jvm Jvm.ClassFile Sem Op Lib Jvm.Free Jvm.Stand Jvm.LawKit Jvm.RoadKit Jvm.OwnKit Bundle Jvm.Pilot.@@N@@.Jvm.D
theorem d2_0 : decode jdk_30_method_1_code 0 = .ok (.aload_n 0, 1) := by decide +kernel
theorem d2_1 : decode jdk_30_method_1_code 1 = .ok (.invokespecial 1, 3) := by decide +kernel
theorem d2_4 : decode jdk_30_method_1_code 4 = .ok (.return_, 1) := by decide +kernel
theorem pn0 : plainName "java/lang/Record" = true := by first | (simp [plainName, overriddenIn]; done) | decide +kernel
theorem ef_rmRec (m : MethodId) (o : Addr) : entryFrame m #[(.ref o)] 1 = mkF m 0 #[.val (.ref o)] [] := by first | rfl | (simp [entryFrame, mkF, argsToLocals, Value.category, maxLocals]; done)
def QrmRec (Z : State) (o : Addr) (n0 : Nat) (h0 : Heap) (v : Option Value) (h : Heap) : Prop := v = none ∧ h0 = h
abbrev RrmRec : Room := { frames := 1, cells := 0, slots := 0, locals := 12 }
set_option maxRecDepth 65536 in
set_option maxHeartbeats 40000000 in
theorem rmRec (l : Launch) (Z : State) (a0 : Array Value) (hw : ∀ d ∈ tables_1, d.before a0 Z = true) (ws : List Jvm.Cond) (o : Addr) (n0 : Nat) (h0 : Heap) (hn : n0 ≤ h0.size)   :
    Con l Z (⟨"java/lang/Record", "<init>", "()V"⟩ : MethodName) jdk_30_method_1_code 1 none ws RrmRec #[(.ref o)] h0 n0 (QrmRec Z o n0 h0) := by
  refine body (y := (⟨"java/lang/Record", "<init>", "()V"⟩ : MethodName)) (Ls := #[.val (.ref o)]) pn0 hn (fun m => ef_rmRec m o) ?_
  intro p e s m below meth c T0 hx hby hml hown hnm hret hlk hZ X0
  refine i_aloadN (v := (.ref o)) (pc' := 1) X0 hx (hb hby d2_0) rfl rfl rfl ?_
  refine oi (pc' := 4) (W := 0) X0 hx hZ hown (hw _ (List.mem_of_getElem? (i := 11) rfl)) (hw _ (List.mem_of_getElem? (i := 12) rfl)) (hw _ (List.mem_of_getElem? (i := 13) rfl)) (by rw [hml]; rfl) (hb hby d2_1) rfl (by decide) (Nat.le_of_eq rfl) (by decide) fun T1 X1 => ?_
  refine rV X1 hx hlk hret (hb hby d2_4) (by decide) (by decide) ?_
  exact ⟨rfl, rfl⟩
theorem d1_0 : decode prog_74_method_1_code 0 = .ok (.aload_n 0, 1) := by decide +kernel
theorem d1_1 : decode prog_74_method_1_code 1 = .ok (.invokespecial 1, 3) := by decide +kernel
theorem d1_4 : decode prog_74_method_1_code 4 = .ok (.aload_n 0, 1) := by decide +kernel
theorem d1_5 : decode prog_74_method_1_code 5 = .ok (.lload_n 1, 1) := by decide +kernel
theorem d1_6 : decode prog_74_method_1_code 6 = .ok (.putfield 7, 3) := by decide +kernel
theorem d1_9 : decode prog_74_method_1_code 9 = .ok (.aload_n 0, 1) := by decide +kernel
theorem d1_10 : decode prog_74_method_1_code 10 = .ok (.iload_n 3, 1) := by decide +kernel
theorem d1_11 : decode prog_74_method_1_code 11 = .ok (.putfield 13, 3) := by decide +kernel
theorem d1_14 : decode prog_74_method_1_code 14 = .ok (.return_, 1) := by decide +kernel
theorem pn1 : plainName "com/example/quadstone/quadstone/engine/Plan$Slot" = true := by first | (simp [plainName, overriddenIn]; done) | decide +kernel
theorem ef_rm1 (m : MethodId) (o : Addr) (z : Int64) (x : Int32) : entryFrame m #[(.ref o), (.long z), (.int x)] 4 = mkF m 0 #[.val (.ref o), .val (.long z), .second, .val (.int x)] [] := by first | rfl | (simp [entryFrame, mkF, argsToLocals, Value.category, maxLocals]; done)
def Qrm1 (Z : State) (o : Addr) (z : Int64) (x : Int32) (n0 : Nat) (h0 : Heap) (v : Option Value) (h : Heap) : Prop := v = none ∧ Keep h0 h [o]
theorem pd0 : parseMethodDescriptor "()V" = some ⟨[], none⟩ := by decide +kernel
abbrev Rrm1 : Room := { frames := 2, cells := 0, slots := 0, locals := 24 }
set_option maxRecDepth 65536 in
set_option maxHeartbeats 40000000 in
theorem rm1 (l : Launch) (Z : State) (a0 : Array Value) (hw : ∀ d ∈ tables_1, d.before a0 Z = true) (ws : List Jvm.Cond) (o : Addr) (z : Int64) (x : Int32) (n0 : Nat) (h0 : Heap) (hn : n0 ≤ h0.size) (H0 : Exa Z h0 o "com/example/quadstone/quadstone/engine/Plan$Slot") (H1 : Fld Z h0 o "com/example/quadstone/quadstone/engine/Plan$Slot" "constant" "J" (.long (0 : Int64))) (H2 : Fld Z h0 o "com/example/quadstone/quadstone/engine/Plan$Slot" "variable" "I" (.int (0 : Int32))) (H3 : n0 ≤ o)  :
    Con l Z (⟨"com/example/quadstone/quadstone/engine/Plan$Slot", "<init>", "(JI)V"⟩ : MethodName) prog_74_method_1_code 4 none ws Rrm1 #[(.ref o), (.long z), (.int x)] h0 n0 (Qrm1 Z o z x n0 h0) := by
  refine body (y := (⟨"com/example/quadstone/quadstone/engine/Plan$Slot", "<init>", "(JI)V"⟩ : MethodName)) (Ls := #[.val (.ref o), .val (.long z), .second, .val (.int x)]) pn1 hn (fun m => ef_rm1 m o z x) ?_
  intro p e s m below meth c T0 hx hby hml hown hnm hret hlk hZ X0
  refine i_aloadN (v := (.ref o)) (pc' := 1) X0 hx (hb hby d1_0) rfl rfl rfl ?_
  refine cI (y := (⟨"java/lang/Record", "<init>", "()V"⟩ : MethodName)) (rest := []) (pc' := 4) (a := o) 0 [] X0 hx hZ hown rfl (hw _ (List.mem_of_getElem? (i := 6) rfl)) (hw _ (List.mem_of_getElem? (i := 7) rfl)) (hw _ (List.mem_of_getElem? (i := 9) rfl)) (hw _ (List.mem_of_getElem? (i := 10) rfl)) (by decide) (rmRec l Z a0 hw [] o n0 h0 X0.le ) (by decide) (by decide) (by rw [hml]; rfl) rfl (lenOf pd0 rfl) rfl (Nat.le_of_eq rfl) (hb hby d1_1) rfl (by decide) (by decide) ?_
  intro r1 T1 h1 X1 q1
  obtain ⟨rfl, eh1⟩ := q1
  subst eh1
  show Go _ _ _ _ _ _ _ T1 (mkF m 4 #[.val (.ref o), .val (.long z), .second, .val (.int x)] [])
  refine i_aloadN (v := (.ref o)) (pc' := 5) X1 hx (hb hby d1_4) rfl rfl rfl ?_
  refine i_lloadN (v := z) (pc' := 6) X1 hx (hb hby d1_5) rfl rfl ?_
  refine pf (pc' := 9) (host := "") (ty := .long) X1 hx hZ hown (Or.inl (hw _ (List.mem_of_getElem? (i := 14) rfl))) Via.refl H1 H0 (Or.inr ⟨(hw _ (List.mem_of_getElem? (i := 15) rfl)), rfl, hnm⟩) (hw _ (List.mem_of_getElem? (i := 1) rfl)) (by decide) rfl rfl H3 (hb hby d1_6) rfl fun T2 h2 X2 W2 => ?_
  refine i_aloadN (v := (.ref o)) (pc' := 10) X2 hx (hb hby d1_9) rfl rfl rfl ?_
  refine i_iloadN (v := x) (pc' := 11) X2 hx (hb hby d1_10) rfl rfl ?_
  have F3 : Fld Z h2 o "com/example/quadstone/quadstone/engine/Plan$Slot" "variable" "I" (.int (0 : Int32)) := (Jvm.RoadKit.Fld.other W2 H2 (Or.inr (slot_ne (a0 := a0) (Or.inr (hw _ (List.mem_of_getElem? (i := 17) rfl))) (Or.inr (hw _ (List.mem_of_getElem? (i := 15) rfl))) (by decide) (t := .int) (t' := .long) (by decide) (by decide))))
  have F4 : Exa Z h2 o "com/example/quadstone/quadstone/engine/Plan$Slot" := (Jvm.RoadKit.Exa.wr W2 H0)
  refine pf (pc' := 14) (host := "") (ty := .int) X2 hx hZ hown (Or.inl (hw _ (List.mem_of_getElem? (i := 16) rfl))) Via.refl F3 F4 (Or.inr ⟨(hw _ (List.mem_of_getElem? (i := 17) rfl)), rfl, hnm⟩) (hw _ (List.mem_of_getElem? (i := 1) rfl)) (by decide) rfl rfl H3 (hb hby d1_11) rfl fun T5 h5 X5 W5 => ?_
  refine rV X5 hx hlk hret (hb hby d1_14) (by decide) (by decide) ?_
  exact ⟨rfl, (((Keep.refl h0 _).wr W2 (Or.inl (List.mem_of_getElem? (i := 0) rfl))).wr W5 (Or.inl (List.mem_of_getElem? (i := 0) rfl)))⟩
theorem d4_0 : decode prog_75_method_1_code 0 = .ok (.aload_n 0, 1) := by decide +kernel
theorem d4_1 : decode prog_75_method_1_code 1 = .ok (.invokespecial 1, 3) := by decide +kernel
theorem d4_4 : decode prog_75_method_1_code 4 = .ok (.aload_n 0, 1) := by decide +kernel
theorem d4_5 : decode prog_75_method_1_code 5 = .ok (.aload_n 1, 1) := by decide +kernel
theorem d4_6 : decode prog_75_method_1_code 6 = .ok (.putfield 7, 3) := by decide +kernel
theorem d4_9 : decode prog_75_method_1_code 9 = .ok (.aload_n 0, 1) := by decide +kernel
theorem d4_10 : decode prog_75_method_1_code 10 = .ok (.aload_n 2, 1) := by decide +kernel
theorem d4_11 : decode prog_75_method_1_code 11 = .ok (.putfield 13, 3) := by decide +kernel
theorem d4_14 : decode prog_75_method_1_code 14 = .ok (.aload_n 0, 1) := by decide +kernel
theorem d4_15 : decode prog_75_method_1_code 15 = .ok (.aload_n 3, 1) := by decide +kernel
theorem d4_16 : decode prog_75_method_1_code 16 = .ok (.putfield 16, 3) := by decide +kernel
theorem d4_19 : decode prog_75_method_1_code 19 = .ok (.aload_n 0, 1) := by decide +kernel
theorem d4_20 : decode prog_75_method_1_code 20 = .ok (.aload 4, 2) := by decide +kernel
theorem d4_22 : decode prog_75_method_1_code 22 = .ok (.putfield 19, 3) := by decide +kernel
theorem d4_25 : decode prog_75_method_1_code 25 = .ok (.return_, 1) := by decide +kernel
theorem pn2 : plainName "com/example/quadstone/quadstone/engine/Plan$Step" = true := by first | (simp [plainName, overriddenIn]; done) | decide +kernel
theorem ef_rm4 (m : MethodId) (o : Addr) (sa : Addr) (sb : Addr) (sc : Addr) (g : Value) (hr_g : g.isRef = true) : entryFrame m #[(.ref o), (.ref sa), (.ref sb), (.ref sc), g] 5 = mkF m 0 #[.val (.ref o), .val (.ref sa), .val (.ref sb), .val (.ref sc), .val g] [] := by
  (rcases XT.refc hr_g with rfl | ⟨_, rfl⟩) <;> (first | rfl | (simp [entryFrame, mkF, argsToLocals, Value.category, maxLocals]; done))
def Qrm4 (Z : State) (o : Addr) (sa : Addr) (sb : Addr) (sc : Addr) (g : Value) (n0 : Nat) (h0 : Heap) (v : Option Value) (h : Heap) : Prop := v = none ∧ Keep h0 h [o] ∧ Fld Z h o "com/example/quadstone/quadstone/engine/Plan$Step" "subject" "Lcom/example/quadstone/quadstone/engine/Plan$Slot;" (.ref sa) ∧ Fld Z h o "com/example/quadstone/quadstone/engine/Plan$Step" "predicate" "Lcom/example/quadstone/quadstone/engine/Plan$Slot;" (.ref sb) ∧ Fld Z h o "com/example/quadstone/quadstone/engine/Plan$Step" "object" "Lcom/example/quadstone/quadstone/engine/Plan$Slot;" (.ref sc) ∧ Fld Z h o "com/example/quadstone/quadstone/engine/Plan$Step" "graph" "Lcom/example/quadstone/quadstone/engine/Plan$Slot;" g
abbrev Rrm4 : Room := { frames := 2, cells := 0, slots := 0, locals := 24 }
set_option maxRecDepth 65536 in
set_option maxHeartbeats 40000000 in
theorem rm4 (l : Launch) (Z : State) (a0 : Array Value) (hw : ∀ d ∈ tables_1, d.before a0 Z = true) (ws : List Jvm.Cond) (o : Addr) (sa : Addr) (sb : Addr) (sc : Addr) (g : Value) (n0 : Nat) (h0 : Heap) (hn : n0 ≤ h0.size) (H0 : Exa Z h0 o "com/example/quadstone/quadstone/engine/Plan$Step") (H1 : Fld Z h0 o "com/example/quadstone/quadstone/engine/Plan$Step" "subject" "Lcom/example/quadstone/quadstone/engine/Plan$Slot;" .null) (H2 : Fld Z h0 o "com/example/quadstone/quadstone/engine/Plan$Step" "predicate" "Lcom/example/quadstone/quadstone/engine/Plan$Slot;" .null) (H3 : Fld Z h0 o "com/example/quadstone/quadstone/engine/Plan$Step" "object" "Lcom/example/quadstone/quadstone/engine/Plan$Slot;" .null) (H4 : Fld Z h0 o "com/example/quadstone/quadstone/engine/Plan$Step" "graph" "Lcom/example/quadstone/quadstone/engine/Plan$Slot;" .null) (H5 : n0 ≤ o) (hr_g : g.isRef = true) :
    Con l Z (⟨"com/example/quadstone/quadstone/engine/Plan$Step", "<init>", "(Lcom/example/quadstone/quadstone/engine/Plan$Slot;Lcom/example/quadstone/quadstone/engine/Plan$Slot;Lcom/example/quadstone/quadstone/engine/Plan$Slot;Lcom/example/quadstone/quadstone/engine/Plan$Slot;)V"⟩ : MethodName) prog_75_method_1_code 5 none ws Rrm4 #[(.ref o), (.ref sa), (.ref sb), (.ref sc), g] h0 n0 (Qrm4 Z o sa sb sc g n0 h0) := by
  refine body (y := (⟨"com/example/quadstone/quadstone/engine/Plan$Step", "<init>", "(Lcom/example/quadstone/quadstone/engine/Plan$Slot;Lcom/example/quadstone/quadstone/engine/Plan$Slot;Lcom/example/quadstone/quadstone/engine/Plan$Slot;Lcom/example/quadstone/quadstone/engine/Plan$Slot;)V"⟩ : MethodName)) (Ls := #[.val (.ref o), .val (.ref sa), .val (.ref sb), .val (.ref sc), .val g]) pn2 hn (fun m => ef_rm4 m o sa sb sc g hr_g) ?_
  intro p e s m below meth c T0 hx hby hml hown hnm hret hlk hZ X0
  refine i_aloadN (v := (.ref o)) (pc' := 1) X0 hx (hb hby d4_0) rfl rfl rfl ?_
  refine cI (y := (⟨"java/lang/Record", "<init>", "()V"⟩ : MethodName)) (rest := []) (pc' := 4) (a := o) 0 [] X0 hx hZ hown rfl (hw _ (List.mem_of_getElem? (i := 27) rfl)) (hw _ (List.mem_of_getElem? (i := 7) rfl)) (hw _ (List.mem_of_getElem? (i := 9) rfl)) (hw _ (List.mem_of_getElem? (i := 10) rfl)) (by decide) (rmRec l Z a0 hw [] o n0 h0 X0.le ) (by decide) (by decide) (by rw [hml]; rfl) rfl (lenOf pd0 rfl) rfl (Nat.le_of_eq rfl) (hb hby d4_1) rfl (by decide) (by decide) ?_
  intro r1 T1 h1 X1 q1
  obtain ⟨rfl, eh1⟩ := q1
  subst eh1
  show Go _ _ _ _ _ _ _ T1 (mkF m 4 #[.val (.ref o), .val (.ref sa), .val (.ref sb), .val (.ref sc), .val g] [])
  refine i_aloadN (v := (.ref o)) (pc' := 5) X1 hx (hb hby d4_4) rfl rfl rfl ?_
  refine i_aloadN (v := (.ref sa)) (pc' := 6) X1 hx (hb hby d4_5) rfl rfl rfl ?_
  refine pf (pc' := 9) (host := "") (ty := (.object "com/example/quadstone/quadstone/engine/Plan$Slot")) X1 hx hZ hown (Or.inl (hw _ (List.mem_of_getElem? (i := 28) rfl))) Via.refl H1 H0 (Or.inr ⟨(hw _ (List.mem_of_getElem? (i := 29) rfl)), rfl, hnm⟩) (hw _ (List.mem_of_getElem? (i := 22) rfl)) (by decide) rfl rfl H5 (hb hby d4_6) rfl fun T2 h2 X2 W2 => ?_
  refine i_aloadN (v := (.ref o)) (pc' := 10) X2 hx (hb hby d4_9) rfl rfl rfl ?_
  refine i_aloadN (v := (.ref sb)) (pc' := 11) X2 hx (hb hby d4_10) rfl rfl rfl ?_
  have F3 : Fld Z h2 o "com/example/quadstone/quadstone/engine/Plan$Step" "predicate" "Lcom/example/quadstone/quadstone/engine/Plan$Slot;" .null := (Jvm.RoadKit.Fld.other W2 H2 (Or.inr (slot_ne (a0 := a0) (Or.inr (hw _ (List.mem_of_getElem? (i := 31) rfl))) (Or.inr (hw _ (List.mem_of_getElem? (i := 29) rfl))) (by decide) (t := (.object "com/example/quadstone/quadstone/engine/Plan$Slot")) (t' := (.object "com/example/quadstone/quadstone/engine/Plan$Slot")) (by decide) (by decide))))
  have F4 : Exa Z h2 o "com/example/quadstone/quadstone/engine/Plan$Step" := (Jvm.RoadKit.Exa.wr W2 H0)
  refine pf (pc' := 14) (host := "") (ty := (.object "com/example/quadstone/quadstone/engine/Plan$Slot")) X2 hx hZ hown (Or.inl (hw _ (List.mem_of_getElem? (i := 30) rfl))) Via.refl F3 F4 (Or.inr ⟨(hw _ (List.mem_of_getElem? (i := 31) rfl)), rfl, hnm⟩) (hw _ (List.mem_of_getElem? (i := 22) rfl)) (by decide) rfl rfl H5 (hb hby d4_11) rfl fun T5 h5 X5 W5 => ?_
  refine i_aloadN (v := (.ref o)) (pc' := 15) X5 hx (hb hby d4_14) rfl rfl rfl ?_
  refine i_aloadN (v := (.ref sc)) (pc' := 16) X5 hx (hb hby d4_15) rfl rfl rfl ?_
  have F6 : Fld Z h5 o "com/example/quadstone/quadstone/engine/Plan$Step" "object" "Lcom/example/quadstone/quadstone/engine/Plan$Slot;" .null := (Jvm.RoadKit.Fld.other W5 (Jvm.RoadKit.Fld.other W2 H3 (Or.inr (slot_ne (a0 := a0) (Or.inr (hw _ (List.mem_of_getElem? (i := 33) rfl))) (Or.inr (hw _ (List.mem_of_getElem? (i := 29) rfl))) (by decide) (t := (.object "com/example/quadstone/quadstone/engine/Plan$Slot")) (t' := (.object "com/example/quadstone/quadstone/engine/Plan$Slot")) (by decide) (by decide)))) (Or.inr (slot_ne (a0 := a0) (Or.inr (hw _ (List.mem_of_getElem? (i := 33) rfl))) (Or.inr (hw _ (List.mem_of_getElem? (i := 31) rfl))) (by decide) (t := (.object "com/example/quadstone/quadstone/engine/Plan$Slot")) (t' := (.object "com/example/quadstone/quadstone/engine/Plan$Slot")) (by decide) (by decide))))
  have F7 : Exa Z h5 o "com/example/quadstone/quadstone/engine/Plan$Step" := (Jvm.RoadKit.Exa.wr W5 F4)
  refine pf (pc' := 19) (host := "") (ty := (.object "com/example/quadstone/quadstone/engine/Plan$Slot")) X5 hx hZ hown (Or.inl (hw _ (List.mem_of_getElem? (i := 32) rfl))) Via.refl F6 F7 (Or.inr ⟨(hw _ (List.mem_of_getElem? (i := 33) rfl)), rfl, hnm⟩) (hw _ (List.mem_of_getElem? (i := 22) rfl)) (by decide) rfl rfl H5 (hb hby d4_16) rfl fun T8 h8 X8 W8 => ?_
  refine i_aloadN (v := (.ref o)) (pc' := 20) X8 hx (hb hby d4_19) rfl rfl rfl ?_
  refine i_aload (v := g) (pc' := 22) X8 hx (hb hby d4_20) rfl rfl hr_g ?_
  have F9 : Fld Z h8 o "com/example/quadstone/quadstone/engine/Plan$Step" "graph" "Lcom/example/quadstone/quadstone/engine/Plan$Slot;" .null := (Jvm.RoadKit.Fld.other W8 (Jvm.RoadKit.Fld.other W5 (Jvm.RoadKit.Fld.other W2 H4 (Or.inr (slot_ne (a0 := a0) (Or.inr (hw _ (List.mem_of_getElem? (i := 35) rfl))) (Or.inr (hw _ (List.mem_of_getElem? (i := 29) rfl))) (by decide) (t := (.object "com/example/quadstone/quadstone/engine/Plan$Slot")) (t' := (.object "com/example/quadstone/quadstone/engine/Plan$Slot")) (by decide) (by decide)))) (Or.inr (slot_ne (a0 := a0) (Or.inr (hw _ (List.mem_of_getElem? (i := 35) rfl))) (Or.inr (hw _ (List.mem_of_getElem? (i := 31) rfl))) (by decide) (t := (.object "com/example/quadstone/quadstone/engine/Plan$Slot")) (t' := (.object "com/example/quadstone/quadstone/engine/Plan$Slot")) (by decide) (by decide)))) (Or.inr (slot_ne (a0 := a0) (Or.inr (hw _ (List.mem_of_getElem? (i := 35) rfl))) (Or.inr (hw _ (List.mem_of_getElem? (i := 33) rfl))) (by decide) (t := (.object "com/example/quadstone/quadstone/engine/Plan$Slot")) (t' := (.object "com/example/quadstone/quadstone/engine/Plan$Slot")) (by decide) (by decide))))
  have F10 : Exa Z h8 o "com/example/quadstone/quadstone/engine/Plan$Step" := (Jvm.RoadKit.Exa.wr W8 F7)
  refine pf (pc' := 25) (host := "") (ty := (.object "com/example/quadstone/quadstone/engine/Plan$Slot")) X8 hx hZ hown (Or.inl (hw _ (List.mem_of_getElem? (i := 34) rfl))) Via.refl F9 F10 (Or.inr ⟨(hw _ (List.mem_of_getElem? (i := 35) rfl)), rfl, hnm⟩) (hw _ (List.mem_of_getElem? (i := 22) rfl)) (by decide) (own_nar hr_g) (own_fitO hr_g) H5 (hb hby d4_22) rfl fun T11 h11 X11 W11 => ?_
  refine rV X11 hx hlk hret (hb hby d4_25) (by decide) (by decide) ?_
  have F12 : Fld Z h11 o "com/example/quadstone/quadstone/engine/Plan$Step" "subject" "Lcom/example/quadstone/quadstone/engine/Plan$Slot;" (.ref sa) := (Jvm.RoadKit.Fld.other W11 (Jvm.RoadKit.Fld.other W8 (Jvm.RoadKit.Fld.other W5 (Jvm.RoadKit.Fld.same W2 H1) (Or.inr (slot_ne (a0 := a0) (Or.inr (hw _ (List.mem_of_getElem? (i := 29) rfl))) (Or.inr (hw _ (List.mem_of_getElem? (i := 31) rfl))) (by decide) (t := (.object "com/example/quadstone/quadstone/engine/Plan$Slot")) (t' := (.object "com/example/quadstone/quadstone/engine/Plan$Slot")) (by decide) (by decide)))) (Or.inr (slot_ne (a0 := a0) (Or.inr (hw _ (List.mem_of_getElem? (i := 29) rfl))) (Or.inr (hw _ (List.mem_of_getElem? (i := 33) rfl))) (by decide) (t := (.object "com/example/quadstone/quadstone/engine/Plan$Slot")) (t' := (.object "com/example/quadstone/quadstone/engine/Plan$Slot")) (by decide) (by decide)))) (Or.inr (slot_ne (a0 := a0) (Or.inr (hw _ (List.mem_of_getElem? (i := 29) rfl))) (Or.inr (hw _ (List.mem_of_getElem? (i := 35) rfl))) (by decide) (t := (.object "com/example/quadstone/quadstone/engine/Plan$Slot")) (t' := (.object "com/example/quadstone/quadstone/engine/Plan$Slot")) (by decide) (by decide))))
  have F13 : Fld Z h11 o "com/example/quadstone/quadstone/engine/Plan$Step" "predicate" "Lcom/example/quadstone/quadstone/engine/Plan$Slot;" (.ref sb) := (Jvm.RoadKit.Fld.other W11 (Jvm.RoadKit.Fld.other W8 (Jvm.RoadKit.Fld.same W5 F3) (Or.inr (slot_ne (a0 := a0) (Or.inr (hw _ (List.mem_of_getElem? (i := 31) rfl))) (Or.inr (hw _ (List.mem_of_getElem? (i := 33) rfl))) (by decide) (t := (.object "com/example/quadstone/quadstone/engine/Plan$Slot")) (t' := (.object "com/example/quadstone/quadstone/engine/Plan$Slot")) (by decide) (by decide)))) (Or.inr (slot_ne (a0 := a0) (Or.inr (hw _ (List.mem_of_getElem? (i := 31) rfl))) (Or.inr (hw _ (List.mem_of_getElem? (i := 35) rfl))) (by decide) (t := (.object "com/example/quadstone/quadstone/engine/Plan$Slot")) (t' := (.object "com/example/quadstone/quadstone/engine/Plan$Slot")) (by decide) (by decide))))
  have F14 : Fld Z h11 o "com/example/quadstone/quadstone/engine/Plan$Step" "object" "Lcom/example/quadstone/quadstone/engine/Plan$Slot;" (.ref sc) := (Jvm.RoadKit.Fld.other W11 (Jvm.RoadKit.Fld.same W8 F6) (Or.inr (slot_ne (a0 := a0) (Or.inr (hw _ (List.mem_of_getElem? (i := 33) rfl))) (Or.inr (hw _ (List.mem_of_getElem? (i := 35) rfl))) (by decide) (t := (.object "com/example/quadstone/quadstone/engine/Plan$Slot")) (t' := (.object "com/example/quadstone/quadstone/engine/Plan$Slot")) (by decide) (by decide))))
  have F15 : Fld Z h11 o "com/example/quadstone/quadstone/engine/Plan$Step" "graph" "Lcom/example/quadstone/quadstone/engine/Plan$Slot;" g := (Jvm.RoadKit.Fld.same W11 F9)
  exact ⟨rfl, (((((Keep.refl h0 _).wr W2 (Or.inl (List.mem_of_getElem? (i := 0) rfl))).wr W5 (Or.inl (List.mem_of_getElem? (i := 0) rfl))).wr W8 (Or.inl (List.mem_of_getElem? (i := 0) rfl))).wr W11 (Or.inl (List.mem_of_getElem? (i := 0) rfl))), F12, F13, F14, F15⟩
theorem d5_0 : decode prog_75_method_2_code 0 = .ok (.iload_n 1, 1) := by decide +kernel
theorem d5_1 : decode prog_75_method_2_code 1 = .ok (.tableswitch 48 0 2 #[27, 34, 41], 27) := by decide +kernel
theorem d5_28 : decode prog_75_method_2_code 28 = .ok (.aload_n 0, 1) := by decide +kernel
theorem d5_29 : decode prog_75_method_2_code 29 = .ok (.getfield 7, 3) := by decide +kernel
theorem d5_32 : decode prog_75_method_2_code 32 = .ok (.goto 21, 3) := by decide +kernel
theorem d5_35 : decode prog_75_method_2_code 35 = .ok (.aload_n 0, 1) := by decide +kernel
theorem d5_36 : decode prog_75_method_2_code 36 = .ok (.getfield 13, 3) := by decide +kernel
theorem d5_39 : decode prog_75_method_2_code 39 = .ok (.goto 14, 3) := by decide +kernel
theorem d5_42 : decode prog_75_method_2_code 42 = .ok (.aload_n 0, 1) := by decide +kernel
theorem d5_43 : decode prog_75_method_2_code 43 = .ok (.getfield 16, 3) := by decide +kernel
theorem d5_46 : decode prog_75_method_2_code 46 = .ok (.goto 7, 3) := by decide +kernel
theorem d5_49 : decode prog_75_method_2_code 49 = .ok (.aload_n 0, 1) := by decide +kernel
theorem d5_50 : decode prog_75_method_2_code 50 = .ok (.getfield 19, 3) := by decide +kernel
theorem d5_53 : decode prog_75_method_2_code 53 = .ok (.areturn, 1) := by decide +kernel
theorem ef_rm5 (m : MethodId) (o : Addr) (i : Int32) : entryFrame m #[(.ref o), (.int i)] 2 = mkF m 0 #[.val (.ref o), .val (.int i)] [] := by first | rfl | (simp [entryFrame, mkF, argsToLocals, Value.category, maxLocals]; done)
def Qrm5 (Z : State) (o : Addr) (i : Int32) (sa : Addr) (sb : Addr) (sc : Addr) (g : Value) (n0 : Nat) (h0 : Heap) (v : Option Value) (h : Heap) : Prop := v = some (if i = (0 : Int32) then Value.ref sa else if i = (1 : Int32) then Value.ref sb else if i = (2 : Int32) then Value.ref sc else g) ∧ h0 = h
abbrev Rrm5 : Room := { frames := 0, cells := 0, slots := 0, locals := 0 }
set_option maxRecDepth 65536 in
set_option maxHeartbeats 40000000 in
theorem rm5 (l : Launch) (Z : State) (a0 : Array Value) (hw : ∀ d ∈ tables_1, d.before a0 Z = true) (ws : List Jvm.Cond) (o : Addr) (i : Int32) (sa : Addr) (sb : Addr) (sc : Addr) (g : Value) (n0 : Nat) (h0 : Heap) (hn : n0 ≤ h0.size) (H0 : Fld Z h0 o "com/example/quadstone/quadstone/engine/Plan$Step" "subject" "Lcom/example/quadstone/quadstone/engine/Plan$Slot;" (.ref sa)) (H1 : Fld Z h0 o "com/example/quadstone/quadstone/engine/Plan$Step" "predicate" "Lcom/example/quadstone/quadstone/engine/Plan$Slot;" (.ref sb)) (H2 : Fld Z h0 o "com/example/quadstone/quadstone/engine/Plan$Step" "object" "Lcom/example/quadstone/quadstone/engine/Plan$Slot;" (.ref sc)) (H3 : Fld Z h0 o "com/example/quadstone/quadstone/engine/Plan$Step" "graph" "Lcom/example/quadstone/quadstone/engine/Plan$Slot;" g) (hr_g : g.isRef = true) :
    Con l Z (⟨"com/example/quadstone/quadstone/engine/Plan$Step", "position", "(I)Lcom/example/quadstone/quadstone/engine/Plan$Slot;"⟩ : MethodName) prog_75_method_2_code 2 (some (.object "com/example/quadstone/quadstone/engine/Plan$Slot")) ws Rrm5 #[(.ref o), (.int i)] h0 n0 (Qrm5 Z o i sa sb sc g n0 h0) := by
  refine body (y := (⟨"com/example/quadstone/quadstone/engine/Plan$Step", "position", "(I)Lcom/example/quadstone/quadstone/engine/Plan$Slot;"⟩ : MethodName)) (Ls := #[.val (.ref o), .val (.int i)]) pn2 hn (fun m => ef_rm5 m o i) ?_
  intro p e s m below meth c T0 hx hby hml hown hnm hret hlk hZ X0
  refine i_iloadN (v := i) (pc' := 1) X0 hx (hb hby d5_0) rfl rfl ?_
  by_cases hc1 : i = (0 : Int32)
  · skip
    refine i_tsI (pc' := 28) (o := 27) X0 hx (hb hby d5_1) (by rw [hc1]; decide) (by rw [hc1]; decide) (by decide) (by decide) ?_
    refine i_aloadN (v := (.ref o)) (pc' := 29) X0 hx (hb hby d5_28) rfl rfl rfl ?_
    refine gf (pc' := 32) (host := "") X0 hx hZ hown (Or.inl (hw _ (List.mem_of_getElem? (i := 28) rfl))) Via.refl H0 (hb hby d5_29) rfl fun T2 X2 => ?_
    refine i_goto (pc' := 53) X2 hx (hb hby d5_32) (by decide) (by decide) ?_
    refine rA X2 hx hlk hret rfl rfl rfl (hb hby d5_53) (by decide) (by decide) ?_
    exact ⟨(by simp [hc1]), rfl⟩
  by_cases hc3 : i = (1 : Int32)
  · skip
    refine i_tsI (pc' := 35) (o := 34) X0 hx (hb hby d5_1) (by rw [hc3]; decide) (by rw [hc3]; decide) (by decide) (by decide) ?_
    refine i_aloadN (v := (.ref o)) (pc' := 36) X0 hx (hb hby d5_35) rfl rfl rfl ?_
    refine gf (pc' := 39) (host := "") X0 hx hZ hown (Or.inl (hw _ (List.mem_of_getElem? (i := 30) rfl))) Via.refl H1 (hb hby d5_36) rfl fun T4 X4 => ?_
    refine i_goto (pc' := 53) X4 hx (hb hby d5_39) (by decide) (by decide) ?_
    refine rA X4 hx hlk hret rfl rfl rfl (hb hby d5_53) (by decide) (by decide) ?_
    exact ⟨(by simp [hc1, hc3]), rfl⟩
  by_cases hc5 : i = (2 : Int32)
  · skip
    refine i_tsI (pc' := 42) (o := 41) X0 hx (hb hby d5_1) (by rw [hc5]; decide) (by rw [hc5]; decide) (by decide) (by decide) ?_
    refine i_aloadN (v := (.ref o)) (pc' := 43) X0 hx (hb hby d5_42) rfl rfl rfl ?_
    refine gf (pc' := 46) (host := "") X0 hx hZ hown (Or.inl (hw _ (List.mem_of_getElem? (i := 32) rfl))) Via.refl H2 (hb hby d5_43) rfl fun T6 X6 => ?_
    refine i_goto (pc' := 53) X6 hx (hb hby d5_46) (by decide) (by decide) ?_
    refine rA X6 hx hlk hret rfl rfl rfl (hb hby d5_53) (by decide) (by decide) ?_
    exact ⟨(by simp [hc1, hc3, hc5]), rfl⟩
  refine i_tsO (pc' := 49) X0 hx (hb hby d5_1) (own_sw3 hc1 hc3 hc5) (by decide) (by decide) ?_
  refine i_aloadN (v := (.ref o)) (pc' := 50) X0 hx (hb hby d5_49) rfl rfl rfl ?_
  refine gf (pc' := 53) (host := "") X0 hx hZ hown (Or.inl (hw _ (List.mem_of_getElem? (i := 34) rfl))) Via.refl H3 (hb hby d5_50) rfl fun T7 X7 => ?_
  refine rA X7 hx hlk hret rfl hr_g (own_nar hr_g) (hb hby d5_53) (by decide) (by decide) ?_
  exact ⟨(by simp [hc1, hc3, hc5]), rfl⟩
theorem pn3 : plainName "com/example/quadstone/quadstone/engine/PlanPositionPinLaw" = true := by first | (simp [plainName, overriddenIn]; done) | decide +kernel
theorem ef_rm0 (m : MethodId) (p1 : Int64) (p2 : Int32) (p3 : Int32) (p4 : Int32) : entryFrame m #[(.long p1), (.int p2), (.int p3), (.int p4)] maxLocals = mkF m 0 #[.val (.long p1), .second, .val (.int p2), .val (.int p3), .val (.int p4), .unset, .unset, .unset, .unset, .unset, .unset, .unset, .unset] [] := by first | rfl | (simp [entryFrame, mkF, argsToLocals, Value.category, maxLocals]; done)
abbrev Q0 : Option Value → Heap → Prop := fun v _ => v = some (.int 1)
theorem pd1 : parseMethodDescriptor "(JI)V" = some ⟨[.long, .int], none⟩ := by decide +kernel
theorem pd2 : parseMethodDescriptor "(Lcom/example/quadstone/quadstone/engine/Plan$Slot;Lcom/example/quadstone/quadstone/engine/Plan$Slot;Lcom/example/quadstone/quadstone/engine/Plan$Slot;Lcom/example/quadstone/quadstone/engine/Plan$Slot;)V" = some ⟨[(.object "com/example/quadstone/quadstone/engine/Plan$Slot"), (.object "com/example/quadstone/quadstone/engine/Plan$Slot"), (.object "com/example/quadstone/quadstone/engine/Plan$Slot"), (.object "com/example/quadstone/quadstone/engine/Plan$Slot")], none⟩ := by decide +kernel
theorem pd3 : parseMethodDescriptor "(I)Lcom/example/quadstone/quadstone/engine/Plan$Slot;" = some ⟨[.int], some (.object "com/example/quadstone/quadstone/engine/Plan$Slot")⟩ := by decide +kernel
set_option maxRecDepth 65536 in
set_option maxHeartbeats 40000000 in
theorem rm0 (l : Launch) (Z : State) (a0 : Array Value) (hw : ∀ d ∈ tables_1, d.before a0 Z = true) (ws : List Jvm.Cond) (p1 : Int64) (p2 : Int32) (p3 : Int32) (p4 : Int32) (n0 : Nat) (h0 : Heap) (hn : n0 ≤ h0.size)   :
    Con l Z x code maxLocals ret ws room_1 #[(.long p1), (.int p2), (.int p3), (.int p4)] h0 n0 Q0 := by
  refine body (y := x) (Ls := #[.val (.long p1), .second, .val (.int p2), .val (.int p3), .val (.int p4), .unset, .unset, .unset, .unset, .unset, .unset, .unset, .unset]) pn3 hn (fun m => ef_rm0 m p1 p2 p3 p4) ?_
  intro p e s m below meth c T0 hx hby hml hown hnm hret hlk hZ X0
  replace hown : s.vm.findClass "com/example/quadstone/quadstone/engine/PlanPositionPinLaw" = some m.cls := hown
  replace hml : c.maxLocals = 13 := hml
  replace hret : meth.sig.returnType = (some .boolean) := hret
  refine i_iload (v := p4) (pc' := 2) X0 hx (hb hby at_0) rfl rfl ?_
  refine i_iconst (pc' := 3) (1 : Int32) X0 hx (hb hby at_2) rfl (by decide) ?_
  refine i_iand (pc' := 4) X0 hx (hb hby at_3) rfl ?_
  by_cases hc1 : (p4 &&& (1 : Int32)) = 0
  · skip
    refine i_ifT (pc' := 11) X0 hx (hb hby at_4) (XT.i0_eq_t hc1) (by decide) (by decide) ?_
    refine i_iconst (pc' := 12) (0 : Int32) X0 hx (hb hby at_11) rfl (by decide) ?_
    refine i_istore (L' := #[.val (.long p1), .second, .val (.int p2), .val (.int p3), .val (.int p4), .val (.int (0 : Int32)), .unset, .unset, .unset, .unset, .unset, .unset, .unset]) (pc' := 14) X0 hx (hb hby at_12) rfl rfl ?_
    refine nw (pc' := 17) X0 hx hZ hown (hw _ (List.mem_of_getElem? (i := 0) rfl)) (hw _ (List.mem_of_getElem? (i := 1) rfl)) (hw _ (List.mem_of_getElem? (i := 2) rfl)) (hb hby at_14) rfl (by decide) (by decide) fun T2 h2 b2 X2 g2 ge2 E2 A2 D2 => ?_
    have sz_b2 : h0.size ≤ b2 := Nat.le_trans ((Keep.refl h0 _) : Keep h0 h0 []).1 (Nat.le_of_eq g2.symm)
    have K2 : Keep h0 h2 [] := ((Keep.refl h0 _) : Keep h0 h0 []).ext E2
    refine i_dup (pc' := 18) X2 hx (hb hby at_17) rfl rfl ?_
    refine i_lloadN (v := p1) (pc' := 19) X2 hx (hb hby at_18) rfl rfl ?_
    refine i_iloadN (v := p2) (pc' := 20) X2 hx (hb hby at_19) rfl rfl ?_
    have F3 : Fld Z h2 b2 "com/example/quadstone/quadstone/engine/Plan$Slot" "constant" "J" (.long (0 : Int64)) := (D2 (Or.inr (hw _ (List.mem_of_getElem? (i := 15) rfl))) (ty := .long) (by decide))
    have F4 : Fld Z h2 b2 "com/example/quadstone/quadstone/engine/Plan$Slot" "variable" "I" (.int (0 : Int32)) := (D2 (Or.inr (hw _ (List.mem_of_getElem? (i := 17) rfl))) (ty := .int) (by decide))
    refine cI (y := (⟨"com/example/quadstone/quadstone/engine/Plan$Slot", "<init>", "(JI)V"⟩ : MethodName)) (rest := [(.ref b2)]) (pc' := 23) (a := b2) 1 [(.long p1), (.int p2)] X2 hx hZ hown rfl (hw _ (List.mem_of_getElem? (i := 3) rfl)) (hw _ (List.mem_of_getElem? (i := 4) rfl)) (hw _ (List.mem_of_getElem? (i := 2) rfl)) (hw _ (List.mem_of_getElem? (i := 5) rfl)) (by decide) (rm1 l Z a0 hw [] b2 p1 p2 n0 h2 X2.le A2 F3 F4 ge2) (by decide) (by decide) (by rw [hml]; rfl) rfl (lenOf pd1 rfl) rfl (Nat.le_of_eq rfl) (hb hby at_20) rfl (by decide) (by decide) ?_
    intro r5 T5 h5 X5 q5
    obtain ⟨rfl, K5c⟩ := q5
    show Go _ _ _ _ _ _ _ T5 (mkF m 23 #[.val (.long p1), .second, .val (.int p2), .val (.int p3), .val (.int p4), .val (.int (0 : Int32)), .unset, .unset, .unset, .unset, .unset, .unset, .unset] [(.ref b2)])
    refine i_astore (L' := #[.val (.long p1), .second, .val (.int p2), .val (.int p3), .val (.int p4), .val (.int (0 : Int32)), .val (.ref b2), .unset, .unset, .unset, .unset, .unset, .unset]) (pc' := 25) X5 hx (hb hby at_23) rfl rfl rfl ?_
    refine nw (pc' := 28) X5 hx hZ hown (hw _ (List.mem_of_getElem? (i := 0) rfl)) (hw _ (List.mem_of_getElem? (i := 1) rfl)) (hw _ (List.mem_of_getElem? (i := 2) rfl)) (hb hby at_25) rfl (by decide) (by decide) fun T6 h6 b6 X6 g6 ge6 E6 A6 D6 => ?_
    have F7 : Exa Z h5 b2 "com/example/quadstone/quadstone/engine/Plan$Slot" := (A2.keep K5c)
    have ne_b2_b6 : b2 ≠ b6 := Nat.ne_of_lt (Nat.lt_of_lt_of_eq F7.lt g6.symm)
    have sz_b6 : h0.size ≤ b6 := Nat.le_trans (((K2 : Keep h0 h2 []).trans K5c (allS (Or.inr sz_b2) all0)) : Keep h0 h5 []).1 (Nat.le_of_eq g6.symm)
    have K6 : Keep h0 h6 [] := (((K2 : Keep h0 h2 []).trans K5c (allS (Or.inr sz_b2) all0)) : Keep h0 h5 []).ext E6
    refine i_dup (pc' := 29) X6 hx (hb hby at_28) rfl rfl ?_
    refine i_lloadN (v := p1) (pc' := 30) X6 hx (hb hby at_29) rfl rfl ?_
    refine i_ldc2 (pc' := 33) (-1 : Int64) X6 hx hZ hown (hw _ (List.mem_of_getElem? (i := 18) rfl)) (hb hby at_30) rfl ?_
    refine i_lxor (pc' := 34) X6 hx (hb hby at_33) rfl ?_
    refine i_iloadN (v := p2) (pc' := 35) X6 hx (hb hby at_34) rfl rfl ?_
    refine i_iconst (pc' := 36) (1 : Int32) X6 hx (hb hby at_35) rfl (by decide) ?_
    refine i_ixor (pc' := 37) X6 hx (hb hby at_36) rfl ?_
    have F8 : Fld Z h6 b6 "com/example/quadstone/quadstone/engine/Plan$Slot" "constant" "J" (.long (0 : Int64)) := (D6 (Or.inr (hw _ (List.mem_of_getElem? (i := 15) rfl))) (ty := .long) (by decide))
    have F9 : Fld Z h6 b6 "com/example/quadstone/quadstone/engine/Plan$Slot" "variable" "I" (.int (0 : Int32)) := (D6 (Or.inr (hw _ (List.mem_of_getElem? (i := 17) rfl))) (ty := .int) (by decide))
    refine cI (y := (⟨"com/example/quadstone/quadstone/engine/Plan$Slot", "<init>", "(JI)V"⟩ : MethodName)) (rest := [(.ref b6)]) (pc' := 40) (a := b6) 1 [(.long (p1 ^^^ (-1 : Int64))), (.int (p2 ^^^ (1 : Int32)))] X6 hx hZ hown rfl (hw _ (List.mem_of_getElem? (i := 3) rfl)) (hw _ (List.mem_of_getElem? (i := 4) rfl)) (hw _ (List.mem_of_getElem? (i := 2) rfl)) (hw _ (List.mem_of_getElem? (i := 5) rfl)) (by decide) (rm1 l Z a0 hw [] b6 (p1 ^^^ (-1 : Int64)) (p2 ^^^ (1 : Int32)) n0 h6 X6.le A6 F8 F9 ge6) (by decide) (by decide) (by rw [hml]; rfl) rfl (lenOf pd1 rfl) rfl (Nat.le_of_eq rfl) (hb hby at_37) rfl (by decide) (by decide) ?_
    intro r10 T10 h10 X10 q10
    obtain ⟨rfl, K10c⟩ := q10
    show Go _ _ _ _ _ _ _ T10 (mkF m 40 #[.val (.long p1), .second, .val (.int p2), .val (.int p3), .val (.int p4), .val (.int (0 : Int32)), .val (.ref b2), .unset, .unset, .unset, .unset, .unset, .unset] [(.ref b6)])
    refine i_astore (L' := #[.val (.long p1), .second, .val (.int p2), .val (.int p3), .val (.int p4), .val (.int (0 : Int32)), .val (.ref b2), .val (.ref b6), .unset, .unset, .unset, .unset, .unset]) (pc' := 42) X10 hx (hb hby at_40) rfl rfl rfl ?_
    refine nw (pc' := 45) X10 hx hZ hown (hw _ (List.mem_of_getElem? (i := 0) rfl)) (hw _ (List.mem_of_getElem? (i := 1) rfl)) (hw _ (List.mem_of_getElem? (i := 2) rfl)) (hb hby at_42) rfl (by decide) (by decide) fun T11 h11 b11 X11 g11 ge11 E11 A11 D11 => ?_
    have F12 : Exa Z h10 b2 "com/example/quadstone/quadstone/engine/Plan$Slot" := ((Jvm.RoadKit.Exa.ext E6 F7).keep K10c)
    have ne_b2_b11 : b2 ≠ b11 := Nat.ne_of_lt (Nat.lt_of_lt_of_eq F12.lt g11.symm)
    have F13 : Exa Z h10 b6 "com/example/quadstone/quadstone/engine/Plan$Slot" := (A6.keep K10c)
    have ne_b6_b11 : b6 ≠ b11 := Nat.ne_of_lt (Nat.lt_of_lt_of_eq F13.lt g11.symm)
    have sz_b11 : h0.size ≤ b11 := Nat.le_trans (((K6 : Keep h0 h6 []).trans K10c (allS (Or.inr sz_b6) all0)) : Keep h0 h10 []).1 (Nat.le_of_eq g11.symm)
    have K11 : Keep h0 h11 [] := (((K6 : Keep h0 h6 []).trans K10c (allS (Or.inr sz_b6) all0)) : Keep h0 h10 []).ext E11
    refine i_dup (pc' := 46) X11 hx (hb hby at_45) rfl rfl ?_
    refine i_lloadN (v := p1) (pc' := 47) X11 hx (hb hby at_46) rfl rfl ?_
    refine i_ldc2 (pc' := 50) (2 : Int64) X11 hx hZ hown (hw _ (List.mem_of_getElem? (i := 19) rfl)) (hb hby at_47) rfl ?_
    refine i_lxor (pc' := 51) X11 hx (hb hby at_50) rfl ?_
    refine i_iloadN (v := p2) (pc' := 52) X11 hx (hb hby at_51) rfl rfl ?_
    refine i_iconst (pc' := 53) (2 : Int32) X11 hx (hb hby at_52) rfl (by decide) ?_
    refine i_ixor (pc' := 54) X11 hx (hb hby at_53) rfl ?_
    have F14 : Fld Z h11 b11 "com/example/quadstone/quadstone/engine/Plan$Slot" "constant" "J" (.long (0 : Int64)) := (D11 (Or.inr (hw _ (List.mem_of_getElem? (i := 15) rfl))) (ty := .long) (by decide))
    have F15 : Fld Z h11 b11 "com/example/quadstone/quadstone/engine/Plan$Slot" "variable" "I" (.int (0 : Int32)) := (D11 (Or.inr (hw _ (List.mem_of_getElem? (i := 17) rfl))) (ty := .int) (by decide))
    refine cI (y := (⟨"com/example/quadstone/quadstone/engine/Plan$Slot", "<init>", "(JI)V"⟩ : MethodName)) (rest := [(.ref b11)]) (pc' := 57) (a := b11) 1 [(.long (p1 ^^^ (2 : Int64))), (.int (p2 ^^^ (2 : Int32)))] X11 hx hZ hown rfl (hw _ (List.mem_of_getElem? (i := 3) rfl)) (hw _ (List.mem_of_getElem? (i := 4) rfl)) (hw _ (List.mem_of_getElem? (i := 2) rfl)) (hw _ (List.mem_of_getElem? (i := 5) rfl)) (by decide) (rm1 l Z a0 hw [] b11 (p1 ^^^ (2 : Int64)) (p2 ^^^ (2 : Int32)) n0 h11 X11.le A11 F14 F15 ge11) (by decide) (by decide) (by rw [hml]; rfl) rfl (lenOf pd1 rfl) rfl (Nat.le_of_eq rfl) (hb hby at_54) rfl (by decide) (by decide) ?_
    intro r16 T16 h16 X16 q16
    obtain ⟨rfl, K16c⟩ := q16
    show Go _ _ _ _ _ _ _ T16 (mkF m 57 #[.val (.long p1), .second, .val (.int p2), .val (.int p3), .val (.int p4), .val (.int (0 : Int32)), .val (.ref b2), .val (.ref b6), .unset, .unset, .unset, .unset, .unset] [(.ref b11)])
    refine i_astore (L' := #[.val (.long p1), .second, .val (.int p2), .val (.int p3), .val (.int p4), .val (.int (0 : Int32)), .val (.ref b2), .val (.ref b6), .val (.ref b11), .unset, .unset, .unset, .unset]) (pc' := 59) X16 hx (hb hby at_57) rfl rfl rfl ?_
    refine i_iload (v := (0 : Int32)) (pc' := 61) X16 hx (hb hby at_59) rfl rfl ?_
    refine i_ifT (pc' := 68) X16 hx (hb hby at_61) (XT.i0_eq_t (by decide)) (by decide) (by decide) ?_
    refine nw (pc' := 71) X16 hx hZ hown (hw _ (List.mem_of_getElem? (i := 0) rfl)) (hw _ (List.mem_of_getElem? (i := 1) rfl)) (hw _ (List.mem_of_getElem? (i := 2) rfl)) (hb hby at_68) rfl (by decide) (by decide) fun T17 h17 b17 X17 g17 ge17 E17 A17 D17 => ?_
    have F18 : Exa Z h16 b2 "com/example/quadstone/quadstone/engine/Plan$Slot" := ((Jvm.RoadKit.Exa.ext E11 F12).keep K16c)
    have ne_b2_b17 : b2 ≠ b17 := Nat.ne_of_lt (Nat.lt_of_lt_of_eq F18.lt g17.symm)
    have F19 : Exa Z h16 b6 "com/example/quadstone/quadstone/engine/Plan$Slot" := ((Jvm.RoadKit.Exa.ext E11 F13).keep K16c)
    have ne_b6_b17 : b6 ≠ b17 := Nat.ne_of_lt (Nat.lt_of_lt_of_eq F19.lt g17.symm)
    have F20 : Exa Z h16 b11 "com/example/quadstone/quadstone/engine/Plan$Slot" := (A11.keep K16c)
    have ne_b11_b17 : b11 ≠ b17 := Nat.ne_of_lt (Nat.lt_of_lt_of_eq F20.lt g17.symm)
    have sz_b17 : h0.size ≤ b17 := Nat.le_trans (((K11 : Keep h0 h11 []).trans K16c (allS (Or.inr sz_b11) all0)) : Keep h0 h16 []).1 (Nat.le_of_eq g17.symm)
    have K17 : Keep h0 h17 [] := (((K11 : Keep h0 h11 []).trans K16c (allS (Or.inr sz_b11) all0)) : Keep h0 h16 []).ext E17
    refine i_dup (pc' := 72) X17 hx (hb hby at_71) rfl rfl ?_
    refine i_lloadN (v := p1) (pc' := 73) X17 hx (hb hby at_72) rfl rfl ?_
    refine i_ldc2 (pc' := 76) (3 : Int64) X17 hx hZ hown (hw _ (List.mem_of_getElem? (i := 20) rfl)) (hb hby at_73) rfl ?_
    refine i_lxor (pc' := 77) X17 hx (hb hby at_76) rfl ?_
    refine i_iloadN (v := p2) (pc' := 78) X17 hx (hb hby at_77) rfl rfl ?_
    refine i_iconst (pc' := 79) (3 : Int32) X17 hx (hb hby at_78) rfl (by decide) ?_
    refine i_ixor (pc' := 80) X17 hx (hb hby at_79) rfl ?_
    have F21 : Fld Z h17 b17 "com/example/quadstone/quadstone/engine/Plan$Slot" "constant" "J" (.long (0 : Int64)) := (D17 (Or.inr (hw _ (List.mem_of_getElem? (i := 15) rfl))) (ty := .long) (by decide))
    have F22 : Fld Z h17 b17 "com/example/quadstone/quadstone/engine/Plan$Slot" "variable" "I" (.int (0 : Int32)) := (D17 (Or.inr (hw _ (List.mem_of_getElem? (i := 17) rfl))) (ty := .int) (by decide))
    refine cI (y := (⟨"com/example/quadstone/quadstone/engine/Plan$Slot", "<init>", "(JI)V"⟩ : MethodName)) (rest := [(.ref b17)]) (pc' := 83) (a := b17) 1 [(.long (p1 ^^^ (3 : Int64))), (.int (p2 ^^^ (3 : Int32)))] X17 hx hZ hown rfl (hw _ (List.mem_of_getElem? (i := 3) rfl)) (hw _ (List.mem_of_getElem? (i := 4) rfl)) (hw _ (List.mem_of_getElem? (i := 2) rfl)) (hw _ (List.mem_of_getElem? (i := 5) rfl)) (by decide) (rm1 l Z a0 hw [] b17 (p1 ^^^ (3 : Int64)) (p2 ^^^ (3 : Int32)) n0 h17 X17.le A17 F21 F22 ge17) (by decide) (by decide) (by rw [hml]; rfl) rfl (lenOf pd1 rfl) rfl (Nat.le_of_eq rfl) (hb hby at_80) rfl (by decide) (by decide) ?_
    intro r23 T23 h23 X23 q23
    obtain ⟨rfl, K23c⟩ := q23
    show Go _ _ _ _ _ _ _ T23 (mkF m 83 #[.val (.long p1), .second, .val (.int p2), .val (.int p3), .val (.int p4), .val (.int (0 : Int32)), .val (.ref b2), .val (.ref b6), .val (.ref b11), .unset, .unset, .unset, .unset] [(.ref b17)])
    refine i_astore (L' := #[.val (.long p1), .second, .val (.int p2), .val (.int p3), .val (.int p4), .val (.int (0 : Int32)), .val (.ref b2), .val (.ref b6), .val (.ref b11), .val (.ref b17), .unset, .unset, .unset]) (pc' := 85) X23 hx (hb hby at_83) rfl rfl rfl ?_
    refine nw (pc' := 88) X23 hx hZ hown (hw _ (List.mem_of_getElem? (i := 21) rfl)) (hw _ (List.mem_of_getElem? (i := 22) rfl)) (hw _ (List.mem_of_getElem? (i := 23) rfl)) (hb hby at_85) rfl (by decide) (by decide) fun T24 h24 b24 X24 g24 ge24 E24 A24 D24 => ?_
    have F25 : Exa Z h23 b2 "com/example/quadstone/quadstone/engine/Plan$Slot" := ((Jvm.RoadKit.Exa.ext E17 F18).keep K23c)
    have ne_b2_b24 : b2 ≠ b24 := Nat.ne_of_lt (Nat.lt_of_lt_of_eq F25.lt g24.symm)
    have F26 : Exa Z h23 b6 "com/example/quadstone/quadstone/engine/Plan$Slot" := ((Jvm.RoadKit.Exa.ext E17 F19).keep K23c)
    have ne_b6_b24 : b6 ≠ b24 := Nat.ne_of_lt (Nat.lt_of_lt_of_eq F26.lt g24.symm)
    have F27 : Exa Z h23 b11 "com/example/quadstone/quadstone/engine/Plan$Slot" := ((Jvm.RoadKit.Exa.ext E17 F20).keep K23c)
    have ne_b11_b24 : b11 ≠ b24 := Nat.ne_of_lt (Nat.lt_of_lt_of_eq F27.lt g24.symm)
    have F28 : Exa Z h23 b17 "com/example/quadstone/quadstone/engine/Plan$Slot" := (A17.keep K23c)
    have ne_b17_b24 : b17 ≠ b24 := Nat.ne_of_lt (Nat.lt_of_lt_of_eq F28.lt g24.symm)
    have sz_b24 : h0.size ≤ b24 := Nat.le_trans (((K17 : Keep h0 h17 []).trans K23c (allS (Or.inr sz_b17) all0)) : Keep h0 h23 []).1 (Nat.le_of_eq g24.symm)
    have K24 : Keep h0 h24 [] := (((K17 : Keep h0 h17 []).trans K23c (allS (Or.inr sz_b17) all0)) : Keep h0 h23 []).ext E24
    refine i_dup (pc' := 89) X24 hx (hb hby at_88) rfl rfl ?_
    refine i_aload (v := (.ref b2)) (pc' := 91) X24 hx (hb hby at_89) rfl rfl rfl ?_
    refine i_aload (v := (.ref b6)) (pc' := 93) X24 hx (hb hby at_91) rfl rfl rfl ?_
    refine i_aload (v := (.ref b11)) (pc' := 95) X24 hx (hb hby at_93) rfl rfl rfl ?_
    refine i_aload (v := (.ref b17)) (pc' := 97) X24 hx (hb hby at_95) rfl rfl rfl ?_
    have F29 : Fld Z h24 b24 "com/example/quadstone/quadstone/engine/Plan$Step" "subject" "Lcom/example/quadstone/quadstone/engine/Plan$Slot;" .null := (D24 (Or.inr (hw _ (List.mem_of_getElem? (i := 29) rfl))) (ty := (.object "com/example/quadstone/quadstone/engine/Plan$Slot")) (by decide))
    have F30 : Fld Z h24 b24 "com/example/quadstone/quadstone/engine/Plan$Step" "predicate" "Lcom/example/quadstone/quadstone/engine/Plan$Slot;" .null := (D24 (Or.inr (hw _ (List.mem_of_getElem? (i := 31) rfl))) (ty := (.object "com/example/quadstone/quadstone/engine/Plan$Slot")) (by decide))
    have F31 : Fld Z h24 b24 "com/example/quadstone/quadstone/engine/Plan$Step" "object" "Lcom/example/quadstone/quadstone/engine/Plan$Slot;" .null := (D24 (Or.inr (hw _ (List.mem_of_getElem? (i := 33) rfl))) (ty := (.object "com/example/quadstone/quadstone/engine/Plan$Slot")) (by decide))
    have F32 : Fld Z h24 b24 "com/example/quadstone/quadstone/engine/Plan$Step" "graph" "Lcom/example/quadstone/quadstone/engine/Plan$Slot;" .null := (D24 (Or.inr (hw _ (List.mem_of_getElem? (i := 35) rfl))) (ty := (.object "com/example/quadstone/quadstone/engine/Plan$Slot")) (by decide))
    refine cI (y := (⟨"com/example/quadstone/quadstone/engine/Plan$Step", "<init>", "(Lcom/example/quadstone/quadstone/engine/Plan$Slot;Lcom/example/quadstone/quadstone/engine/Plan$Slot;Lcom/example/quadstone/quadstone/engine/Plan$Slot;Lcom/example/quadstone/quadstone/engine/Plan$Slot;)V"⟩ : MethodName)) (rest := [(.ref b24)]) (pc' := 100) (a := b24) 1 [(.ref b2), (.ref b6), (.ref b11), (.ref b17)] X24 hx hZ hown rfl (hw _ (List.mem_of_getElem? (i := 24) rfl)) (hw _ (List.mem_of_getElem? (i := 25) rfl)) (hw _ (List.mem_of_getElem? (i := 23) rfl)) (hw _ (List.mem_of_getElem? (i := 26) rfl)) (by decide) (rm4 l Z a0 hw [] b24 b2 b6 b11 (.ref b17) n0 h24 X24.le A24 F29 F30 F31 F32 ge24 rfl) (by decide) (by decide) (by rw [hml]; rfl) rfl (lenOf pd2 rfl) rfl (Nat.le_of_eq rfl) (hb hby at_97) rfl (by decide) (by decide) ?_
    intro r33 T33 h33 X33 q33
    obtain ⟨rfl, K33c, P33_0, P33_1, P33_2, P33_3⟩ := q33
    show Go _ _ _ _ _ _ _ T33 (mkF m 100 #[.val (.long p1), .second, .val (.int p2), .val (.int p3), .val (.int p4), .val (.int (0 : Int32)), .val (.ref b2), .val (.ref b6), .val (.ref b11), .val (.ref b17), .unset, .unset, .unset] [(.ref b24)])
    refine i_astore (L' := #[.val (.long p1), .second, .val (.int p2), .val (.int p3), .val (.int p4), .val (.int (0 : Int32)), .val (.ref b2), .val (.ref b6), .val (.ref b11), .val (.ref b17), .val (.ref b24), .unset, .unset]) (pc' := 102) X33 hx (hb hby at_100) rfl rfl rfl ?_
    refine i_aload (v := (.ref b24)) (pc' := 104) X33 hx (hb hby at_102) rfl rfl rfl ?_
    refine i_iloadN (v := p3) (pc' := 105) X33 hx (hb hby at_104) rfl rfl ?_
    have F35 : Exa Z h33 b24 "com/example/quadstone/quadstone/engine/Plan$Step" := (A24.keep K33c)
    refine cV (y := (⟨"com/example/quadstone/quadstone/engine/Plan$Step", "position", "(I)Lcom/example/quadstone/quadstone/engine/Plan$Slot;"⟩ : MethodName)) (C := "com/example/quadstone/quadstone/engine/Plan$Step") (rest := []) (pc' := 108) 0 [(.int p3)] X33 hx hZ hown (hw _ (List.mem_of_getElem? (i := 36) rfl)) (hw _ (List.mem_of_getElem? (i := 37) rfl)) (hw _ (List.mem_of_getElem? (i := 39) rfl)) (hw _ (List.mem_of_getElem? (i := 38) rfl)) (hw _ (List.mem_of_getElem? (i := 23) rfl)) (hw _ (List.mem_of_getElem? (i := 40) rfl)) (by decide) F35 (rm5 l Z a0 hw [] b24 p3 b2 b6 b11 (.ref b17) n0 h33 X33.le P33_0 P33_1 P33_2 P33_3 rfl) (by decide) (by decide) (by rw [hml]; rfl) rfl (lenOf pd3 rfl) rfl (Nat.le_of_eq rfl) (hb hby at_105) rfl (by decide) (by decide) ?_
    intro r34 T34 h34 X34 q34
    obtain ⟨rfl, eh34⟩ := q34
    subst eh34
    show Go _ _ _ _ _ _ _ T34 (mkF m 108 #[.val (.long p1), .second, .val (.int p2), .val (.int p3), .val (.int p4), .val (.int (0 : Int32)), .val (.ref b2), .val (.ref b6), .val (.ref b11), .val (.ref b17), .val (.ref b24), .unset, .unset] [(if p3 = (0 : Int32) then Value.ref b2 else if p3 = (1 : Int32) then Value.ref b6 else if p3 = (2 : Int32) then Value.ref b11 else (.ref b17))])
    obtain ⟨v36, hv36⟩ : ∃ zz : Value, zz = (if p3 = (0 : Int32) then Value.ref b2 else if p3 = (1 : Int32) then Value.ref b6 else if p3 = (2 : Int32) then Value.ref b11 else (.ref b17)) := ⟨_, rfl⟩
    have hr_v36 : v36.isRef = true := by rw [hv36]; (repeat' split) <;> rfl
    rw [← hv36]
    refine i_astore (L' := #[.val (.long p1), .second, .val (.int p2), .val (.int p3), .val (.int p4), .val (.int (0 : Int32)), .val (.ref b2), .val (.ref b6), .val (.ref b11), .val (.ref b17), .val (.ref b24), .val v36, .unset]) (pc' := 110) X34 hx (hb hby at_108) rfl hr_v36 (XS.store1 (o := .unset) rfl One.u (XT.cat1 hr_v36)) ?_
    refine i_iloadN (v := p3) (pc' := 111) X34 hx (hb hby at_110) rfl rfl ?_
    by_cases hc37 : p3 = 0
    · skip
      refine i_ifF (pc' := 114) X34 hx (hb hby at_111) rfl (XT.i0_ne_f hc37) ?_
      refine i_aload (v := (.ref b2)) (pc' := 116) X34 hx (hb hby at_114) rfl rfl rfl ?_
      refine i_astore (L' := #[.val (.long p1), .second, .val (.int p2), .val (.int p3), .val (.int p4), .val (.int (0 : Int32)), .val (.ref b2), .val (.ref b6), .val (.ref b11), .val (.ref b17), .val (.ref b24), .val v36, .val (.ref b2)]) (pc' := 118) X34 hx (hb hby at_116) rfl rfl rfl ?_
      refine i_goto (pc' := 149) X34 hx (hb hby at_118) (by decide) (by decide) ?_
      refine i_aload (v := v36) (pc' := 151) X34 hx (hb hby at_149) rfl rfl hr_v36 ?_
      refine i_aload (v := (.ref b2)) (pc' := 153) X34 hx (hb hby at_151) rfl rfl rfl ?_
      refine i_acF (pc' := 156) X34 hx (hb hby at_153) rfl hr_v36 rfl (XT.aa_ne_f (by rw [hv36]; simp [hc1, hc37])) ?_
      refine i_iconst (pc' := 157) (1 : Int32) X34 hx (hb hby at_156) rfl (by decide) ?_
      refine i_goto (pc' := 161) X34 hx (hb hby at_157) (by decide) (by decide) ?_
      refine rN X34 hx hlk hret (by simp) (hb hby at_161) (by decide) (by decide) ?_
      exact rfl
    · skip
      refine i_ifT (pc' := 121) X34 hx (hb hby at_111) (XT.i0_ne_t hc37) (by decide) (by decide) ?_
      refine i_iloadN (v := p3) (pc' := 122) X34 hx (hb hby at_121) rfl rfl ?_
      refine i_iconst (pc' := 123) (1 : Int32) X34 hx (hb hby at_122) rfl (by decide) ?_
      by_cases hc38 : p3 = (1 : Int32)
      · skip
        refine i_icF (pc' := 126) X34 hx (hb hby at_123) rfl (XT.ii_ne_f hc38) ?_
        refine i_aload (v := (.ref b6)) (pc' := 128) X34 hx (hb hby at_126) rfl rfl rfl ?_
        refine i_astore (L' := #[.val (.long p1), .second, .val (.int p2), .val (.int p3), .val (.int p4), .val (.int (0 : Int32)), .val (.ref b2), .val (.ref b6), .val (.ref b11), .val (.ref b17), .val (.ref b24), .val v36, .val (.ref b6)]) (pc' := 130) X34 hx (hb hby at_128) rfl rfl rfl ?_
        refine i_goto (pc' := 149) X34 hx (hb hby at_130) (by decide) (by decide) ?_
        refine i_aload (v := v36) (pc' := 151) X34 hx (hb hby at_149) rfl rfl hr_v36 ?_
        refine i_aload (v := (.ref b6)) (pc' := 153) X34 hx (hb hby at_151) rfl rfl rfl ?_
        refine i_acF (pc' := 156) X34 hx (hb hby at_153) rfl hr_v36 rfl (XT.aa_ne_f (by rw [hv36]; simp [hc1, hc37, hc38])) ?_
        refine i_iconst (pc' := 157) (1 : Int32) X34 hx (hb hby at_156) rfl (by decide) ?_
        refine i_goto (pc' := 161) X34 hx (hb hby at_157) (by decide) (by decide) ?_
        refine rN X34 hx hlk hret (by simp) (hb hby at_161) (by decide) (by decide) ?_
        exact rfl
      · skip
        refine i_icT (pc' := 133) X34 hx (hb hby at_123) (XT.ii_ne_t hc38) (by decide) (by decide) ?_
        refine i_iloadN (v := p3) (pc' := 134) X34 hx (hb hby at_133) rfl rfl ?_
        refine i_iconst (pc' := 135) (2 : Int32) X34 hx (hb hby at_134) rfl (by decide) ?_
        by_cases hc39 : p3 = (2 : Int32)
        · skip
          refine i_icF (pc' := 138) X34 hx (hb hby at_135) rfl (XT.ii_ne_f hc39) ?_
          refine i_aload (v := (.ref b11)) (pc' := 140) X34 hx (hb hby at_138) rfl rfl rfl ?_
          refine i_astore (L' := #[.val (.long p1), .second, .val (.int p2), .val (.int p3), .val (.int p4), .val (.int (0 : Int32)), .val (.ref b2), .val (.ref b6), .val (.ref b11), .val (.ref b17), .val (.ref b24), .val v36, .val (.ref b11)]) (pc' := 142) X34 hx (hb hby at_140) rfl rfl rfl ?_
          refine i_goto (pc' := 149) X34 hx (hb hby at_142) (by decide) (by decide) ?_
          refine i_aload (v := v36) (pc' := 151) X34 hx (hb hby at_149) rfl rfl hr_v36 ?_
          refine i_aload (v := (.ref b11)) (pc' := 153) X34 hx (hb hby at_151) rfl rfl rfl ?_
          refine i_acF (pc' := 156) X34 hx (hb hby at_153) rfl hr_v36 rfl (XT.aa_ne_f (by rw [hv36]; simp [hc1, hc37, hc38, hc39])) ?_
          refine i_iconst (pc' := 157) (1 : Int32) X34 hx (hb hby at_156) rfl (by decide) ?_
          refine i_goto (pc' := 161) X34 hx (hb hby at_157) (by decide) (by decide) ?_
          refine rN X34 hx hlk hret (by simp) (hb hby at_161) (by decide) (by decide) ?_
          exact rfl
        · skip
          refine i_icT (pc' := 145) X34 hx (hb hby at_135) (XT.ii_ne_t hc39) (by decide) (by decide) ?_
          refine i_aload (v := (.ref b17)) (pc' := 147) X34 hx (hb hby at_145) rfl rfl rfl ?_
          refine i_astore (L' := #[.val (.long p1), .second, .val (.int p2), .val (.int p3), .val (.int p4), .val (.int (0 : Int32)), .val (.ref b2), .val (.ref b6), .val (.ref b11), .val (.ref b17), .val (.ref b24), .val v36, .val (.ref b17)]) (pc' := 149) X34 hx (hb hby at_147) rfl rfl rfl ?_
          refine i_aload (v := v36) (pc' := 151) X34 hx (hb hby at_149) rfl rfl hr_v36 ?_
          refine i_aload (v := (.ref b17)) (pc' := 153) X34 hx (hb hby at_151) rfl rfl rfl ?_
          refine i_acF (pc' := 156) X34 hx (hb hby at_153) rfl hr_v36 rfl (XT.aa_ne_f (by rw [hv36]; simp [hc1, hc37, hc38, hc39])) ?_
          refine i_iconst (pc' := 157) (1 : Int32) X34 hx (hb hby at_156) rfl (by decide) ?_
          refine i_goto (pc' := 161) X34 hx (hb hby at_157) (by decide) (by decide) ?_
          refine rN X34 hx hlk hret (by simp) (hb hby at_161) (by decide) (by decide) ?_
          exact rfl
  · skip
    refine i_ifF (pc' := 7) X0 hx (hb hby at_4) rfl (XT.i0_eq_f hc1) ?_
    refine i_iconst (pc' := 8) (1 : Int32) X0 hx (hb hby at_7) rfl (by decide) ?_
    refine i_goto (pc' := 12) X0 hx (hb hby at_8) (by decide) (by decide) ?_
    refine i_istore (L' := #[.val (.long p1), .second, .val (.int p2), .val (.int p3), .val (.int p4), .val (.int (1 : Int32)), .unset, .unset, .unset, .unset, .unset, .unset, .unset]) (pc' := 14) X0 hx (hb hby at_12) rfl rfl ?_
    refine nw (pc' := 17) X0 hx hZ hown (hw _ (List.mem_of_getElem? (i := 0) rfl)) (hw _ (List.mem_of_getElem? (i := 1) rfl)) (hw _ (List.mem_of_getElem? (i := 2) rfl)) (hb hby at_14) rfl (by decide) (by decide) fun T40 h40 b40 X40 g40 ge40 E40 A40 D40 => ?_
    have sz_b40 : h0.size ≤ b40 := Nat.le_trans ((Keep.refl h0 _) : Keep h0 h0 []).1 (Nat.le_of_eq g40.symm)
    have K40 : Keep h0 h40 [] := ((Keep.refl h0 _) : Keep h0 h0 []).ext E40
    refine i_dup (pc' := 18) X40 hx (hb hby at_17) rfl rfl ?_
    refine i_lloadN (v := p1) (pc' := 19) X40 hx (hb hby at_18) rfl rfl ?_
    refine i_iloadN (v := p2) (pc' := 20) X40 hx (hb hby at_19) rfl rfl ?_
    have F41 : Fld Z h40 b40 "com/example/quadstone/quadstone/engine/Plan$Slot" "constant" "J" (.long (0 : Int64)) := (D40 (Or.inr (hw _ (List.mem_of_getElem? (i := 15) rfl))) (ty := .long) (by decide))
    have F42 : Fld Z h40 b40 "com/example/quadstone/quadstone/engine/Plan$Slot" "variable" "I" (.int (0 : Int32)) := (D40 (Or.inr (hw _ (List.mem_of_getElem? (i := 17) rfl))) (ty := .int) (by decide))
    refine cI (y := (⟨"com/example/quadstone/quadstone/engine/Plan$Slot", "<init>", "(JI)V"⟩ : MethodName)) (rest := [(.ref b40)]) (pc' := 23) (a := b40) 1 [(.long p1), (.int p2)] X40 hx hZ hown rfl (hw _ (List.mem_of_getElem? (i := 3) rfl)) (hw _ (List.mem_of_getElem? (i := 4) rfl)) (hw _ (List.mem_of_getElem? (i := 2) rfl)) (hw _ (List.mem_of_getElem? (i := 5) rfl)) (by decide) (rm1 l Z a0 hw [] b40 p1 p2 n0 h40 X40.le A40 F41 F42 ge40) (by decide) (by decide) (by rw [hml]; rfl) rfl (lenOf pd1 rfl) rfl (Nat.le_of_eq rfl) (hb hby at_20) rfl (by decide) (by decide) ?_
    intro r43 T43 h43 X43 q43
    obtain ⟨rfl, K43c⟩ := q43
    show Go _ _ _ _ _ _ _ T43 (mkF m 23 #[.val (.long p1), .second, .val (.int p2), .val (.int p3), .val (.int p4), .val (.int (1 : Int32)), .unset, .unset, .unset, .unset, .unset, .unset, .unset] [(.ref b40)])
    refine i_astore (L' := #[.val (.long p1), .second, .val (.int p2), .val (.int p3), .val (.int p4), .val (.int (1 : Int32)), .val (.ref b40), .unset, .unset, .unset, .unset, .unset, .unset]) (pc' := 25) X43 hx (hb hby at_23) rfl rfl rfl ?_
    refine nw (pc' := 28) X43 hx hZ hown (hw _ (List.mem_of_getElem? (i := 0) rfl)) (hw _ (List.mem_of_getElem? (i := 1) rfl)) (hw _ (List.mem_of_getElem? (i := 2) rfl)) (hb hby at_25) rfl (by decide) (by decide) fun T44 h44 b44 X44 g44 ge44 E44 A44 D44 => ?_
    have F45 : Exa Z h43 b40 "com/example/quadstone/quadstone/engine/Plan$Slot" := (A40.keep K43c)
    have ne_b40_b44 : b40 ≠ b44 := Nat.ne_of_lt (Nat.lt_of_lt_of_eq F45.lt g44.symm)
    have sz_b44 : h0.size ≤ b44 := Nat.le_trans (((K40 : Keep h0 h40 []).trans K43c (allS (Or.inr sz_b40) all0)) : Keep h0 h43 []).1 (Nat.le_of_eq g44.symm)
    have K44 : Keep h0 h44 [] := (((K40 : Keep h0 h40 []).trans K43c (allS (Or.inr sz_b40) all0)) : Keep h0 h43 []).ext E44
    refine i_dup (pc' := 29) X44 hx (hb hby at_28) rfl rfl ?_
    refine i_lloadN (v := p1) (pc' := 30) X44 hx (hb hby at_29) rfl rfl ?_
    refine i_ldc2 (pc' := 33) (-1 : Int64) X44 hx hZ hown (hw _ (List.mem_of_getElem? (i := 18) rfl)) (hb hby at_30) rfl ?_
    refine i_lxor (pc' := 34) X44 hx (hb hby at_33) rfl ?_
    refine i_iloadN (v := p2) (pc' := 35) X44 hx (hb hby at_34) rfl rfl ?_
    refine i_iconst (pc' := 36) (1 : Int32) X44 hx (hb hby at_35) rfl (by decide) ?_
    refine i_ixor (pc' := 37) X44 hx (hb hby at_36) rfl ?_
    have F46 : Fld Z h44 b44 "com/example/quadstone/quadstone/engine/Plan$Slot" "constant" "J" (.long (0 : Int64)) := (D44 (Or.inr (hw _ (List.mem_of_getElem? (i := 15) rfl))) (ty := .long) (by decide))
    have F47 : Fld Z h44 b44 "com/example/quadstone/quadstone/engine/Plan$Slot" "variable" "I" (.int (0 : Int32)) := (D44 (Or.inr (hw _ (List.mem_of_getElem? (i := 17) rfl))) (ty := .int) (by decide))
    refine cI (y := (⟨"com/example/quadstone/quadstone/engine/Plan$Slot", "<init>", "(JI)V"⟩ : MethodName)) (rest := [(.ref b44)]) (pc' := 40) (a := b44) 1 [(.long (p1 ^^^ (-1 : Int64))), (.int (p2 ^^^ (1 : Int32)))] X44 hx hZ hown rfl (hw _ (List.mem_of_getElem? (i := 3) rfl)) (hw _ (List.mem_of_getElem? (i := 4) rfl)) (hw _ (List.mem_of_getElem? (i := 2) rfl)) (hw _ (List.mem_of_getElem? (i := 5) rfl)) (by decide) (rm1 l Z a0 hw [] b44 (p1 ^^^ (-1 : Int64)) (p2 ^^^ (1 : Int32)) n0 h44 X44.le A44 F46 F47 ge44) (by decide) (by decide) (by rw [hml]; rfl) rfl (lenOf pd1 rfl) rfl (Nat.le_of_eq rfl) (hb hby at_37) rfl (by decide) (by decide) ?_
    intro r48 T48 h48 X48 q48
    obtain ⟨rfl, K48c⟩ := q48
    show Go _ _ _ _ _ _ _ T48 (mkF m 40 #[.val (.long p1), .second, .val (.int p2), .val (.int p3), .val (.int p4), .val (.int (1 : Int32)), .val (.ref b40), .unset, .unset, .unset, .unset, .unset, .unset] [(.ref b44)])
    refine i_astore (L' := #[.val (.long p1), .second, .val (.int p2), .val (.int p3), .val (.int p4), .val (.int (1 : Int32)), .val (.ref b40), .val (.ref b44), .unset, .unset, .unset, .unset, .unset]) (pc' := 42) X48 hx (hb hby at_40) rfl rfl rfl ?_
    refine nw (pc' := 45) X48 hx hZ hown (hw _ (List.mem_of_getElem? (i := 0) rfl)) (hw _ (List.mem_of_getElem? (i := 1) rfl)) (hw _ (List.mem_of_getElem? (i := 2) rfl)) (hb hby at_42) rfl (by decide) (by decide) fun T49 h49 b49 X49 g49 ge49 E49 A49 D49 => ?_
    have F50 : Exa Z h48 b40 "com/example/quadstone/quadstone/engine/Plan$Slot" := ((Jvm.RoadKit.Exa.ext E44 F45).keep K48c)
    have ne_b40_b49 : b40 ≠ b49 := Nat.ne_of_lt (Nat.lt_of_lt_of_eq F50.lt g49.symm)
    have F51 : Exa Z h48 b44 "com/example/quadstone/quadstone/engine/Plan$Slot" := (A44.keep K48c)
    have ne_b44_b49 : b44 ≠ b49 := Nat.ne_of_lt (Nat.lt_of_lt_of_eq F51.lt g49.symm)
    have sz_b49 : h0.size ≤ b49 := Nat.le_trans (((K44 : Keep h0 h44 []).trans K48c (allS (Or.inr sz_b44) all0)) : Keep h0 h48 []).1 (Nat.le_of_eq g49.symm)
    have K49 : Keep h0 h49 [] := (((K44 : Keep h0 h44 []).trans K48c (allS (Or.inr sz_b44) all0)) : Keep h0 h48 []).ext E49
    refine i_dup (pc' := 46) X49 hx (hb hby at_45) rfl rfl ?_
    refine i_lloadN (v := p1) (pc' := 47) X49 hx (hb hby at_46) rfl rfl ?_
    refine i_ldc2 (pc' := 50) (2 : Int64) X49 hx hZ hown (hw _ (List.mem_of_getElem? (i := 19) rfl)) (hb hby at_47) rfl ?_
    refine i_lxor (pc' := 51) X49 hx (hb hby at_50) rfl ?_
    refine i_iloadN (v := p2) (pc' := 52) X49 hx (hb hby at_51) rfl rfl ?_
    refine i_iconst (pc' := 53) (2 : Int32) X49 hx (hb hby at_52) rfl (by decide) ?_
    refine i_ixor (pc' := 54) X49 hx (hb hby at_53) rfl ?_
    have F52 : Fld Z h49 b49 "com/example/quadstone/quadstone/engine/Plan$Slot" "constant" "J" (.long (0 : Int64)) := (D49 (Or.inr (hw _ (List.mem_of_getElem? (i := 15) rfl))) (ty := .long) (by decide))
    have F53 : Fld Z h49 b49 "com/example/quadstone/quadstone/engine/Plan$Slot" "variable" "I" (.int (0 : Int32)) := (D49 (Or.inr (hw _ (List.mem_of_getElem? (i := 17) rfl))) (ty := .int) (by decide))
    refine cI (y := (⟨"com/example/quadstone/quadstone/engine/Plan$Slot", "<init>", "(JI)V"⟩ : MethodName)) (rest := [(.ref b49)]) (pc' := 57) (a := b49) 1 [(.long (p1 ^^^ (2 : Int64))), (.int (p2 ^^^ (2 : Int32)))] X49 hx hZ hown rfl (hw _ (List.mem_of_getElem? (i := 3) rfl)) (hw _ (List.mem_of_getElem? (i := 4) rfl)) (hw _ (List.mem_of_getElem? (i := 2) rfl)) (hw _ (List.mem_of_getElem? (i := 5) rfl)) (by decide) (rm1 l Z a0 hw [] b49 (p1 ^^^ (2 : Int64)) (p2 ^^^ (2 : Int32)) n0 h49 X49.le A49 F52 F53 ge49) (by decide) (by decide) (by rw [hml]; rfl) rfl (lenOf pd1 rfl) rfl (Nat.le_of_eq rfl) (hb hby at_54) rfl (by decide) (by decide) ?_
    intro r54 T54 h54 X54 q54
    obtain ⟨rfl, K54c⟩ := q54
    show Go _ _ _ _ _ _ _ T54 (mkF m 57 #[.val (.long p1), .second, .val (.int p2), .val (.int p3), .val (.int p4), .val (.int (1 : Int32)), .val (.ref b40), .val (.ref b44), .unset, .unset, .unset, .unset, .unset] [(.ref b49)])
    refine i_astore (L' := #[.val (.long p1), .second, .val (.int p2), .val (.int p3), .val (.int p4), .val (.int (1 : Int32)), .val (.ref b40), .val (.ref b44), .val (.ref b49), .unset, .unset, .unset, .unset]) (pc' := 59) X54 hx (hb hby at_57) rfl rfl rfl ?_
    refine i_iload (v := (1 : Int32)) (pc' := 61) X54 hx (hb hby at_59) rfl rfl ?_
    refine i_ifF (pc' := 64) X54 hx (hb hby at_61) rfl (XT.i0_eq_f (by decide)) ?_
    refine i_aconstNull (pc' := 65) X54 hx (hb hby at_64) rfl ?_
    refine i_goto (pc' := 83) X54 hx (hb hby at_65) (by decide) (by decide) ?_
    refine i_astore (L' := #[.val (.long p1), .second, .val (.int p2), .val (.int p3), .val (.int p4), .val (.int (1 : Int32)), .val (.ref b40), .val (.ref b44), .val (.ref b49), .val .null, .unset, .unset, .unset]) (pc' := 85) X54 hx (hb hby at_83) rfl rfl rfl ?_
    refine nw (pc' := 88) X54 hx hZ hown (hw _ (List.mem_of_getElem? (i := 21) rfl)) (hw _ (List.mem_of_getElem? (i := 22) rfl)) (hw _ (List.mem_of_getElem? (i := 23) rfl)) (hb hby at_85) rfl (by decide) (by decide) fun T55 h55 b55 X55 g55 ge55 E55 A55 D55 => ?_
    have F56 : Exa Z h54 b40 "com/example/quadstone/quadstone/engine/Plan$Slot" := ((Jvm.RoadKit.Exa.ext E49 F50).keep K54c)
    have ne_b40_b55 : b40 ≠ b55 := Nat.ne_of_lt (Nat.lt_of_lt_of_eq F56.lt g55.symm)
    have F57 : Exa Z h54 b44 "com/example/quadstone/quadstone/engine/Plan$Slot" := ((Jvm.RoadKit.Exa.ext E49 F51).keep K54c)
    have ne_b44_b55 : b44 ≠ b55 := Nat.ne_of_lt (Nat.lt_of_lt_of_eq F57.lt g55.symm)
    have F58 : Exa Z h54 b49 "com/example/quadstone/quadstone/engine/Plan$Slot" := (A49.keep K54c)
    have ne_b49_b55 : b49 ≠ b55 := Nat.ne_of_lt (Nat.lt_of_lt_of_eq F58.lt g55.symm)
    have sz_b55 : h0.size ≤ b55 := Nat.le_trans (((K49 : Keep h0 h49 []).trans K54c (allS (Or.inr sz_b49) all0)) : Keep h0 h54 []).1 (Nat.le_of_eq g55.symm)
    have K55 : Keep h0 h55 [] := (((K49 : Keep h0 h49 []).trans K54c (allS (Or.inr sz_b49) all0)) : Keep h0 h54 []).ext E55
    refine i_dup (pc' := 89) X55 hx (hb hby at_88) rfl rfl ?_
    refine i_aload (v := (.ref b40)) (pc' := 91) X55 hx (hb hby at_89) rfl rfl rfl ?_
    refine i_aload (v := (.ref b44)) (pc' := 93) X55 hx (hb hby at_91) rfl rfl rfl ?_
    refine i_aload (v := (.ref b49)) (pc' := 95) X55 hx (hb hby at_93) rfl rfl rfl ?_
    refine i_aload (v := .null) (pc' := 97) X55 hx (hb hby at_95) rfl rfl rfl ?_
    have F59 : Fld Z h55 b55 "com/example/quadstone/quadstone/engine/Plan$Step" "subject" "Lcom/example/quadstone/quadstone/engine/Plan$Slot;" .null := (D55 (Or.inr (hw _ (List.mem_of_getElem? (i := 29) rfl))) (ty := (.object "com/example/quadstone/quadstone/engine/Plan$Slot")) (by decide))
    have F60 : Fld Z h55 b55 "com/example/quadstone/quadstone/engine/Plan$Step" "predicate" "Lcom/example/quadstone/quadstone/engine/Plan$Slot;" .null := (D55 (Or.inr (hw _ (List.mem_of_getElem? (i := 31) rfl))) (ty := (.object "com/example/quadstone/quadstone/engine/Plan$Slot")) (by decide))
    have F61 : Fld Z h55 b55 "com/example/quadstone/quadstone/engine/Plan$Step" "object" "Lcom/example/quadstone/quadstone/engine/Plan$Slot;" .null := (D55 (Or.inr (hw _ (List.mem_of_getElem? (i := 33) rfl))) (ty := (.object "com/example/quadstone/quadstone/engine/Plan$Slot")) (by decide))
    have F62 : Fld Z h55 b55 "com/example/quadstone/quadstone/engine/Plan$Step" "graph" "Lcom/example/quadstone/quadstone/engine/Plan$Slot;" .null := (D55 (Or.inr (hw _ (List.mem_of_getElem? (i := 35) rfl))) (ty := (.object "com/example/quadstone/quadstone/engine/Plan$Slot")) (by decide))
    refine cI (y := (⟨"com/example/quadstone/quadstone/engine/Plan$Step", "<init>", "(Lcom/example/quadstone/quadstone/engine/Plan$Slot;Lcom/example/quadstone/quadstone/engine/Plan$Slot;Lcom/example/quadstone/quadstone/engine/Plan$Slot;Lcom/example/quadstone/quadstone/engine/Plan$Slot;)V"⟩ : MethodName)) (rest := [(.ref b55)]) (pc' := 100) (a := b55) 1 [(.ref b40), (.ref b44), (.ref b49), .null] X55 hx hZ hown rfl (hw _ (List.mem_of_getElem? (i := 24) rfl)) (hw _ (List.mem_of_getElem? (i := 25) rfl)) (hw _ (List.mem_of_getElem? (i := 23) rfl)) (hw _ (List.mem_of_getElem? (i := 26) rfl)) (by decide) (rm4 l Z a0 hw [] b55 b40 b44 b49 .null n0 h55 X55.le A55 F59 F60 F61 F62 ge55 rfl) (by decide) (by decide) (by rw [hml]; rfl) rfl (lenOf pd2 rfl) rfl (Nat.le_of_eq rfl) (hb hby at_97) rfl (by decide) (by decide) ?_
    intro r63 T63 h63 X63 q63
    obtain ⟨rfl, K63c, P63_0, P63_1, P63_2, P63_3⟩ := q63
    show Go _ _ _ _ _ _ _ T63 (mkF m 100 #[.val (.long p1), .second, .val (.int p2), .val (.int p3), .val (.int p4), .val (.int (1 : Int32)), .val (.ref b40), .val (.ref b44), .val (.ref b49), .val .null, .unset, .unset, .unset] [(.ref b55)])
    refine i_astore (L' := #[.val (.long p1), .second, .val (.int p2), .val (.int p3), .val (.int p4), .val (.int (1 : Int32)), .val (.ref b40), .val (.ref b44), .val (.ref b49), .val .null, .val (.ref b55), .unset, .unset]) (pc' := 102) X63 hx (hb hby at_100) rfl rfl rfl ?_
    refine i_aload (v := (.ref b55)) (pc' := 104) X63 hx (hb hby at_102) rfl rfl rfl ?_
    refine i_iloadN (v := p3) (pc' := 105) X63 hx (hb hby at_104) rfl rfl ?_
    have F65 : Exa Z h63 b55 "com/example/quadstone/quadstone/engine/Plan$Step" := (A55.keep K63c)
    refine cV (y := (⟨"com/example/quadstone/quadstone/engine/Plan$Step", "position", "(I)Lcom/example/quadstone/quadstone/engine/Plan$Slot;"⟩ : MethodName)) (C := "com/example/quadstone/quadstone/engine/Plan$Step") (rest := []) (pc' := 108) 0 [(.int p3)] X63 hx hZ hown (hw _ (List.mem_of_getElem? (i := 36) rfl)) (hw _ (List.mem_of_getElem? (i := 37) rfl)) (hw _ (List.mem_of_getElem? (i := 39) rfl)) (hw _ (List.mem_of_getElem? (i := 38) rfl)) (hw _ (List.mem_of_getElem? (i := 23) rfl)) (hw _ (List.mem_of_getElem? (i := 40) rfl)) (by decide) F65 (rm5 l Z a0 hw [] b55 p3 b40 b44 b49 .null n0 h63 X63.le P63_0 P63_1 P63_2 P63_3 rfl) (by decide) (by decide) (by rw [hml]; rfl) rfl (lenOf pd3 rfl) rfl (Nat.le_of_eq rfl) (hb hby at_105) rfl (by decide) (by decide) ?_
    intro r64 T64 h64 X64 q64
    obtain ⟨rfl, eh64⟩ := q64
    subst eh64
    show Go _ _ _ _ _ _ _ T64 (mkF m 108 #[.val (.long p1), .second, .val (.int p2), .val (.int p3), .val (.int p4), .val (.int (1 : Int32)), .val (.ref b40), .val (.ref b44), .val (.ref b49), .val .null, .val (.ref b55), .unset, .unset] [(if p3 = (0 : Int32) then Value.ref b40 else if p3 = (1 : Int32) then Value.ref b44 else if p3 = (2 : Int32) then Value.ref b49 else .null)])
    obtain ⟨v66, hv66⟩ : ∃ zz : Value, zz = (if p3 = (0 : Int32) then Value.ref b40 else if p3 = (1 : Int32) then Value.ref b44 else if p3 = (2 : Int32) then Value.ref b49 else .null) := ⟨_, rfl⟩
    have hr_v66 : v66.isRef = true := by rw [hv66]; (repeat' split) <;> rfl
    rw [← hv66]
    refine i_astore (L' := #[.val (.long p1), .second, .val (.int p2), .val (.int p3), .val (.int p4), .val (.int (1 : Int32)), .val (.ref b40), .val (.ref b44), .val (.ref b49), .val .null, .val (.ref b55), .val v66, .unset]) (pc' := 110) X64 hx (hb hby at_108) rfl hr_v66 (XS.store1 (o := .unset) rfl One.u (XT.cat1 hr_v66)) ?_
    refine i_iloadN (v := p3) (pc' := 111) X64 hx (hb hby at_110) rfl rfl ?_
    by_cases hc67 : p3 = 0
    · skip
      refine i_ifF (pc' := 114) X64 hx (hb hby at_111) rfl (XT.i0_ne_f hc67) ?_
      refine i_aload (v := (.ref b40)) (pc' := 116) X64 hx (hb hby at_114) rfl rfl rfl ?_
      refine i_astore (L' := #[.val (.long p1), .second, .val (.int p2), .val (.int p3), .val (.int p4), .val (.int (1 : Int32)), .val (.ref b40), .val (.ref b44), .val (.ref b49), .val .null, .val (.ref b55), .val v66, .val (.ref b40)]) (pc' := 118) X64 hx (hb hby at_116) rfl rfl rfl ?_
      refine i_goto (pc' := 149) X64 hx (hb hby at_118) (by decide) (by decide) ?_
      refine i_aload (v := v66) (pc' := 151) X64 hx (hb hby at_149) rfl rfl hr_v66 ?_
      refine i_aload (v := (.ref b40)) (pc' := 153) X64 hx (hb hby at_151) rfl rfl rfl ?_
      refine i_acF (pc' := 156) X64 hx (hb hby at_153) rfl hr_v66 rfl (XT.aa_ne_f (by rw [hv66]; simp [hc1, hc67])) ?_
      refine i_iconst (pc' := 157) (1 : Int32) X64 hx (hb hby at_156) rfl (by decide) ?_
      refine i_goto (pc' := 161) X64 hx (hb hby at_157) (by decide) (by decide) ?_
      refine rN X64 hx hlk hret (by simp) (hb hby at_161) (by decide) (by decide) ?_
      exact rfl
    · skip
      refine i_ifT (pc' := 121) X64 hx (hb hby at_111) (XT.i0_ne_t hc67) (by decide) (by decide) ?_
      refine i_iloadN (v := p3) (pc' := 122) X64 hx (hb hby at_121) rfl rfl ?_
      refine i_iconst (pc' := 123) (1 : Int32) X64 hx (hb hby at_122) rfl (by decide) ?_
      by_cases hc68 : p3 = (1 : Int32)
      · skip
        refine i_icF (pc' := 126) X64 hx (hb hby at_123) rfl (XT.ii_ne_f hc68) ?_
        refine i_aload (v := (.ref b44)) (pc' := 128) X64 hx (hb hby at_126) rfl rfl rfl ?_
        refine i_astore (L' := #[.val (.long p1), .second, .val (.int p2), .val (.int p3), .val (.int p4), .val (.int (1 : Int32)), .val (.ref b40), .val (.ref b44), .val (.ref b49), .val .null, .val (.ref b55), .val v66, .val (.ref b44)]) (pc' := 130) X64 hx (hb hby at_128) rfl rfl rfl ?_
        refine i_goto (pc' := 149) X64 hx (hb hby at_130) (by decide) (by decide) ?_
        refine i_aload (v := v66) (pc' := 151) X64 hx (hb hby at_149) rfl rfl hr_v66 ?_
        refine i_aload (v := (.ref b44)) (pc' := 153) X64 hx (hb hby at_151) rfl rfl rfl ?_
        refine i_acF (pc' := 156) X64 hx (hb hby at_153) rfl hr_v66 rfl (XT.aa_ne_f (by rw [hv66]; simp [hc1, hc67, hc68])) ?_
        refine i_iconst (pc' := 157) (1 : Int32) X64 hx (hb hby at_156) rfl (by decide) ?_
        refine i_goto (pc' := 161) X64 hx (hb hby at_157) (by decide) (by decide) ?_
        refine rN X64 hx hlk hret (by simp) (hb hby at_161) (by decide) (by decide) ?_
        exact rfl
      · skip
        refine i_icT (pc' := 133) X64 hx (hb hby at_123) (XT.ii_ne_t hc68) (by decide) (by decide) ?_
        refine i_iloadN (v := p3) (pc' := 134) X64 hx (hb hby at_133) rfl rfl ?_
        refine i_iconst (pc' := 135) (2 : Int32) X64 hx (hb hby at_134) rfl (by decide) ?_
        by_cases hc69 : p3 = (2 : Int32)
        · skip
          refine i_icF (pc' := 138) X64 hx (hb hby at_135) rfl (XT.ii_ne_f hc69) ?_
          refine i_aload (v := (.ref b49)) (pc' := 140) X64 hx (hb hby at_138) rfl rfl rfl ?_
          refine i_astore (L' := #[.val (.long p1), .second, .val (.int p2), .val (.int p3), .val (.int p4), .val (.int (1 : Int32)), .val (.ref b40), .val (.ref b44), .val (.ref b49), .val .null, .val (.ref b55), .val v66, .val (.ref b49)]) (pc' := 142) X64 hx (hb hby at_140) rfl rfl rfl ?_
          refine i_goto (pc' := 149) X64 hx (hb hby at_142) (by decide) (by decide) ?_
          refine i_aload (v := v66) (pc' := 151) X64 hx (hb hby at_149) rfl rfl hr_v66 ?_
          refine i_aload (v := (.ref b49)) (pc' := 153) X64 hx (hb hby at_151) rfl rfl rfl ?_
          refine i_acF (pc' := 156) X64 hx (hb hby at_153) rfl hr_v66 rfl (XT.aa_ne_f (by rw [hv66]; simp [hc1, hc67, hc68, hc69])) ?_
          refine i_iconst (pc' := 157) (1 : Int32) X64 hx (hb hby at_156) rfl (by decide) ?_
          refine i_goto (pc' := 161) X64 hx (hb hby at_157) (by decide) (by decide) ?_
          refine rN X64 hx hlk hret (by simp) (hb hby at_161) (by decide) (by decide) ?_
          exact rfl
        · skip
          refine i_icT (pc' := 145) X64 hx (hb hby at_135) (XT.ii_ne_t hc69) (by decide) (by decide) ?_
          refine i_aload (v := .null) (pc' := 147) X64 hx (hb hby at_145) rfl rfl rfl ?_
          refine i_astore (L' := #[.val (.long p1), .second, .val (.int p2), .val (.int p3), .val (.int p4), .val (.int (1 : Int32)), .val (.ref b40), .val (.ref b44), .val (.ref b49), .val .null, .val (.ref b55), .val v66, .val .null]) (pc' := 149) X64 hx (hb hby at_147) rfl rfl rfl ?_
          refine i_aload (v := v66) (pc' := 151) X64 hx (hb hby at_149) rfl rfl hr_v66 ?_
          refine i_aload (v := .null) (pc' := 153) X64 hx (hb hby at_151) rfl rfl rfl ?_
          refine i_acF (pc' := 156) X64 hx (hb hby at_153) rfl hr_v66 rfl (XT.aa_ne_f (by rw [hv66]; simp [hc1, hc67, hc68, hc69])) ?_
          refine i_iconst (pc' := 157) (1 : Int32) X64 hx (hb hby at_156) rfl (by decide) ?_
          refine i_goto (pc' := 161) X64 hx (hb hby at_157) (by decide) (by decide) ?_
          refine rN X64 hx hlk hret (by simp) (hb hby at_161) (by decide) (by decide) ?_
          exact rfl
set_option maxRecDepth 65536 in
set_option maxHeartbeats 40000000 in
theorem comes_1 {Post : Tables → Env → Array Value → State → Outcome → State → Prop} (hpost : ∀ tb e args s v u, (limb_1_1.after args s (.returned v) u = true ∧ limb_1_2.after args s (.returned v) u = true ∧ True) → FrameEnd s (.returned v) u (Jvm.fieldLocs frame_1_writes args s ++ Jvm.arrayLocs frame_1_arrays args s ++ Jvm.staticLocs frame_1_statics s) 24 128 → Post tb e args s (.returned v) u) :
    ArmFor flags0 classFile x code maxLocals ret World_1 tables_1 room_1 Calls_1 rest_1 Pre_1 Post := by
  intro l hfl _ _ p e ha hc hk s m args below hf hA hF happ hP
  obtain ⟨hcalls, hrest, hpre⟩ := hP
  obtain ⟨-, -, -, hnamed, -, -, -, hat⟩ := (Spec.applies_iff hf).mp happ
  obtain ⟨hg, hn⟩ := and_e (Cond.before_iff.mp (show (Jvm.Cond.and given_1 narrow_1).before args s = true from hpre))
  obtain ⟨g0, k0⟩ := and_e hg
  obtain ⟨g1, k1⟩ := and_e k0
  obtain ⟨g2, k2⟩ := and_e k1
  obtain ⟨g3, k3⟩ := and_e k2
  obtain ⟨w0, w1, w2, w3, rfl⟩ : ∃ w0 w1 w2 w3 : Value, args = #[w0, w1, w2, w3] := by
    have hs : args.size = 4 := by simpa [Cond.value, given_1] using g0
    obtain ⟨L⟩ := args
    match L, hs with
    | [w0, w1, w2, w3], _ => exact ⟨w0, w1, w2, w3, rfl⟩
  have hw := fun d (hd : d ∈ tables_1) => atoms_spec (ws := Jvm.Cond.code x code maxLocals ret :: tables_1) hat d (List.mem_cons_of_mem _ hd)
  have hfit : Fit s := fun {y c} hc i hi => by
    obtain ⟨ha, rfl⟩ := Array.getElem?_eq_some_iff.mp hc
    have q := List.all_eq_true.mp ((Array.all_eq_true_iff_forall_mem.mp hF) _ (Array.getElem_mem ha)) i (List.mem_range.mpr hi)
    simpa [Array.getElem?_eq_getElem hi] using q
  obtain ⟨i0, ei0⟩ := isL_v g1
  obtain rfl : w0 = (.long i0) := Option.some.inj ei0
  obtain ⟨i1, ei1⟩ := is_v g2
  obtain rfl : w1 = (.int i1) := Option.some.inj ei1
  obtain ⟨i2, ei2⟩ := is_v g3
  obtain rfl : w2 = (.int i2) := Option.some.inj ei2
  obtain ⟨i3, ei3⟩ := is_v k3
  obtain rfl : w3 = (.int i3) := Option.some.inj ei3
  obtain ⟨n, o, h1, h2, h3, _, L, rfl, ⟨rfl, N⟩, hq⟩ := rm0 l s _ hw tables_1 i0 i1 i2 i3 s.heap.size s.heap (Nat.le_refl _)  p e ha hc hk s m _ below hf ((Spec.applies_iff_loose hf).mp happ).1 ⟨rfl, State.Warmed39.refl s, rfl⟩ trivial
  refine ⟨n, _, h1, h2, h3, hpost _ _ _ _ _ _ ⟨Cond.after_iff.mpr rfl, Cond.after_iff.mpr (eq_i res_at (Term.int_eval (1)) rfl), trivial⟩ ⟨hq.1, hq.2.1, (hq.2.2.sift fun y hy => Or.inr (N y hy)).mono (by decide) (by decide)⟩⟩
theorem main_1_1 : Claimed_1_1 := comes_1 fun _ _ _ _ _ _ h hF => ⟨h.1, hF⟩
theorem main_1_2 : Claimed_1_2 := comes_1 fun _ _ _ _ _ _ h hF => ⟨h.2.1, hF⟩
end Jvm.Pilot.@@N@@
namespace Jvm.Pilot.@@N@@
open Jvm Jvm.ClassFile Sem Op Lib Jvm.Free Jvm.Stand Jvm.Pilot.@@N@@.Jvm.D
/-! MADE BY PROGRAM (witnessworld.py) out of the Statement's table words and the real class files: 11 classes; the members and pool entries that the words name. The judged class is class 1, her method 1. -/
namespace start1
open Jvm.ClassFile
def u (s : String) : CpInfo := .utf8 (stringToUtf16 s)
/-- a pool by its gaps: so many unusable entries, then the entry; so many at the end -/
def gap : Nat → List CpInfo → List CpInfo
  | 0, r => r
  | n + 1, r => .unusable :: gap n r
def poolList (es : List (Nat × CpInfo)) (last : Nat) : List CpInfo := es.foldr (fun e r => gap e.1 (e.2 :: r)) (gap last [])
def pool (es : List (Nat × CpInfo)) (last : Nat) : Array CpInfo := ⟨poolList es last⟩
def fileOf (pool : Array CpInfo) (this : Nat) (attrs : Array Attribute := #[]) (ms : Array MethodInfo := #[]) (fl : Nat := 33) (sup : Nat := 0) (ifs : Array Nat := #[]) (fds : Array FieldInfo := #[]) : ClassFile where
  minorVersion := 0
  majorVersion := 65
  constantPool := pool
  accessFlags := fl
  thisClass := this
  superClass := sup
  interfaces := ifs
  fields := fds
  methods := ms
  attributes := attrs
def plain (name : String) (sup : Option ClassId) : Class where
  name := name
  kind := .ordinary
  loader := none
  accessFlags := 33
  super := sup
  interfaces := #[]
  cf := none
  fields := #[]
  methods := #[]
  instanceTypes := #[]
  staticTypes := #[]
  resolved := #[]
  callSites := []
  init := .initialized
  statics := none
  mirror := none

def pool0 : Array CpInfo := pool [(5, u "<init>"), (0, u "()V"), (1, .class_ 10), (1, u "java/lang/Object")] 113

def k0c0 : Code := { maxStack := 0, maxLocals := 1, code := object_method_1_code, exceptionTable := #[], attributes := #[] }
def k0m0 : Method := { name := "<init>", desc := "()V", sig := { parameters := [], returnType := none }, accessFlags := 1, code := some k0c0 }
/-- java/lang/Object -/
def k0 : Class := { plain "java/lang/Object" none with
  accessFlags := 33
  interfaces := #[]
  cf := some (fileOf pool0 8 #[] #[{ accessFlags := 1, nameIndex := 5, descriptorIndex := 6, attributes := #[] }] 33 0 #[] #[])
  fields := #[]
  methods := #[k0m0]
  instanceTypes := #[]
  staticTypes := #[]
  resolved := Array.replicate 124 none
  statics := none }

def pool1 : Array CpInfo := pool [(2, .class_ 4), (1, u "java/lang/Object"), (0, u "<init>"), (0, u "()V"), (0, .class_ 8), (0, u "com/example/quadstone/quadstone/engine/Plan$Slot"), (0, .methodref 7 10), (0, .nameAndType 5 11), (0, u "(JI)V"), (0, .long 18446744073709551615), (1, .long 2), (1, .long 3), (1, .class_ 19), (0, u "com/example/quadstone/quadstone/engine/Plan$Step"), (0, .methodref 18 21), (0, .nameAndType 5 22), (0, u "(Lcom/example/quadstone/quadstone/engine/Plan$Slot;Lcom/example/quadstone/quadstone/engine/Plan$Slot;Lcom/example/quadstone/quadstone/engine/Plan$Slot;Lcom/example/quadstone/quadstone/engine/Plan$Slot;)V"), (0, .methodref 18 24), (0, .nameAndType 25 26), (0, u "position"), (0, u "(I)Lcom/example/quadstone/quadstone/engine/Plan$Slot;"), (0, .class_ 28), (0, u "com/example/quadstone/quadstone/engine/PlanPositionPinLaw"), (2, u "law"), (0, u "(JIII)Z")] 8

def k1m0 : Method := { name := "<init>", desc := "()V", sig := { parameters := [], returnType := none }, accessFlags := 2, code := none }
def k1c1 : Code := { maxStack := 6, maxLocals := 13, code := code, exceptionTable := #[], attributes := #[] }
def k1m1 : Method := { name := "law", desc := "(JIII)Z", sig := { parameters := [.long, .int, .int, .int], returnType := some .boolean }, accessFlags := 9, code := some k1c1 }
/-- com/example/quadstone/quadstone/engine/PlanPositionPinLaw -/
def k1 : Class := { plain "com/example/quadstone/quadstone/engine/PlanPositionPinLaw" (some 0) with
  accessFlags := 49
  interfaces := #[]
  cf := some (fileOf pool1 27 #[] #[{ accessFlags := 2, nameIndex := 5, descriptorIndex := 6, attributes := #[] }, { accessFlags := 9, nameIndex := 31, descriptorIndex := 32, attributes := #[] }] 49 2 #[] #[])
  fields := #[]
  methods := #[k1m0, k1m1]
  instanceTypes := #[]
  staticTypes := #[]
  resolved := Array.replicate 41 none
  statics := none }

def pool2 : Array CpInfo := pool [(1, .methodref 2 3), (0, .class_ 4), (0, .nameAndType 5 6), (0, u "java/lang/Object"), (0, u "<init>"), (0, u "()V"), (0, .class_ 8), (0, u "java/lang/Record")] 13

def k2c0 : Code := { maxStack := 1, maxLocals := 1, code := jdk_30_method_1_code, exceptionTable := #[], attributes := #[] }
def k2m0 : Method := { name := "<init>", desc := "()V", sig := { parameters := [], returnType := none }, accessFlags := 4, code := some k2c0 }
/-- java/lang/Record -/
def k2 : Class := { plain "java/lang/Record" (some 0) with
  accessFlags := 1057
  interfaces := #[]
  cf := some (fileOf pool2 7 #[] #[{ accessFlags := 4, nameIndex := 5, descriptorIndex := 6, attributes := #[] }] 1057 2 #[] #[])
  fields := #[]
  methods := #[k2m0]
  instanceTypes := #[]
  staticTypes := #[]
  resolved := Array.replicate 22 none
  statics := none }

def pool3 : Array CpInfo := pool [(1, .methodref 2 3), (0, .class_ 4), (0, .nameAndType 5 6), (0, u "java/lang/Record"), (0, u "<init>"), (0, u "()V"), (0, .fieldref 8 9), (0, .class_ 10), (0, .nameAndType 11 12), (0, u "com/example/quadstone/quadstone/engine/Plan$Slot"), (0, u "constant"), (0, u "J"), (0, .fieldref 8 14), (0, .nameAndType 15 16), (0, u "variable"), (0, u "I"), (2, u "(JI)V"), (24, .class_ 45), (0, u "com/example/quadstone/quadstone/engine/Plan")] 20

def k3c0 : Code := { maxStack := 3, maxLocals := 4, code := prog_74_method_1_code, exceptionTable := #[], attributes := #[] }
def k3m0 : Method := { name := "<init>", desc := "(JI)V", sig := { parameters := [.long, .int], returnType := none }, accessFlags := 1, code := some k3c0 }
/-- com/example/quadstone/quadstone/engine/Plan$Slot -/
def k3 : Class := { plain "com/example/quadstone/quadstone/engine/Plan$Slot" (some 2) with
  accessFlags := 49
  interfaces := #[]
  cf := some (fileOf pool3 8 #[.nestHost 44] #[{ accessFlags := 1, nameIndex := 5, descriptorIndex := 19, attributes := #[] }] 49 2 #[] #[{ accessFlags := 18, nameIndex := 11, descriptorIndex := 12, attributes := #[] }, { accessFlags := 18, nameIndex := 15, descriptorIndex := 16, attributes := #[] }])
  fields := #[{ name := "constant", type := .long, accessFlags := 18, slot := 0, constantValue := 0 }, { name := "variable", type := .int, accessFlags := 18, slot := 1, constantValue := 0 }]
  methods := #[k3m0]
  instanceTypes := #[.long, .int]
  staticTypes := #[]
  resolved := Array.replicate 66 none
  statics := none }

def pool4 : Array CpInfo := pool [(1, .methodref 2 3), (0, .class_ 4), (0, .nameAndType 5 6), (0, u "java/lang/Record"), (0, u "<init>"), (0, u "()V"), (0, .fieldref 8 9), (0, .class_ 10), (0, .nameAndType 11 12), (0, u "com/example/quadstone/quadstone/engine/Plan$Step"), (0, u "subject"), (0, u "Lcom/example/quadstone/quadstone/engine/Plan$Slot;"), (0, .fieldref 8 14), (0, .nameAndType 15 12), (0, u "predicate"), (0, .fieldref 8 17), (0, .nameAndType 18 12), (0, u "object"), (0, .fieldref 8 20), (0, .nameAndType 21 12), (0, u "graph"), (12, u "(Lcom/example/quadstone/quadstone/engine/Plan$Slot;Lcom/example/quadstone/quadstone/engine/Plan$Slot;Lcom/example/quadstone/quadstone/engine/Plan$Slot;Lcom/example/quadstone/quadstone/engine/Plan$Slot;)V"), (3, u "position"), (0, u "(I)Lcom/example/quadstone/quadstone/engine/Plan$Slot;"), (10, .class_ 51), (0, u "com/example/quadstone/quadstone/engine/Plan")] 23

def k4c0 : Code := { maxStack := 2, maxLocals := 5, code := prog_75_method_1_code, exceptionTable := #[], attributes := #[] }
def k4m0 : Method := { name := "<init>", desc := "(Lcom/example/quadstone/quadstone/engine/Plan$Slot;Lcom/example/quadstone/quadstone/engine/Plan$Slot;Lcom/example/quadstone/quadstone/engine/Plan$Slot;Lcom/example/quadstone/quadstone/engine/Plan$Slot;)V", sig := { parameters := [(.object "com/example/quadstone/quadstone/engine/Plan$Slot"), (.object "com/example/quadstone/quadstone/engine/Plan$Slot"), (.object "com/example/quadstone/quadstone/engine/Plan$Slot"), (.object "com/example/quadstone/quadstone/engine/Plan$Slot")], returnType := none }, accessFlags := 1, code := some k4c0 }
def k4c1 : Code := { maxStack := 1, maxLocals := 2, code := prog_75_method_2_code, exceptionTable := #[], attributes := #[] }
def k4m1 : Method := { name := "position", desc := "(I)Lcom/example/quadstone/quadstone/engine/Plan$Slot;", sig := { parameters := [.int], returnType := some (.object "com/example/quadstone/quadstone/engine/Plan$Slot") }, accessFlags := 0, code := some k4c1 }
/-- com/example/quadstone/quadstone/engine/Plan$Step -/
def k4 : Class := { plain "com/example/quadstone/quadstone/engine/Plan$Step" (some 2) with
  accessFlags := 49
  interfaces := #[]
  cf := some (fileOf pool4 8 #[.nestHost 50] #[{ accessFlags := 1, nameIndex := 5, descriptorIndex := 34, attributes := #[] }, { accessFlags := 0, nameIndex := 38, descriptorIndex := 39, attributes := #[] }] 49 2 #[] #[{ accessFlags := 18, nameIndex := 11, descriptorIndex := 12, attributes := #[] }, { accessFlags := 18, nameIndex := 15, descriptorIndex := 12, attributes := #[] }, { accessFlags := 18, nameIndex := 18, descriptorIndex := 12, attributes := #[] }, { accessFlags := 18, nameIndex := 21, descriptorIndex := 12, attributes := #[] }])
  fields := #[{ name := "subject", type := (.object "com/example/quadstone/quadstone/engine/Plan$Slot"), accessFlags := 18, slot := 0, constantValue := 0 }, { name := "predicate", type := (.object "com/example/quadstone/quadstone/engine/Plan$Slot"), accessFlags := 18, slot := 1, constantValue := 0 }, { name := "object", type := (.object "com/example/quadstone/quadstone/engine/Plan$Slot"), accessFlags := 18, slot := 2, constantValue := 0 }, { name := "graph", type := (.object "com/example/quadstone/quadstone/engine/Plan$Slot"), accessFlags := 18, slot := 3, constantValue := 0 }]
  methods := #[k4m0, k4m1]
  instanceTypes := #[(.object "com/example/quadstone/quadstone/engine/Plan$Slot"), (.object "com/example/quadstone/quadstone/engine/Plan$Slot"), (.object "com/example/quadstone/quadstone/engine/Plan$Slot"), (.object "com/example/quadstone/quadstone/engine/Plan$Slot")]
  staticTypes := #[]
  resolved := Array.replicate 75 none
  statics := none }

def pool5 : Array CpInfo := pool [(1, u "java/lang/Cloneable"), (0, .class_ 1), (0, u "java/lang/Object"), (0, .class_ 3)] 3

/-- java/lang/Cloneable -/
def k5 : Class := { plain "java/lang/Cloneable" (some 0) with
  accessFlags := 1537
  interfaces := #[]
  cf := some (fileOf pool5 2 #[] #[] 1537 4 #[] #[])
  fields := #[]
  methods := #[]
  instanceTypes := #[]
  staticTypes := #[]
  resolved := Array.replicate 8 none
  statics := none }

def pool6 : Array CpInfo := pool [(1, u "java/io/Serializable"), (0, .class_ 1), (0, u "java/lang/Object"), (0, .class_ 3)] 3

/-- java/io/Serializable -/
def k6 : Class := { plain "java/io/Serializable" (some 0) with
  accessFlags := 1537
  interfaces := #[]
  cf := some (fileOf pool6 2 #[] #[] 1537 4 #[] #[])
  fields := #[]
  methods := #[]
  instanceTypes := #[]
  staticTypes := #[]
  resolved := Array.replicate 8 none
  statics := none }

/-- the primitive byte -/
def k7 : Class := { plain "byte" none with kind := .primitive 'B', accessFlags := 0x411 }
/-- [B -/
def k8 : Class := { plain "[B" (some 0) with kind := .array 7 .byte, interfaces := #[5, 6], accessFlags := 1041 }

/-- the primitive int -/
def k9 : Class := { plain "int" none with kind := .primitive 'I', accessFlags := 0x411 }
/-- [I -/
def k10 : Class := { plain "[I" (some 0) with kind := .array 9 .int, interfaces := #[5, 6], accessFlags := 1041 }

def heap : Heap := #[]
def classes : Array Class := #[k0, k1, k2, k3, k4, k5, k6, k7, k8, k9, k10]
def interned : List (Array UInt16 × Addr) := []
def slotsUsed : Nat := 0
def theMethod : MethodId := ⟨1, 1⟩
def args0 : Array Value := #[.long 5, .int 9, .int 3, .int 1]
def aboutOver (below : List Frame) : State where
  vm := { classes := classes, interned := interned.toArray }
  heap := heap
  slotsUsed := slotsUsed
  threads := #[{ frames := .invoking theMethod args0 :: below }]
def below0 : List Frame := [.native { method := ⟨0, 0⟩, args := #[] }]
def about1 : State := aboutOver below0
def p0 : Program := .bare "" "" ""
def e0 : Env := launch0.env 0 0 0
theorem w_frames : about1.frames = Frame.invoking theMethod args0 :: below0 := rfl
set_option maxRecDepth 65536 in
theorem w_args : argsFit about1.vm theMethod args0 = true := by decide +kernel
set_option maxRecDepth 65536 in
theorem w_heap : heapFits about1 = true := by decide +kernel
set_option maxRecDepth 65536 in
theorem w_runnable : about1.curStatus? = some .runnable := by decide +kernel
set_option maxRecDepth 65536 in
theorem w_alone : about1.alone = true := by decide +kernel
set_option maxRecDepth 65536 in
theorem w_named : about1.methodNamed? x = some theMethod := by decide +kernel
set_option maxRecDepth 65536 in
theorem w_hears : about1.hears theMethod below0 = true := by decide +kernel
set_option maxRecDepth 65536 in
theorem w_ripe : about1.ripe theMethod args0 below0 = true := by decide +kernel
theorem w_running : about1.status = .running := rfl
set_option maxRecDepth 65536 in
theorem w_room : about1.hasRoom e0.platform room_1 = true :=
  launch0.hasRoom_least _ room_1 (by decide +kernel) (by decide +kernel) (by decide +kernel) (by decide +kernel) (by decide +kernel) (by decide +kernel)
theorem allAtoms_all (ts : List Jvm.Cond) (a : Array Jvm.Value) (st : Jvm.State) : (allAtoms ts).before a st = ts.all (fun c => c.before a st) := by
  induction ts with
  | nil => rfl
  | cons c t ih =>
    show (Jvm.Cond.and c (allAtoms t)).before a st = _
    rw [Jvm.Cond.before_and, ih, List.all_cons]
def words1 : List Jvm.Cond := Jvm.Cond.code x code maxLocals ret :: tables_1
/-- a 'code' word, met by the world's own term for the bytes: nothing is compared byte by byte -/
theorem code_word {y : MethodName} {bytes : ByteArray} {mx : Nat} {rt : Option FieldType} {a : Array Value} {s : State} {m : MethodId} {meth : Method} {c : Code} (h1 : s.methodNamed? y = some m) (h2 : s.vm.method? m = some meth) (h3 : meth.code = some c) (h4 : c.code = bytes)
    (h5 : (c.maxLocals == mx && c.exceptionTable.isEmpty && decide (c.maxStack ≤ mostOperands) && decide (meth.sig.returnType = rt) && !meth.locks && decide (parseMethodDescriptor y.desc = some meth.sig)) = true) : (Jvm.Cond.code y bytes mx rt).before a s = true := by
  simp only [Bool.and_eq_true, beq_iff_eq, Bool.not_eq_true', decide_eq_true_eq] at h5
  obtain ⟨⟨⟨⟨⟨g1, g2⟩, g3⟩, g4⟩, g5⟩, g6⟩ := h5
  simp [Cond.before, Cond.holds, Cond.value, h1, h2, h3, h4, g1, g2, g3, g4, g5, g6]
def isCode : Jvm.Cond → Bool
  | .code _ _ _ _ => true
  | _ => false
theorem all_split {L : List Jvm.Cond} {P : Jvm.Cond → Bool} (h1 : L.all (fun c => isCode c || P c) = true) (h2 : ∀ c ∈ L.filter isCode, P c = true) : L.all P = true := by
  refine List.all_eq_true.mpr fun c hc => ?_
  have h := List.all_eq_true.mp h1 c hc
  rcases Bool.eq_false_or_eq_true (isCode c) with hi | hi
  · exact h2 c (List.mem_filter.mpr ⟨hc, hi⟩)
  · simpa [hi] using h
set_option maxRecDepth 65536 in
theorem w_c0 : (Jvm.Cond.code x code maxLocals ret).before args0 about1 = true := code_word (m := ⟨1, 1⟩) (meth := k1m1) (c := k1c1) (by decide +kernel) rfl rfl rfl (by decide +kernel)
set_option maxRecDepth 65536 in
theorem w_c1 : (Jvm.Cond.code ({ cls := "com/example/quadstone/quadstone/engine/Plan$Slot", name := "<init>", desc := "(JI)V" } : Jvm.MethodName) prog_74_method_1_code (4 : Nat) (Option.none : Option Jvm.ClassFile.FieldType)).before args0 about1 = true := code_word (m := ⟨3, 0⟩) (meth := k3m0) (c := k3c0) (by decide +kernel) rfl rfl rfl (by decide +kernel)
set_option maxRecDepth 65536 in
theorem w_c2 : (Jvm.Cond.code ({ cls := "java/lang/Record", name := "<init>", desc := "()V" } : Jvm.MethodName) jdk_30_method_1_code (1 : Nat) (Option.none : Option Jvm.ClassFile.FieldType)).before args0 about1 = true := code_word (m := ⟨2, 0⟩) (meth := k2m0) (c := k2c0) (by decide +kernel) rfl rfl rfl (by decide +kernel)
set_option maxRecDepth 65536 in
theorem w_c3 : (Jvm.Cond.code ({ cls := "java/lang/Object", name := "<init>", desc := "()V" } : Jvm.MethodName) object_method_1_code (1 : Nat) (Option.none : Option Jvm.ClassFile.FieldType)).before args0 about1 = true := code_word (m := ⟨0, 0⟩) (meth := k0m0) (c := k0c0) (by decide +kernel) rfl rfl rfl (by decide +kernel)
set_option maxRecDepth 65536 in
theorem w_c4 : (Jvm.Cond.code ({ cls := "com/example/quadstone/quadstone/engine/Plan$Step", name := "<init>", desc := "(Lcom/example/quadstone/quadstone/engine/Plan$Slot;Lcom/example/quadstone/quadstone/engine/Plan$Slot;Lcom/example/quadstone/quadstone/engine/Plan$Slot;Lcom/example/quadstone/quadstone/engine/Plan$Slot;)V" } : Jvm.MethodName) prog_75_method_1_code (5 : Nat) (Option.none : Option Jvm.ClassFile.FieldType)).before args0 about1 = true := code_word (m := ⟨4, 0⟩) (meth := k4m0) (c := k4c0) (by decide +kernel) rfl rfl rfl (by decide +kernel)
set_option maxRecDepth 65536 in
theorem w_c5 : (Jvm.Cond.code ({ cls := "com/example/quadstone/quadstone/engine/Plan$Step", name := "position", desc := "(I)Lcom/example/quadstone/quadstone/engine/Plan$Slot;" } : Jvm.MethodName) prog_75_method_2_code (2 : Nat) (Option.some (Jvm.ClassFile.FieldType.object "com/example/quadstone/quadstone/engine/Plan$Slot"))).before args0 about1 = true := code_word (m := ⟨4, 1⟩) (meth := k4m1) (c := k4c1) (by decide +kernel) rfl rfl rfl (by decide +kernel)
def codes1 : List Jvm.Cond := [Jvm.Cond.code x code maxLocals ret, Jvm.Cond.code ({ cls := "com/example/quadstone/quadstone/engine/Plan$Slot", name := "<init>", desc := "(JI)V" } : Jvm.MethodName) prog_74_method_1_code (4 : Nat) (Option.none : Option Jvm.ClassFile.FieldType), Jvm.Cond.code ({ cls := "java/lang/Record", name := "<init>", desc := "()V" } : Jvm.MethodName) jdk_30_method_1_code (1 : Nat) (Option.none : Option Jvm.ClassFile.FieldType), Jvm.Cond.code ({ cls := "java/lang/Object", name := "<init>", desc := "()V" } : Jvm.MethodName) object_method_1_code (1 : Nat) (Option.none : Option Jvm.ClassFile.FieldType), Jvm.Cond.code ({ cls := "com/example/quadstone/quadstone/engine/Plan$Step", name := "<init>", desc := "(Lcom/example/quadstone/quadstone/engine/Plan$Slot;Lcom/example/quadstone/quadstone/engine/Plan$Slot;Lcom/example/quadstone/quadstone/engine/Plan$Slot;Lcom/example/quadstone/quadstone/engine/Plan$Slot;)V" } : Jvm.MethodName) prog_75_method_1_code (5 : Nat) (Option.none : Option Jvm.ClassFile.FieldType), Jvm.Cond.code ({ cls := "com/example/quadstone/quadstone/engine/Plan$Step", name := "position", desc := "(I)Lcom/example/quadstone/quadstone/engine/Plan$Slot;" } : Jvm.MethodName) prog_75_method_2_code (2 : Nat) (Option.some (Jvm.ClassFile.FieldType.object "com/example/quadstone/quadstone/engine/Plan$Slot"))]
set_option maxRecDepth 65536 in
theorem codes_eq : words1.filter isCode = codes1 := rfl
theorem w_codes : ∀ c ∈ words1.filter isCode, c.before args0 about1 = true := by
  rw [codes_eq]
  intro c hc
  simp only [codes1, List.mem_cons, List.not_mem_nil, or_false] at hc
  rcases hc with rfl | rfl | rfl | rfl | rfl | rfl
  · exact w_c0
  · exact w_c1
  · exact w_c2
  · exact w_c3
  · exact w_c4
  · exact w_c5
set_option maxRecDepth 65536 in
theorem w_t1 : (words1.take 24).all (fun c => isCode c || c.before args0 about1) = true := by decide +kernel
set_option maxRecDepth 65536 in
theorem w_t2 : (words1.drop 24).all (fun c => isCode c || c.before args0 about1) = true := by decide +kernel
theorem w_tables : (allAtoms (Jvm.Cond.code x code maxLocals ret :: tables_1)).before args0 about1 = true := by
  rw [allAtoms_all]
  show words1.all (fun c => c.before args0 about1) = true
  refine all_split ?_ w_codes
  rw [← List.take_append_drop 24 words1, List.all_append, w_t1, w_t2]
  rfl
set_option maxRecDepth 65536 in
theorem w_case : (Jvm.Cond.and given_1 narrow_1).before args0 about1 = true := by decide +kernel
theorem w_applies : (headSpec (Jvm.Cond.code x code maxLocals ret :: tables_1) room_1).applies x e0.platform about1 = true :=
  (Spec.applies_iff w_frames).mpr ⟨w_running, w_runnable, w_alone, w_named, w_hears, w_ripe, w_room, w_tables⟩
theorem atStart : AtStart classFile x code maxLocals ret World_1 tables_1 room_1 Calls_1 rest_1 Pre_1 launch0 p0 e0 about1 theMethod args0 below0 :=
  ⟨lists_1, trivial, launch0.admits_env _ _ _, launch0.least_env, fairChoices_fair.cas, fairChoices_fair.clock, w_frames, w_args, w_heap, w_applies, trivial, trivial, w_case⟩
end start1
theorem witness_1 : WitnessClaimed_1 := ⟨start1.p0, start1.e0, start1.about1, start1.theMethod, start1.args0, start1.below0, start1.atStart⟩
end Jvm.Pilot.@@N@@
