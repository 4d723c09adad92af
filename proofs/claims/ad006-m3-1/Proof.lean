import JvmDerived
import JvmDerived.Pilot.@@N@@Statement
import JvmDerived.Pilot.@@N@@Code
set_option linter.unusedVariables false
set_option linter.unusedSimpArgs false
namespace Jvm.OwnKit
open Sem ClassFile Op Lib Jvm.Stand Jvm.Free Jvm.LawKit Jvm.RoadKit
section Own
variable {p : Program} {l : Launch} {e : Env} {R : Room} {s : State} {m : MethodId} {args : Array Value} {below : List Frame} {meth : Method} {c : Code} {T : State} {h : Heap} {n0 cells slots : Nat} {Z : State} {a0 : Array Value} {Q : Option Value → Heap → Prop} {pc pc' : Nat} {Ls : Array Slot} {S rest : List Value}
/-- where the walk stands: over T, whose heap is h; nothing older than n0 was written -/
def Pn (p : Program) (l : Launch) (e : Env) (R : Room) (s : State) (m : MethodId) (args : Array Value) (below : List Frame) (meth : Method) (c : Code) (T : State) (h : Heap) (n0 cells slots : Nat) : Prop :=
  T.heap = h ∧ n0 ≤ s.heap.size ∧ ∃ locs, Stand p l e R s m args below meth c T locs cells slots ∧ Fr n0 locs
theorem Pn.here (X : Pn p l e R s m args below meth c T h n0 cells slots) : At T m c below := by obtain ⟨_, _, _, X, _⟩ := X; exact X.here
theorem Pn.le (X : Pn p l e R s m args below meth c T h n0 cells slots) : n0 ≤ h.size := by
  obtain ⟨e0, hn, _, X, _⟩ := X
  have q : s.heap.size ≤ T.heap.size := X.same.2.1
  rw [← e0]; exact Nat.le_trans hn q
theorem Pn.mono (X : Pn p l e R s m args below meth c T h n0 cells slots) {cells' slots' : Nat} (hc : cells ≤ cells') (hs : slots ≤ slots') : Pn p l e R s m args below meth c T h n0 cells' slots' := by
  obtain ⟨e0, hn, L, X, N⟩ := X
  exact ⟨e0, hn, L, ⟨X.admits, X.cas, X.clock, X.frames, X.room, X.hears, X.method, X.code, X.here, X.tail, X.warmed, X.limits, X.bytes, X.same.mono hc hs⟩, N⟩
/-- from here the run comes to a return that Q speaks of -/
def Go (p : Program) (e : Env) (s : State) (below : List Frame) (n0 : Nat) (Q : Option Value → Heap → Prop) (R : Room) (T : State) (f : JFrame) : Prop :=
  ∃ V, Steps p.tables e below (T.setTop f) V ∧ V.status = .running ∧ ∃ v L, Ended V below (.returned v) ∧ Q v V.heap ∧ Fr n0 L ∧ FrameEnd s (.returned v) V L R.cells R.slots
theorem stp {T' : State} {f f' : JFrame} (k : ∀ t, Steps p.tables e below (T'.setTop f') t → Steps p.tables e below (T.setTop f) t) (g : Go p e s below n0 Q R T' f') : Go p e s below n0 Q R T f := by
  obtain ⟨V, h1, h2⟩ := g; exact ⟨V, k V h1, h2⟩
def Con (l : Launch) (Z : State) (y : MethodName) (bytes : ByteArray) (maxL : Nat) (ret : Option FieldType) (ws : List Jvm.Cond) (rm : Room) (as : Array Value) (h0 : Heap) (n0 : Nat) (Q : Option Value → Heap → Prop) : Prop :=
  MetFree l y (head1 (Jvm.Cond.code y bytes maxL ret :: ws) rm) (fun a U => a = as ∧ Z.Warmed39 U.vm ∧ U.heap = h0) (fun _ _ _ _ _ => True) (fun _ U o U' => ∃ v L, o = .returned v ∧ (Q v U'.heap ∧ Fr n0 L) ∧ FrameEnd U o U' L rm.cells rm.slots)
theorem body {y : MethodName} {bytes : ByteArray} {maxL : Nat} {ret : Option FieldType} {ws : List Jvm.Cond} {rm : Room} {as : Array Value} {h0 : Heap} (hp : plainFor y = true) (hn : n0 ≤ h0.size) (ent : ∀ m, entryFrame m as maxL = mkF m 0 Ls [])
    (walk : ∀ (p : Program) (e : Env) (s : State) (m : MethodId) (below : List Frame) (meth : Method) (c : Code) (T : State), p.tables.exec = Jvm.exec → c.code = bytes → c.maxLocals = maxL → s.vm.findClass y.cls = some m.cls → meth.name = y.name → meth.sig.returnType = ret → meth.locks = false → Z.Warmed39 s.vm →
      Pn p l e rm s m as below meth c T h0 n0 0 0 → Go p e s below n0 Q rm T (mkF m 0 Ls [])) : Con l Z y bytes maxL ret ws rm as h0 n0 Q := by
  refine MetFree.of_bodySF hp hisR ?_
  intro p e s m args below meth c s₁ Bd hml0 hP hK
  obtain ⟨rfl, hZ, hh⟩ := hP
  have hown : s.vm.findClass y.cls = some m.cls := findClass_of_methodNamed Bd.named
  have hnm := (name_of_methodNamed Bd.named Bd.method).1
  have X0 : Stand p l e rm s m _ below meth c s₁ [] 0 0 := Stand.of_body Bd
  have e0 : s₁.heap = h0 := by rw [← hh, Bd.state]; rfl
  obtain ⟨V, h1, h2, v, L, h3, h4, h5, h6⟩ := walk p e s m below meth c s₁ Bd.exec Bd.bytes hml0 hown hnm Bd.returns Bd.notSynchronized hZ ⟨e0, by rw [hh]; exact hn, [], X0, Fr.nil n0⟩
  exact ⟨V, _, castTop (ent m) h1, h2, h3, v, L, rfl, ⟨h4, h5⟩, h6⟩
/-! the ends -/
theorem fin (X : Pn p l e R s m args below meth c T h n0 cells slots) (hlk : meth.locks = false) {v : Option Value} (hv : meth.sig.returnType = none → v = none) (hc : cells ≤ R.cells) (hs : slots ≤ R.slots) (hq : Q v h) {f : JFrame}
    (k : ∀ locs, Stand p l e R s m args below meth c T locs cells slots → ∀ fs, (∀ (f : JFrame) (acts : List Action), f.method = m → f.locked = none → f.entered = [] → (doReturn e (T.setTop f) acts v).1 = T.setFrames fs) → Steps p.tables e below (T.setTop f) (T.setFrames fs)) : Go p e s below n0 Q R T f := by
  obtain ⟨e0, hn, locs, Y, N⟩ := X
  obtain ⟨fs, hr, hrun, hended, hW, hsame⟩ := Y.leave hv hlk
  refine ⟨_, k locs Y fs hr, hrun, v, locs, hended, ?_, N, ⟨_, rfl⟩, hW, hsame.mono hc hs⟩
  show Q v T.heap
  rw [e0]; exact hq
theorem rI {z : Int32} (X : Pn p l e R s m args below meth c T h n0 cells slots) (hx : p.tables.exec = Jvm.exec) (hlk : meth.locks = false) (hret : meth.sig.returnType = some .int) (hd : decode c.code pc = .ok (.ireturn, 1)) (hc : cells ≤ R.cells) (hs : slots ≤ R.slots) (hq : Q (some (.int z)) h) :
    Go p e s below n0 Q R T (mkF m pc Ls (.int z :: S)) :=
  fin X hlk (fun q => by rw [hret] at q; cases q) hc hs hq fun _ Y fs hr => retOut Y hx hret rfl (Or.inl ⟨rfl, Or.inl rfl, z, rfl⟩) hd hr
theorem rN {z : Int32} {t : FieldType} (X : Pn p l e R s m args below meth c T h n0 cells slots) (hx : p.tables.exec = Jvm.exec) (hlk : meth.locks = false) (hret : meth.sig.returnType = some t) (ht : t = .boolean ∨ t = .byte ∨ t = .char ∨ t = .short) (hd : decode c.code pc = .ok (.ireturn, 1)) (hc : cells ≤ R.cells) (hs : slots ≤ R.slots) (hq : Q (some (.int (nar t z))) h) :
    Go p e s below n0 Q R T (mkF m pc Ls (.int z :: S)) :=
  fin X hlk (fun q => by rw [hret] at q; cases q) hc hs hq fun _ Y fs hr => retN Y hx hret ht hd hr
theorem rL {z : Int64} (X : Pn p l e R s m args below meth c T h n0 cells slots) (hx : p.tables.exec = Jvm.exec) (hlk : meth.locks = false) (hret : meth.sig.returnType = some .long) (hd : decode c.code pc = .ok (.lreturn, 1)) (hc : cells ≤ R.cells) (hs : slots ≤ R.slots) (hq : Q (some (.long z)) h) :
    Go p e s below n0 Q R T (mkF m pc Ls (.long z :: S)) :=
  fin X hlk (fun q => by rw [hret] at q; cases q) hc hs hq fun _ Y fs hr => retOut Y hx hret rfl (Or.inr (Or.inl ⟨rfl, rfl, z, rfl⟩)) hd hr
theorem rA {w : Value} {t : FieldType} (X : Pn p l e R s m args below meth c T h n0 cells slots) (hx : p.tables.exec = Jvm.exec) (hlk : meth.locks = false) (hret : meth.sig.returnType = some t) (ht : t.isReference = true) (hw : w.isRef = true) (hn : narrow t w = w) (hd : decode c.code pc = .ok (.areturn, 1)) (hc : cells ≤ R.cells) (hs : slots ≤ R.slots) (hq : Q (some w) h) :
    Go p e s below n0 Q R T (mkF m pc Ls (w :: S)) :=
  fin X hlk (fun q => by rw [hret] at q; cases q) hc hs hq fun _ Y fs hr => retOut Y hx hret hn (Or.inr (Or.inr (Or.inr (Or.inr ⟨rfl, ht, hw⟩)))) hd hr
theorem rV (X : Pn p l e R s m args below meth c T h n0 cells slots) (hx : p.tables.exec = Jvm.exec) (hlk : meth.locks = false) (hret : meth.sig.returnType = none) (hd : decode c.code pc = .ok (.return_, 1)) (hc : cells ≤ R.cells) (hs : slots ≤ R.slots) (hq : Q none h) :
    Go p e s below n0 Q R T (mkF m pc Ls []) :=
  fin X hlk (fun _ => rfl) hc hs hq fun _ Y fs hr => Y.returnOut hx hret hd hr
/-! heap and tables -/
theorem gf {own R0 O n d host : String} {index : Nat} {a : Addr} {v : Value} (X : Pn p l e R s m args below meth c T h n0 cells slots) (hx : p.tables.exec = Jvm.exec) (hZ : Z.Warmed39 s.vm) (hown : s.vm.findClass own = some m.cls) (w : (Cond.fieldLink own index R0 n d).before a0 Z = true ∨ (Cond.fieldLinkNest own index R0 n d host).before a0 Z = true) (via : Via Z R0 O n d)
    (F : Fld Z h a O n d v) (hd : decode c.code pc = .ok (.getfield index, 3)) (hp : pc + 3 = pc') (k : ∀ T', Pn p l e R s m args below meth c T' h n0 cells slots → Go p e s below n0 Q R T' (mkF m pc' Ls (v :: S))) : Go p e s below n0 Q R T (mkF m pc Ls (.ref a :: S)) := by
  subst hp
  obtain ⟨e0, hn, locs, Y, N⟩ := X
  obtain ⟨T', Y', e', st⟩ := getF Y hx hZ hown w via e0 F (g := mkF m pc Ls (.ref a :: S)) rfl rfl hd
  exact stp st (k T' ⟨e', hn, locs, Y', N⟩)
theorem gs {own R0 O n d host : String} {index : Nat} {v : Value} (X : Pn p l e R s m args below meth c T h n0 cells slots) (hx : p.tables.exec = Jvm.exec) (hZ : Z.Warmed39 s.vm) (hown : s.vm.findClass own = some m.cls) (w : (Cond.fieldLink own index R0 n d).before a0 Z = true ∨ (Cond.fieldLinkNest own index R0 n d host).before a0 Z = true) (via : Via Z R0 O n d)
    (F : Sta Z h O n d v) (hd : decode c.code pc = .ok (.getstatic index, 3)) (hp : pc + 3 = pc') (k : ∀ T', Pn p l e R s m args below meth c T' h n0 cells slots → Go p e s below n0 Q R T' (mkF m pc' Ls (v :: S))) : Go p e s below n0 Q R T (mkF m pc Ls S) := by
  subst hp
  obtain ⟨e0, hn, locs, Y, N⟩ := X
  obtain ⟨T', Y', e', st⟩ := getS2 Y hx hZ hown w via e0 F (g := mkF m pc Ls S) rfl hd
  exact stp st (k T' ⟨e', hn, locs, Y', N⟩)
theorem pf {own R0 O n d host C : String} {index kk : Nat} {ty : FieldType} {a : Addr} {v old : Value} (X : Pn p l e R s m args below meth c T h n0 cells slots) (hx : p.tables.exec = Jvm.exec) (hZ : Z.Warmed39 s.vm) (hown : s.vm.findClass own = some m.cls) (w : (Cond.fieldLink own index R0 n d).before a0 Z = true ∨ (Cond.fieldLinkNest own index R0 n d host).before a0 Z = true) (via : Via Z R0 O n d)
    (F : Fld Z h a O n d old) (E : Exa Z h a C) (L : (Cond.lays C O n d).before a0 Z = true ∨ ((Cond.laysFinal C O n d).before a0 Z = true ∧ own = O ∧ meth.name = "<init>")) (wi : (Cond.instantiable C kk).before a0 Z = true)
    (hty : parseFieldDescriptor d = some ty) (hn : narrow ty v = v) (hf : fits ty v = true) (ge : n0 ≤ a) (hd : decode c.code pc = .ok (.putfield index, 3)) (hp : pc + 3 = pc')
    (k : ∀ T' h', Pn p l e R s m args below meth c T' h' n0 cells slots → Wr h h' a (Jvm.RoadKit.slotOf Z O n d) v → Go p e s below n0 Q R T' (mkF m pc' Ls S)) : Go p e s below n0 Q R T (mkF m pc Ls (v :: .ref a :: S)) := by
  subst hp
  obtain ⟨e0, hm, locs, Y, N⟩ := X
  obtain ⟨T', h', Y', e', W, st⟩ := putF Y hx hZ hown w via e0 F E L wi hty hn hf (g := mkF m pc Ls (v :: .ref a :: S)) rfl rfl hd
  exact stp st (k T' h' ⟨e', hm, _, Y', Fr.snoc Y' N ge⟩ W)
theorem nw {own C : String} {index n : Nat} (X : Pn p l e R s m args below meth c T h n0 cells slots) (hx : p.tables.exec = Jvm.exec) (hZ : Z.Warmed39 s.vm) (hown : s.vm.findClass own = some m.cls) (w : (Cond.classLink own index C).before a0 Z = true) (wi : (Cond.instantiable C n).before a0 Z = true) (wz : (Cond.initialized C).before a0 Z = true)
    (hd : decode c.code pc = .ok (.new index, 3)) (hp : pc + 3 = pc') (hc : cells + 1 ≤ R.cells) (hl : slots + n ≤ R.slots)
    (k : ∀ T' h' b, Pn p l e R s m args below meth c T' h' n0 (cells + 1) (slots + n) → b = h.size → n0 ≤ b → Ext h h' → Exa Z h' b C → (∀ {O nm d : String} {ty : FieldType}, Laid Z a0 C O nm d → parseFieldDescriptor d = some ty → Fld Z h' b O nm d (defaultValue ty)) → Go p e s below n0 Q R T' (mkF m pc' Ls (.ref b :: S))) :
    Go p e s below n0 Q R T (mkF m pc Ls S) := by
  subst hp
  have q := X.le
  obtain ⟨e0, hn, locs, Y, N⟩ := X
  obtain ⟨T', h', Y', e', E', A', D', -, st⟩ := newO Y hx hZ hown w wi wz e0 (g := mkF m pc Ls S) rfl hd hc hl
  exact stp st (k T' h' _ ⟨e', hn, _, Y', N⟩ rfl q E' A' D')
theorem oi {own : String} {idx : Nat} {a : Addr} {W : Nat} (X : Pn p l e R s m args below meth c T h n0 cells slots) (hx : p.tables.exec = Jvm.exec) (hZ : Z.Warmed39 s.vm) (hown : s.vm.findClass own = some m.cls) (w1 : (Cond.methodLink own idx Lib.objectInit).before a0 Z = true) (w2 : (Cond.instanceMethod Lib.objectInit).before a0 Z = true) (w3 : (Cond.code Lib.objectInit ⟨#[0xb1]⟩ 1 none).before a0 Z = true)
    (hsize : Ls.size = c.maxLocals) (hd : decode c.code pc = .ok (.invokespecial idx, 3)) (hp : pc + 3 = pc') (hf : 1 ≤ R.frames) (hW : (S.map fun v => v.category).sum ≤ W) (hl : W + 12 ≤ R.locals)
    (k : ∀ T', Pn p l e R s m args below meth c T' h n0 cells slots → Go p e s below n0 Q R T' (mkF m pc' Ls S)) : Go p e s below n0 Q R T (mkF m pc Ls (.ref a :: S)) := by
  subst hp
  obtain ⟨e0, hn, locs, Y, N⟩ := X
  obtain ⟨T', Y', e', st⟩ := initO Y hx hZ hown w1 w2 w3 e0 (g := mkF m pc Ls (.ref a :: S)) rfl hsize rfl hd hf (W := W) (by show 2 * 0 + _ ≤ _; omega) hl
  exact stp st (k T' ⟨e', hn, locs, Y', N⟩)
/-! calls by their contracts -/
theorem cS {own : String} {index : Nat} {y : MethodName} {bytes : ByteArray} {maxL : Nat} {ret : Option FieldType} {rm : Room} {as : Array Value} {Q' : Option Value → Heap → Prop} (W : Nat) (argsL : List Value) (X : Pn p l e R s m args below meth c T h n0 cells slots) (hx : p.tables.exec = Jvm.exec) (hZ : Z.Warmed39 s.vm) (hown : s.vm.findClass own = some m.cls)
    (w1 : (Cond.methodLink own index y).before a0 Z = true) (w2 : (Cond.static y).before a0 Z = true) (w3 : (Cond.initialized y.cls).before a0 Z = true) (w4 : (Cond.code y bytes maxL ret).before a0 Z = true) (hy : y.cls ≠ "java/lang/invoke/MethodHandle" ∧ y.cls ≠ "java/lang/invoke/VarHandle")
    (hM : Con l Z y bytes maxL ret [] rm as h n0 Q') (hf : rm.frames + 1 ≤ R.frames) (hl : W + (maxL + 11) + rm.locals ≤ R.locals) (hsz : Ls.size = c.maxLocals) (has : as = argsL.toArray) (hlen : ∀ sig, parseMethodDescriptor y.desc = some sig → argsL.length = sig.parameters.length) (hst : S = argsL.reverse ++ rest) (hW : (rest.map fun v => v.category).sum ≤ W)
    (hd : decode c.code pc = .ok (.invokestatic index, 3)) (hp : pc + 3 = pc') (hc : cells + rm.cells ≤ R.cells) (hs : slots + rm.slots ≤ R.slots)
    (k : ∀ v T' h', Pn p l e R s m args below meth c T' h' n0 (cells + rm.cells) (slots + rm.slots) → Q' v h' → Go p e s below n0 Q R T' (mkF m pc' Ls (v.toList ++ rest))) : Go p e s below n0 Q R T (mkF m pc Ls S) := by
  subst hp has
  obtain ⟨e0, hn, locs, Y, N⟩ := X
  obtain ⟨v, _, ⟨T', L', k', n'⟩, -, Y', ⟨Lc, ⟨hq, hN⟩, l', y', z'⟩, st⟩ := Jvm.LawKit.callS Y hx (y := y) hown (mvT hZ w1) (mvT hZ w2) (mvT hZ w3) (mvT hZ w4) hy (backOf (W := W) (Q := fun v h L => Q' v h ∧ Fr n0 L) hM hZ w4 w3 hf hl) (g := mkF m pc Ls S) rfl hsz (argsL := argsL) (rest := rest) hlen hst (by show 2 * 0 + _ ≤ _; omega) hd (fun _ _ => ⟨rfl, e0, hc, hs⟩)
  dsimp only [Pt.U, Pt.locs, Pt.cells, Pt.slots] at Y' l' y' z' st hq
  subst l' y' z'
  exact stp st (k v T' _ ⟨rfl, hn, _, Y', N.app hN⟩ hq)
theorem cI {own : String} {index : Nat} {y : MethodName} {bytes : ByteArray} {maxL : Nat} {rm : Room} {as : Array Value} {a : Addr} {Q' : Option Value → Heap → Prop} (W : Nat) (argsL : List Value) (X : Pn p l e R s m args below meth c T h n0 cells slots) (hx : p.tables.exec = Jvm.exec) (hZ : Z.Warmed39 s.vm) (hown : s.vm.findClass own = some m.cls) (hy1 : y.name = "<init>")
    (w1 : (Cond.methodLink own index y).before a0 Z = true) (w2 : (Cond.instanceMethod y).before a0 Z = true) (w3 : (Cond.initialized y.cls).before a0 Z = true) (w4 : (Cond.code y bytes maxL none).before a0 Z = true) (hy : y.cls ≠ "java/lang/invoke/MethodHandle" ∧ y.cls ≠ "java/lang/invoke/VarHandle")
    (hM : Con l Z y bytes maxL none [] rm as h n0 Q') (hf : rm.frames + 1 ≤ R.frames) (hl : W + (maxL + 11) + rm.locals ≤ R.locals) (hsz : Ls.size = c.maxLocals) (has : as = (.ref a :: argsL).toArray) (hlen : ∀ sig, parseMethodDescriptor y.desc = some sig → argsL.length = sig.parameters.length) (hst : S = argsL.reverse ++ .ref a :: rest) (hW : (rest.map fun v => v.category).sum ≤ W)
    (hd : decode c.code pc = .ok (.invokespecial index, 3)) (hp : pc + 3 = pc') (hc : cells + rm.cells ≤ R.cells) (hs : slots + rm.slots ≤ R.slots)
    (k : ∀ v T' h', Pn p l e R s m args below meth c T' h' n0 (cells + rm.cells) (slots + rm.slots) → Q' v h' → Go p e s below n0 Q R T' (mkF m pc' Ls (v.toList ++ rest))) : Go p e s below n0 Q R T (mkF m pc Ls S) := by
  subst hp has
  obtain ⟨e0, hn, locs, Y, N⟩ := X
  obtain ⟨v, _, ⟨T', L', k', n'⟩, -, Y', ⟨Lc, ⟨hq, hN⟩, l', y', z'⟩, st⟩ := Y.specialBack hx (y := y) hy1 hown (mvT hZ w1) (mvT hZ w2) (mvT hZ w4) hy (backOf (W := W) (Q := fun v h L => Q' v h ∧ Fr n0 L) hM hZ w4 w3 hf hl) (g := mkF m pc Ls S) rfl hsz (Steps.refl _) (a := a) (argsL := argsL) (rest := rest) hlen hst (by show 2 * 0 + _ ≤ _; omega) hd (fun _ _ => ⟨rfl, e0, hc, hs⟩)
  dsimp only [Pt.U, Pt.locs, Pt.cells, Pt.slots] at Y' l' y' z' st hq
  subst l' y' z'
  exact stp (fun _ q => st.trans q) (k v T' _ ⟨rfl, hn, _, Y', N.app hN⟩ hq)
theorem cV {own C : String} {index : Nat} {y : MethodName} {bytes : ByteArray} {maxL : Nat} {ret : Option FieldType} {rm : Room} {as : Array Value} {a : Addr} {Q' : Option Value → Heap → Prop} (W : Nat) (argsL : List Value) (X : Pn p l e R s m args below meth c T h n0 cells slots) (hx : p.tables.exec = Jvm.exec) (hZ : Z.Warmed39 s.vm) (hown : s.vm.findClass own = some m.cls)
    (w1 : (Cond.methodLink own index y).before a0 Z = true) (w2 : (Cond.declares y).before a0 Z = true) (w5 : (Cond.selects C y y).before a0 Z = true) (w6 : (Cond.instanceMethod y).before a0 Z = true) (w3 : (Cond.initialized y.cls).before a0 Z = true) (w4 : (Cond.code y bytes maxL ret).before a0 Z = true) (hy : y.cls ≠ "java/lang/invoke/MethodHandle" ∧ y.cls ≠ "java/lang/invoke/VarHandle")
    (hE : Exa Z h a C) (hM : Con l Z y bytes maxL ret [] rm as h n0 Q') (hf : rm.frames + 1 ≤ R.frames) (hl : W + (maxL + 11) + rm.locals ≤ R.locals) (hsz : Ls.size = c.maxLocals) (has : as = (.ref a :: argsL).toArray) (hlen : ∀ sig, parseMethodDescriptor y.desc = some sig → argsL.length = sig.parameters.length) (hst : S = argsL.reverse ++ .ref a :: rest) (hW : (rest.map fun v => v.category).sum ≤ W)
    (hd : decode c.code pc = .ok (.invokevirtual index, 3)) (hp : pc + 3 = pc') (hc : cells + rm.cells ≤ R.cells) (hs : slots + rm.slots ≤ R.slots)
    (k : ∀ v T' h', Pn p l e R s m args below meth c T' h' n0 (cells + rm.cells) (slots + rm.slots) → Q' v h' → Go p e s below n0 Q R T' (mkF m pc' Ls (v.toList ++ rest))) : Go p e s below n0 Q R T (mkF m pc Ls S) := by
  subst hp has
  obtain ⟨e0, hn, locs, Y, N⟩ := X
  obtain ⟨cq, kq, q1, q2, q3⟩ := isOf hZ e0 hE
  obtain ⟨v, _, ⟨T', L', k', n'⟩, -, Y', ⟨Lc, ⟨hq, hN⟩, l', y', z'⟩, st⟩ := Y.virtualBack hx (y := y) (z := y) hown (mvT hZ w1) (mvT hZ w2) (notFace_of_selects (args := #[]) (mvT hZ w5)) (mvT hZ w5) (mvT hZ w6) hy (backOf (W := W) (Q := fun v h L => Q' v h ∧ Fr n0 L) hM hZ w4 w3 hf hl) q1 q3 (g := mkF m pc Ls S) rfl hsz (Steps.refl _) (argsL := argsL) (rest := rest) hlen hst (by show 2 * 0 + _ ≤ _; omega) hd (fun _ _ => ⟨rfl, e0, hc, hs⟩)
  dsimp only [Pt.U, Pt.locs, Pt.cells, Pt.slots] at Y' l' y' z' st hq
  subst l' y' z'
  exact stp (fun _ q => st.trans q) (k v T' _ ⟨rfl, hn, _, Y', N.app hN⟩ hq)
theorem cP {own : String} {index kk : Nat} {y : MethodName} {bytes : ByteArray} {maxL : Nat} {ret : Option FieldType} {rm : Room} {as : Array Value} {a : Addr} {C : String} {Q' : Option Value → Heap → Prop} (W : Nat) (argsL : List Value) (X : Pn p l e R s m args below meth c T h n0 cells slots) (hx : p.tables.exec = Jvm.exec) (hZ : Z.Warmed39 s.vm) (hown : s.vm.findClass own = some m.cls)
    (w1 : (Cond.methodLink own index y).before a0 Z = true) (w6 : (Cond.instanceMethod y).before a0 Z = true) (wp : (Cond.privateMethod y).before a0 Z = true) (wi : (Cond.instantiable y.cls kk).before a0 Z = true) (w3 : (Cond.initialized y.cls).before a0 Z = true) (w4 : (Cond.code y bytes maxL ret).before a0 Z = true) (hy : y.cls ≠ "java/lang/invoke/MethodHandle" ∧ y.cls ≠ "java/lang/invoke/VarHandle")
    (hE : Exa Z h a C) (hM : Con l Z y bytes maxL ret [] rm as h n0 Q') (hf : rm.frames + 1 ≤ R.frames) (hl : W + (maxL + 11) + rm.locals ≤ R.locals) (hsz : Ls.size = c.maxLocals) (has : as = (.ref a :: argsL).toArray) (hlen : ∀ sig, parseMethodDescriptor y.desc = some sig → argsL.length = sig.parameters.length) (hst : S = argsL.reverse ++ .ref a :: rest) (hW : (rest.map fun v => v.category).sum ≤ W)
    (hd : decode c.code pc = .ok (.invokevirtual index, 3)) (hp : pc + 3 = pc') (hc : cells + rm.cells ≤ R.cells) (hs : slots + rm.slots ≤ R.slots)
    (k : ∀ v T' h', Pn p l e R s m args below meth c T' h' n0 (cells + rm.cells) (slots + rm.slots) → Q' v h' → Go p e s below n0 Q R T' (mkF m pc' Ls (v.toList ++ rest))) : Go p e s below n0 Q R T (mkF m pc Ls S) := by
  subst hp has
  obtain ⟨e0, hn, locs, Y, N⟩ := X
  obtain ⟨cq, q1, q2⟩ := hE.cell
  have mi : (Cond.instantiable y.cls kk).before args s = true := mvT hZ wi
  obtain ⟨cc, kc, u1, u2, -, u3, -⟩ := Cond.instantiable_spec mi
  have hpv := Cond.privateMethod_at (mvP hZ wp (args := #[]))
  have hse := selects_self_of_private (args := args) u1 u2 (by rw [Bool.or_eq_false_iff] at u3; exact u3.1) hpv (mvT hZ w6) hy
  obtain ⟨v, _, ⟨T', L', k', n'⟩, -, Y', ⟨Lc, ⟨hq, hN⟩, l', y', z'⟩, st⟩ := Y.privateBack hx (y := y) hown (mvT hZ w1) (mvT hZ w6) hse hpv (mvT hZ w4) hy (backOf (W := W) (Q := fun v h L => Q' v h ∧ Fr n0 L) hM hZ w4 w3 hf hl) (g := mkF m pc Ls S) rfl hsz (Steps.refl _) (a := a) (by rw [e0]; exact q1) q2 (argsL := argsL) (rest := rest) hlen hst (by show 2 * 0 + _ ≤ _; omega) hd (fun _ _ => ⟨rfl, e0, hc, hs⟩)
  dsimp only [Pt.U, Pt.locs, Pt.cells, Pt.slots] at Y' l' y' z' st hq
  subst l' y' z'
  exact stp (fun _ q => st.trans q) (k v T' _ ⟨rfl, hn, _, Y', N.app hN⟩ hq)
theorem cF {own C : String} {index count : Nat} {y z : MethodName} {bytes : ByteArray} {maxL : Nat} {ret : Option FieldType} {rm : Room} {as : Array Value} {a : Addr} {Q' : Option Value → Heap → Prop} (W : Nat) (argsL : List Value) (X : Pn p l e R s m args below meth c T h n0 cells slots) (hx : p.tables.exec = Jvm.exec) (hZ : Z.Warmed39 s.vm) (hown : s.vm.findClass own = some m.cls)
    (w1 : (Cond.methodLink own index y).before a0 Z = true) (w2 : (Cond.declares y).before a0 Z = true) (w7 : (Cond.interfaceMethod y.cls y.cls y.name y.desc).before a0 Z = true) (w5 : (Cond.selects C y z).before a0 Z = true) (w6 : (Cond.instanceMethod z).before a0 Z = true) (w8 : (Cond.publicMethod z).before a0 Z = true) (w9 : (Cond.unhidden C y.name y.desc).before a0 Z = true) (w10 : (Cond.castable C y.cls).before a0 Z = true)
    (w3 : (Cond.initialized z.cls).before a0 Z = true) (w4 : (Cond.code z bytes maxL ret).before a0 Z = true) (hy : y.cls ≠ "java/lang/invoke/MethodHandle" ∧ y.cls ≠ "java/lang/invoke/VarHandle")
    (hE : Exa Z h a C) (hM : Con l Z z bytes maxL ret [] rm as h n0 Q') (hf : rm.frames + 1 ≤ R.frames) (hl : W + (maxL + 11) + rm.locals ≤ R.locals) (hsz : Ls.size = c.maxLocals) (has : as = (.ref a :: argsL).toArray) (hlen : ∀ sig, parseMethodDescriptor y.desc = some sig → argsL.length = sig.parameters.length) (hst : S = argsL.reverse ++ .ref a :: rest) (hW : (rest.map fun v => v.category).sum ≤ W)
    (hd : decode c.code pc = .ok (.invokeinterface index count, 5)) (hp : pc + 5 = pc') (hc : cells + rm.cells ≤ R.cells) (hs : slots + rm.slots ≤ R.slots)
    (k : ∀ v T' h', Pn p l e R s m args below meth c T' h' n0 (cells + rm.cells) (slots + rm.slots) → Q' v h' → Go p e s below n0 Q R T' (mkF m pc' Ls (v.toList ++ rest))) : Go p e s below n0 Q R T (mkF m pc Ls S) := by
  subst hp has
  obtain ⟨e0, hn, locs, Y, N⟩ := X
  obtain ⟨cq, kq, q1, q2, q3⟩ := isOf hZ e0 hE
  obtain ⟨v, _, ⟨T', L', k', n'⟩, -, Y', ⟨Lc, ⟨hq, hN⟩, l', y', z'⟩, st⟩ := Y.interfaceBack hx (xi := y) (y := z) hown (mvT hZ w1) (mvT hZ w2) (mvT hZ w7 (by simp [Cond.onTables, Cond.keepsFace, Cond.faceAtom, hy.1, hy.2])) (mvT hZ w5) (mvT hZ w6) (mvT hZ w8) (mvT hZ w9) (mvT hZ w10) hy (backOf (W := W) (Q := fun v h L => Q' v h ∧ Fr n0 L) hM hZ w4 w3 hf hl) q1 q2 q3 (g := mkF m pc Ls S) rfl hsz (Steps.refl _) (argsL := argsL) (rest := rest) hlen hst (by show 2 * 0 + _ ≤ _; omega) hd (fun _ _ => ⟨rfl, e0, hc, hs⟩)
  dsimp only [Pt.U, Pt.locs, Pt.cells, Pt.slots] at Y' l' y' z' st hq
  subst l' y' z'
  exact stp (fun _ q => st.trans q) (k v T' _ ⟨rfl, hn, _, Y', N.app hN⟩ hq)
theorem ioY {own K : String} {index : Nat} {a : Addr} (X : Pn p l e R s m args below meth c T h n0 cells slots) (hx : p.tables.exec = Jvm.exec) (hZ : Z.Warmed39 s.vm) (hown : s.vm.findClass own = some m.cls) (w : (Cond.classLink own index K).before a0 Z = true) (F : Ins Z h a K true) (hd : decode c.code pc = .ok (.instanceof index, 3)) (hp : pc + 3 = pc')
    (k : ∀ T', Pn p l e R s m args below meth c T' h n0 cells slots → Go p e s below n0 Q R T' (mkF m pc' Ls (.int 1 :: S))) : Go p e s below n0 Q R T (mkF m pc Ls (.ref a :: S)) := by
  subst hp
  obtain ⟨e0, hn, locs, Y, N⟩ := X
  obtain ⟨T', Y', e', st⟩ := instY Y hx hZ hown w e0 F (g := mkF m pc Ls (.ref a :: S)) rfl rfl hd
  exact stp st (k T' ⟨e', hn, locs, Y', N⟩)
theorem ioN {own K C : String} {index : Nat} {a : Addr} (X : Pn p l e R s m args below meth c T h n0 cells slots) (hx : p.tables.exec = Jvm.exec) (hZ : Z.Warmed39 s.vm) (hown : s.vm.findClass own = some m.cls) (w : (Cond.classLink own index K).before a0 Z = true) (E : Exa Z h a C) (F : ∃ c t, Z.vm.findClass C = some c ∧ Z.vm.findClass K = some t ∧ Z.vm.assignable c t = false) (hd : decode c.code pc = .ok (.instanceof index, 3)) (hp : pc + 3 = pc')
    (k : ∀ T', Pn p l e R s m args below meth c T' h n0 cells slots → Go p e s below n0 Q R T' (mkF m pc' Ls (.int 0 :: S))) : Go p e s below n0 Q R T (mkF m pc Ls (.ref a :: S)) := by
  subst hp
  obtain ⟨e0, hn, locs, Y, N⟩ := X
  obtain ⟨T', Y', e', st⟩ := instNo Y hx hZ hown w e0 E F (g := mkF m pc Ls (.ref a :: S)) rfl rfl hd
  exact stp st (k T' ⟨e', hn, locs, Y', N⟩)
theorem ioZ {index : Nat} (X : Pn p l e R s m args below meth c T h n0 cells slots) (hx : p.tables.exec = Jvm.exec) (hd : decode c.code pc = .ok (.instanceof index, 3)) (hp : pc + 3 = pc')
    (k : Go p e s below n0 Q R T (mkF m pc' Ls (.int 0 :: S))) : Go p e s below n0 Q R T (mkF m pc Ls (.null :: S)) := by
  subst hp
  obtain ⟨e0, hn, locs, Y, N⟩ := X
  exact stp (Y.instanceofNull hx (g := mkF m pc Ls (.null :: S)) rfl rfl hd) k
theorem ccY {own K : String} {index : Nat} {a : Addr} (X : Pn p l e R s m args below meth c T h n0 cells slots) (hx : p.tables.exec = Jvm.exec) (hZ : Z.Warmed39 s.vm) (hown : s.vm.findClass own = some m.cls) (w : (Cond.classLink own index K).before a0 Z = true) (F : Ins Z h a K true) (hd : decode c.code pc = .ok (.checkcast index, 3)) (hp : pc + 3 = pc')
    (k : ∀ T', Pn p l e R s m args below meth c T' h n0 cells slots → Go p e s below n0 Q R T' (mkF m pc' Ls (.ref a :: S))) : Go p e s below n0 Q R T (mkF m pc Ls (.ref a :: S)) := by
  subst hp
  obtain ⟨e0, hn, locs, Y, N⟩ := X
  obtain ⟨T', Y', e', st⟩ := castY Y hx hZ hown w e0 F (g := mkF m pc Ls (.ref a :: S)) rfl rfl hd
  exact stp st (k T' ⟨e', hn, locs, Y', N⟩)
theorem own_nsRoot {O K : String} {kk : Nat} (w : (Cond.noSuperclass O).before a0 Z = true) (wk : (Cond.instantiable K kk).before a0 Z = true) (hn : O ≠ K) : NS Z O K := by
  obtain ⟨c, k, h1, h2, h3, -, -⟩ := Cond.noSuperclass_spec w
  obtain ⟨t, _, g1, -⟩ := Cond.instantiable_spec wk
  have ne := ids_ne h1 g1 hn
  refine ⟨c, t, h1, g1, fun fuel => ?_⟩
  cases fuel with
  | zero => rfl
  | succ f => simp [Vm.isSubclassAux, ne, h2, h3]
theorem own_nsNo {C U K : String} {kk : Nat} (w : (Cond.superclass C U).before a0 Z = true) (wk : (Cond.instantiable K kk).before a0 Z = true) (n : NS Z C K) (hn : C ≠ K) : ∃ c t, Z.vm.findClass C = some c ∧ Z.vm.findClass K = some t ∧ Z.vm.assignable c t = false := by
  obtain ⟨c, t, h0, g0, n3⟩ := n
  obtain ⟨q, k, kp, h1, h2, h3, h4, h5, -, h7⟩ := Cond.superclass_spec h0 w
  obtain ⟨t', k', g1, g2, g3, g4, -⟩ := Cond.instantiable_spec wk
  cases g0.symm.trans g1
  have g7 : k'.isInterface = false := by rw [Bool.or_eq_false_iff] at g4; exact g4.1
  have ne := ids_ne h0 g0 hn
  refine ⟨c, t, h0, g0, ?_⟩
  show Z.vm.assignableAux (255 + 1) c t = false
  simp [Vm.assignableAux, ne, h2, g2, h5, g3, g7, Vm.isSubclass, n3]
/-! arrays: n places, the i-th holds f i -/
def Av (Z : State) (h : Heap) (a : Addr) (ty : FieldType) (n : Nat) (f : Nat → Value) : Prop := ∃ c : Cell, Arr Z h a c ty ∧ c.slots.size = n ∧ ∀ i, i < n → c.slots[i]? = some (f i)
theorem Av.lt {a : Addr} {ty : FieldType} {n : Nat} {f : Nat → Value} (F : Av Z h a ty n f) : a < h.size := by obtain ⟨c, A, -⟩ := F; exact A.lt
theorem Av.ext {h' : Heap} {a : Addr} {ty : FieldType} {n : Nat} {f : Nat → Value} (F : Av Z h a ty n f) (E : Ext h h') : Av Z h' a ty n f := by obtain ⟨c, A, r⟩ := F; exact ⟨c, A.ext E, r⟩
theorem Av.other {h' : Heap} {a b : Addr} {ty : FieldType} {n sl : Nat} {v : Value} {f : Nat → Value} (F : Av Z h b ty n f) (W : Wr h h' a sl v) (q : b ≠ a) : Av Z h' b ty n f := by obtain ⟨c, A, r⟩ := F; exact ⟨c, A.other W q, r⟩
theorem Av.keep {h' : Heap} {a : Addr} {ws : List Addr} {ty : FieldType} {n : Nat} {f : Nat → Value} (F : Av Z h a ty n f) (K : Keep h h' ws) (q : a ∉ ws) : Av Z h' a ty n f := by obtain ⟨c, A, r⟩ := F; exact ⟨c, ⟨K.2.1 a c A.1 q, A.2⟩, r⟩
theorem Av.same {h' : Heap} {a : Addr} {ty : FieldType} {n j : Nat} {v : Value} {f : Nat → Value} (F : Av Z h a ty n f) (W : Wr h h' a j v) : Av Z h' a ty n (fun i => if i = j then v else f i) := by
  obtain ⟨c, A, q, r⟩ := F
  refine ⟨c.setSlot j v, A.same W, by rw [sz_set]; exact q, fun i hi => ?_⟩
  obtain ⟨c', e1, -, -, -, -, e6, e7⟩ := wr_at W A.1
  obtain ⟨e8, e9, -⟩ := e7 rfl
  by_cases hj : i = j
  · subst hj; show _ = some (if i = i then v else f i); rw [if_pos rfl, ← e8]; exact e9
  · show _ = some (if i = j then v else f i); rw [if_neg hj, ← e8, e6 _ hj]; exact r i hi
theorem Av.congr {a : Addr} {ty : FieldType} {n : Nat} {f g : Nat → Value} (F : Av Z h a ty n f) (q : ∀ i, i < n → f i = g i) : Av Z h a ty n g := by obtain ⟨c, A, r, u⟩ := F; exact ⟨c, A, r, fun i hi => by rw [u i hi, q i hi]⟩
theorem na {aty : ArrayType} {z : Int32} (cap : Nat) (X : Pn p l e R s m args below meth c T h n0 cells slots) (hx : p.tables.exec = Jvm.exec) (hZ : Z.Warmed39 s.vm) (w : (Cond.arrayClass (newarray.typeOf aty)).before a0 Z = true) (hd : decode c.code pc = .ok (.newarray aty, 2)) (hp : pc + 2 = pc') (hz : ¬ z < 0) (hcap : z.toNatClampNeg ≤ cap) (hb : cap * 8 ≤ 536870912) (hc : cells + 1 ≤ R.cells) (hl : slots + cap ≤ R.slots)
    (k : ∀ T' h' b, Pn p l e R s m args below meth c T' h' n0 (cells + 1) (slots + cap) → b = h.size → n0 ≤ b → Ext h h' → Av Z h' b (newarray.typeOf aty) z.toNatClampNeg (fun _ => defaultValue (newarray.typeOf aty)) → Go p e s below n0 Q R T' (mkF m pc' Ls (.ref b :: S))) :
    Go p e s below n0 Q R T (mkF m pc Ls (.int z :: S)) := by
  subst hp
  have q := X.le
  obtain ⟨e0, hn, locs, Y, N⟩ := X
  obtain ⟨T', h', k', Y', e', E', A', st⟩ := newP Y hx hZ w e0 (g := mkF m pc Ls (.int z :: S)) rfl hd rfl hz hcap hb hc hl
  refine stp st (k T' h' _ ⟨e', hn, _, Y', N⟩ rfl q E' ⟨_, A', sz_new _ _ _, fun i hi => ?_⟩)
  simp [newA, hi]
theorem len {a : Addr} {ty : FieldType} {n : Nat} {f : Nat → Value} (z : Int32) (X : Pn p l e R s m args below meth c T h n0 cells slots) (hx : p.tables.exec = Jvm.exec) (hZ : Z.Warmed39 s.vm) (A : Av Z h a ty n f) (hz : n.toInt32 = z) (hd : decode c.code pc = .ok (.arraylength, 1)) (hp : pc + 1 = pc')
    (k : Go p e s below n0 Q R T (mkF m pc' Ls (.int z :: S))) : Go p e s below n0 Q R T (mkF m pc Ls (.ref a :: S)) := by
  subst hp hz
  obtain ⟨e0, hn, locs, Y, N⟩ := X
  obtain ⟨cl, Ar, S0, r⟩ := A
  subst S0
  exact stp (fun t q => Y.arraylength hx (by rw [e0]; exact Ar.1) (State.isArrayOf_alike hZ.alike Ar.2.1) (g := mkF m pc Ls (.ref a :: S)) rfl rfl hd t q) k
theorem inn {cl : Cell} {n : Nat} {j : Int32} (S0 : cl.slots.size = n) (q : ¬ j < 0) (r : j.toNatClampNeg < n) : ¬ (j < 0 ∨ cl.slots.size ≤ j.toNatClampNeg) := fun u => u.elim q fun v => by omega
theorem ldI {a : Addr} {n : Nat} {f : Nat → Value} {j : Int32} {v : Value} (X : Pn p l e R s m args below meth c T h n0 cells slots) (hx : p.tables.exec = Jvm.exec) (hZ : Z.Warmed39 s.vm) (A : Av Z h a .int n f) (q : ¬ j < 0) (r : j.toNatClampNeg < n) (hv : f j.toNatClampNeg = v) (hd : decode c.code pc = .ok (.iaload, 1)) (hp : pc + 1 = pc')
    (k : Go p e s below n0 Q R T (mkF m pc' Ls (v :: S))) : Go p e s below n0 Q R T (mkF m pc Ls (.int j :: .ref a :: S)) := by
  subst hp hv
  obtain ⟨e0, hn, locs, Y, N⟩ := X
  obtain ⟨cl, Ar, S0, u⟩ := A
  exact stp (fun t y => Y.iaload hx (by rw [e0]; exact Ar.1) (State.isArrayOf_alike hZ.alike Ar.2.1) Ar.2.2 (inn S0 q r) (u _ r) (g := mkF m pc Ls (.int j :: .ref a :: S)) rfl rfl hd t y) k
theorem ldJ {a : Addr} {n : Nat} {f : Nat → Value} {j : Int32} {v : Value} (X : Pn p l e R s m args below meth c T h n0 cells slots) (hx : p.tables.exec = Jvm.exec) (hZ : Z.Warmed39 s.vm) (A : Av Z h a .long n f) (q : ¬ j < 0) (r : j.toNatClampNeg < n) (hv : f j.toNatClampNeg = v) (hd : decode c.code pc = .ok (.laload, 1)) (hp : pc + 1 = pc')
    (k : Go p e s below n0 Q R T (mkF m pc' Ls (v :: S))) : Go p e s below n0 Q R T (mkF m pc Ls (.int j :: .ref a :: S)) := by
  subst hp hv
  obtain ⟨e0, hn, locs, Y, N⟩ := X
  obtain ⟨cl, Ar, S0, u⟩ := A
  exact stp (fun t y => Y.laload hx (by rw [e0]; exact Ar.1) (State.isArrayOf_alike hZ.alike Ar.2.1) Ar.2.2 (inn S0 q r) (u _ r) (g := mkF m pc Ls (.int j :: .ref a :: S)) rfl rfl hd t y) k
theorem ldB {a : Addr} {n : Nat} {f : Nat → Value} {j : Int32} {v : Value} (X : Pn p l e R s m args below meth c T h n0 cells slots) (hx : p.tables.exec = Jvm.exec) (hZ : Z.Warmed39 s.vm) (A : Av Z h a .byte n f) (q : ¬ j < 0) (r : j.toNatClampNeg < n) (hv : f j.toNatClampNeg = v) (hd : decode c.code pc = .ok (.baload, 1)) (hp : pc + 1 = pc')
    (k : Go p e s below n0 Q R T (mkF m pc' Ls (v :: S))) : Go p e s below n0 Q R T (mkF m pc Ls (.int j :: .ref a :: S)) := by
  subst hp hv
  obtain ⟨e0, hn, locs, Y, N⟩ := X
  obtain ⟨cl, Ar, S0, u⟩ := A
  exact stp (fun t y => Y.baloadBytes hx (by rw [e0]; exact Ar.1) (State.isArrayOf_alike hZ.alike Ar.2.1) Ar.2.2 (inn S0 q r) (u _ r) (g := mkF m pc Ls (.int j :: .ref a :: S)) rfl rfl hd t y) k
theorem ldR {a : Addr} {ty : FieldType} {n : Nat} {f : Nat → Value} {j : Int32} {v : Value} (X : Pn p l e R s m args below meth c T h n0 cells slots) (hx : p.tables.exec = Jvm.exec) (hZ : Z.Warmed39 s.vm) (A : Av Z h a ty n f) (hty : ty.isReference = true) (q : ¬ j < 0) (r : j.toNatClampNeg < n) (hv : f j.toNatClampNeg = v) (hd : decode c.code pc = .ok (.aaload, 1)) (hp : pc + 1 = pc')
    (k : Go p e s below n0 Q R T (mkF m pc' Ls (v :: S))) : Go p e s below n0 Q R T (mkF m pc Ls (.int j :: .ref a :: S)) := by
  subst hp hv
  obtain ⟨e0, hn, locs, Y, N⟩ := X
  obtain ⟨cl, Ar, S0, u⟩ := A
  exact stp (fun t y => Y.aaload hx (by rw [e0]; exact Ar.1) (State.isArrayOf_alike hZ.alike Ar.2.1) hty Ar.2.2 (inn S0 q r) (u _ r) (g := mkF m pc Ls (.int j :: .ref a :: S)) rfl rfl hd t y) k
theorem saI {a : Addr} {n : Nat} {f : Nat → Value} {j x : Int32} (X : Pn p l e R s m args below meth c T h n0 cells slots) (hx : p.tables.exec = Jvm.exec) (hZ : Z.Warmed39 s.vm) (A : Av Z h a .int n f) (ge : n0 ≤ a) (q : ¬ j < 0) (r : j.toNatClampNeg < n) (hd : decode c.code pc = .ok (.iastore, 1)) (hp : pc + 1 = pc')
    (k : ∀ T' h', Pn p l e R s m args below meth c T' h' n0 cells slots → Wr h h' a j.toNatClampNeg (.int x) → Go p e s below n0 Q R T' (mkF m pc' Ls S)) : Go p e s below n0 Q R T (mkF m pc Ls (.int x :: .int j :: .ref a :: S)) := by
  subst hp
  obtain ⟨e0, hn, locs, Y, N⟩ := X
  obtain ⟨cl, Ar, S0, u⟩ := A
  obtain ⟨T', h', Y', e', W', st⟩ := stI Y hx hZ e0 Ar (inn S0 q r) (g := mkF m pc Ls (.int x :: .int j :: .ref a :: S)) rfl rfl hd
  exact stp st (k T' h' ⟨e', hn, _, Y', Fr.snoc Y' N ge⟩ W')
theorem saJ {a : Addr} {n : Nat} {f : Nat → Value} {j : Int32} {x : Int64} (X : Pn p l e R s m args below meth c T h n0 cells slots) (hx : p.tables.exec = Jvm.exec) (hZ : Z.Warmed39 s.vm) (A : Av Z h a .long n f) (ge : n0 ≤ a) (q : ¬ j < 0) (r : j.toNatClampNeg < n) (hd : decode c.code pc = .ok (.lastore, 1)) (hp : pc + 1 = pc')
    (k : ∀ T' h', Pn p l e R s m args below meth c T' h' n0 cells slots → Wr h h' a j.toNatClampNeg (.long x) → Go p e s below n0 Q R T' (mkF m pc' Ls S)) : Go p e s below n0 Q R T (mkF m pc Ls (.long x :: .int j :: .ref a :: S)) := by
  subst hp
  obtain ⟨e0, hn, locs, Y, N⟩ := X
  obtain ⟨cl, Ar, S0, u⟩ := A
  obtain ⟨T', h', Y', e', W', st⟩ := stJ Y hx hZ e0 Ar (inn S0 q r) (g := mkF m pc Ls (.long x :: .int j :: .ref a :: S)) rfl rfl hd
  exact stp st (k T' h' ⟨e', hn, _, Y', Fr.snoc Y' N ge⟩ W')
theorem saB {a : Addr} {n : Nat} {f : Nat → Value} {j x : Int32} (X : Pn p l e R s m args below meth c T h n0 cells slots) (hx : p.tables.exec = Jvm.exec) (hZ : Z.Warmed39 s.vm) (A : Av Z h a .byte n f) (ge : n0 ≤ a) (q : ¬ j < 0) (r : j.toNatClampNeg < n) (hd : decode c.code pc = .ok (.bastore, 1)) (hp : pc + 1 = pc')
    (k : ∀ T' h', Pn p l e R s m args below meth c T' h' n0 cells slots → Wr h h' a j.toNatClampNeg (.int x.toInt8.toInt32) → Go p e s below n0 Q R T' (mkF m pc' Ls S)) : Go p e s below n0 Q R T (mkF m pc Ls (.int x :: .int j :: .ref a :: S)) := by
  subst hp
  obtain ⟨e0, hn, locs, Y, N⟩ := X
  obtain ⟨cl, Ar, S0, u⟩ := A
  obtain ⟨T', h', Y', e', W', st⟩ := stB Y hx hZ e0 Ar (inn S0 q r) (g := mkF m pc Ls (.int x :: .int j :: .ref a :: S)) rfl rfl hd
  exact stp st (k T' h' ⟨e', hn, _, Y', Fr.snoc Y' N ge⟩ W')
/-! arrays of references: the class is known too -/
def AvR (Z : State) (h : Heap) (a : Addr) (C : String) (n : Nat) (f : Nat → Value) : Prop := ∃ c : Cell, Arr Z h a c (.object C) ∧ Ovr Z c.cls C ∧ c.slots.size = n ∧ ∀ i, i < n → c.slots[i]? = some (f i)
theorem AvR.lt {a : Addr} {C : String} {n : Nat} {f : Nat → Value} (F : AvR Z h a C n f) : a < h.size := by obtain ⟨c, A, -⟩ := F; exact A.lt
theorem AvR.av {a : Addr} {C : String} {n : Nat} {f : Nat → Value} (F : AvR Z h a C n f) : Av Z h a (.object C) n f := by obtain ⟨c, A, -, r⟩ := F; exact ⟨c, A, r⟩
theorem AvR.ext {h' : Heap} {a : Addr} {C : String} {n : Nat} {f : Nat → Value} (F : AvR Z h a C n f) (E : Ext h h') : AvR Z h' a C n f := by obtain ⟨c, A, r⟩ := F; exact ⟨c, A.ext E, r⟩
theorem AvR.other {h' : Heap} {a b : Addr} {C : String} {n sl : Nat} {v : Value} {f : Nat → Value} (F : AvR Z h b C n f) (W : Wr h h' a sl v) (q : b ≠ a) : AvR Z h' b C n f := by obtain ⟨c, A, r⟩ := F; exact ⟨c, A.other W q, r⟩
theorem AvR.set {h' : Heap} {a : Addr} {C : String} {n k : Nat} {j : Int32} {v : Value} {f : Nat → Value} (e : j.toNatClampNeg = k) (F : AvR Z h a C n f) (W : Wr h h' a j.toNatClampNeg v) : AvR Z h' a C n (fun i => if i = k then v else f i) := by
  subst e
  obtain ⟨c, A, O, q, r⟩ := F
  refine ⟨c.setSlot j.toNatClampNeg v, A.same W, O, by rw [sz_set]; exact q, fun i hi => ?_⟩
  obtain ⟨c', e1, -, -, -, -, e6, e7⟩ := wr_at W A.1
  obtain ⟨e8, e9, -⟩ := e7 rfl
  by_cases hj : i = j.toNatClampNeg
  · subst hj; show _ = some (if j.toNatClampNeg = j.toNatClampNeg then v else f j.toNatClampNeg); rw [if_pos rfl, ← e8]; exact e9
  · show _ = some (if i = j.toNatClampNeg then v else f i); rw [if_neg hj, ← e8, e6 _ hj]; exact r i hi
theorem nr {own C : String} {index : Nat} {z : Int32} (cap : Nat) (X : Pn p l e R s m args below meth c T h n0 cells slots) (hx : p.tables.exec = Jvm.exec) (hZ : Z.Warmed39 s.vm) (hown : s.vm.findClass own = some m.cls) (w1 : (Cond.classLink own index C).before a0 Z = true) (w2 : (Cond.arrayOver (.object C)).before a0 Z = true) (hd : decode c.code pc = .ok (.anewarray index, 3)) (hp : pc + 3 = pc') (hz : ¬ z < 0) (hcap : z.toNatClampNeg ≤ cap) (hb : cap * 8 ≤ 536870912) (hc : cells + 1 ≤ R.cells) (hl : slots + cap ≤ R.slots)
    (k : ∀ T' h' b, Pn p l e R s m args below meth c T' h' n0 (cells + 1) (slots + cap) → b = h.size → n0 ≤ b → Ext h h' → AvR Z h' b C z.toNatClampNeg (fun _ => .null) → Go p e s below n0 Q R T' (mkF m pc' Ls (.ref b :: S))) :
    Go p e s below n0 Q R T (mkF m pc Ls (.int z :: S)) := by
  subst hp
  have q := X.le
  obtain ⟨e0, hn, locs, Y, N⟩ := X
  obtain ⟨T', h', k', Y', e', E', A', O', st⟩ := newR Y hx hZ hown w1 w2 e0 (g := mkF m pc Ls (.int z :: S)) rfl hd rfl hz hcap hb hc hl
  refine stp st (k T' h' _ ⟨e', hn, _, Y', N⟩ rfl q E' ⟨_, A', O', sz_new _ _ _, fun i hi => ?_⟩)
  simp [newA, hi, defaultValue]
theorem saR {a y : Addr} {C : String} {n : Nat} {f : Nat → Value} {j : Int32} (X : Pn p l e R s m args below meth c T h n0 cells slots) (hx : p.tables.exec = Jvm.exec) (hZ : Z.Warmed39 s.vm) (A : AvR Z h a C n f) (I : Ins Z h y C true) (ge : n0 ≤ a) (q : ¬ j < 0) (r : j.toNatClampNeg < n) (hd : decode c.code pc = .ok (.aastore, 1)) (hp : pc + 1 = pc')
    (k : ∀ T' h', Pn p l e R s m args below meth c T' h' n0 cells slots → Wr h h' a j.toNatClampNeg (.ref y) → Go p e s below n0 Q R T' (mkF m pc' Ls S)) : Go p e s below n0 Q R T (mkF m pc Ls (.ref y :: .int j :: .ref a :: S)) := by
  subst hp
  obtain ⟨e0, hn, locs, Y, N⟩ := X
  obtain ⟨cl, Ar, O, S0, u⟩ := A
  obtain ⟨T', h', Y', e', W', st⟩ := stR Y hx hZ e0 Ar (inn S0 q r) rfl (Sto.of Ar O I) (g := mkF m pc Ls (.ref y :: .int j :: .ref a :: S)) rfl rfl hd
  exact stp st (k T' h' ⟨e', hn, _, Y', Fr.snoc Y' N ge⟩ W')
theorem i_iadd {x y : Int32} (X : Pn p l e R s m args below meth c T h n0 cells slots) (hx : p.tables.exec = Jvm.exec) (hd : decode c.code pc = .ok (.iadd, 1)) (hp : pc + 1 = pc')
    (k : Go p e s below n0 Q R T (mkF m pc' Ls (.int (x + y) :: S))) : Go p e s below n0 Q R T (mkF m pc Ls (.int y :: .int x :: S)) := by subst hp; exact stp (fun _ q => XS.iadd X.here hx rfl hd rfl q) k
theorem i_isub {x y : Int32} (X : Pn p l e R s m args below meth c T h n0 cells slots) (hx : p.tables.exec = Jvm.exec) (hd : decode c.code pc = .ok (.isub, 1)) (hp : pc + 1 = pc')
    (k : Go p e s below n0 Q R T (mkF m pc' Ls (.int (x - y) :: S))) : Go p e s below n0 Q R T (mkF m pc Ls (.int y :: .int x :: S)) := by subst hp; exact stp (fun _ q => XS.isub X.here hx rfl hd rfl q) k
theorem i_imul {x y : Int32} (X : Pn p l e R s m args below meth c T h n0 cells slots) (hx : p.tables.exec = Jvm.exec) (hd : decode c.code pc = .ok (.imul, 1)) (hp : pc + 1 = pc')
    (k : Go p e s below n0 Q R T (mkF m pc' Ls (.int (x * y) :: S))) : Go p e s below n0 Q R T (mkF m pc Ls (.int y :: .int x :: S)) := by subst hp; exact stp (fun _ q => XS.imul X.here hx rfl hd rfl q) k
theorem i_iand {x y : Int32} (X : Pn p l e R s m args below meth c T h n0 cells slots) (hx : p.tables.exec = Jvm.exec) (hd : decode c.code pc = .ok (.iand, 1)) (hp : pc + 1 = pc')
    (k : Go p e s below n0 Q R T (mkF m pc' Ls (.int (x &&& y) :: S))) : Go p e s below n0 Q R T (mkF m pc Ls (.int y :: .int x :: S)) := by subst hp; exact stp (fun _ q => XS.iand X.here hx rfl hd rfl q) k
theorem i_ior {x y : Int32} (X : Pn p l e R s m args below meth c T h n0 cells slots) (hx : p.tables.exec = Jvm.exec) (hd : decode c.code pc = .ok (.ior, 1)) (hp : pc + 1 = pc')
    (k : Go p e s below n0 Q R T (mkF m pc' Ls (.int (x ||| y) :: S))) : Go p e s below n0 Q R T (mkF m pc Ls (.int y :: .int x :: S)) := by subst hp; exact stp (fun _ q => XT.ior X.here hx rfl hd rfl q) k
theorem i_ixor {x y : Int32} (X : Pn p l e R s m args below meth c T h n0 cells slots) (hx : p.tables.exec = Jvm.exec) (hd : decode c.code pc = .ok (.ixor, 1)) (hp : pc + 1 = pc')
    (k : Go p e s below n0 Q R T (mkF m pc' Ls (.int (x ^^^ y) :: S))) : Go p e s below n0 Q R T (mkF m pc Ls (.int y :: .int x :: S)) := by subst hp; exact stp (fun _ q => XT.ixor X.here hx rfl hd rfl q) k
theorem i_ishl {x y : Int32} (X : Pn p l e R s m args below meth c T h n0 cells slots) (hx : p.tables.exec = Jvm.exec) (hd : decode c.code pc = .ok (.ishl, 1)) (hp : pc + 1 = pc')
    (k : Go p e s below n0 Q R T (mkF m pc' Ls (.int (x <<< (y &&& 31)) :: S))) : Go p e s below n0 Q R T (mkF m pc Ls (.int y :: .int x :: S)) := by subst hp; exact stp (fun _ q => XT.ishl X.here hx rfl hd rfl q) k
theorem i_ishr {x y : Int32} (X : Pn p l e R s m args below meth c T h n0 cells slots) (hx : p.tables.exec = Jvm.exec) (hd : decode c.code pc = .ok (.ishr, 1)) (hp : pc + 1 = pc')
    (k : Go p e s below n0 Q R T (mkF m pc' Ls (.int (x >>> (y &&& 31)) :: S))) : Go p e s below n0 Q R T (mkF m pc Ls (.int y :: .int x :: S)) := by subst hp; exact stp (fun _ q => XT.ishr X.here hx rfl hd rfl q) k
theorem i_iushr {x y : Int32} (X : Pn p l e R s m args below meth c T h n0 cells slots) (hx : p.tables.exec = Jvm.exec) (hd : decode c.code pc = .ok (.iushr, 1)) (hp : pc + 1 = pc')
    (k : Go p e s below n0 Q R T (mkF m pc' Ls (.int (XT.ushr x y) :: S))) : Go p e s below n0 Q R T (mkF m pc Ls (.int y :: .int x :: S)) := by subst hp; exact stp (fun _ q => XT.iushr X.here hx rfl hd rfl q) k
theorem i_ladd {x y : Int64} (X : Pn p l e R s m args below meth c T h n0 cells slots) (hx : p.tables.exec = Jvm.exec) (hd : decode c.code pc = .ok (.ladd, 1)) (hp : pc + 1 = pc')
    (k : Go p e s below n0 Q R T (mkF m pc' Ls (.long (x + y) :: S))) : Go p e s below n0 Q R T (mkF m pc Ls (.long y :: .long x :: S)) := by subst hp; exact stp (fun _ q => XT.ladd X.here hx rfl hd rfl q) k
theorem i_lsub {x y : Int64} (X : Pn p l e R s m args below meth c T h n0 cells slots) (hx : p.tables.exec = Jvm.exec) (hd : decode c.code pc = .ok (.lsub, 1)) (hp : pc + 1 = pc')
    (k : Go p e s below n0 Q R T (mkF m pc' Ls (.long (x - y) :: S))) : Go p e s below n0 Q R T (mkF m pc Ls (.long y :: .long x :: S)) := by subst hp; exact stp (fun _ q => XT.lsub X.here hx rfl hd rfl q) k
theorem i_lmul {x y : Int64} (X : Pn p l e R s m args below meth c T h n0 cells slots) (hx : p.tables.exec = Jvm.exec) (hd : decode c.code pc = .ok (.lmul, 1)) (hp : pc + 1 = pc')
    (k : Go p e s below n0 Q R T (mkF m pc' Ls (.long (x * y) :: S))) : Go p e s below n0 Q R T (mkF m pc Ls (.long y :: .long x :: S)) := by subst hp; exact stp (fun _ q => XT.lmul X.here hx rfl hd rfl q) k
theorem i_land {x y : Int64} (X : Pn p l e R s m args below meth c T h n0 cells slots) (hx : p.tables.exec = Jvm.exec) (hd : decode c.code pc = .ok (.land, 1)) (hp : pc + 1 = pc')
    (k : Go p e s below n0 Q R T (mkF m pc' Ls (.long (x &&& y) :: S))) : Go p e s below n0 Q R T (mkF m pc Ls (.long y :: .long x :: S)) := by subst hp; exact stp (fun _ q => XT.land X.here hx rfl hd rfl q) k
theorem i_lor {x y : Int64} (X : Pn p l e R s m args below meth c T h n0 cells slots) (hx : p.tables.exec = Jvm.exec) (hd : decode c.code pc = .ok (.lor, 1)) (hp : pc + 1 = pc')
    (k : Go p e s below n0 Q R T (mkF m pc' Ls (.long (x ||| y) :: S))) : Go p e s below n0 Q R T (mkF m pc Ls (.long y :: .long x :: S)) := by subst hp; exact stp (fun _ q => XT.lor X.here hx rfl hd rfl q) k
theorem i_lxor {x y : Int64} (X : Pn p l e R s m args below meth c T h n0 cells slots) (hx : p.tables.exec = Jvm.exec) (hd : decode c.code pc = .ok (.lxor, 1)) (hp : pc + 1 = pc')
    (k : Go p e s below n0 Q R T (mkF m pc' Ls (.long (x ^^^ y) :: S))) : Go p e s below n0 Q R T (mkF m pc Ls (.long y :: .long x :: S)) := by subst hp; exact stp (fun _ q => XT.lxor X.here hx rfl hd rfl q) k
theorem i_lshl {x : Int64} {y : Int32} (X : Pn p l e R s m args below meth c T h n0 cells slots) (hx : p.tables.exec = Jvm.exec) (hd : decode c.code pc = .ok (.lshl, 1)) (hp : pc + 1 = pc')
    (k : Go p e s below n0 Q R T (mkF m pc' Ls (.long (x <<< (y.toInt64 &&& 63)) :: S))) : Go p e s below n0 Q R T (mkF m pc Ls (.int y :: .long x :: S)) := by subst hp; exact stp (fun _ q => XT.lshl X.here hx rfl hd rfl q) k
theorem i_lshr {x : Int64} {y : Int32} (X : Pn p l e R s m args below meth c T h n0 cells slots) (hx : p.tables.exec = Jvm.exec) (hd : decode c.code pc = .ok (.lshr, 1)) (hp : pc + 1 = pc')
    (k : Go p e s below n0 Q R T (mkF m pc' Ls (.long (x >>> (y.toInt64 &&& 63)) :: S))) : Go p e s below n0 Q R T (mkF m pc Ls (.int y :: .long x :: S)) := by subst hp; exact stp (fun _ q => XT.lshr X.here hx rfl hd rfl q) k
theorem i_lushr {x : Int64} {y : Int32} (X : Pn p l e R s m args below meth c T h n0 cells slots) (hx : p.tables.exec = Jvm.exec) (hd : decode c.code pc = .ok (.lushr, 1)) (hp : pc + 1 = pc')
    (k : Go p e s below n0 Q R T (mkF m pc' Ls (.long (XT.ushrL x y) :: S))) : Go p e s below n0 Q R T (mkF m pc Ls (.int y :: .long x :: S)) := by subst hp; exact stp (fun _ q => XT.lushr X.here hx rfl hd rfl q) k
theorem i_idiv {x y : Int32} (X : Pn p l e R s m args below meth c T h n0 cells slots) (hx : p.tables.exec = Jvm.exec) (hd : decode c.code pc = .ok (.idiv, 1)) (hp : pc + 1 = pc') (hy : y ≠ 0)
    (k : Go p e s below n0 Q R T (mkF m pc' Ls (.int (x / y) :: S))) : Go p e s below n0 Q R T (mkF m pc Ls (.int y :: .int x :: S)) := by subst hp; exact stp (fun _ q => XS.idiv X.here hx rfl hd rfl hy q) k
theorem i_ldiv {x y : Int64} (X : Pn p l e R s m args below meth c T h n0 cells slots) (hx : p.tables.exec = Jvm.exec) (hd : decode c.code pc = .ok (.ldiv, 1)) (hp : pc + 1 = pc') (hy : y ≠ 0)
    (k : Go p e s below n0 Q R T (mkF m pc' Ls (.long (x / y) :: S))) : Go p e s below n0 Q R T (mkF m pc Ls (.long y :: .long x :: S)) := by subst hp; exact stp (fun _ q => XT.ldiv X.here hx rfl hd rfl hy q) k
theorem i_lrem {x y : Int64} (X : Pn p l e R s m args below meth c T h n0 cells slots) (hx : p.tables.exec = Jvm.exec) (hd : decode c.code pc = .ok (.lrem, 1)) (hp : pc + 1 = pc') (hy : y ≠ 0)
    (k : Go p e s below n0 Q R T (mkF m pc' Ls (.long (x - (x / y) * y) :: S))) : Go p e s below n0 Q R T (mkF m pc Ls (.long y :: .long x :: S)) := by subst hp; exact stp (fun _ q => XT.lrem X.here hx rfl hd rfl hy q) k
theorem i_irem {x y : Int32} (X : Pn p l e R s m args below meth c T h n0 cells slots) (hx : p.tables.exec = Jvm.exec) (hd : decode c.code pc = .ok (.irem, 1)) (hp : pc + 1 = pc') (hy : y ≠ 0)
    (k : Go p e s below n0 Q R T (mkF m pc' Ls (.int (x % y) :: S))) : Go p e s below n0 Q R T (mkF m pc Ls (.int y :: .int x :: S)) := by subst hp; obtain ⟨e0, hn, locs, Y, N⟩ := X; exact stp (fun _ q => iremM Y hx rfl hd rfl hy q) k
theorem i_ineg {x : Int32} (X : Pn p l e R s m args below meth c T h n0 cells slots) (hx : p.tables.exec = Jvm.exec) (hd : decode c.code pc = .ok (.ineg, 1)) (hp : pc + 1 = pc')
    (k : Go p e s below n0 Q R T (mkF m pc' Ls (.int (-x) :: S))) : Go p e s below n0 Q R T (mkF m pc Ls (.int x :: S)) := by subst hp; exact stp (fun _ q => XS.ineg X.here hx rfl hd rfl q) k
theorem i_lneg {x : Int64} (X : Pn p l e R s m args below meth c T h n0 cells slots) (hx : p.tables.exec = Jvm.exec) (hd : decode c.code pc = .ok (.lneg, 1)) (hp : pc + 1 = pc')
    (k : Go p e s below n0 Q R T (mkF m pc' Ls (.long (-x) :: S))) : Go p e s below n0 Q R T (mkF m pc Ls (.long x :: S)) := by subst hp; exact stp (fun _ q => XT.lneg X.here hx rfl hd rfl q) k
theorem i_i2l {x : Int32} (X : Pn p l e R s m args below meth c T h n0 cells slots) (hx : p.tables.exec = Jvm.exec) (hd : decode c.code pc = .ok (.i2l, 1)) (hp : pc + 1 = pc')
    (k : Go p e s below n0 Q R T (mkF m pc' Ls (.long x.toInt64 :: S))) : Go p e s below n0 Q R T (mkF m pc Ls (.int x :: S)) := by subst hp; exact stp (fun _ q => XT.i2l X.here hx rfl hd rfl q) k
theorem i_l2i {x : Int64} (X : Pn p l e R s m args below meth c T h n0 cells slots) (hx : p.tables.exec = Jvm.exec) (hd : decode c.code pc = .ok (.l2i, 1)) (hp : pc + 1 = pc')
    (k : Go p e s below n0 Q R T (mkF m pc' Ls (.int x.toInt32 :: S))) : Go p e s below n0 Q R T (mkF m pc Ls (.long x :: S)) := by subst hp; exact stp (fun _ q => XT.l2i X.here hx rfl hd rfl q) k
theorem i_i2b {x : Int32} (X : Pn p l e R s m args below meth c T h n0 cells slots) (hx : p.tables.exec = Jvm.exec) (hd : decode c.code pc = .ok (.i2b, 1)) (hp : pc + 1 = pc')
    (k : Go p e s below n0 Q R T (mkF m pc' Ls (.int x.toInt8.toInt32 :: S))) : Go p e s below n0 Q R T (mkF m pc Ls (.int x :: S)) := by subst hp; exact stp (fun _ q => XT.i2b X.here hx rfl hd rfl q) k
theorem i_i2c {x : Int32} (X : Pn p l e R s m args below meth c T h n0 cells slots) (hx : p.tables.exec = Jvm.exec) (hd : decode c.code pc = .ok (.i2c, 1)) (hp : pc + 1 = pc')
    (k : Go p e s below n0 Q R T (mkF m pc' Ls (.int x.toUInt32.toUInt16.toUInt32.toInt32 :: S))) : Go p e s below n0 Q R T (mkF m pc Ls (.int x :: S)) := by subst hp; exact stp (fun _ q => XT.i2c X.here hx rfl hd rfl q) k
theorem i_i2s {x : Int32} (X : Pn p l e R s m args below meth c T h n0 cells slots) (hx : p.tables.exec = Jvm.exec) (hd : decode c.code pc = .ok (.i2s, 1)) (hp : pc + 1 = pc')
    (k : Go p e s below n0 Q R T (mkF m pc' Ls (.int x.toInt16.toInt32 :: S))) : Go p e s below n0 Q R T (mkF m pc Ls (.int x :: S)) := by subst hp; exact stp (fun _ q => XT.i2s X.here hx rfl hd rfl q) k
theorem i_lcmp {x y : Int64} (X : Pn p l e R s m args below meth c T h n0 cells slots) (hx : p.tables.exec = Jvm.exec) (hd : decode c.code pc = .ok (.lcmp, 1)) (hp : pc + 1 = pc')
    (k : Go p e s below n0 Q R T (mkF m pc' Ls (.int (XT.cmpL x y) :: S))) : Go p e s below n0 Q R T (mkF m pc Ls (.long y :: .long x :: S)) := by subst hp; exact stp (fun _ q => XT.lcmp X.here hx rfl hd rfl q) k
theorem i_aloadN {k : Fin 4} {v : Value} (X : Pn p l e R s m args below meth c T h n0 cells slots) (hx : p.tables.exec = Jvm.exec) (hd : decode c.code pc = .ok (.aload_n k, 1)) (hp : pc + 1 = pc') (hl : Ls[k.val]? = some (.val v)) (hv : v.isRef = true)
    (k : Go p e s below n0 Q R T (mkF m pc' Ls (v :: S))) : Go p e s below n0 Q R T (mkF m pc Ls S) := by subst hp; exact stp (fun _ q => XS.aloadN X.here hx rfl hd hl hv q) k
theorem i_aload {k : Nat} {v : Value} (X : Pn p l e R s m args below meth c T h n0 cells slots) (hx : p.tables.exec = Jvm.exec) (hd : decode c.code pc = .ok (.aload k, 2)) (hp : pc + 2 = pc') (hl : Ls[k]? = some (.val v)) (hv : v.isRef = true)
    (k : Go p e s below n0 Q R T (mkF m pc' Ls (v :: S))) : Go p e s below n0 Q R T (mkF m pc Ls S) := by subst hp; exact stp (fun _ q => XS.aload X.here hx rfl hd hl hv q) k
theorem i_iloadN {k : Fin 4} {v : Int32} (X : Pn p l e R s m args below meth c T h n0 cells slots) (hx : p.tables.exec = Jvm.exec) (hd : decode c.code pc = .ok (.iload_n k, 1)) (hp : pc + 1 = pc') (hl : Ls[k.val]? = some (.val (.int v)))
    (k : Go p e s below n0 Q R T (mkF m pc' Ls (.int v :: S))) : Go p e s below n0 Q R T (mkF m pc Ls S) := by subst hp; exact stp (fun _ q => XS.iloadN X.here hx rfl hd hl q) k
theorem i_iload {k : Nat} {v : Int32} (X : Pn p l e R s m args below meth c T h n0 cells slots) (hx : p.tables.exec = Jvm.exec) (hd : decode c.code pc = .ok (.iload k, 2)) (hp : pc + 2 = pc') (hl : Ls[k]? = some (.val (.int v)))
    (k : Go p e s below n0 Q R T (mkF m pc' Ls (.int v :: S))) : Go p e s below n0 Q R T (mkF m pc Ls S) := by subst hp; exact stp (fun _ q => XS.iload X.here hx rfl hd hl q) k
theorem i_lloadN {k : Fin 4} {v : Int64} (X : Pn p l e R s m args below meth c T h n0 cells slots) (hx : p.tables.exec = Jvm.exec) (hd : decode c.code pc = .ok (.lload_n k, 1)) (hp : pc + 1 = pc') (hl : Ls[k.val]? = some (.val (.long v)))
    (k : Go p e s below n0 Q R T (mkF m pc' Ls (.long v :: S))) : Go p e s below n0 Q R T (mkF m pc Ls S) := by subst hp; exact stp (fun _ q => XT.lloadN X.here hx rfl hd hl q) k
theorem i_lload {k : Nat} {v : Int64} (X : Pn p l e R s m args below meth c T h n0 cells slots) (hx : p.tables.exec = Jvm.exec) (hd : decode c.code pc = .ok (.lload k, 2)) (hp : pc + 2 = pc') (hl : Ls[k]? = some (.val (.long v)))
    (k : Go p e s below n0 Q R T (mkF m pc' Ls (.long v :: S))) : Go p e s below n0 Q R T (mkF m pc Ls S) := by subst hp; exact stp (fun _ q => XT.lload X.here hx rfl hd hl q) k
theorem i_istoreN {k : Fin 4} {x : Int32} {L' : Array Slot} (X : Pn p l e R s m args below meth c T h n0 cells slots) (hx : p.tables.exec = Jvm.exec) (hd : decode c.code pc = .ok (.istore_n k, 1)) (hp : pc + 1 = pc') (hl : storeLocals Ls k.val (.int x) = some L')
    (k : Go p e s below n0 Q R T (mkF m pc' L' S)) : Go p e s below n0 Q R T (mkF m pc Ls (.int x :: S)) := by subst hp; exact stp (fun _ q => XS.istoreN X.here hx rfl hd rfl hl q) k
theorem i_istore {k : Nat} {x : Int32} {L' : Array Slot} (X : Pn p l e R s m args below meth c T h n0 cells slots) (hx : p.tables.exec = Jvm.exec) (hd : decode c.code pc = .ok (.istore k, 2)) (hp : pc + 2 = pc') (hl : storeLocals Ls k (.int x) = some L')
    (k : Go p e s below n0 Q R T (mkF m pc' L' S)) : Go p e s below n0 Q R T (mkF m pc Ls (.int x :: S)) := by subst hp; exact stp (fun _ q => XS.istore X.here hx rfl hd rfl hl q) k
theorem i_lstoreN {k : Fin 4} {x : Int64} {L' : Array Slot} (X : Pn p l e R s m args below meth c T h n0 cells slots) (hx : p.tables.exec = Jvm.exec) (hd : decode c.code pc = .ok (.lstore_n k, 1)) (hp : pc + 1 = pc') (hl : storeLocals Ls k.val (.long x) = some L')
    (k : Go p e s below n0 Q R T (mkF m pc' L' S)) : Go p e s below n0 Q R T (mkF m pc Ls (.long x :: S)) := by subst hp; exact stp (fun _ q => XT.lstoreN X.here hx rfl hd rfl hl q) k
theorem i_lstore {k : Nat} {x : Int64} {L' : Array Slot} (X : Pn p l e R s m args below meth c T h n0 cells slots) (hx : p.tables.exec = Jvm.exec) (hd : decode c.code pc = .ok (.lstore k, 2)) (hp : pc + 2 = pc') (hl : storeLocals Ls k (.long x) = some L')
    (k : Go p e s below n0 Q R T (mkF m pc' L' S)) : Go p e s below n0 Q R T (mkF m pc Ls (.long x :: S)) := by subst hp; exact stp (fun _ q => XT.lstore X.here hx rfl hd rfl hl q) k
theorem i_astoreN {k : Fin 4} {x : Value} {L' : Array Slot} (X : Pn p l e R s m args below meth c T h n0 cells slots) (hx : p.tables.exec = Jvm.exec) (hd : decode c.code pc = .ok (.astore_n k, 1)) (hp : pc + 1 = pc') (hv : x.isRef = true) (hl : storeLocals Ls k.val x = some L')
    (k : Go p e s below n0 Q R T (mkF m pc' L' S)) : Go p e s below n0 Q R T (mkF m pc Ls (x :: S)) := by subst hp; exact stp (fun _ q => XS.astoreN X.here hx rfl hd rfl hv hl q) k
theorem i_astore {k : Nat} {x : Value} {L' : Array Slot} (X : Pn p l e R s m args below meth c T h n0 cells slots) (hx : p.tables.exec = Jvm.exec) (hd : decode c.code pc = .ok (.astore k, 2)) (hp : pc + 2 = pc') (hv : x.isRef = true) (hl : storeLocals Ls k x = some L')
    (k : Go p e s below n0 Q R T (mkF m pc' L' S)) : Go p e s below n0 Q R T (mkF m pc Ls (x :: S)) := by subst hp; exact stp (fun _ q => XS.astore X.here hx rfl hd rfl hv hl q) k
theorem i_iconst {i : Int} (v : Int32) (X : Pn p l e R s m args below meth c T h n0 cells slots) (hx : p.tables.exec = Jvm.exec) (hd : decode c.code pc = .ok (.iconst i, 1)) (hp : pc + 1 = pc') (hv : Int32.ofInt i = v)
    (k : Go p e s below n0 Q R T (mkF m pc' Ls (.int v :: S))) : Go p e s below n0 Q R T (mkF m pc Ls S) := by subst hp; exact stp (fun _ q => XT.iconstV X.here hx rfl v hd hv q) k
theorem i_bipush {i : Int} (v : Int32) (X : Pn p l e R s m args below meth c T h n0 cells slots) (hx : p.tables.exec = Jvm.exec) (hd : decode c.code pc = .ok (.bipush i, 2)) (hp : pc + 2 = pc') (hv : (Int8.ofInt i).toInt32 = v)
    (k : Go p e s below n0 Q R T (mkF m pc' Ls (.int v :: S))) : Go p e s below n0 Q R T (mkF m pc Ls S) := by subst hp; exact stp (fun _ q => XT.bipushV X.here hx rfl v hd hv q) k
theorem i_sipush {i : Int} (v : Int32) (X : Pn p l e R s m args below meth c T h n0 cells slots) (hx : p.tables.exec = Jvm.exec) (hd : decode c.code pc = .ok (.sipush i, 3)) (hp : pc + 3 = pc') (hv : (Int16.ofInt i).toInt32 = v)
    (k : Go p e s below n0 Q R T (mkF m pc' Ls (.int v :: S))) : Go p e s below n0 Q R T (mkF m pc Ls S) := by subst hp; exact stp (fun _ q => XT.sipushV X.here hx rfl v hd hv q) k
theorem i_lconst {i : Fin 2} (v : Int64) (X : Pn p l e R s m args below meth c T h n0 cells slots) (hx : p.tables.exec = Jvm.exec) (hd : decode c.code pc = .ok (.lconst i, 1)) (hp : pc + 1 = pc') (hv : Int64.ofNat i = v)
    (k : Go p e s below n0 Q R T (mkF m pc' Ls (.long v :: S))) : Go p e s below n0 Q R T (mkF m pc Ls S) := by subst hp; exact stp (fun _ q => XT.lconstV X.here hx rfl v hd hv q) k
theorem i_aconstNull (X : Pn p l e R s m args below meth c T h n0 cells slots) (hx : p.tables.exec = Jvm.exec) (hd : decode c.code pc = .ok (.aconst_null, 1)) (hp : pc + 1 = pc')
    (k : Go p e s below n0 Q R T (mkF m pc' Ls (.null :: S))) : Go p e s below n0 Q R T (mkF m pc Ls S) := by subst hp; exact stp (fun _ q => XS.aconstNull X.here hx rfl hd q) k
theorem i_iinc {i : Nat} {cst : Int} {x : Int32} {L' : Array Slot} (v : Int32) (X : Pn p l e R s m args below meth c T h n0 cells slots) (hx : p.tables.exec = Jvm.exec) (hd : decode c.code pc = .ok (.iinc i cst, 3)) (hp : pc + 3 = pc') (hv : Int32.ofInt cst = v) (hl : Ls[i]? = some (.val (.int x))) (hl' : storeLocals Ls i (.int (x + v)) = some L')
    (k : Go p e s below n0 Q R T (mkF m pc' L' S)) : Go p e s below n0 Q R T (mkF m pc Ls S) := by subst hp; exact stp (fun _ q => XT.iincV X.here hx rfl v hd hv hl hl' q) k
theorem i_ldc {own : String} {i : Nat} (v : Int32) (X : Pn p l e R s m args below meth c T h n0 cells slots) (hx : p.tables.exec = Jvm.exec) (hZ : Z.Warmed39 s.vm) (hown : s.vm.findClass own = some m.cls) (w : (Cond.constant own i v).before a0 Z = true) (hd : decode c.code pc = .ok (.ldc i, 2)) (hp : pc + 2 = pc')
    (k : Go p e s below n0 Q R T (mkF m pc' Ls (.int v :: S))) : Go p e s below n0 Q R T (mkF m pc Ls S) := by subst hp; obtain ⟨e0, hn, locs, Y, N⟩ := X; exact stp (fun _ q => Y.ldcI hx hown (mv hZ w) (g := mkF m pc Ls S) rfl hd q) k
theorem i_ldcW {own : String} {i : Nat} (v : Int32) (X : Pn p l e R s m args below meth c T h n0 cells slots) (hx : p.tables.exec = Jvm.exec) (hZ : Z.Warmed39 s.vm) (hown : s.vm.findClass own = some m.cls) (w : (Cond.constant own i v).before a0 Z = true) (hd : decode c.code pc = .ok (.ldc_w i, 3)) (hp : pc + 3 = pc')
    (k : Go p e s below n0 Q R T (mkF m pc' Ls (.int v :: S))) : Go p e s below n0 Q R T (mkF m pc Ls S) := by subst hp; obtain ⟨e0, hn, locs, Y, N⟩ := X; exact stp (fun _ q => Y.ldcWI hx hown (mv hZ w) (g := mkF m pc Ls S) rfl hd q) k
theorem i_ldc2 {own : String} {i : Nat} (v : Int64) (X : Pn p l e R s m args below meth c T h n0 cells slots) (hx : p.tables.exec = Jvm.exec) (hZ : Z.Warmed39 s.vm) (hown : s.vm.findClass own = some m.cls) (w : (Cond.constantLong own i v).before a0 Z = true) (hd : decode c.code pc = .ok (.ldc2_w i, 3)) (hp : pc + 3 = pc')
    (k : Go p e s below n0 Q R T (mkF m pc' Ls (.long v :: S))) : Go p e s below n0 Q R T (mkF m pc Ls S) := by subst hp; obtain ⟨e0, hn, locs, Y, N⟩ := X; exact stp (fun _ q => Y.ldc2J hx hown (mv hZ w) (g := mkF m pc Ls S) rfl hd q) k
theorem i_dup {x : Value} (X : Pn p l e R s m args below meth c T h n0 cells slots) (hx : p.tables.exec = Jvm.exec) (hd : decode c.code pc = .ok (.dup, 1)) (hp : pc + 1 = pc') (hc : x.category = 1)
    (k : Go p e s below n0 Q R T (mkF m pc' Ls (x :: x :: S))) : Go p e s below n0 Q R T (mkF m pc Ls (x :: S)) := by subst hp; exact stp (fun _ q => XS.dup X.here hx rfl hd rfl hc q) k
theorem i_pop {x : Value} (X : Pn p l e R s m args below meth c T h n0 cells slots) (hx : p.tables.exec = Jvm.exec) (hd : decode c.code pc = .ok (.pop, 1)) (hp : pc + 1 = pc') (hc : x.category = 1)
    (k : Go p e s below n0 Q R T (mkF m pc' Ls S)) : Go p e s below n0 Q R T (mkF m pc Ls (x :: S)) := by subst hp; exact stp (fun _ q => XT.pop X.here hx rfl hd rfl hc q) k
theorem i_dupX1 {x y : Value} (X : Pn p l e R s m args below meth c T h n0 cells slots) (hx : p.tables.exec = Jvm.exec) (hd : decode c.code pc = .ok (.dup_x1, 1)) (hp : pc + 1 = pc') (hc : x.category = 1) (hc' : y.category = 1)
    (k : Go p e s below n0 Q R T (mkF m pc' Ls (x :: y :: x :: S))) : Go p e s below n0 Q R T (mkF m pc Ls (x :: y :: S)) := by subst hp; exact stp (fun _ q => XT.dupX1 X.here hx rfl hd rfl hc hc' q) k
theorem i_dup2 {x y : Value} (X : Pn p l e R s m args below meth c T h n0 cells slots) (hx : p.tables.exec = Jvm.exec) (hd : decode c.code pc = .ok (.dup2, 1)) (hp : pc + 1 = pc') (hc : x.category = 1) (hc' : y.category = 1)
    (k : Go p e s below n0 Q R T (mkF m pc' Ls (x :: y :: x :: y :: S))) : Go p e s below n0 Q R T (mkF m pc Ls (x :: y :: S)) := by subst hp; exact stp (fun _ q => XT.dup2 X.here hx rfl hd rfl hc hc' q) k
theorem i_dup2L {x : Int64} (X : Pn p l e R s m args below meth c T h n0 cells slots) (hx : p.tables.exec = Jvm.exec) (hd : decode c.code pc = .ok (.dup2, 1)) (hp : pc + 1 = pc')
    (k : Go p e s below n0 Q R T (mkF m pc' Ls (.long x :: .long x :: S))) : Go p e s below n0 Q R T (mkF m pc Ls (.long x :: S)) := by subst hp; exact stp (fun _ q => XT.dup2L X.here hx rfl hd rfl q) k
theorem i_goto {o : Int} (X : Pn p l e R s m args below meth c T h n0 cells slots) (hx : p.tables.exec = Jvm.exec) (hd : decode c.code pc = .ok (.goto o, 3)) (ho : 0 ≤ (pc : Int) + o) (hp : ((pc : Int) + o).toNat = pc')
    (k : Go p e s below n0 Q R T (mkF m pc' Ls S)) : Go p e s below n0 Q R T (mkF m pc Ls S) := stp (fun _ q => XS.goto X.here hx rfl rfl hd ho hp q) k
theorem i_ifT {cd : ClassFile.Cond} {o : Int} {x : Int32} (X : Pn p l e R s m args below meth c T h n0 cells slots) (hx : p.tables.exec = Jvm.exec) (hd : decode c.code pc = .ok (.ifCond cd o, 3)) (hc : ifCond.holds cd x = true) (ho : 0 ≤ (pc : Int) + o) (hp : ((pc : Int) + o).toNat = pc')
    (k : Go p e s below n0 Q R T (mkF m pc' Ls S)) : Go p e s below n0 Q R T (mkF m pc Ls (.int x :: S)) := stp (fun _ q => XS.ifYes X.here hx rfl rfl hd rfl hc ho hp q) k
theorem i_ifF {cd : ClassFile.Cond} {o : Int} {x : Int32} (X : Pn p l e R s m args below meth c T h n0 cells slots) (hx : p.tables.exec = Jvm.exec) (hd : decode c.code pc = .ok (.ifCond cd o, 3)) (hp : pc + 3 = pc') (hc : ifCond.holds cd x = false)
    (k : Go p e s below n0 Q R T (mkF m pc' Ls S)) : Go p e s below n0 Q R T (mkF m pc Ls (.int x :: S)) := by subst hp; exact stp (fun _ q => XS.ifNo X.here hx rfl hd rfl hc q) k
theorem i_icT {cd : ClassFile.Cond} {o : Int} {x y : Int32} (X : Pn p l e R s m args below meth c T h n0 cells slots) (hx : p.tables.exec = Jvm.exec) (hd : decode c.code pc = .ok (.if_icmp cd o, 3)) (hc : if_icmp.holds cd x y = true) (ho : 0 ≤ (pc : Int) + o) (hp : ((pc : Int) + o).toNat = pc')
    (k : Go p e s below n0 Q R T (mkF m pc' Ls S)) : Go p e s below n0 Q R T (mkF m pc Ls (.int y :: .int x :: S)) := stp (fun _ q => XS.icmpYes X.here hx rfl rfl hd rfl hc ho hp q) k
theorem i_icF {cd : ClassFile.Cond} {o : Int} {x y : Int32} (X : Pn p l e R s m args below meth c T h n0 cells slots) (hx : p.tables.exec = Jvm.exec) (hd : decode c.code pc = .ok (.if_icmp cd o, 3)) (hp : pc + 3 = pc') (hc : if_icmp.holds cd x y = false)
    (k : Go p e s below n0 Q R T (mkF m pc' Ls S)) : Go p e s below n0 Q R T (mkF m pc Ls (.int y :: .int x :: S)) := by subst hp; exact stp (fun _ q => XS.icmpNo X.here hx rfl hd rfl hc q) k
theorem i_acT {cd : ClassFile.ACond} {o : Int} {x y : Value} (X : Pn p l e R s m args below meth c T h n0 cells slots) (hx : p.tables.exec = Jvm.exec) (hd : decode c.code pc = .ok (.if_acmp cd o, 3)) (hx' : x.isRef = true) (hy' : y.isRef = true) (hc : XT.acmp cd x y = true) (ho : 0 ≤ (pc : Int) + o) (hp : ((pc : Int) + o).toNat = pc')
    (k : Go p e s below n0 Q R T (mkF m pc' Ls S)) : Go p e s below n0 Q R T (mkF m pc Ls (y :: x :: S)) := stp (fun _ q => XT.acmpYes X.here hx rfl rfl hd rfl hx' hy' hc ho hp q) k
theorem i_acF {cd : ClassFile.ACond} {o : Int} {x y : Value} (X : Pn p l e R s m args below meth c T h n0 cells slots) (hx : p.tables.exec = Jvm.exec) (hd : decode c.code pc = .ok (.if_acmp cd o, 3)) (hp : pc + 3 = pc') (hx' : x.isRef = true) (hy' : y.isRef = true) (hc : XT.acmp cd x y = false)
    (k : Go p e s below n0 Q R T (mkF m pc' Ls S)) : Go p e s below n0 Q R T (mkF m pc Ls (y :: x :: S)) := by subst hp; exact stp (fun _ q => XT.acmpNo X.here hx rfl hd rfl hx' hy' hc q) k
theorem i_nuT {o : Int} {x : Value} (X : Pn p l e R s m args below meth c T h n0 cells slots) (hx : p.tables.exec = Jvm.exec) (hd : decode c.code pc = .ok (.ifnull o, 3)) (hv : x = .null) (ho : 0 ≤ (pc : Int) + o) (hp : ((pc : Int) + o).toNat = pc')
    (k : Go p e s below n0 Q R T (mkF m pc' Ls S)) : Go p e s below n0 Q R T (mkF m pc Ls (x :: S)) := stp (fun _ q => XT.nullYes X.here hx rfl rfl hd rfl hv ho hp q) k
theorem i_nuF {o : Int} {x : Value} (X : Pn p l e R s m args below meth c T h n0 cells slots) (hx : p.tables.exec = Jvm.exec) (hd : decode c.code pc = .ok (.ifnull o, 3)) (hp : pc + 3 = pc') (hr : x.isRef = true) (hv : ¬ x = .null)
    (k : Go p e s below n0 Q R T (mkF m pc' Ls S)) : Go p e s below n0 Q R T (mkF m pc Ls (x :: S)) := by subst hp; exact stp (fun _ q => XT.nullNo X.here hx rfl hd rfl hr hv q) k
theorem i_nnT {o : Int} {x : Value} (X : Pn p l e R s m args below meth c T h n0 cells slots) (hx : p.tables.exec = Jvm.exec) (hd : decode c.code pc = .ok (.ifnonnull o, 3)) (hr : x.isRef = true) (hv : ¬ x = .null) (ho : 0 ≤ (pc : Int) + o) (hp : ((pc : Int) + o).toNat = pc')
    (k : Go p e s below n0 Q R T (mkF m pc' Ls S)) : Go p e s below n0 Q R T (mkF m pc Ls (x :: S)) := stp (fun _ q => XT.nonnullYes X.here hx rfl rfl hd rfl hr hv ho hp q) k
theorem i_nnF {o : Int} {x : Value} (X : Pn p l e R s m args below meth c T h n0 cells slots) (hx : p.tables.exec = Jvm.exec) (hd : decode c.code pc = .ok (.ifnonnull o, 3)) (hp : pc + 3 = pc') (hv : x = .null)
    (k : Go p e s below n0 Q R T (mkF m pc' Ls S)) : Go p e s below n0 Q R T (mkF m pc Ls (x :: S)) := by subst hp; exact stp (fun _ q => XT.nonnullNo X.here hx rfl hd rfl hv q) k
theorem i_tsI {dflt low high : Int} {offs : Array Int} {ln : Nat} {o : Int} {x : Int32} (X : Pn p l e R s m args below meth c T h n0 cells slots) (hx : p.tables.exec = Jvm.exec) (hd : decode c.code pc = .ok (.tableswitch dflt low high offs, ln)) (hin : ¬ (x.toInt < low ∨ x.toInt > high)) (hoff : offs[(x.toInt - low).toNat]? = some o) (ho : 0 ≤ (pc : Int) + o) (hp : ((pc : Int) + o).toNat = pc')
    (k : Go p e s below n0 Q R T (mkF m pc' Ls S)) : Go p e s below n0 Q R T (mkF m pc Ls (.int x :: S)) := stp (fun _ q => XS.tswIn X.here hx rfl rfl hd rfl hin hoff ho hp q) k
theorem i_tsO {dflt low high : Int} {offs : Array Int} {ln : Nat} {x : Int32} (X : Pn p l e R s m args below meth c T h n0 cells slots) (hx : p.tables.exec = Jvm.exec) (hd : decode c.code pc = .ok (.tableswitch dflt low high offs, ln)) (hout : x.toInt < low ∨ x.toInt > high) (ho : 0 ≤ (pc : Int) + dflt) (hp : ((pc : Int) + dflt).toNat = pc')
    (k : Go p e s below n0 Q R T (mkF m pc' Ls S)) : Go p e s below n0 Q R T (mkF m pc Ls (.int x :: S)) := stp (fun _ q => XS.tswOut X.here hx rfl rfl hd rfl hout ho hp q) k
theorem own_irr (x : Int32) : ¬ x < x := Int32.lt_irrefl
theorem own_nar {t : FieldType} {w : Value} (h : w.isRef = true) : narrow t w = w := by rcases XT.refc h with rfl | ⟨_, rfl⟩ <;> cases t <;> rfl
theorem own_fitO {C : String} {w : Value} (h : w.isRef = true) : fits (.object C) w = true := by rcases XT.refc h with rfl | ⟨_, rfl⟩ <;> rfl
theorem own_fitA {t : FieldType} {w : Value} (h : w.isRef = true) : fits (.array t) w = true := by rcases XT.refc h with rfl | ⟨_, rfl⟩ <;> rfl
theorem own_sta_keep {h' : Heap} {ws : List Addr} {C n d : String} {v : Value} (F : Sta Z h C n d v) (K : Keep h h' ws) (q : ∀ (a : Addr) (cl : Cell), a ∈ ws → h[a]? = some cl → cl.vm.isStatics = false) : Sta Z h' C n d v := by
  obtain ⟨cf, i, k, f, st, cell, h1, h2, h3, h4, h5, h6, h7⟩ := F
  refine ⟨cf, i, k, f, st, cell, h1, h2, h3, h4, K.2.1 st cell h5 (fun hm => ?_), h6, h7⟩
  rw [q st cell hm h5] at h6; cases h6
theorem own_sw3 {x : Int32} (h0 : ¬ x = (0 : Int32)) (h1 : ¬ x = (1 : Int32)) (h2 : ¬ x = (2 : Int32)) : x.toInt < 0 ∨ x.toInt > 2 := by
  have a : ¬ x.toInt = 0 := fun q => h0 (Int32.toInt_inj.mp q)
  have b : ¬ x.toInt = 1 := fun q => h1 (Int32.toInt_inj.mp q)
  have c : ¬ x.toInt = 2 := fun q => h2 (Int32.toInt_inj.mp q)
  omega
def Two (a b : Slot) : Prop := (a = .unset ∧ b = .unset) ∨ ∃ z, a = .val (.long z) ∧ b = .second
theorem Two.u : Two .unset .unset := Or.inl ⟨rfl, rfl⟩
theorem Two.v (z : Int64) : Two (.val (.long z)) .second := Or.inr ⟨z, rfl, rfl⟩
theorem own_nar1 : nar .boolean 1 = 1 := by decide
theorem own_nar0 : nar .boolean 0 = 0 := by decide
end Own
end Jvm.OwnKit
namespace Jvm.Pilot.@@N@@
open Jvm Jvm.ClassFile Sem Op Lib Jvm.Free Jvm.Stand Jvm.LawKit Jvm.RoadKit Jvm.OwnKit Bundle Jvm.Pilot.@@N@@.Jvm.D
theorem own_lt (x y : Int32) : x < y ↔ x.toInt < y.toInt := Int32.lt_iff_toInt_lt
theorem own_z : (0 : Int32).toInt = 0 := by decide
theorem own_nat {j : Int32} (q : 0 ≤ j.toInt) : (j.toNatClampNeg : Int) = j.toInt := (nat_of (by rw [own_lt, own_z]; omega)).symm
theorem own_in {a : Int32} {k M : Nat} (h : a.toInt = (k : Int)) (hk : k < M) : ¬ a < 0 ∧ a.toNatClampNeg < M ∧ a.toNatClampNeg = k := by
  have := own_nat (j := a) (by omega)
  exact ⟨by rw [own_lt, own_z]; omega, by omega, by omega⟩
theorem own_gd (f : Nat → Value) {n i : Nat} (h : i < n) (d : Value) : ((List.range n).map f).getD i d = f i := by
  simp [List.getD_eq_getElem?_getD, h]
theorem own_cat (f g : Nat → Value) {n n' q i : Nat} (h : q + n ≤ n') (hi : i < n') (d : Value) :
    ((((List.range n').map g).take q ++ ((List.range n).map f)) ++ ((List.range n').map g).drop (q + n)).getD i d = if i < q then g i else if i < q + n then f (i - q) else g i := by
  rw [List.getD_eq_getElem?_getD]
  have l1 : (((List.range n').map g).take q).length = q := by simp; omega
  have l2 : (((List.range n').map g).take q ++ ((List.range n).map f)).length = q + n := by rw [List.length_append, l1]; simp
  by_cases a : i < q
  · rw [if_pos a, List.getElem?_append_left (by omega), List.getElem?_append_left (by omega), List.getElem?_take_of_lt a]
    simp [hi]
  · rw [if_neg a]
    by_cases b : i < q + n
    · rw [if_pos b, List.getElem?_append_left (by omega), List.getElem?_append_right (by omega), l1]
      have : i - q < n := by omega
      simp [this]
    · rw [if_neg b, List.getElem?_append_right (by omega), l2, List.getElem?_drop]
      have e : q + n + (i - (q + n)) = i := by omega
      rw [e]
      simp [hi]
theorem own_arv {Z : State} {h : Heap} {a : Addr} {z : Int32} {f : Nat → Value} (A : Av Z h a .byte z.toNatClampNeg f) (hz : ¬ z < 0) (hf : ∀ i, fits .byte (f i) = true) : ∃ k, Arv Z h a k .byte z ((List.range z.toNatClampNeg).map f) (.int 0) := by
  obtain ⟨c, A', s, u⟩ := A
  refine ⟨c.cls, c, A', rfl, s, hz, fun i hi => ?_, fun i hi => ?_⟩
  · rw [own_gd f (by omega)]; exact u i (by omega)
  · rw [own_gd f (by omega)]; exact hf i
theorem own_ac {p : Program} {l : Launch} {e : Env} {R : Room} {s : State} {m : MethodId} {args : Array Value} {below : List Frame} {meth : Method} {c : Code} {T : State} {h : Heap} {n0 cells slots : Nat} {Z : State} {a0 : Array Value} {Q : Option Value → Heap → Prop} {pc pc' : Nat} {Ls : Array Slot} {S : List Value} {own : String} {index : Nat} {a b : Addr} {dp z z' : Int32} {f f' : Nat → Value} (W : Nat)
    (X : Pn p l e R s m args below meth c T h n0 cells slots) (hx : p.tables.exec = Jvm.exec) (hZ : Z.Warmed39 s.vm) (hown : s.vm.findClass own = some m.cls) (w1 : (Cond.methodLink own index Jvm.Stand.acN).before a0 Z = true) (w2 : (Cond.native Jvm.Stand.acN).before a0 Z = true) (w3 : (Cond.static Jvm.Stand.acN).before a0 Z = true) (w4 : (Cond.initialized "java/lang/System").before a0 Z = true)
    (A : Av Z h a .byte z.toNatClampNeg f) (B : Av Z h b .byte z'.toNatClampNeg f') (hz : ¬ z < 0) (hz' : ¬ z' < 0) (hA : ∀ i, fits .byte (f i) = true) (hB : ∀ i, fits .byte (f' i) = true) (hd0 : ¬ dp < 0) (h5 : dp.toNatClampNeg + z.toNatClampNeg ≤ z'.toNatClampNeg) (ge : n0 ≤ b) (hsz : Ls.size = c.maxLocals)
    (hd : decode c.code pc = .ok (.invokestatic index, 3)) (hp : pc + 3 = pc') (hf : 1 ≤ R.frames) (hW : (S.map fun v => v.category).sum ≤ W) (hlo : W + 18 ≤ R.locals)
    (k : ∀ T' h', Pn p l e R s m args below meth c T' h' n0 cells slots → Keep h h' [b] → Av Z h' b .byte z'.toNatClampNeg (fun i => if i < dp.toNatClampNeg then f' i else if i < dp.toNatClampNeg + z.toNatClampNeg then f (i - dp.toNatClampNeg) else f' i) → Go p e s below n0 Q R T' (mkF m pc' Ls S)) :
    Go p e s below n0 Q R T (mkF m pc Ls (.int z :: .int dp :: .ref b :: .int 0 :: .ref a :: S)) := by
  subst hp
  obtain ⟨e0, hn, locs, Y, N⟩ := X
  obtain ⟨ka, VA⟩ := own_arv A hz hA
  obtain ⟨kb, VB⟩ := own_arv B hz' hB
  have z0 : (0 : Int32).toNatClampNeg = 0 := by decide
  obtain ⟨T', h', L, Y', e', N', K', V', st⟩ := cpA Y hx hZ hown w1 w2 w3 w4 e0 (sp := 0) (dp := dp) (nn := z) (us := (List.range z.toNatClampNeg).map f) VA VB (Or.inl ⟨rfl, rfl⟩) (by decide) hd0 hz (by rw [z0]; omega) h5
    (by
      apply List.map_congr_left
      intro i hi
      have hi' := List.mem_range.mp hi
      rw [z0, Nat.zero_add]
      exact (own_gd f hi' _).symm) (by simp; omega) N ge (g := mkF m pc Ls (.int z :: .int dp :: .ref b :: .int 0 :: .ref a :: S)) rfl hsz rfl hd hf (W := W) (by show 2 * 0 + _ ≤ _; omega) (by
      have : nativeFrameWords "java/lang/System" "arraycopy" 5 = 7 := by decide
      rw [this]; omega)
  refine stp st (k T' h' ⟨e', hn, L, Y', N'⟩ K' ?_)
  obtain ⟨c', A', -, s', -, H', -⟩ := V'
  refine ⟨c', A', s', fun i hi => ?_⟩
  rw [H' i (by omega), own_cat f f' h5 hi]
theorem own_bb (x : Int32) : x.toInt8.toInt32.toInt8.toInt32 = x.toInt8.toInt32 := by simp
theorem own_stB {Z : State} {h h' : Heap} {a : Addr} {ty : FieldType} {n k : Nat} {g : Nat → Int32} {j : Int32} {x : Int32} (e : j.toNatClampNeg = k) (A : Av Z h a ty n (fun i => .int (g i))) (W : Wr h h' a j.toNatClampNeg (.int x.toInt8.toInt32.toInt8.toInt32)) : Av Z h' a ty n (fun i => .int (if i = k then x.toInt8.toInt32 else g i)) := by
  rw [own_bb] at W
  subst e; exact (A.same W).congr fun i _ => by split <;> rfl
theorem own_fB (x : Int32) : fits .byte (.int x.toInt8.toInt32) = true := fits_nar_byte x
theorem own_if3 {c d : Prop} [Decidable c] [Decidable d] (x y z : Int32) : (if c then Value.int x else if d then .int y else .int z) = .int (if c then x else if d then y else z) := by by_cases a : c <;> by_cases b : d <;> simp [a, b]
theorem own_f0 : fits .byte (.int (0 : Int32)) = true := by decide
theorem own_fup {g : Nat → Int32} {k : Nat} {x : Int32} (h : ∀ i, fits .byte (.int (g i)) = true) : ∀ i, fits .byte (.int (if i = k then x.toInt8.toInt32 else g i)) = true := fun i => by split; exact own_fB x; exact h i
def own_vb (N : Nat) : Nat := if N < 128 then 1 else if N < 16384 then 2 else 3
theorem own_vb3 (N : Nat) : own_vb N = 1 ∨ own_vb N = 2 ∨ own_vb N = 3 := by unfold own_vb; split; simp; split <;> simp
theorem own_hi (x : Int32) (h : 0 ≤ x.toInt) : (x &&& (-128 : Int32)) = 0 ↔ x.toInt < 128 := by
  have e : x = (x &&& (-128 : Int32)) + (x &&& (127 : Int32)) := by
    apply Int32.toBitVec_inj.mp
    rw [Int32.toBitVec_add, Int32.toBitVec_and, Int32.toBitVec_and]
    have d : (-128 : Int32).toBitVec = ~~~ (127 : Int32).toBitVec := by decide
    rw [d]
    apply BitVec.eq_of_toNat_eq
    have hd : (x.toBitVec &&& ~~~(127 : Int32).toBitVec) &&& (x.toBitVec &&& (127 : Int32).toBitVec) = 0#32 := by
      apply BitVec.eq_of_getLsbD_eq
      intro i hi
      simp only [BitVec.getLsbD_and, BitVec.getLsbD_not, BitVec.getLsbD_zero]
      cases x.toBitVec.getLsbD i <;> cases (127 : Int32).toBitVec.getLsbD i <;> simp
    rw [BitVec.add_eq_or_of_and_eq_zero _ _ hd]
    congr 1
    apply BitVec.eq_of_getLsbD_eq
    intro i hi
    simp only [BitVec.getLsbD_or, BitVec.getLsbD_and, BitVec.getLsbD_not, hi, decide_true, Bool.true_and]
    cases x.toBitVec.getLsbD i <;> cases (127 : Int32).toBitVec.getLsbD i <;> rfl
  have m : (x &&& (127 : Int32)).toInt = x.toInt % 128 := c_mask x 127 7 (by decide) (by decide)
  constructor
  · intro q
    rw [q, Int32.zero_add] at e
    have := congrArg Int32.toInt e
    omega
  · intro q
    have e2 : (x &&& (127 : Int32)) = x := Int32.toInt_inj.mp (by omega)
    rw [e2] at e
    have : (x &&& (-128 : Int32)) + x = 0 + x := by rw [← e, Int32.zero_add]
    exact (Int32.add_left_inj x).mp this
theorem own_us (x q : Int32) (k : Nat) (hx : 0 ≤ x.toInt) (hk : q.toBitVec.toNat % 32 = k) (h0 : 0 < k) : (XT.ushr x q).toInt = x.toInt / (2 ^ k : Nat) := by
  have u : (XT.ushr x q).toInt = (x.toInt % 4294967296) / (2 ^ k : Nat) := c_iushr x q k hk h0
  have r := rng32 x
  rw [u, show x.toInt % 4294967296 = x.toInt by omega]
theorem own_us7 (x : Int32) (h : 0 ≤ x.toInt) : (XT.ushr x (7 : Int32)).toInt = x.toInt / 128 := own_us x 7 7 h (by decide) (by decide)
theorem own_us14 (x : Int32) (h : 0 ≤ x.toInt) : XT.ushr (XT.ushr x (7 : Int32)) (7 : Int32) = XT.ushr x (14 : Int32) := by
  refine Int32.toInt_inj.mp ?_
  have a := own_us7 x h
  have b : (XT.ushr x (14 : Int32)).toInt = x.toInt / 16384 := own_us x 14 14 h (by decide) (by decide)
  rw [own_us7 _ (by omega), a, b]; omega
theorem own_i1 {a : Int32} {k : Nat} (h : a.toInt = (k : Int)) (hk : k < 100000) : (a + (1 : Int32)).toInt = ((k + 1 : Nat) : Int) := by
  have c : (1 : Int32).toInt = 1 := by decide
  rw [XT.add32 (by unfold XT.fits32; omega), h, c]; omega
theorem own_add {a b : Int32} {k n : Nat} (h : a.toInt = (k : Int)) (h2 : b.toInt = (n : Int)) (hk : k + n < 1000000) : (a + b).toInt = ((k + n : Nat) : Int) := by
  rw [XT.add32 (by unfold XT.fits32; omega)]; omega
theorem own_toN {N : Nat} (h : N ≤ 40000) : (Nat.toInt32 N).toInt = (N : Int) := len_toInt (by omega)
theorem d1_0 : decode prog_24_method_9_code 0 = .ok (.iload_n 2, 1) := by decide +kernel
theorem d1_1 : decode prog_24_method_9_code 1 = .ok (.istore_n 3, 1) := by decide +kernel
theorem d1_2 : decode prog_24_method_9_code 2 = .ok (.aload_n 0, 1) := by decide +kernel
theorem d1_3 : decode prog_24_method_9_code 3 = .ok (.arraylength, 1) := by decide +kernel
theorem d1_4 : decode prog_24_method_9_code 4 = .ok (.istore 4, 2) := by decide +kernel
theorem d1_6 : decode prog_24_method_9_code 6 = .ok (.iload 4, 2) := by decide +kernel
theorem d1_8 : decode prog_24_method_9_code 8 = .ok (.bipush (-128), 2) := by decide +kernel
theorem d1_10 : decode prog_24_method_9_code 10 = .ok (.iand, 1) := by decide +kernel
theorem d1_11 : decode prog_24_method_9_code 11 = .ok (.ifCond .eq 29, 3) := by decide +kernel
theorem d1_14 : decode prog_24_method_9_code 14 = .ok (.aload_n 1, 1) := by decide +kernel
theorem d1_15 : decode prog_24_method_9_code 15 = .ok (.iload_n 3, 1) := by decide +kernel
theorem d1_16 : decode prog_24_method_9_code 16 = .ok (.iinc 3 1, 3) := by decide +kernel
theorem d1_19 : decode prog_24_method_9_code 19 = .ok (.iload 4, 2) := by decide +kernel
theorem d1_21 : decode prog_24_method_9_code 21 = .ok (.bipush 127, 2) := by decide +kernel
theorem d1_23 : decode prog_24_method_9_code 23 = .ok (.iand, 1) := by decide +kernel
theorem d1_24 : decode prog_24_method_9_code 24 = .ok (.sipush 128, 3) := by decide +kernel
theorem d1_27 : decode prog_24_method_9_code 27 = .ok (.ior, 1) := by decide +kernel
theorem d1_28 : decode prog_24_method_9_code 28 = .ok (.i2b, 1) := by decide +kernel
theorem d1_29 : decode prog_24_method_9_code 29 = .ok (.bastore, 1) := by decide +kernel
theorem d1_30 : decode prog_24_method_9_code 30 = .ok (.iload 4, 2) := by decide +kernel
theorem d1_32 : decode prog_24_method_9_code 32 = .ok (.bipush 7, 2) := by decide +kernel
theorem d1_34 : decode prog_24_method_9_code 34 = .ok (.iushr, 1) := by decide +kernel
theorem d1_35 : decode prog_24_method_9_code 35 = .ok (.istore 4, 2) := by decide +kernel
theorem d1_37 : decode prog_24_method_9_code 37 = .ok (.goto (-31), 3) := by decide +kernel
theorem d1_40 : decode prog_24_method_9_code 40 = .ok (.aload_n 1, 1) := by decide +kernel
theorem d1_41 : decode prog_24_method_9_code 41 = .ok (.iload_n 3, 1) := by decide +kernel
theorem d1_42 : decode prog_24_method_9_code 42 = .ok (.iinc 3 1, 3) := by decide +kernel
theorem d1_45 : decode prog_24_method_9_code 45 = .ok (.iload 4, 2) := by decide +kernel
theorem d1_47 : decode prog_24_method_9_code 47 = .ok (.i2b, 1) := by decide +kernel
theorem d1_48 : decode prog_24_method_9_code 48 = .ok (.bastore, 1) := by decide +kernel
theorem d1_49 : decode prog_24_method_9_code 49 = .ok (.aload_n 0, 1) := by decide +kernel
theorem d1_50 : decode prog_24_method_9_code 50 = .ok (.iconst 0, 1) := by decide +kernel
theorem d1_51 : decode prog_24_method_9_code 51 = .ok (.aload_n 1, 1) := by decide +kernel
theorem d1_52 : decode prog_24_method_9_code 52 = .ok (.iload_n 3, 1) := by decide +kernel
theorem d1_53 : decode prog_24_method_9_code 53 = .ok (.aload_n 0, 1) := by decide +kernel
theorem d1_54 : decode prog_24_method_9_code 54 = .ok (.arraylength, 1) := by decide +kernel
theorem d1_55 : decode prog_24_method_9_code 55 = .ok (.invokestatic 81, 3) := by decide +kernel
theorem d1_58 : decode prog_24_method_9_code 58 = .ok (.iload_n 3, 1) := by decide +kernel
theorem d1_59 : decode prog_24_method_9_code 59 = .ok (.aload_n 0, 1) := by decide +kernel
theorem d1_60 : decode prog_24_method_9_code 60 = .ok (.arraylength, 1) := by decide +kernel
theorem d1_61 : decode prog_24_method_9_code 61 = .ok (.iadd, 1) := by decide +kernel
theorem d1_62 : decode prog_24_method_9_code 62 = .ok (.ireturn, 1) := by decide +kernel
theorem pn0 : plainName "com/example/rangewright/rangewright/storage/Codec" = true := by first | (simp [plainName, overriddenIn]; done) | decide +kernel
theorem ef_rm1 (m : MethodId) (t : Addr) (u : Addr) (o : Int32) : entryFrame m #[(.ref t), (.ref u), (.int o)] 5 = mkF m 0 #[.val (.ref t), .val (.ref u), .val (.int o), .unset, .unset] [] := by first | (simp [entryFrame, mkF, argsToLocals, Value.category, maxLocals]; done) | rfl
def Qrm1 (Z : State) (t : Addr) (u : Addr) (o : Int32) (N : Nat) (M : Nat) (K : Nat) (gb : Nat → Int32) (ga : Nat → Int32) (n0 : Nat) (h0 : Heap) (rv : Option Value) (h : Heap) : Prop := ∃ r : Int32, ∃ ga' : Nat → Int32, rv = some (.int r) ∧ Keep h0 h [u] ∧ Av Z h u .byte M (fun i => .int (ga' i)) ∧ (r.toInt = ((K + own_vb N + N : Nat) : Int)) ∧ (∀ i, i < K → ga' i = ga i) ∧ (∀ i, i < N → ga' (K + own_vb N + i) = gb i) ∧ (∀ i, K + own_vb N + N ≤ i → ga' i = ga i) ∧ (N < 128 → ga' K = (Nat.toInt32 N).toInt8.toInt32) ∧ (¬ N < 128 → ga' K = (((Nat.toInt32 N) &&& (127 : Int32)) ||| (128 : Int32)).toInt8.toInt32) ∧ (¬ N < 128 → N < 16384 → ga' (K + 1) = (XT.ushr (Nat.toInt32 N) (7 : Int32)).toInt8.toInt32) ∧ (¬ N < 16384 → ga' (K + 1) = (((XT.ushr (Nat.toInt32 N) (7 : Int32)) &&& (127 : Int32)) ||| (128 : Int32)).toInt8.toInt32 ∧ ga' (K + 2) = (XT.ushr (XT.ushr (Nat.toInt32 N) (7 : Int32)) (7 : Int32)).toInt8.toInt32)
abbrev Rrm1 : Room := { frames := 1, cells := 0, slots := 0, locals := 18 }
set_option maxRecDepth 65536 in
set_option maxHeartbeats 40000000 in
theorem rm1 (l : Launch) (Z : State) (a0 : Array Value) (hw : ∀ d ∈ tables_1, d.before a0 Z = true) (ws : List Jvm.Cond) (t : Addr) (u : Addr) (o : Int32) (N : Nat) (M : Nat) (K : Nat) (gb : Nat → Int32) (ga : Nat → Int32) (n0 : Nat) (h0 : Heap) (hn : n0 ≤ h0.size) (H0 : Av Z h0 t .byte N (fun i => .int (gb i))) (H1 : Av Z h0 u .byte M (fun i => .int (ga i))) (H2 : n0 ≤ u) (H3 : t ≠ u) (hN : N ≤ 32767) (hK : o.toInt = (K : Int)) (hK3 : K ≤ 3) (hM : M = K + N + 4) (hgb : ∀ i, fits .byte (.int (gb i)) = true) (hga : ∀ i, fits .byte (.int (ga i)) = true) :
    Con l Z (⟨"com/example/rangewright/rangewright/storage/Codec", "putBytes", "([B[BI)I"⟩ : MethodName) prog_24_method_9_code 5 (some .int) ws Rrm1 #[(.ref t), (.ref u), (.int o)] h0 n0 (Qrm1 Z t u o N M K gb ga n0 h0) := by
  refine body (y := (⟨"com/example/rangewright/rangewright/storage/Codec", "putBytes", "([B[BI)I"⟩ : MethodName)) (Ls := #[.val (.ref t), .val (.ref u), .val (.int o), .unset, .unset]) (plainFor_of_name pn0) hn (fun m => ef_rm1 m t u o) ?_
  intro p e s m below meth c T0 hx hby hml hown hnm hret hlk hZ X0
  refine i_iloadN (v := o) (pc' := 1) X0 hx (hb hby d1_0) rfl rfl ?_
  refine i_istoreN (L' := #[.val (.ref t), .val (.ref u), .val (.int o), .val (.int o), .unset]) (pc' := 2) X0 hx (hb hby d1_1) rfl rfl ?_
  refine i_aloadN (v := (.ref t)) (pc' := 3) X0 hx (hb hby d1_2) rfl rfl rfl ?_
  refine len (pc' := 4) (Nat.toInt32 N) X0 hx hZ H0 rfl (hb hby d1_3) rfl ?_
  refine i_istore (L' := #[.val (.ref t), .val (.ref u), .val (.int o), .val (.int o), .val (.int (Nat.toInt32 N))]) (pc' := 6) X0 hx (hb hby d1_4) rfl rfl ?_
  have hR0 : (Nat.toInt32 N).toInt = (N : Int) := own_toN (by omega)
  refine i_iload (v := (Nat.toInt32 N)) (pc' := 8) X0 hx (hb hby d1_6) rfl rfl ?_
  refine i_bipush (pc' := 10) (-128 : Int32) X0 hx (hb hby d1_8) rfl (by decide) ?_
  refine i_iand (pc' := 11) X0 hx (hb hby d1_10) rfl ?_
  by_cases hc1 : ((Nat.toInt32 N) &&& (-128 : Int32)) = 0
  · skip
    have hq0 := (own_hi _ (by omega)).mp hc1
    refine i_ifT (pc' := 40) X0 hx (hb hby d1_11) (XT.i0_eq_t hc1) (by decide) (by decide) ?_
    refine i_aloadN (v := (.ref u)) (pc' := 41) X0 hx (hb hby d1_40) rfl rfl rfl ?_
    refine i_iloadN (v := o) (pc' := 42) X0 hx (hb hby d1_41) rfl rfl ?_
    refine i_iinc (pc' := 45) (L' := #[.val (.ref t), .val (.ref u), .val (.int o), .val (.int (o + (1 : Int32))), .val (.int (Nat.toInt32 N))]) (1 : Int32) X0 hx (hb hby d1_42) rfl (by decide) rfl rfl ?_
    have hA1 := own_i1 hK (by omega)
    refine i_iload (v := (Nat.toInt32 N)) (pc' := 47) X0 hx (hb hby d1_45) rfl rfl ?_
    refine i_i2b (pc' := 48) X0 hx (hb hby d1_47) rfl ?_
    refine saB (pc' := 49) X0 hx hZ H1 H2 (own_in (k := K) (M := M) hK (by omega)).1 (own_in (k := K) (M := M) hK (by omega)).2.1 (hb hby d1_48) rfl fun T2 h2 X2 W2 => ?_
    obtain ⟨g2, hg2, hf2, A2⟩ : ∃ g : Nat → Int32, (∀ i, g i = if i = K then ((Nat.toInt32 N).toInt8.toInt32) else ga i) ∧ (∀ i, fits .byte (.int (g i)) = true) ∧ Av Z h2 u .byte M (fun i => .int (g i)) := ⟨_, fun _ => rfl, own_fup hga, (own_stB (k := K) (g := ga) (own_in (k := K) (M := M) hK (by omega)).2.2 H1 W2)⟩
    refine i_aloadN (v := (.ref t)) (pc' := 50) X2 hx (hb hby d1_49) rfl rfl rfl ?_
    refine i_iconst (pc' := 51) (0 : Int32) X2 hx (hb hby d1_50) rfl (by decide) ?_
    refine i_aloadN (v := (.ref u)) (pc' := 52) X2 hx (hb hby d1_51) rfl rfl rfl ?_
    refine i_iloadN (v := (o + (1 : Int32))) (pc' := 53) X2 hx (hb hby d1_52) rfl rfl ?_
    refine i_aloadN (v := (.ref t)) (pc' := 54) X2 hx (hb hby d1_53) rfl rfl rfl ?_
    have F3 : Av Z h2 t .byte N (fun i => .int (gb i)) := (H0.other W2 H3)
    refine len (pc' := 55) (Nat.toInt32 N) X2 hx hZ F3 rfl (hb hby d1_54) rfl ?_
    have hI4 := own_in (k := (K + 1)) (M := M) hA1 (by omega)
    have eN4 : (Nat.toInt32 N).toNatClampNeg = N := (own_in (M := N + 1) hR0 (by omega)).2.2
    have eM4 : (Nat.toInt32 M).toNatClampNeg = M := (own_in (M := M + 1) (own_toN (N := M) (by omega)) (by omega)).2.2
    have At4 : Av Z h2 t .byte (Nat.toInt32 N).toNatClampNeg (fun i => .int (gb i)) := by rw [eN4]; exact F3
    have Au4 : Av Z h2 u .byte (Nat.toInt32 M).toNatClampNeg (fun i => .int (g2 i)) := by rw [eM4]; exact A2
    refine own_ac (pc' := 58) 0 X2 hx hZ hown (hw _ (List.mem_of_getElem? (i := 5) rfl)) (hw _ (List.mem_of_getElem? (i := 8) rfl)) (hw _ (List.mem_of_getElem? (i := 6) rfl)) (hw _ (List.mem_of_getElem? (i := 7) rfl)) At4 Au4 (own_in (M := N + 1) hR0 (by omega)).1 (own_in (M := M + 1) (own_toN (N := M) (by omega)) (by omega)).1 hgb hf2 hI4.1 (by rw [hI4.2.2, eN4, eM4]; omega) H2 (by rw [hml]; rfl) (hb hby d1_55) rfl (by decide) (Nat.le_of_eq rfl) (by decide) fun T4 h4 X4 K4c V4 => ?_
    rw [hI4.2.2, eN4, eM4] at V4
    obtain ⟨g4, hg4, A4⟩ : ∃ g : Nat → Int32, (∀ i, g i = if i < (K + 1) then g2 i else if i < (K + 1) + N then gb (i - (K + 1)) else g2 i) ∧ Av Z h4 u .byte M (fun i => .int (g i)) := ⟨fun i => if i < (K + 1) then g2 i else if i < (K + 1) + N then gb (i - (K + 1)) else g2 i, fun _ => rfl, V4.congr fun i _ => own_if3 _ _ _⟩
    refine i_iloadN (v := (o + (1 : Int32))) (pc' := 59) X4 hx (hb hby d1_58) rfl rfl ?_
    refine i_aloadN (v := (.ref t)) (pc' := 60) X4 hx (hb hby d1_59) rfl rfl rfl ?_
    have F5 : Av Z h4 t .byte N (fun i => .int (gb i)) := (F3.keep K4c (ninS H3 nin0))
    refine len (pc' := 61) (Nat.toInt32 N) X4 hx hZ F5 rfl (hb hby d1_60) rfl ?_
    refine i_iadd (pc' := 62) X4 hx (hb hby d1_61) rfl ?_
    refine rI X4 hx hlk hret (hb hby d1_62) (by decide) (by decide) ?_
    have hvb : own_vb N = 1 := by unfold own_vb; rw [if_pos (by omega)]
    skip
    exact ⟨((o + (1 : Int32)) + (Nat.toInt32 N)), g4, rfl, ((((Keep.refl h0 _).wr W2 (Or.inl (List.mem_of_getElem? (i := 0) rfl))) : Keep h0 h2 [u]).trans K4c (allS (Or.inl (List.mem_of_getElem? (i := 0) rfl)) all0)), A4, (by rw [hvb]; exact own_add hA1 hR0 (by omega)), (fun i hi => (by simp only [hg4, hg2]; (repeat' split) <;> first | rfl | (exfalso; omega) | (exfalso; simp_all; done))), (fun i hi => by rw [hvb]; simp only [hg4]; rw [if_neg (by omega), if_pos (by omega)]; congr 1; omega), (fun i hi => by rw [hvb] at hi; simp only [hg4, hg2]; (repeat' split) <;> first | rfl | (exfalso; omega) | (exfalso; simp_all; done)), (fun q => by first | omega | (simp only [hg4, hg2]; (repeat' split) <;> first | rfl | (exfalso; omega) | (exfalso; simp_all; done))), (fun q => by first | omega | (simp only [hg4, hg2]; (repeat' split) <;> first | rfl | (exfalso; omega) | (exfalso; simp_all; done))), (fun q q2 => by first | omega | (simp only [hg4, hg2]; (repeat' split) <;> first | rfl | (exfalso; omega) | (exfalso; simp_all; done))), (fun q => by first | omega | (refine ⟨?_, ?_⟩ <;> (simp only [hg4, hg2]; (repeat' split) <;> first | rfl | (exfalso; omega) | (exfalso; simp_all; done))))⟩
  · skip
    have hq0 := (not_congr (own_hi _ (by omega))).mp hc1
    refine i_ifF (pc' := 14) X0 hx (hb hby d1_11) rfl (XT.i0_eq_f hc1) ?_
    refine i_aloadN (v := (.ref u)) (pc' := 15) X0 hx (hb hby d1_14) rfl rfl rfl ?_
    refine i_iloadN (v := o) (pc' := 16) X0 hx (hb hby d1_15) rfl rfl ?_
    refine i_iinc (pc' := 19) (L' := #[.val (.ref t), .val (.ref u), .val (.int o), .val (.int (o + (1 : Int32))), .val (.int (Nat.toInt32 N))]) (1 : Int32) X0 hx (hb hby d1_16) rfl (by decide) rfl rfl ?_
    have hA1 := own_i1 hK (by omega)
    refine i_iload (v := (Nat.toInt32 N)) (pc' := 21) X0 hx (hb hby d1_19) rfl rfl ?_
    refine i_bipush (pc' := 23) (127 : Int32) X0 hx (hb hby d1_21) rfl (by decide) ?_
    refine i_iand (pc' := 24) X0 hx (hb hby d1_23) rfl ?_
    refine i_sipush (pc' := 27) (128 : Int32) X0 hx (hb hby d1_24) rfl (by decide) ?_
    refine i_ior (pc' := 28) X0 hx (hb hby d1_27) rfl ?_
    refine i_i2b (pc' := 29) X0 hx (hb hby d1_28) rfl ?_
    refine saB (pc' := 30) X0 hx hZ H1 H2 (own_in (k := K) (M := M) hK (by omega)).1 (own_in (k := K) (M := M) hK (by omega)).2.1 (hb hby d1_29) rfl fun T6 h6 X6 W6 => ?_
    obtain ⟨g6, hg6, hf6, A6⟩ : ∃ g : Nat → Int32, (∀ i, g i = if i = K then ((((Nat.toInt32 N) &&& (127 : Int32)) ||| (128 : Int32)).toInt8.toInt32) else ga i) ∧ (∀ i, fits .byte (.int (g i)) = true) ∧ Av Z h6 u .byte M (fun i => .int (g i)) := ⟨_, fun _ => rfl, own_fup hga, (own_stB (k := K) (g := ga) (own_in (k := K) (M := M) hK (by omega)).2.2 H1 W6)⟩
    refine i_iload (v := (Nat.toInt32 N)) (pc' := 32) X6 hx (hb hby d1_30) rfl rfl ?_
    refine i_bipush (pc' := 34) (7 : Int32) X6 hx (hb hby d1_32) rfl (by decide) ?_
    refine i_iushr (pc' := 35) X6 hx (hb hby d1_34) rfl ?_
    refine i_istore (L' := #[.val (.ref t), .val (.ref u), .val (.int o), .val (.int (o + (1 : Int32))), .val (.int (XT.ushr (Nat.toInt32 N) (7 : Int32)))]) (pc' := 37) X6 hx (hb hby d1_35) rfl rfl ?_
    have hR1 : (XT.ushr (Nat.toInt32 N) (7 : Int32)).toInt = (N : Int) / 128 := by rw [own_us7 _ (by omega), hR0]
    refine i_goto (pc' := 6) X6 hx (hb hby d1_37) (by decide) (by decide) ?_
    refine i_iload (v := (XT.ushr (Nat.toInt32 N) (7 : Int32))) (pc' := 8) X6 hx (hb hby d1_6) rfl rfl ?_
    refine i_bipush (pc' := 10) (-128 : Int32) X6 hx (hb hby d1_8) rfl (by decide) ?_
    refine i_iand (pc' := 11) X6 hx (hb hby d1_10) rfl ?_
    by_cases hc7 : ((XT.ushr (Nat.toInt32 N) (7 : Int32)) &&& (-128 : Int32)) = 0
    · skip
      have hq1 := (own_hi _ (by omega)).mp hc7
      refine i_ifT (pc' := 40) X6 hx (hb hby d1_11) (XT.i0_eq_t hc7) (by decide) (by decide) ?_
      refine i_aloadN (v := (.ref u)) (pc' := 41) X6 hx (hb hby d1_40) rfl rfl rfl ?_
      refine i_iloadN (v := (o + (1 : Int32))) (pc' := 42) X6 hx (hb hby d1_41) rfl rfl ?_
      refine i_iinc (pc' := 45) (L' := #[.val (.ref t), .val (.ref u), .val (.int o), .val (.int ((o + (1 : Int32)) + (1 : Int32))), .val (.int (XT.ushr (Nat.toInt32 N) (7 : Int32)))]) (1 : Int32) X6 hx (hb hby d1_42) rfl (by decide) rfl rfl ?_
      have hA2 := own_i1 hA1 (by omega)
      refine i_iload (v := (XT.ushr (Nat.toInt32 N) (7 : Int32))) (pc' := 47) X6 hx (hb hby d1_45) rfl rfl ?_
      refine i_i2b (pc' := 48) X6 hx (hb hby d1_47) rfl ?_
      refine saB (pc' := 49) X6 hx hZ A6 H2 (own_in (k := (K + 1)) (M := M) hA1 (by omega)).1 (own_in (k := (K + 1)) (M := M) hA1 (by omega)).2.1 (hb hby d1_48) rfl fun T8 h8 X8 W8 => ?_
      obtain ⟨g8, hg8, hf8, A8⟩ : ∃ g : Nat → Int32, (∀ i, g i = if i = (K + 1) then ((XT.ushr (Nat.toInt32 N) (7 : Int32)).toInt8.toInt32) else g6 i) ∧ (∀ i, fits .byte (.int (g i)) = true) ∧ Av Z h8 u .byte M (fun i => .int (g i)) := ⟨_, fun _ => rfl, own_fup hf6, (own_stB (k := (K + 1)) (g := g6) (own_in (k := (K + 1)) (M := M) hA1 (by omega)).2.2 A6 W8)⟩
      refine i_aloadN (v := (.ref t)) (pc' := 50) X8 hx (hb hby d1_49) rfl rfl rfl ?_
      refine i_iconst (pc' := 51) (0 : Int32) X8 hx (hb hby d1_50) rfl (by decide) ?_
      refine i_aloadN (v := (.ref u)) (pc' := 52) X8 hx (hb hby d1_51) rfl rfl rfl ?_
      refine i_iloadN (v := ((o + (1 : Int32)) + (1 : Int32))) (pc' := 53) X8 hx (hb hby d1_52) rfl rfl ?_
      refine i_aloadN (v := (.ref t)) (pc' := 54) X8 hx (hb hby d1_53) rfl rfl rfl ?_
      have F9 : Av Z h8 t .byte N (fun i => .int (gb i)) := ((H0.other W6 H3).other W8 H3)
      refine len (pc' := 55) (Nat.toInt32 N) X8 hx hZ F9 rfl (hb hby d1_54) rfl ?_
      have hI10 := own_in (k := (K + 2)) (M := M) hA2 (by omega)
      have eN10 : (Nat.toInt32 N).toNatClampNeg = N := (own_in (M := N + 1) hR0 (by omega)).2.2
      have eM10 : (Nat.toInt32 M).toNatClampNeg = M := (own_in (M := M + 1) (own_toN (N := M) (by omega)) (by omega)).2.2
      have At10 : Av Z h8 t .byte (Nat.toInt32 N).toNatClampNeg (fun i => .int (gb i)) := by rw [eN10]; exact F9
      have Au10 : Av Z h8 u .byte (Nat.toInt32 M).toNatClampNeg (fun i => .int (g8 i)) := by rw [eM10]; exact A8
      refine own_ac (pc' := 58) 0 X8 hx hZ hown (hw _ (List.mem_of_getElem? (i := 5) rfl)) (hw _ (List.mem_of_getElem? (i := 8) rfl)) (hw _ (List.mem_of_getElem? (i := 6) rfl)) (hw _ (List.mem_of_getElem? (i := 7) rfl)) At10 Au10 (own_in (M := N + 1) hR0 (by omega)).1 (own_in (M := M + 1) (own_toN (N := M) (by omega)) (by omega)).1 hgb hf8 hI10.1 (by rw [hI10.2.2, eN10, eM10]; omega) H2 (by rw [hml]; rfl) (hb hby d1_55) rfl (by decide) (Nat.le_of_eq rfl) (by decide) fun T10 h10 X10 K10c V10 => ?_
      rw [hI10.2.2, eN10, eM10] at V10
      obtain ⟨g10, hg10, A10⟩ : ∃ g : Nat → Int32, (∀ i, g i = if i < (K + 2) then g8 i else if i < (K + 2) + N then gb (i - (K + 2)) else g8 i) ∧ Av Z h10 u .byte M (fun i => .int (g i)) := ⟨fun i => if i < (K + 2) then g8 i else if i < (K + 2) + N then gb (i - (K + 2)) else g8 i, fun _ => rfl, V10.congr fun i _ => own_if3 _ _ _⟩
      refine i_iloadN (v := ((o + (1 : Int32)) + (1 : Int32))) (pc' := 59) X10 hx (hb hby d1_58) rfl rfl ?_
      refine i_aloadN (v := (.ref t)) (pc' := 60) X10 hx (hb hby d1_59) rfl rfl rfl ?_
      have F11 : Av Z h10 t .byte N (fun i => .int (gb i)) := (F9.keep K10c (ninS H3 nin0))
      refine len (pc' := 61) (Nat.toInt32 N) X10 hx hZ F11 rfl (hb hby d1_60) rfl ?_
      refine i_iadd (pc' := 62) X10 hx (hb hby d1_61) rfl ?_
      refine rI X10 hx hlk hret (hb hby d1_62) (by decide) (by decide) ?_
      have hvb : own_vb N = 2 := by unfold own_vb; rw [if_neg (by omega), if_pos (by omega)]
      skip
      exact ⟨(((o + (1 : Int32)) + (1 : Int32)) + (Nat.toInt32 N)), g10, rfl, (((((Keep.refl h0 _).wr W6 (Or.inl (List.mem_of_getElem? (i := 0) rfl))).wr W8 (Or.inl (List.mem_of_getElem? (i := 0) rfl))) : Keep h0 h8 [u]).trans K10c (allS (Or.inl (List.mem_of_getElem? (i := 0) rfl)) all0)), A10, (by rw [hvb]; exact own_add hA2 hR0 (by omega)), (fun i hi => (by simp only [hg10, hg8, hg6]; (repeat' split) <;> first | rfl | (exfalso; omega) | (exfalso; simp_all; done))), (fun i hi => by rw [hvb]; simp only [hg10]; rw [if_neg (by omega), if_pos (by omega)]; congr 1; omega), (fun i hi => by rw [hvb] at hi; simp only [hg10, hg8, hg6]; (repeat' split) <;> first | rfl | (exfalso; omega) | (exfalso; simp_all; done)), (fun q => by first | omega | (simp only [hg10, hg8, hg6]; (repeat' split) <;> first | rfl | (exfalso; omega) | (exfalso; simp_all; done))), (fun q => by first | omega | (simp only [hg10, hg8, hg6]; (repeat' split) <;> first | rfl | (exfalso; omega) | (exfalso; simp_all; done))), (fun q q2 => by first | omega | (simp only [hg10, hg8, hg6]; (repeat' split) <;> first | rfl | (exfalso; omega) | (exfalso; simp_all; done))), (fun q => by first | omega | (refine ⟨?_, ?_⟩ <;> (simp only [hg10, hg8, hg6]; (repeat' split) <;> first | rfl | (exfalso; omega) | (exfalso; simp_all; done))))⟩
    · skip
      have hq1 := (not_congr (own_hi _ (by omega))).mp hc7
      refine i_ifF (pc' := 14) X6 hx (hb hby d1_11) rfl (XT.i0_eq_f hc7) ?_
      refine i_aloadN (v := (.ref u)) (pc' := 15) X6 hx (hb hby d1_14) rfl rfl rfl ?_
      refine i_iloadN (v := (o + (1 : Int32))) (pc' := 16) X6 hx (hb hby d1_15) rfl rfl ?_
      refine i_iinc (pc' := 19) (L' := #[.val (.ref t), .val (.ref u), .val (.int o), .val (.int ((o + (1 : Int32)) + (1 : Int32))), .val (.int (XT.ushr (Nat.toInt32 N) (7 : Int32)))]) (1 : Int32) X6 hx (hb hby d1_16) rfl (by decide) rfl rfl ?_
      have hA2 := own_i1 hA1 (by omega)
      refine i_iload (v := (XT.ushr (Nat.toInt32 N) (7 : Int32))) (pc' := 21) X6 hx (hb hby d1_19) rfl rfl ?_
      refine i_bipush (pc' := 23) (127 : Int32) X6 hx (hb hby d1_21) rfl (by decide) ?_
      refine i_iand (pc' := 24) X6 hx (hb hby d1_23) rfl ?_
      refine i_sipush (pc' := 27) (128 : Int32) X6 hx (hb hby d1_24) rfl (by decide) ?_
      refine i_ior (pc' := 28) X6 hx (hb hby d1_27) rfl ?_
      refine i_i2b (pc' := 29) X6 hx (hb hby d1_28) rfl ?_
      refine saB (pc' := 30) X6 hx hZ A6 H2 (own_in (k := (K + 1)) (M := M) hA1 (by omega)).1 (own_in (k := (K + 1)) (M := M) hA1 (by omega)).2.1 (hb hby d1_29) rfl fun T12 h12 X12 W12 => ?_
      obtain ⟨g12, hg12, hf12, A12⟩ : ∃ g : Nat → Int32, (∀ i, g i = if i = (K + 1) then ((((XT.ushr (Nat.toInt32 N) (7 : Int32)) &&& (127 : Int32)) ||| (128 : Int32)).toInt8.toInt32) else g6 i) ∧ (∀ i, fits .byte (.int (g i)) = true) ∧ Av Z h12 u .byte M (fun i => .int (g i)) := ⟨_, fun _ => rfl, own_fup hf6, (own_stB (k := (K + 1)) (g := g6) (own_in (k := (K + 1)) (M := M) hA1 (by omega)).2.2 A6 W12)⟩
      refine i_iload (v := (XT.ushr (Nat.toInt32 N) (7 : Int32))) (pc' := 32) X12 hx (hb hby d1_30) rfl rfl ?_
      refine i_bipush (pc' := 34) (7 : Int32) X12 hx (hb hby d1_32) rfl (by decide) ?_
      refine i_iushr (pc' := 35) X12 hx (hb hby d1_34) rfl ?_
      refine i_istore (L' := #[.val (.ref t), .val (.ref u), .val (.int o), .val (.int ((o + (1 : Int32)) + (1 : Int32))), .val (.int (XT.ushr (XT.ushr (Nat.toInt32 N) (7 : Int32)) (7 : Int32)))]) (pc' := 37) X12 hx (hb hby d1_35) rfl rfl ?_
      have hR2 : (XT.ushr (XT.ushr (Nat.toInt32 N) (7 : Int32)) (7 : Int32)).toInt = (N : Int) / 128 / 128 := by rw [own_us7 _ (by omega), hR1]
      refine i_goto (pc' := 6) X12 hx (hb hby d1_37) (by decide) (by decide) ?_
      refine i_iload (v := (XT.ushr (XT.ushr (Nat.toInt32 N) (7 : Int32)) (7 : Int32))) (pc' := 8) X12 hx (hb hby d1_6) rfl rfl ?_
      refine i_bipush (pc' := 10) (-128 : Int32) X12 hx (hb hby d1_8) rfl (by decide) ?_
      refine i_iand (pc' := 11) X12 hx (hb hby d1_10) rfl ?_
      refine i_ifT (pc' := 40) X12 hx (hb hby d1_11) (XT.i0_eq_t ((own_hi _ (by omega)).mpr (by omega))) (by decide) (by decide) ?_
      refine i_aloadN (v := (.ref u)) (pc' := 41) X12 hx (hb hby d1_40) rfl rfl rfl ?_
      refine i_iloadN (v := ((o + (1 : Int32)) + (1 : Int32))) (pc' := 42) X12 hx (hb hby d1_41) rfl rfl ?_
      refine i_iinc (pc' := 45) (L' := #[.val (.ref t), .val (.ref u), .val (.int o), .val (.int (((o + (1 : Int32)) + (1 : Int32)) + (1 : Int32))), .val (.int (XT.ushr (XT.ushr (Nat.toInt32 N) (7 : Int32)) (7 : Int32)))]) (1 : Int32) X12 hx (hb hby d1_42) rfl (by decide) rfl rfl ?_
      have hA3 := own_i1 hA2 (by omega)
      refine i_iload (v := (XT.ushr (XT.ushr (Nat.toInt32 N) (7 : Int32)) (7 : Int32))) (pc' := 47) X12 hx (hb hby d1_45) rfl rfl ?_
      refine i_i2b (pc' := 48) X12 hx (hb hby d1_47) rfl ?_
      refine saB (pc' := 49) X12 hx hZ A12 H2 (own_in (k := (K + 2)) (M := M) hA2 (by omega)).1 (own_in (k := (K + 2)) (M := M) hA2 (by omega)).2.1 (hb hby d1_48) rfl fun T13 h13 X13 W13 => ?_
      obtain ⟨g13, hg13, hf13, A13⟩ : ∃ g : Nat → Int32, (∀ i, g i = if i = (K + 2) then ((XT.ushr (XT.ushr (Nat.toInt32 N) (7 : Int32)) (7 : Int32)).toInt8.toInt32) else g12 i) ∧ (∀ i, fits .byte (.int (g i)) = true) ∧ Av Z h13 u .byte M (fun i => .int (g i)) := ⟨_, fun _ => rfl, own_fup hf12, (own_stB (k := (K + 2)) (g := g12) (own_in (k := (K + 2)) (M := M) hA2 (by omega)).2.2 A12 W13)⟩
      refine i_aloadN (v := (.ref t)) (pc' := 50) X13 hx (hb hby d1_49) rfl rfl rfl ?_
      refine i_iconst (pc' := 51) (0 : Int32) X13 hx (hb hby d1_50) rfl (by decide) ?_
      refine i_aloadN (v := (.ref u)) (pc' := 52) X13 hx (hb hby d1_51) rfl rfl rfl ?_
      refine i_iloadN (v := (((o + (1 : Int32)) + (1 : Int32)) + (1 : Int32))) (pc' := 53) X13 hx (hb hby d1_52) rfl rfl ?_
      refine i_aloadN (v := (.ref t)) (pc' := 54) X13 hx (hb hby d1_53) rfl rfl rfl ?_
      have F14 : Av Z h13 t .byte N (fun i => .int (gb i)) := (((H0.other W6 H3).other W12 H3).other W13 H3)
      refine len (pc' := 55) (Nat.toInt32 N) X13 hx hZ F14 rfl (hb hby d1_54) rfl ?_
      have hI15 := own_in (k := (K + 3)) (M := M) hA3 (by omega)
      have eN15 : (Nat.toInt32 N).toNatClampNeg = N := (own_in (M := N + 1) hR0 (by omega)).2.2
      have eM15 : (Nat.toInt32 M).toNatClampNeg = M := (own_in (M := M + 1) (own_toN (N := M) (by omega)) (by omega)).2.2
      have At15 : Av Z h13 t .byte (Nat.toInt32 N).toNatClampNeg (fun i => .int (gb i)) := by rw [eN15]; exact F14
      have Au15 : Av Z h13 u .byte (Nat.toInt32 M).toNatClampNeg (fun i => .int (g13 i)) := by rw [eM15]; exact A13
      refine own_ac (pc' := 58) 0 X13 hx hZ hown (hw _ (List.mem_of_getElem? (i := 5) rfl)) (hw _ (List.mem_of_getElem? (i := 8) rfl)) (hw _ (List.mem_of_getElem? (i := 6) rfl)) (hw _ (List.mem_of_getElem? (i := 7) rfl)) At15 Au15 (own_in (M := N + 1) hR0 (by omega)).1 (own_in (M := M + 1) (own_toN (N := M) (by omega)) (by omega)).1 hgb hf13 hI15.1 (by rw [hI15.2.2, eN15, eM15]; omega) H2 (by rw [hml]; rfl) (hb hby d1_55) rfl (by decide) (Nat.le_of_eq rfl) (by decide) fun T15 h15 X15 K15c V15 => ?_
      rw [hI15.2.2, eN15, eM15] at V15
      obtain ⟨g15, hg15, A15⟩ : ∃ g : Nat → Int32, (∀ i, g i = if i < (K + 3) then g13 i else if i < (K + 3) + N then gb (i - (K + 3)) else g13 i) ∧ Av Z h15 u .byte M (fun i => .int (g i)) := ⟨fun i => if i < (K + 3) then g13 i else if i < (K + 3) + N then gb (i - (K + 3)) else g13 i, fun _ => rfl, V15.congr fun i _ => own_if3 _ _ _⟩
      refine i_iloadN (v := (((o + (1 : Int32)) + (1 : Int32)) + (1 : Int32))) (pc' := 59) X15 hx (hb hby d1_58) rfl rfl ?_
      refine i_aloadN (v := (.ref t)) (pc' := 60) X15 hx (hb hby d1_59) rfl rfl rfl ?_
      have F16 : Av Z h15 t .byte N (fun i => .int (gb i)) := (F14.keep K15c (ninS H3 nin0))
      refine len (pc' := 61) (Nat.toInt32 N) X15 hx hZ F16 rfl (hb hby d1_60) rfl ?_
      refine i_iadd (pc' := 62) X15 hx (hb hby d1_61) rfl ?_
      refine rI X15 hx hlk hret (hb hby d1_62) (by decide) (by decide) ?_
      have hvb : own_vb N = 3 := by unfold own_vb; rw [if_neg (by omega), if_neg (by omega)]
      skip
      exact ⟨((((o + (1 : Int32)) + (1 : Int32)) + (1 : Int32)) + (Nat.toInt32 N)), g15, rfl, ((((((Keep.refl h0 _).wr W6 (Or.inl (List.mem_of_getElem? (i := 0) rfl))).wr W12 (Or.inl (List.mem_of_getElem? (i := 0) rfl))).wr W13 (Or.inl (List.mem_of_getElem? (i := 0) rfl))) : Keep h0 h13 [u]).trans K15c (allS (Or.inl (List.mem_of_getElem? (i := 0) rfl)) all0)), A15, (by rw [hvb]; exact own_add hA3 hR0 (by omega)), (fun i hi => (by simp only [hg15, hg13, hg12, hg6]; (repeat' split) <;> first | rfl | (exfalso; omega) | (exfalso; simp_all; done))), (fun i hi => by rw [hvb]; simp only [hg15]; rw [if_neg (by omega), if_pos (by omega)]; congr 1; omega), (fun i hi => by rw [hvb] at hi; simp only [hg15, hg13, hg12, hg6]; (repeat' split) <;> first | rfl | (exfalso; omega) | (exfalso; simp_all; done)), (fun q => by first | omega | (simp only [hg15, hg13, hg12, hg6]; (repeat' split) <;> first | rfl | (exfalso; omega) | (exfalso; simp_all; done))), (fun q => by first | omega | (simp only [hg15, hg13, hg12, hg6]; (repeat' split) <;> first | rfl | (exfalso; omega) | (exfalso; simp_all; done))), (fun q q2 => by first | omega | (simp only [hg15, hg13, hg12, hg6]; (repeat' split) <;> first | rfl | (exfalso; omega) | (exfalso; simp_all; done))), (fun q => by first | omega | (refine ⟨?_, ?_⟩ <;> (simp only [hg15, hg13, hg12, hg6]; (repeat' split) <;> first | rfl | (exfalso; omega) | (exfalso; simp_all; done))))⟩
theorem own_n {s r n : Int32} (h : n = (if s = 0 then (r &&& (127 : Int32)) else (if s = (1 : Int32) then (r &&& (16383 : Int32)) else (r &&& (32767 : Int32))))) : 0 ≤ n.toInt ∧ n.toInt ≤ 32767 := by
  have a := c_and r 127 (by decide)
  have b := c_and r 16383 (by decide)
  have c := c_and r 32767 (by decide)
  have c1 : (127 : Int32).toInt = 127 := by decide
  have c2 : (16383 : Int32).toInt = 16383 := by decide
  have c3 : (32767 : Int32).toInt = 32767 := by decide
  rw [h]
  split
  · omega
  · split <;> omega
theorem own_o3 (x : Int32) : ∃ k : Nat, (x &&& (3 : Int32)).toInt = (k : Int) ∧ k ≤ 3 := by
  have a := c_and x 3 (by decide)
  have c : (3 : Int32).toInt = 3 := by decide
  exact ⟨(x &&& (3 : Int32)).toInt.toNat, by omega, by omega⟩
theorem own_s1 {a : Int32} {k : Nat} (h : a.toInt = (k : Int)) (hk : 0 < k) (hk2 : k < 1000000) : (a - (1 : Int32)).toInt = ((k - 1 : Nat) : Int) := by
  have c : (1 : Int32).toInt = 1 := by decide
  rw [XT.sub32 (by unfold XT.fits32; omega), h, c]; omega
theorem own_kr (x n : Int32) (h : 0 < n.toInt) : 0 ≤ ((x &&& (2147483647 : Int32)) % n).toInt ∧ ((x &&& (2147483647 : Int32)) % n).toInt < n.toInt := by
  have a := c_and x 2147483647 (by decide)
  have b := (c_iremV (x &&& 2147483647) n).1 a.1 h
  exact ⟨b.1, b.2.1⟩
theorem own_nz {n : Int32} (h : (0 : Int32) < n) : n ≠ 0 := fun q => by rw [q, own_lt] at h; omega
theorem own_l4 : (4 : Int32).toInt = ((4 : Nat) : Int) ∧ (1 : Int32).toInt = ((1 : Nat) : Int) ∧ (2 : Int32).toInt = ((2 : Nat) : Int) ∧ (3 : Int32).toInt = ((3 : Nat) : Int) ∧ (128 : Int32).toInt = 128 ∧ (16384 : Int32).toInt = 16384 := by decide
theorem pn1 : plainName "com/example/rangewright/rangewright/storage/CodecPutBytesPinLaw" = true := by first | (simp [plainName, overriddenIn]; done) | decide +kernel
theorem ef_rm0 (m : MethodId) (p1 : Int32) (p2 : Int32) (p3 : Int32) (p4 : Int32) (p5 : Int32) (p6 : Int32) : entryFrame m #[(.int p1), (.int p2), (.int p3), (.int p4), (.int p5), (.int p6)] maxLocals = mkF m 0 #[.val (.int p1), .val (.int p2), .val (.int p3), .val (.int p4), .val (.int p5), .val (.int p6), .unset, .unset, .unset, .unset, .unset, .unset, .unset, .unset, .unset, .unset, .unset, .unset] [] := by first | (simp [entryFrame, mkF, argsToLocals, Value.category, maxLocals]; done) | rfl
abbrev Q0 : Option Value → Heap → Prop := fun v _ => v = some (.int 1)
theorem pd0 : parseMethodDescriptor "([B[BI)I" = some ⟨[(.array .byte), (.array .byte), .int], some .int⟩ := by decide +kernel
set_option maxRecDepth 65536 in
set_option maxHeartbeats 40000000 in
theorem rm0 (l : Launch) (Z : State) (a0 : Array Value) (hw : ∀ d ∈ tables_1, d.before a0 Z = true) (ws : List Jvm.Cond) (p1 : Int32) (p2 : Int32) (p3 : Int32) (p4 : Int32) (p5 : Int32) (p6 : Int32) (n0 : Nat) (h0 : Heap) (hn : n0 ≤ h0.size)   :
    Con l Z x code maxLocals ret ws room_1 #[(.int p1), (.int p2), (.int p3), (.int p4), (.int p5), (.int p6)] h0 n0 Q0 := by
  refine body (y := x) (Ls := #[.val (.int p1), .val (.int p2), .val (.int p3), .val (.int p4), .val (.int p5), .val (.int p6), .unset, .unset, .unset, .unset, .unset, .unset, .unset, .unset, .unset, .unset, .unset, .unset]) (plainFor_of_name pn1) hn (fun m => ef_rm0 m p1 p2 p3 p4 p5 p6) ?_
  intro p e s m below meth c T0 hx hby hml hown hnm hret hlk hZ X0
  replace hown : s.vm.findClass "com/example/rangewright/rangewright/storage/CodecPutBytesPinLaw" = some m.cls := hown
  replace hml : c.maxLocals = 18 := hml
  replace hret : meth.sig.returnType = (some .boolean) := hret
  refine i_iloadN (v := p1) (pc' := 1) X0 hx (hb hby at_0) rfl rfl ?_
  refine i_iconst (pc' := 2) (3 : Int32) X0 hx (hb hby at_1) rfl (by decide) ?_
  refine i_iand (pc' := 3) X0 hx (hb hby at_2) rfl ?_
  obtain ⟨v1, hv1⟩ : ∃ zz : Int32, zz = (p1 &&& (3 : Int32)) := ⟨_, rfl⟩
  rw [← hv1]
  refine i_istore (L' := #[.val (.int p1), .val (.int p2), .val (.int p3), .val (.int p4), .val (.int p5), .val (.int p6), .val (.int v1), .unset, .unset, .unset, .unset, .unset, .unset, .unset, .unset, .unset, .unset, .unset]) (pc' := 5) X0 hx (hb hby at_3) rfl rfl ?_
  refine i_iloadN (v := p1) (pc' := 6) X0 hx (hb hby at_5) rfl rfl ?_
  refine i_iconst (pc' := 7) (2 : Int32) X0 hx (hb hby at_6) rfl (by decide) ?_
  refine i_iushr (pc' := 8) X0 hx (hb hby at_7) rfl ?_
  obtain ⟨v2, hv2⟩ : ∃ zz : Int32, zz = (XT.ushr p1 (2 : Int32)) := ⟨_, rfl⟩
  rw [← hv2]
  refine i_istore (L' := #[.val (.int p1), .val (.int p2), .val (.int p3), .val (.int p4), .val (.int p5), .val (.int p6), .val (.int v1), .val (.int v2), .unset, .unset, .unset, .unset, .unset, .unset, .unset, .unset, .unset, .unset]) (pc' := 10) X0 hx (hb hby at_8) rfl rfl ?_
  refine i_iload (v := v1) (pc' := 12) X0 hx (hb hby at_10) rfl rfl ?_
  obtain ⟨v3, hv3⟩ : ∃ zz : Int32, zz = (if v1 = 0 then (v2 &&& (127 : Int32)) else (if v1 = (1 : Int32) then (v2 &&& (16383 : Int32)) else (v2 &&& (32767 : Int32)))) := ⟨_, rfl⟩
  have J4 : ∀ (T : State), Pn p l e room_1 s m #[(.int p1), (.int p2), (.int p3), (.int p4), (.int p5), (.int p6)] below meth c T h0 n0 0 0 → Go p e s below n0 Q0 room_1 T (mkF m 44 #[.val (.int p1), .val (.int p2), .val (.int p3), .val (.int p4), .val (.int p5), .val (.int p6), .val (.int v1), .val (.int v2), .unset, .unset, .unset, .unset, .unset, .unset, .unset, .unset, .unset, .unset] [(.int v3)]) := by
    intro T4 X4
    refine i_istore (L' := #[.val (.int p1), .val (.int p2), .val (.int p3), .val (.int p4), .val (.int p5), .val (.int p6), .val (.int v1), .val (.int v2), .val (.int v3), .unset, .unset, .unset, .unset, .unset, .unset, .unset, .unset, .unset]) (pc' := 46) X4 hx (hb hby at_44) rfl rfl ?_
    refine i_iloadN (v := p2) (pc' := 47) X4 hx (hb hby at_46) rfl rfl ?_
    refine i_iconst (pc' := 48) (3 : Int32) X4 hx (hb hby at_47) rfl (by decide) ?_
    refine i_iand (pc' := 49) X4 hx (hb hby at_48) rfl ?_
    obtain ⟨v5, hv5⟩ : ∃ zz : Int32, zz = (p2 &&& (3 : Int32)) := ⟨_, rfl⟩
    rw [← hv5]
    refine i_istore (L' := #[.val (.int p1), .val (.int p2), .val (.int p3), .val (.int p4), .val (.int p5), .val (.int p6), .val (.int v1), .val (.int v2), .val (.int v3), .val (.int v5), .unset, .unset, .unset, .unset, .unset, .unset, .unset, .unset]) (pc' := 51) X4 hx (hb hby at_49) rfl rfl ?_
    have hn := own_n hv3
    obtain ⟨K, ho, hK3⟩ : ∃ k : Nat, v5.toInt = (k : Int) ∧ k ≤ 3 := by rw [hv5]; exact own_o3 _
    obtain ⟨N, eN⟩ : ∃ N : Nat, N = v3.toNatClampNeg := ⟨_, rfl⟩
    have hNn : v3.toInt = (N : Int) := by rw [eN]; exact (own_nat hn.1).symm
    have nneg : ¬ v3 < 0 := by rw [own_lt, own_z]; omega
    have eNn : Nat.toInt32 N = v3 := by rw [eN]; exact (back32 nneg).1
    have l4 := own_l4
    refine i_iload (v := v3) (pc' := 53) X4 hx (hb hby at_51) rfl rfl ?_
    refine na (aty := .byte) (pc' := 55) 32767 X4 hx hZ (hw _ (List.mem_of_getElem? (i := 0) rfl)) (hb hby at_53) rfl nneg (by omega) (by decide) (by decide) (by decide) fun T6 h6 b6 X6 g6 ge6 E6 V6 => ?_
    have sz_b6 : h0.size ≤ b6 := Nat.le_trans ((Keep.refl h0 _) : Keep h0 h0 []).1 (Nat.le_of_eq g6.symm)
    have K6 : Keep h0 h6 [] := ((Keep.refl h0 _) : Keep h0 h0 []).ext E6
    have A6 : Av Z h6 b6 .byte N (fun _ => .int 0) := (by rw [eN]; exact V6)
    refine i_astore (L' := #[.val (.int p1), .val (.int p2), .val (.int p3), .val (.int p4), .val (.int p5), .val (.int p6), .val (.int v1), .val (.int v2), .val (.int v3), .val (.int v5), .val (.ref b6), .unset, .unset, .unset, .unset, .unset, .unset, .unset]) (pc' := 57) X6 hx (hb hby at_55) rfl rfl rfl ?_
    refine i_iconst (pc' := 58) (0 : Int32) X6 hx (hb hby at_57) rfl (by decide) ?_
    refine i_istore (L' := #[.val (.int p1), .val (.int p2), .val (.int p3), .val (.int p4), .val (.int p5), .val (.int p6), .val (.int v1), .val (.int v2), .val (.int v3), .val (.int v5), .val (.ref b6), .val (.int (0 : Int32)), .unset, .unset, .unset, .unset, .unset, .unset]) (pc' := 60) X6 hx (hb hby at_58) rfl rfl ?_
    have J7 : ∀ (T7 : State) (h7 : Heap) (kx : Int32) (gb : Nat → Int32), Pn p l e room_1 s m #[(.int p1), (.int p2), (.int p3), (.int p4), (.int p5), (.int p6)] below meth c T7 h7 n0 1 32767 → Keep h0 h7 [] → Av Z h7 b6 .byte N (fun i => .int (gb i)) → (∀ i, fits .byte (.int (gb i)) = true) → (0 < N → 0 ≤ kx.toInt ∧ kx.toInt < (N : Int)) → Go p e s below n0 Q0 room_1 T7 (mkF m 98 #[.val (.int p1), .val (.int p2), .val (.int p3), .val (.int p4), .val (.int p5), .val (.int p6), .val (.int v1), .val (.int v2), .val (.int v3), .val (.int v5), .val (.ref b6), .val (.int kx), .unset, .unset, .unset, .unset, .unset, .unset] []) := by
      intro T7 h7 kx gb  X7 K7 G7_0 hgb hkx
      obtain ⟨X, hX⟩ : ∃ X : Nat, 0 < N → kx.toInt = (X : Int) ∧ X < N := ⟨kx.toInt.toNat, fun q => by have u := hkx q; omega⟩
      refine i_iload (v := v3) (pc' := 100) X7 hx (hb hby at_98) rfl rfl ?_
      refine i_sipush (pc' := 103) (128 : Int32) X7 hx (hb hby at_100) rfl (by decide) ?_
      by_cases hc8 : v3 < (128 : Int32)
      · skip
        refine i_icF (pc' := 106) X7 hx (hb hby at_103) rfl (XT.ii_ge_f hc8) ?_
        refine i_iconst (pc' := 107) (1 : Int32) X7 hx (hb hby at_106) rfl (by decide) ?_
        refine i_goto (pc' := 123) X7 hx (hb hby at_107) (by decide) (by decide) ?_
        refine i_istore (L' := #[.val (.int p1), .val (.int p2), .val (.int p3), .val (.int p4), .val (.int p5), .val (.int p6), .val (.int v1), .val (.int v2), .val (.int v3), .val (.int v5), .val (.ref b6), .val (.int kx), .val (.int (1 : Int32)), .unset, .unset, .unset, .unset, .unset]) (pc' := 125) X7 hx (hb hby at_123) rfl rfl ?_
        refine i_iload (v := v5) (pc' := 127) X7 hx (hb hby at_125) rfl rfl ?_
        refine i_iload (v := (1 : Int32)) (pc' := 129) X7 hx (hb hby at_127) rfl rfl ?_
        refine i_iadd (pc' := 130) X7 hx (hb hby at_129) rfl ?_
        refine i_iload (v := v3) (pc' := 132) X7 hx (hb hby at_130) rfl rfl ?_
        refine i_iadd (pc' := 133) X7 hx (hb hby at_132) rfl ?_
        obtain ⟨v9, hv9⟩ : ∃ zz : Int32, zz = ((v5 + (1 : Int32)) + v3) := ⟨_, rfl⟩
        rw [← hv9]
        refine i_istore (L' := #[.val (.int p1), .val (.int p2), .val (.int p3), .val (.int p4), .val (.int p5), .val (.int p6), .val (.int v1), .val (.int v2), .val (.int v3), .val (.int v5), .val (.ref b6), .val (.int kx), .val (.int (1 : Int32)), .val (.int v9), .unset, .unset, .unset, .unset]) (pc' := 135) X7 hx (hb hby at_133) rfl rfl ?_
        have hE : v9.toInt = ((K + 1 + N : Nat) : Int) := by rw [hv9]; exact own_add (own_add ho (n := 1) (by decide) (by omega)) hNn (by omega)
        have hb0 := (own_lt _ _).mp hc8
        have hvb : own_vb N = 1 := by unfold own_vb; rw [if_pos (by omega)]
        refine i_iload (v := v5) (pc' := 137) X7 hx (hb hby at_135) rfl rfl ?_
        refine i_iload (v := v3) (pc' := 139) X7 hx (hb hby at_137) rfl rfl ?_
        refine i_iadd (pc' := 140) X7 hx (hb hby at_139) rfl ?_
        refine i_iconst (pc' := 141) (4 : Int32) X7 hx (hb hby at_140) rfl (by decide) ?_
        refine i_iadd (pc' := 142) X7 hx (hb hby at_141) rfl ?_
        refine na (aty := .byte) (pc' := 144) 32774 X7 hx hZ (hw _ (List.mem_of_getElem? (i := 0) rfl)) (hb hby at_142) rfl (own_in (M := K + N + 5) (own_add (own_add ho hNn (by omega)) (n := 4) (by decide) (by omega)) (by omega)).1 (by rw [(own_in (M := K + N + 5) (own_add (own_add ho hNn (by omega)) (n := 4) (by decide) (by omega)) (by omega)).2.2]; omega) (by decide) (by decide) (by decide) fun T10 h10 b10 X10 g10 ge10 E10 V10 => ?_
        have ne_b6_b10 : b6 ≠ b10 := Nat.ne_of_lt (Nat.lt_of_lt_of_eq G7_0.lt g10.symm)
        have sz_b10 : h0.size ≤ b10 := Nat.le_trans (K7 : Keep h0 h7 []).1 (Nat.le_of_eq g10.symm)
        have K10 : Keep h0 h10 [] := (K7 : Keep h0 h7 []).ext E10
        have A10 : Av Z h10 b10 .byte (K + N + 4) (fun _ => .int 0) := (by have q := V10; rw [(own_in (M := K + N + 5) (own_add (own_add ho hNn (by omega)) (n := 4) (by decide) (by omega)) (by omega)).2.2] at q; exact q)
        refine i_astore (L' := #[.val (.int p1), .val (.int p2), .val (.int p3), .val (.int p4), .val (.int p5), .val (.int p6), .val (.int v1), .val (.int v2), .val (.int v3), .val (.int v5), .val (.ref b6), .val (.int kx), .val (.int (1 : Int32)), .val (.int v9), .val (.ref b10), .unset, .unset, .unset]) (pc' := 146) X10 hx (hb hby at_144) rfl rfl rfl ?_
        refine i_iload (v := p6) (pc' := 148) X10 hx (hb hby at_146) rfl rfl ?_
        refine i_i2b (pc' := 149) X10 hx (hb hby at_148) rfl ?_
        refine i_istore (L' := #[.val (.int p1), .val (.int p2), .val (.int p3), .val (.int p4), .val (.int p5), .val (.int p6), .val (.int v1), .val (.int v2), .val (.int v3), .val (.int v5), .val (.ref b6), .val (.int kx), .val (.int (1 : Int32)), .val (.int v9), .val (.ref b10), .val (.int (p6.toInt8.toInt32)), .unset, .unset]) (pc' := 151) X10 hx (hb hby at_149) rfl rfl ?_
        refine i_aload (v := (.ref b10)) (pc' := 153) X10 hx (hb hby at_151) rfl rfl rfl ?_
        refine i_iload (v := v9) (pc' := 155) X10 hx (hb hby at_153) rfl rfl ?_
        refine i_iload (v := (p6.toInt8.toInt32)) (pc' := 157) X10 hx (hb hby at_155) rfl rfl ?_
        refine saB (pc' := 158) X10 hx hZ A10 ge10 (own_in (k := (K + 1 + N)) (M := (K + N + 4)) hE (by omega)).1 (own_in (k := (K + 1 + N)) (M := (K + N + 4)) hE (by omega)).2.1 (hb hby at_157) rfl fun T11 h11 X11 W11 => ?_
        obtain ⟨g11, hg11, hf11, A11⟩ : ∃ g : Nat → Int32, (∀ i, g i = if i = (K + 1 + N) then (p6.toInt8.toInt32) else (fun _ => (0 : Int32)) i) ∧ (∀ i, fits .byte (.int (g i)) = true) ∧ Av Z h11 b10 .byte (K + N + 4) (fun i => .int (g i)) := ⟨_, fun _ => rfl, own_fup (fun _ => own_f0), (own_stB (k := (K + 1 + N)) (g := (fun _ => (0 : Int32))) (own_in (k := (K + 1 + N)) (M := (K + N + 4)) hE (by omega)).2.2 A10 W11)⟩
        have J12 : ∀ (T12 : State) (h12 : Heap) (ga : Nat → Int32), Pn p l e room_1 s m #[(.int p1), (.int p2), (.int p3), (.int p4), (.int p5), (.int p6)] below meth c T12 h12 n0 2 65541 → Keep h0 h12 [] → Av Z h12 b6 .byte N (fun i => .int (gb i)) → Av Z h12 b10 .byte (K + N + 4) (fun i => .int (ga i)) → (∀ i, fits .byte (.int (ga i)) = true) → ga (K + 1 + N) = (p6.toInt8.toInt32) → (0 < K → ga (K - 1) = (p6.toInt8.toInt32)) → Go p e s below n0 Q0 room_1 T12 (mkF m 172 #[.val (.int p1), .val (.int p2), .val (.int p3), .val (.int p4), .val (.int p5), .val (.int p6), .val (.int v1), .val (.int v2), .val (.int v3), .val (.int v5), .val (.ref b6), .val (.int kx), .val (.int (1 : Int32)), .val (.int v9), .val (.ref b10), .val (.int (p6.toInt8.toInt32)), .unset, .unset] []) := by
          intro T12 h12 ga  X12 K12 G12_0 G12_1 hga hs1 hs2
          refine i_aload (v := (.ref b6)) (pc' := 174) X12 hx (hb hby at_172) rfl rfl rfl ?_
          refine i_aload (v := (.ref b10)) (pc' := 176) X12 hx (hb hby at_174) rfl rfl rfl ?_
          refine i_iload (v := v5) (pc' := 178) X12 hx (hb hby at_176) rfl rfl ?_
          refine cS (y := (⟨"com/example/rangewright/rangewright/storage/Codec", "putBytes", "([B[BI)I"⟩ : MethodName)) (rest := []) (pc' := 181) 0 [(.ref b6), (.ref b10), (.int v5)] X12 hx hZ hown (hw _ (List.mem_of_getElem? (i := 1) rfl)) (hw _ (List.mem_of_getElem? (i := 2) rfl)) (hw _ (List.mem_of_getElem? (i := 3) rfl)) (hw _ (List.mem_of_getElem? (i := 4) rfl)) (by decide) (rm1 l Z a0 hw [] b6 b10 v5 N (K + N + 4) K gb ga n0 h12 X12.le G12_0 G12_1 ge10 ne_b6_b10 (by omega) ho hK3 rfl hgb hga) (by decide) (by decide) (by rw [hml]; rfl) rfl (lenOf pd0 rfl) rfl (Nat.le_of_eq rfl) (hb hby at_178) rfl (by decide) (by decide) ?_
          intro r13 T13 h13 X13 q13
          obtain ⟨r13, ga'13, rfl, K13c, P13_0, p13_0, p13_1, p13_2, p13_3, p13_4, p13_5, p13_6, p13_7⟩ := q13
          show Go _ _ _ _ _ _ _ T13 (mkF m 181 #[.val (.int p1), .val (.int p2), .val (.int p3), .val (.int p4), .val (.int p5), .val (.int p6), .val (.int v1), .val (.int v2), .val (.int v3), .val (.int v5), .val (.ref b6), .val (.int kx), .val (.int (1 : Int32)), .val (.int v9), .val (.ref b10), .val (.int (p6.toInt8.toInt32)), .unset, .unset] [(.int r13)])
          have Yq0 := p13_0
          have Yq1 := p13_1
          have Yq2 := p13_2
          have Yq3 := p13_3
          have Yq4 := p13_4
          have Yq5 := p13_5
          have Yq6 := p13_6
          have Yq7 := p13_7
          refine i_istore (L' := #[.val (.int p1), .val (.int p2), .val (.int p3), .val (.int p4), .val (.int p5), .val (.int p6), .val (.int v1), .val (.int v2), .val (.int v3), .val (.int v5), .val (.ref b6), .val (.int kx), .val (.int (1 : Int32)), .val (.int v9), .val (.ref b10), .val (.int (p6.toInt8.toInt32)), .val (.int r13), .unset]) (pc' := 183) X13 hx (hb hby at_181) rfl rfl ?_
          refine i_iload (v := r13) (pc' := 185) X13 hx (hb hby at_183) rfl rfl ?_
          refine i_iload (v := v9) (pc' := 187) X13 hx (hb hby at_185) rfl rfl ?_
          refine i_icT (pc' := 192) X13 hx (hb hby at_187) (XT.ii_eq_t (Int32.toInt_inj.mp (by rw [Yq0, hvb, hE]))) (by decide) (by decide) ?_
          refine i_aload (v := (.ref b10)) (pc' := 194) X13 hx (hb hby at_192) rfl rfl rfl ?_
          refine i_iload (v := v9) (pc' := 196) X13 hx (hb hby at_194) rfl rfl ?_
          refine ldB (v := (.int (ga'13 (K + 1 + N)))) (pc' := 197) X13 hx hZ P13_0 (own_in (k := (K + 1 + N)) (M := (K + N + 4)) hE (by omega)).1 (own_in (k := (K + 1 + N)) (M := (K + N + 4)) hE (by omega)).2.1 (congrArg (fun i => Value.int (ga'13 i)) (own_in (k := (K + 1 + N)) (M := (K + N + 4)) hE (by omega)).2.2) (hb hby at_196) rfl ?_
          refine i_iload (v := (p6.toInt8.toInt32)) (pc' := 199) X13 hx (hb hby at_197) rfl rfl ?_
          refine i_icT (pc' := 204) X13 hx (hb hby at_199) (XT.ii_eq_t ((Yq3 _ (by omega)).trans hs1)) (by decide) (by decide) ?_
          refine i_iload (v := v5) (pc' := 206) X13 hx (hb hby at_204) rfl rfl ?_
          by_cases hc14 : 0 < v5
          · skip
            have hko206 := (own_lt _ _).mp hc14
            rw [own_z] at hko206
            refine i_ifF (pc' := 209) X13 hx (hb hby at_206) rfl (XT.i0_le_f hc14) ?_
            refine i_aload (v := (.ref b10)) (pc' := 211) X13 hx (hb hby at_209) rfl rfl rfl ?_
            refine i_iload (v := v5) (pc' := 213) X13 hx (hb hby at_211) rfl rfl ?_
            refine i_iconst (pc' := 214) (1 : Int32) X13 hx (hb hby at_213) rfl (by decide) ?_
            refine i_isub (pc' := 215) X13 hx (hb hby at_214) rfl ?_
            refine ldB (v := (.int (ga'13 (K - 1)))) (pc' := 216) X13 hx hZ P13_0 (own_in (k := (K - 1)) (M := (K + N + 4)) (own_s1 ho (by omega) (by omega)) (by omega)).1 (own_in (k := (K - 1)) (M := (K + N + 4)) (own_s1 ho (by omega) (by omega)) (by omega)).2.1 (congrArg (fun i => Value.int (ga'13 i)) (own_in (k := (K - 1)) (M := (K + N + 4)) (own_s1 ho (by omega) (by omega)) (by omega)).2.2) (hb hby at_215) rfl ?_
            refine i_iload (v := (p6.toInt8.toInt32)) (pc' := 218) X13 hx (hb hby at_216) rfl rfl ?_
            refine i_icT (pc' := 223) X13 hx (hb hby at_218) (XT.ii_eq_t ((Yq1 _ (by omega)).trans (hs2 (by omega)))) (by decide) (by decide) ?_
            refine i_iload (v := (1 : Int32)) (pc' := 225) X13 hx (hb hby at_223) rfl rfl ?_
            refine i_iconst (pc' := 226) (1 : Int32) X13 hx (hb hby at_225) rfl (by decide) ?_
            refine i_icF (pc' := 229) X13 hx (hb hby at_226) rfl (XT.ii_ne_f (by decide)) ?_
            refine i_aload (v := (.ref b10)) (pc' := 231) X13 hx (hb hby at_229) rfl rfl rfl ?_
            refine i_iload (v := v5) (pc' := 233) X13 hx (hb hby at_231) rfl rfl ?_
            refine ldB (v := (.int (ga'13 K))) (pc' := 234) X13 hx hZ P13_0 (own_in (k := K) (M := (K + N + 4)) ho (by omega)).1 (own_in (k := K) (M := (K + N + 4)) ho (by omega)).2.1 (congrArg (fun i => Value.int (ga'13 i)) (own_in (k := K) (M := (K + N + 4)) ho (by omega)).2.2) (hb hby at_233) rfl ?_
            refine i_iload (v := v3) (pc' := 236) X13 hx (hb hby at_234) rfl rfl ?_
            refine i_i2b (pc' := 237) X13 hx (hb hby at_236) rfl ?_
            refine i_icT (pc' := 329) X13 hx (hb hby at_237) (XT.ii_eq_t (by rw [Yq4 (by omega), eNn])) (by decide) (by decide) ?_
            refine i_iload (v := v5) (pc' := 331) X13 hx (hb hby at_329) rfl rfl ?_
            refine i_iload (v := (1 : Int32)) (pc' := 333) X13 hx (hb hby at_331) rfl rfl ?_
            refine i_iadd (pc' := 334) X13 hx (hb hby at_333) rfl ?_
            obtain ⟨v15, hv15⟩ : ∃ zz : Int32, zz = (v5 + (1 : Int32)) := ⟨_, rfl⟩
            rw [← hv15]
            refine i_istore (L' := #[.val (.int p1), .val (.int p2), .val (.int p3), .val (.int p4), .val (.int p5), .val (.int p6), .val (.int v1), .val (.int v2), .val (.int v3), .val (.int v5), .val (.ref b6), .val (.int kx), .val (.int (1 : Int32)), .val (.int v9), .val (.ref b10), .val (.int (p6.toInt8.toInt32)), .val (.int r13), .val (.int v15)]) (pc' := 336) X13 hx (hb hby at_334) rfl rfl ?_
            have hS : v15.toInt = ((K + 1 : Nat) : Int) := by rw [hv15]; exact own_add ho (n := 1) (by decide) (by omega)
            refine i_iload (v := v3) (pc' := 338) X13 hx (hb hby at_336) rfl rfl ?_
            by_cases hc16 : 0 < v3
            · skip
              have hkn := (own_lt _ _).mp hc16
              rw [own_z] at hkn
              have hXx := hX (by omega)
              refine i_ifF (pc' := 341) X13 hx (hb hby at_338) rfl (XT.i0_le_f hc16) ?_
              refine i_aload (v := (.ref b10)) (pc' := 343) X13 hx (hb hby at_341) rfl rfl rfl ?_
              refine i_iload (v := v15) (pc' := 345) X13 hx (hb hby at_343) rfl rfl ?_
              refine ldB (v := (.int (ga'13 (K + 1)))) (pc' := 346) X13 hx hZ P13_0 (own_in (k := (K + 1)) (M := (K + N + 4)) hS (by omega)).1 (own_in (k := (K + 1)) (M := (K + N + 4)) hS (by omega)).2.1 (congrArg (fun i => Value.int (ga'13 i)) (own_in (k := (K + 1)) (M := (K + N + 4)) hS (by omega)).2.2) (hb hby at_345) rfl ?_
              refine i_aload (v := (.ref b6)) (pc' := 348) X13 hx (hb hby at_346) rfl rfl rfl ?_
              refine i_iconst (pc' := 349) (0 : Int32) X13 hx (hb hby at_348) rfl (by decide) ?_
              have F17 : Av Z h13 b6 .byte N (fun i => .int (gb i)) := (G12_0.keep K13c (ninS ne_b6_b10 nin0))
              refine ldB (v := (.int (gb 0))) (pc' := 350) X13 hx hZ F17 (own_in (k := 0) (M := N) (by decide) (by omega)).1 (own_in (k := 0) (M := N) (by decide) (by omega)).2.1 (congrArg (fun i => Value.int (gb i)) (own_in (k := 0) (M := N) (by decide) (by omega)).2.2) (hb hby at_349) rfl ?_
              refine i_icT (pc' := 355) X13 hx (hb hby at_350) (XT.ii_eq_t (by have q := Yq2 0 (by omega); rw [hvb] at q; exact q)) (by decide) (by decide) ?_
              refine i_aload (v := (.ref b10)) (pc' := 357) X13 hx (hb hby at_355) rfl rfl rfl ?_
              refine i_iload (v := v15) (pc' := 359) X13 hx (hb hby at_357) rfl rfl ?_
              refine i_iload (v := v3) (pc' := 361) X13 hx (hb hby at_359) rfl rfl ?_
              refine i_iadd (pc' := 362) X13 hx (hb hby at_361) rfl ?_
              refine i_iconst (pc' := 363) (1 : Int32) X13 hx (hb hby at_362) rfl (by decide) ?_
              refine i_isub (pc' := 364) X13 hx (hb hby at_363) rfl ?_
              refine ldB (v := (.int (ga'13 (K + 1 + N - 1)))) (pc' := 365) X13 hx hZ P13_0 (own_in (k := (K + 1 + N - 1)) (M := (K + N + 4)) (own_s1 (own_add hS hNn (by omega)) (by omega) (by omega)) (by omega)).1 (own_in (k := (K + 1 + N - 1)) (M := (K + N + 4)) (own_s1 (own_add hS hNn (by omega)) (by omega) (by omega)) (by omega)).2.1 (congrArg (fun i => Value.int (ga'13 i)) (own_in (k := (K + 1 + N - 1)) (M := (K + N + 4)) (own_s1 (own_add hS hNn (by omega)) (by omega) (by omega)) (by omega)).2.2) (hb hby at_364) rfl ?_
              refine i_aload (v := (.ref b6)) (pc' := 367) X13 hx (hb hby at_365) rfl rfl rfl ?_
              refine i_iload (v := v3) (pc' := 369) X13 hx (hb hby at_367) rfl rfl ?_
              refine i_iconst (pc' := 370) (1 : Int32) X13 hx (hb hby at_369) rfl (by decide) ?_
              refine i_isub (pc' := 371) X13 hx (hb hby at_370) rfl ?_
              refine ldB (v := (.int (gb (N - 1)))) (pc' := 372) X13 hx hZ F17 (own_in (k := (N - 1)) (M := N) (own_s1 hNn (by omega) (by omega)) (by omega)).1 (own_in (k := (N - 1)) (M := N) (own_s1 hNn (by omega) (by omega)) (by omega)).2.1 (congrArg (fun i => Value.int (gb i)) (own_in (k := (N - 1)) (M := N) (own_s1 hNn (by omega) (by omega)) (by omega)).2.2) (hb hby at_371) rfl ?_
              refine i_icT (pc' := 377) X13 hx (hb hby at_372) (XT.ii_eq_t (by have q := Yq2 (N - 1) (by omega); rw [hvb, show K + 1 + (N - 1) = K + 1 + N - 1 by omega] at q; exact q)) (by decide) (by decide) ?_
              refine i_aload (v := (.ref b10)) (pc' := 379) X13 hx (hb hby at_377) rfl rfl rfl ?_
              refine i_iload (v := v15) (pc' := 381) X13 hx (hb hby at_379) rfl rfl ?_
              refine i_iload (v := kx) (pc' := 383) X13 hx (hb hby at_381) rfl rfl ?_
              refine i_iadd (pc' := 384) X13 hx (hb hby at_383) rfl ?_
              refine ldB (v := (.int (ga'13 (K + 1 + X)))) (pc' := 385) X13 hx hZ P13_0 (own_in (k := (K + 1 + X)) (M := (K + N + 4)) (own_add hS hXx.1 (by omega)) (by omega)).1 (own_in (k := (K + 1 + X)) (M := (K + N + 4)) (own_add hS hXx.1 (by omega)) (by omega)).2.1 (congrArg (fun i => Value.int (ga'13 i)) (own_in (k := (K + 1 + X)) (M := (K + N + 4)) (own_add hS hXx.1 (by omega)) (by omega)).2.2) (hb hby at_384) rfl ?_
              refine i_aload (v := (.ref b6)) (pc' := 387) X13 hx (hb hby at_385) rfl rfl rfl ?_
              refine i_iload (v := kx) (pc' := 389) X13 hx (hb hby at_387) rfl rfl ?_
              refine ldB (v := (.int (gb X))) (pc' := 390) X13 hx hZ F17 (own_in (k := X) (M := N) hXx.1 (by omega)).1 (own_in (k := X) (M := N) hXx.1 (by omega)).2.1 (congrArg (fun i => Value.int (gb i)) (own_in (k := X) (M := N) hXx.1 (by omega)).2.2) (hb hby at_389) rfl ?_
              refine i_icT (pc' := 395) X13 hx (hb hby at_390) (XT.ii_eq_t (by have q := Yq2 X hXx.2; rw [hvb] at q; exact q)) (by decide) (by decide) ?_
              refine i_iconst (pc' := 396) (1 : Int32) X13 hx (hb hby at_395) rfl (by decide) ?_
              refine rN X13 hx hlk hret (by simp) (hb hby at_396) (by decide) (by decide) ?_
              exact rfl
            · skip
              refine i_ifT (pc' := 395) X13 hx (hb hby at_338) (XT.i0_le_t hc16) (by decide) (by decide) ?_
              refine i_iconst (pc' := 396) (1 : Int32) X13 hx (hb hby at_395) rfl (by decide) ?_
              refine rN X13 hx hlk hret (by simp) (hb hby at_396) (by decide) (by decide) ?_
              exact rfl
          · skip
            refine i_ifT (pc' := 223) X13 hx (hb hby at_206) (XT.i0_le_t hc14) (by decide) (by decide) ?_
            refine i_iload (v := (1 : Int32)) (pc' := 225) X13 hx (hb hby at_223) rfl rfl ?_
            refine i_iconst (pc' := 226) (1 : Int32) X13 hx (hb hby at_225) rfl (by decide) ?_
            refine i_icF (pc' := 229) X13 hx (hb hby at_226) rfl (XT.ii_ne_f (by decide)) ?_
            refine i_aload (v := (.ref b10)) (pc' := 231) X13 hx (hb hby at_229) rfl rfl rfl ?_
            refine i_iload (v := v5) (pc' := 233) X13 hx (hb hby at_231) rfl rfl ?_
            refine ldB (v := (.int (ga'13 K))) (pc' := 234) X13 hx hZ P13_0 (own_in (k := K) (M := (K + N + 4)) ho (by omega)).1 (own_in (k := K) (M := (K + N + 4)) ho (by omega)).2.1 (congrArg (fun i => Value.int (ga'13 i)) (own_in (k := K) (M := (K + N + 4)) ho (by omega)).2.2) (hb hby at_233) rfl ?_
            refine i_iload (v := v3) (pc' := 236) X13 hx (hb hby at_234) rfl rfl ?_
            refine i_i2b (pc' := 237) X13 hx (hb hby at_236) rfl ?_
            refine i_icT (pc' := 329) X13 hx (hb hby at_237) (XT.ii_eq_t (by rw [Yq4 (by omega), eNn])) (by decide) (by decide) ?_
            refine i_iload (v := v5) (pc' := 331) X13 hx (hb hby at_329) rfl rfl ?_
            refine i_iload (v := (1 : Int32)) (pc' := 333) X13 hx (hb hby at_331) rfl rfl ?_
            refine i_iadd (pc' := 334) X13 hx (hb hby at_333) rfl ?_
            obtain ⟨v18, hv18⟩ : ∃ zz : Int32, zz = (v5 + (1 : Int32)) := ⟨_, rfl⟩
            rw [← hv18]
            refine i_istore (L' := #[.val (.int p1), .val (.int p2), .val (.int p3), .val (.int p4), .val (.int p5), .val (.int p6), .val (.int v1), .val (.int v2), .val (.int v3), .val (.int v5), .val (.ref b6), .val (.int kx), .val (.int (1 : Int32)), .val (.int v9), .val (.ref b10), .val (.int (p6.toInt8.toInt32)), .val (.int r13), .val (.int v18)]) (pc' := 336) X13 hx (hb hby at_334) rfl rfl ?_
            have hS : v18.toInt = ((K + 1 : Nat) : Int) := by rw [hv18]; exact own_add ho (n := 1) (by decide) (by omega)
            refine i_iload (v := v3) (pc' := 338) X13 hx (hb hby at_336) rfl rfl ?_
            by_cases hc19 : 0 < v3
            · skip
              have hkn := (own_lt _ _).mp hc19
              rw [own_z] at hkn
              have hXx := hX (by omega)
              refine i_ifF (pc' := 341) X13 hx (hb hby at_338) rfl (XT.i0_le_f hc19) ?_
              refine i_aload (v := (.ref b10)) (pc' := 343) X13 hx (hb hby at_341) rfl rfl rfl ?_
              refine i_iload (v := v18) (pc' := 345) X13 hx (hb hby at_343) rfl rfl ?_
              refine ldB (v := (.int (ga'13 (K + 1)))) (pc' := 346) X13 hx hZ P13_0 (own_in (k := (K + 1)) (M := (K + N + 4)) hS (by omega)).1 (own_in (k := (K + 1)) (M := (K + N + 4)) hS (by omega)).2.1 (congrArg (fun i => Value.int (ga'13 i)) (own_in (k := (K + 1)) (M := (K + N + 4)) hS (by omega)).2.2) (hb hby at_345) rfl ?_
              refine i_aload (v := (.ref b6)) (pc' := 348) X13 hx (hb hby at_346) rfl rfl rfl ?_
              refine i_iconst (pc' := 349) (0 : Int32) X13 hx (hb hby at_348) rfl (by decide) ?_
              have F20 : Av Z h13 b6 .byte N (fun i => .int (gb i)) := (G12_0.keep K13c (ninS ne_b6_b10 nin0))
              refine ldB (v := (.int (gb 0))) (pc' := 350) X13 hx hZ F20 (own_in (k := 0) (M := N) (by decide) (by omega)).1 (own_in (k := 0) (M := N) (by decide) (by omega)).2.1 (congrArg (fun i => Value.int (gb i)) (own_in (k := 0) (M := N) (by decide) (by omega)).2.2) (hb hby at_349) rfl ?_
              refine i_icT (pc' := 355) X13 hx (hb hby at_350) (XT.ii_eq_t (by have q := Yq2 0 (by omega); rw [hvb] at q; exact q)) (by decide) (by decide) ?_
              refine i_aload (v := (.ref b10)) (pc' := 357) X13 hx (hb hby at_355) rfl rfl rfl ?_
              refine i_iload (v := v18) (pc' := 359) X13 hx (hb hby at_357) rfl rfl ?_
              refine i_iload (v := v3) (pc' := 361) X13 hx (hb hby at_359) rfl rfl ?_
              refine i_iadd (pc' := 362) X13 hx (hb hby at_361) rfl ?_
              refine i_iconst (pc' := 363) (1 : Int32) X13 hx (hb hby at_362) rfl (by decide) ?_
              refine i_isub (pc' := 364) X13 hx (hb hby at_363) rfl ?_
              refine ldB (v := (.int (ga'13 (K + 1 + N - 1)))) (pc' := 365) X13 hx hZ P13_0 (own_in (k := (K + 1 + N - 1)) (M := (K + N + 4)) (own_s1 (own_add hS hNn (by omega)) (by omega) (by omega)) (by omega)).1 (own_in (k := (K + 1 + N - 1)) (M := (K + N + 4)) (own_s1 (own_add hS hNn (by omega)) (by omega) (by omega)) (by omega)).2.1 (congrArg (fun i => Value.int (ga'13 i)) (own_in (k := (K + 1 + N - 1)) (M := (K + N + 4)) (own_s1 (own_add hS hNn (by omega)) (by omega) (by omega)) (by omega)).2.2) (hb hby at_364) rfl ?_
              refine i_aload (v := (.ref b6)) (pc' := 367) X13 hx (hb hby at_365) rfl rfl rfl ?_
              refine i_iload (v := v3) (pc' := 369) X13 hx (hb hby at_367) rfl rfl ?_
              refine i_iconst (pc' := 370) (1 : Int32) X13 hx (hb hby at_369) rfl (by decide) ?_
              refine i_isub (pc' := 371) X13 hx (hb hby at_370) rfl ?_
              refine ldB (v := (.int (gb (N - 1)))) (pc' := 372) X13 hx hZ F20 (own_in (k := (N - 1)) (M := N) (own_s1 hNn (by omega) (by omega)) (by omega)).1 (own_in (k := (N - 1)) (M := N) (own_s1 hNn (by omega) (by omega)) (by omega)).2.1 (congrArg (fun i => Value.int (gb i)) (own_in (k := (N - 1)) (M := N) (own_s1 hNn (by omega) (by omega)) (by omega)).2.2) (hb hby at_371) rfl ?_
              refine i_icT (pc' := 377) X13 hx (hb hby at_372) (XT.ii_eq_t (by have q := Yq2 (N - 1) (by omega); rw [hvb, show K + 1 + (N - 1) = K + 1 + N - 1 by omega] at q; exact q)) (by decide) (by decide) ?_
              refine i_aload (v := (.ref b10)) (pc' := 379) X13 hx (hb hby at_377) rfl rfl rfl ?_
              refine i_iload (v := v18) (pc' := 381) X13 hx (hb hby at_379) rfl rfl ?_
              refine i_iload (v := kx) (pc' := 383) X13 hx (hb hby at_381) rfl rfl ?_
              refine i_iadd (pc' := 384) X13 hx (hb hby at_383) rfl ?_
              refine ldB (v := (.int (ga'13 (K + 1 + X)))) (pc' := 385) X13 hx hZ P13_0 (own_in (k := (K + 1 + X)) (M := (K + N + 4)) (own_add hS hXx.1 (by omega)) (by omega)).1 (own_in (k := (K + 1 + X)) (M := (K + N + 4)) (own_add hS hXx.1 (by omega)) (by omega)).2.1 (congrArg (fun i => Value.int (ga'13 i)) (own_in (k := (K + 1 + X)) (M := (K + N + 4)) (own_add hS hXx.1 (by omega)) (by omega)).2.2) (hb hby at_384) rfl ?_
              refine i_aload (v := (.ref b6)) (pc' := 387) X13 hx (hb hby at_385) rfl rfl rfl ?_
              refine i_iload (v := kx) (pc' := 389) X13 hx (hb hby at_387) rfl rfl ?_
              refine ldB (v := (.int (gb X))) (pc' := 390) X13 hx hZ F20 (own_in (k := X) (M := N) hXx.1 (by omega)).1 (own_in (k := X) (M := N) hXx.1 (by omega)).2.1 (congrArg (fun i => Value.int (gb i)) (own_in (k := X) (M := N) hXx.1 (by omega)).2.2) (hb hby at_389) rfl ?_
              refine i_icT (pc' := 395) X13 hx (hb hby at_390) (XT.ii_eq_t (by have q := Yq2 X hXx.2; rw [hvb] at q; exact q)) (by decide) (by decide) ?_
              refine i_iconst (pc' := 396) (1 : Int32) X13 hx (hb hby at_395) rfl (by decide) ?_
              refine rN X13 hx hlk hret (by simp) (hb hby at_396) (by decide) (by decide) ?_
              exact rfl
            · skip
              refine i_ifT (pc' := 395) X13 hx (hb hby at_338) (XT.i0_le_t hc19) (by decide) (by decide) ?_
              refine i_iconst (pc' := 396) (1 : Int32) X13 hx (hb hby at_395) rfl (by decide) ?_
              refine rN X13 hx hlk hret (by simp) (hb hby at_396) (by decide) (by decide) ?_
              exact rfl
        refine i_iload (v := v5) (pc' := 160) X11 hx (hb hby at_158) rfl rfl ?_
        by_cases hc21 : 0 < v5
        · skip
          have hko160 := (own_lt _ _).mp hc21
          rw [own_z] at hko160
          refine i_ifF (pc' := 163) X11 hx (hb hby at_160) rfl (XT.i0_le_f hc21) ?_
          refine i_aload (v := (.ref b10)) (pc' := 165) X11 hx (hb hby at_163) rfl rfl rfl ?_
          refine i_iload (v := v5) (pc' := 167) X11 hx (hb hby at_165) rfl rfl ?_
          refine i_iconst (pc' := 168) (1 : Int32) X11 hx (hb hby at_167) rfl (by decide) ?_
          refine i_isub (pc' := 169) X11 hx (hb hby at_168) rfl ?_
          refine i_iload (v := (p6.toInt8.toInt32)) (pc' := 171) X11 hx (hb hby at_169) rfl rfl ?_
          refine saB (pc' := 172) X11 hx hZ A11 ge10 (own_in (k := (K - 1)) (M := (K + N + 4)) (own_s1 ho (by omega) (by omega)) (by omega)).1 (own_in (k := (K - 1)) (M := (K + N + 4)) (own_s1 ho (by omega) (by omega)) (by omega)).2.1 (hb hby at_171) rfl fun T22 h22 X22 W22 => ?_
          obtain ⟨g22, hg22, hf22, A22⟩ : ∃ g : Nat → Int32, (∀ i, g i = if i = (K - 1) then (p6.toInt8.toInt32) else g11 i) ∧ (∀ i, fits .byte (.int (g i)) = true) ∧ Av Z h22 b10 .byte (K + N + 4) (fun i => .int (g i)) := ⟨_, fun _ => rfl, own_fup hf11, (own_stB (k := (K - 1)) (g := g11) (own_in (k := (K - 1)) (M := (K + N + 4)) (own_s1 ho (by omega) (by omega)) (by omega)).2.2 A11 W22)⟩
          have F23 : Av Z h22 b6 .byte N (fun i => .int (gb i)) := (((G7_0.ext E10).other W11 ne_b6_b10).other W22 ne_b6_b10)
          exact J12 _ _ g22 (X22.mono (by decide) (by decide)) ((K10.wr W11 (Or.inr sz_b10)).wr W22 (Or.inr sz_b10)) F23 A22 hf22 (by simp only [hg22, hg11]; (repeat' split) <;> first | rfl | (exfalso; omega) | (exfalso; simp_all; done)) (fun q => by simp only [hg22, hg11]; (repeat' split) <;> first | rfl | (exfalso; omega) | (exfalso; simp_all; done))
        · skip
          refine i_ifT (pc' := 172) X11 hx (hb hby at_160) (XT.i0_le_t hc21) (by decide) (by decide) ?_
          have F24 : Av Z h11 b6 .byte N (fun i => .int (gb i)) := ((G7_0.ext E10).other W11 ne_b6_b10)
          exact J12 _ _ g11 (X11.mono (by decide) (by decide)) (K10.wr W11 (Or.inr sz_b10)) F24 A11 hf11 (by simp only [hg11]; (repeat' split) <;> first | rfl | (exfalso; omega) | (exfalso; simp_all; done)) (fun q => by have u := (not_congr (own_lt _ _)).mp hc21; rw [own_z] at u; omega)
      · skip
        refine i_icT (pc' := 110) X7 hx (hb hby at_103) (XT.ii_ge_t hc8) (by decide) (by decide) ?_
        refine i_iload (v := v3) (pc' := 112) X7 hx (hb hby at_110) rfl rfl ?_
        refine i_sipush (pc' := 115) (16384 : Int32) X7 hx (hb hby at_112) rfl (by decide) ?_
        by_cases hc25 : v3 < (16384 : Int32)
        · skip
          refine i_icF (pc' := 118) X7 hx (hb hby at_115) rfl (XT.ii_ge_f hc25) ?_
          refine i_iconst (pc' := 119) (2 : Int32) X7 hx (hb hby at_118) rfl (by decide) ?_
          refine i_goto (pc' := 123) X7 hx (hb hby at_119) (by decide) (by decide) ?_
          refine i_istore (L' := #[.val (.int p1), .val (.int p2), .val (.int p3), .val (.int p4), .val (.int p5), .val (.int p6), .val (.int v1), .val (.int v2), .val (.int v3), .val (.int v5), .val (.ref b6), .val (.int kx), .val (.int (2 : Int32)), .unset, .unset, .unset, .unset, .unset]) (pc' := 125) X7 hx (hb hby at_123) rfl rfl ?_
          refine i_iload (v := v5) (pc' := 127) X7 hx (hb hby at_125) rfl rfl ?_
          refine i_iload (v := (2 : Int32)) (pc' := 129) X7 hx (hb hby at_127) rfl rfl ?_
          refine i_iadd (pc' := 130) X7 hx (hb hby at_129) rfl ?_
          refine i_iload (v := v3) (pc' := 132) X7 hx (hb hby at_130) rfl rfl ?_
          refine i_iadd (pc' := 133) X7 hx (hb hby at_132) rfl ?_
          obtain ⟨v26, hv26⟩ : ∃ zz : Int32, zz = ((v5 + (2 : Int32)) + v3) := ⟨_, rfl⟩
          rw [← hv26]
          refine i_istore (L' := #[.val (.int p1), .val (.int p2), .val (.int p3), .val (.int p4), .val (.int p5), .val (.int p6), .val (.int v1), .val (.int v2), .val (.int v3), .val (.int v5), .val (.ref b6), .val (.int kx), .val (.int (2 : Int32)), .val (.int v26), .unset, .unset, .unset, .unset]) (pc' := 135) X7 hx (hb hby at_133) rfl rfl ?_
          have hE : v26.toInt = ((K + 2 + N : Nat) : Int) := by rw [hv26]; exact own_add (own_add ho (n := 2) (by decide) (by omega)) hNn (by omega)
          have hb0 := (not_congr (own_lt _ _)).mp hc8
          have hb1 := (own_lt _ _).mp hc25
          have hvb : own_vb N = 2 := by unfold own_vb; rw [if_neg (by omega), if_pos (by omega)]
          refine i_iload (v := v5) (pc' := 137) X7 hx (hb hby at_135) rfl rfl ?_
          refine i_iload (v := v3) (pc' := 139) X7 hx (hb hby at_137) rfl rfl ?_
          refine i_iadd (pc' := 140) X7 hx (hb hby at_139) rfl ?_
          refine i_iconst (pc' := 141) (4 : Int32) X7 hx (hb hby at_140) rfl (by decide) ?_
          refine i_iadd (pc' := 142) X7 hx (hb hby at_141) rfl ?_
          refine na (aty := .byte) (pc' := 144) 32774 X7 hx hZ (hw _ (List.mem_of_getElem? (i := 0) rfl)) (hb hby at_142) rfl (own_in (M := K + N + 5) (own_add (own_add ho hNn (by omega)) (n := 4) (by decide) (by omega)) (by omega)).1 (by rw [(own_in (M := K + N + 5) (own_add (own_add ho hNn (by omega)) (n := 4) (by decide) (by omega)) (by omega)).2.2]; omega) (by decide) (by decide) (by decide) fun T27 h27 b27 X27 g27 ge27 E27 V27 => ?_
          have ne_b6_b27 : b6 ≠ b27 := Nat.ne_of_lt (Nat.lt_of_lt_of_eq G7_0.lt g27.symm)
          have sz_b27 : h0.size ≤ b27 := Nat.le_trans (K7 : Keep h0 h7 []).1 (Nat.le_of_eq g27.symm)
          have K27 : Keep h0 h27 [] := (K7 : Keep h0 h7 []).ext E27
          have A27 : Av Z h27 b27 .byte (K + N + 4) (fun _ => .int 0) := (by have q := V27; rw [(own_in (M := K + N + 5) (own_add (own_add ho hNn (by omega)) (n := 4) (by decide) (by omega)) (by omega)).2.2] at q; exact q)
          refine i_astore (L' := #[.val (.int p1), .val (.int p2), .val (.int p3), .val (.int p4), .val (.int p5), .val (.int p6), .val (.int v1), .val (.int v2), .val (.int v3), .val (.int v5), .val (.ref b6), .val (.int kx), .val (.int (2 : Int32)), .val (.int v26), .val (.ref b27), .unset, .unset, .unset]) (pc' := 146) X27 hx (hb hby at_144) rfl rfl rfl ?_
          refine i_iload (v := p6) (pc' := 148) X27 hx (hb hby at_146) rfl rfl ?_
          refine i_i2b (pc' := 149) X27 hx (hb hby at_148) rfl ?_
          refine i_istore (L' := #[.val (.int p1), .val (.int p2), .val (.int p3), .val (.int p4), .val (.int p5), .val (.int p6), .val (.int v1), .val (.int v2), .val (.int v3), .val (.int v5), .val (.ref b6), .val (.int kx), .val (.int (2 : Int32)), .val (.int v26), .val (.ref b27), .val (.int (p6.toInt8.toInt32)), .unset, .unset]) (pc' := 151) X27 hx (hb hby at_149) rfl rfl ?_
          refine i_aload (v := (.ref b27)) (pc' := 153) X27 hx (hb hby at_151) rfl rfl rfl ?_
          refine i_iload (v := v26) (pc' := 155) X27 hx (hb hby at_153) rfl rfl ?_
          refine i_iload (v := (p6.toInt8.toInt32)) (pc' := 157) X27 hx (hb hby at_155) rfl rfl ?_
          refine saB (pc' := 158) X27 hx hZ A27 ge27 (own_in (k := (K + 2 + N)) (M := (K + N + 4)) hE (by omega)).1 (own_in (k := (K + 2 + N)) (M := (K + N + 4)) hE (by omega)).2.1 (hb hby at_157) rfl fun T28 h28 X28 W28 => ?_
          obtain ⟨g28, hg28, hf28, A28⟩ : ∃ g : Nat → Int32, (∀ i, g i = if i = (K + 2 + N) then (p6.toInt8.toInt32) else (fun _ => (0 : Int32)) i) ∧ (∀ i, fits .byte (.int (g i)) = true) ∧ Av Z h28 b27 .byte (K + N + 4) (fun i => .int (g i)) := ⟨_, fun _ => rfl, own_fup (fun _ => own_f0), (own_stB (k := (K + 2 + N)) (g := (fun _ => (0 : Int32))) (own_in (k := (K + 2 + N)) (M := (K + N + 4)) hE (by omega)).2.2 A27 W28)⟩
          have J29 : ∀ (T29 : State) (h29 : Heap) (ga : Nat → Int32), Pn p l e room_1 s m #[(.int p1), (.int p2), (.int p3), (.int p4), (.int p5), (.int p6)] below meth c T29 h29 n0 2 65541 → Keep h0 h29 [] → Av Z h29 b6 .byte N (fun i => .int (gb i)) → Av Z h29 b27 .byte (K + N + 4) (fun i => .int (ga i)) → (∀ i, fits .byte (.int (ga i)) = true) → ga (K + 2 + N) = (p6.toInt8.toInt32) → (0 < K → ga (K - 1) = (p6.toInt8.toInt32)) → Go p e s below n0 Q0 room_1 T29 (mkF m 172 #[.val (.int p1), .val (.int p2), .val (.int p3), .val (.int p4), .val (.int p5), .val (.int p6), .val (.int v1), .val (.int v2), .val (.int v3), .val (.int v5), .val (.ref b6), .val (.int kx), .val (.int (2 : Int32)), .val (.int v26), .val (.ref b27), .val (.int (p6.toInt8.toInt32)), .unset, .unset] []) := by
            intro T29 h29 ga  X29 K29 G29_0 G29_1 hga hs1 hs2
            refine i_aload (v := (.ref b6)) (pc' := 174) X29 hx (hb hby at_172) rfl rfl rfl ?_
            refine i_aload (v := (.ref b27)) (pc' := 176) X29 hx (hb hby at_174) rfl rfl rfl ?_
            refine i_iload (v := v5) (pc' := 178) X29 hx (hb hby at_176) rfl rfl ?_
            refine cS (y := (⟨"com/example/rangewright/rangewright/storage/Codec", "putBytes", "([B[BI)I"⟩ : MethodName)) (rest := []) (pc' := 181) 0 [(.ref b6), (.ref b27), (.int v5)] X29 hx hZ hown (hw _ (List.mem_of_getElem? (i := 1) rfl)) (hw _ (List.mem_of_getElem? (i := 2) rfl)) (hw _ (List.mem_of_getElem? (i := 3) rfl)) (hw _ (List.mem_of_getElem? (i := 4) rfl)) (by decide) (rm1 l Z a0 hw [] b6 b27 v5 N (K + N + 4) K gb ga n0 h29 X29.le G29_0 G29_1 ge27 ne_b6_b27 (by omega) ho hK3 rfl hgb hga) (by decide) (by decide) (by rw [hml]; rfl) rfl (lenOf pd0 rfl) rfl (Nat.le_of_eq rfl) (hb hby at_178) rfl (by decide) (by decide) ?_
            intro r30 T30 h30 X30 q30
            obtain ⟨r30, ga'30, rfl, K30c, P30_0, p30_0, p30_1, p30_2, p30_3, p30_4, p30_5, p30_6, p30_7⟩ := q30
            show Go _ _ _ _ _ _ _ T30 (mkF m 181 #[.val (.int p1), .val (.int p2), .val (.int p3), .val (.int p4), .val (.int p5), .val (.int p6), .val (.int v1), .val (.int v2), .val (.int v3), .val (.int v5), .val (.ref b6), .val (.int kx), .val (.int (2 : Int32)), .val (.int v26), .val (.ref b27), .val (.int (p6.toInt8.toInt32)), .unset, .unset] [(.int r30)])
            have Yq0 := p30_0
            have Yq1 := p30_1
            have Yq2 := p30_2
            have Yq3 := p30_3
            have Yq4 := p30_4
            have Yq5 := p30_5
            have Yq6 := p30_6
            have Yq7 := p30_7
            refine i_istore (L' := #[.val (.int p1), .val (.int p2), .val (.int p3), .val (.int p4), .val (.int p5), .val (.int p6), .val (.int v1), .val (.int v2), .val (.int v3), .val (.int v5), .val (.ref b6), .val (.int kx), .val (.int (2 : Int32)), .val (.int v26), .val (.ref b27), .val (.int (p6.toInt8.toInt32)), .val (.int r30), .unset]) (pc' := 183) X30 hx (hb hby at_181) rfl rfl ?_
            refine i_iload (v := r30) (pc' := 185) X30 hx (hb hby at_183) rfl rfl ?_
            refine i_iload (v := v26) (pc' := 187) X30 hx (hb hby at_185) rfl rfl ?_
            refine i_icT (pc' := 192) X30 hx (hb hby at_187) (XT.ii_eq_t (Int32.toInt_inj.mp (by rw [Yq0, hvb, hE]))) (by decide) (by decide) ?_
            refine i_aload (v := (.ref b27)) (pc' := 194) X30 hx (hb hby at_192) rfl rfl rfl ?_
            refine i_iload (v := v26) (pc' := 196) X30 hx (hb hby at_194) rfl rfl ?_
            refine ldB (v := (.int (ga'30 (K + 2 + N)))) (pc' := 197) X30 hx hZ P30_0 (own_in (k := (K + 2 + N)) (M := (K + N + 4)) hE (by omega)).1 (own_in (k := (K + 2 + N)) (M := (K + N + 4)) hE (by omega)).2.1 (congrArg (fun i => Value.int (ga'30 i)) (own_in (k := (K + 2 + N)) (M := (K + N + 4)) hE (by omega)).2.2) (hb hby at_196) rfl ?_
            refine i_iload (v := (p6.toInt8.toInt32)) (pc' := 199) X30 hx (hb hby at_197) rfl rfl ?_
            refine i_icT (pc' := 204) X30 hx (hb hby at_199) (XT.ii_eq_t ((Yq3 _ (by omega)).trans hs1)) (by decide) (by decide) ?_
            refine i_iload (v := v5) (pc' := 206) X30 hx (hb hby at_204) rfl rfl ?_
            by_cases hc31 : 0 < v5
            · skip
              have hko206 := (own_lt _ _).mp hc31
              rw [own_z] at hko206
              refine i_ifF (pc' := 209) X30 hx (hb hby at_206) rfl (XT.i0_le_f hc31) ?_
              refine i_aload (v := (.ref b27)) (pc' := 211) X30 hx (hb hby at_209) rfl rfl rfl ?_
              refine i_iload (v := v5) (pc' := 213) X30 hx (hb hby at_211) rfl rfl ?_
              refine i_iconst (pc' := 214) (1 : Int32) X30 hx (hb hby at_213) rfl (by decide) ?_
              refine i_isub (pc' := 215) X30 hx (hb hby at_214) rfl ?_
              refine ldB (v := (.int (ga'30 (K - 1)))) (pc' := 216) X30 hx hZ P30_0 (own_in (k := (K - 1)) (M := (K + N + 4)) (own_s1 ho (by omega) (by omega)) (by omega)).1 (own_in (k := (K - 1)) (M := (K + N + 4)) (own_s1 ho (by omega) (by omega)) (by omega)).2.1 (congrArg (fun i => Value.int (ga'30 i)) (own_in (k := (K - 1)) (M := (K + N + 4)) (own_s1 ho (by omega) (by omega)) (by omega)).2.2) (hb hby at_215) rfl ?_
              refine i_iload (v := (p6.toInt8.toInt32)) (pc' := 218) X30 hx (hb hby at_216) rfl rfl ?_
              refine i_icT (pc' := 223) X30 hx (hb hby at_218) (XT.ii_eq_t ((Yq1 _ (by omega)).trans (hs2 (by omega)))) (by decide) (by decide) ?_
              refine i_iload (v := (2 : Int32)) (pc' := 225) X30 hx (hb hby at_223) rfl rfl ?_
              refine i_iconst (pc' := 226) (1 : Int32) X30 hx (hb hby at_225) rfl (by decide) ?_
              refine i_icT (pc' := 242) X30 hx (hb hby at_226) (XT.ii_ne_t (by decide)) (by decide) (by decide) ?_
              refine i_aload (v := (.ref b27)) (pc' := 244) X30 hx (hb hby at_242) rfl rfl rfl ?_
              refine i_iload (v := v5) (pc' := 246) X30 hx (hb hby at_244) rfl rfl ?_
              refine ldB (v := (.int (ga'30 K))) (pc' := 247) X30 hx hZ P30_0 (own_in (k := K) (M := (K + N + 4)) ho (by omega)).1 (own_in (k := K) (M := (K + N + 4)) ho (by omega)).2.1 (congrArg (fun i => Value.int (ga'30 i)) (own_in (k := K) (M := (K + N + 4)) ho (by omega)).2.2) (hb hby at_246) rfl ?_
              refine i_iload (v := v3) (pc' := 249) X30 hx (hb hby at_247) rfl rfl ?_
              refine i_bipush (pc' := 251) (127 : Int32) X30 hx (hb hby at_249) rfl (by decide) ?_
              refine i_iand (pc' := 252) X30 hx (hb hby at_251) rfl ?_
              refine i_sipush (pc' := 255) (128 : Int32) X30 hx (hb hby at_252) rfl (by decide) ?_
              refine i_ior (pc' := 256) X30 hx (hb hby at_255) rfl ?_
              refine i_i2b (pc' := 257) X30 hx (hb hby at_256) rfl ?_
              refine i_icT (pc' := 262) X30 hx (hb hby at_257) (XT.ii_eq_t (by rw [Yq5 (by omega), eNn])) (by decide) (by decide) ?_
              refine i_iload (v := (2 : Int32)) (pc' := 264) X30 hx (hb hby at_262) rfl rfl ?_
              refine i_iconst (pc' := 265) (2 : Int32) X30 hx (hb hby at_264) rfl (by decide) ?_
              refine i_icF (pc' := 268) X30 hx (hb hby at_265) rfl (XT.ii_ne_f (by decide)) ?_
              refine i_aload (v := (.ref b27)) (pc' := 270) X30 hx (hb hby at_268) rfl rfl rfl ?_
              refine i_iload (v := v5) (pc' := 272) X30 hx (hb hby at_270) rfl rfl ?_
              refine i_iconst (pc' := 273) (1 : Int32) X30 hx (hb hby at_272) rfl (by decide) ?_
              refine i_iadd (pc' := 274) X30 hx (hb hby at_273) rfl ?_
              refine ldB (v := (.int (ga'30 (K + 1)))) (pc' := 275) X30 hx hZ P30_0 (own_in (k := (K + 1)) (M := (K + N + 4)) (own_add ho (n := 1) (by decide) (by omega)) (by omega)).1 (own_in (k := (K + 1)) (M := (K + N + 4)) (own_add ho (n := 1) (by decide) (by omega)) (by omega)).2.1 (congrArg (fun i => Value.int (ga'30 i)) (own_in (k := (K + 1)) (M := (K + N + 4)) (own_add ho (n := 1) (by decide) (by omega)) (by omega)).2.2) (hb hby at_274) rfl ?_
              refine i_iload (v := v3) (pc' := 277) X30 hx (hb hby at_275) rfl rfl ?_
              refine i_bipush (pc' := 279) (7 : Int32) X30 hx (hb hby at_277) rfl (by decide) ?_
              refine i_iushr (pc' := 280) X30 hx (hb hby at_279) rfl ?_
              refine i_i2b (pc' := 281) X30 hx (hb hby at_280) rfl ?_
              refine i_icT (pc' := 329) X30 hx (hb hby at_281) (XT.ii_eq_t (by rw [Yq6 (by omega) (by omega), eNn])) (by decide) (by decide) ?_
              refine i_iload (v := v5) (pc' := 331) X30 hx (hb hby at_329) rfl rfl ?_
              refine i_iload (v := (2 : Int32)) (pc' := 333) X30 hx (hb hby at_331) rfl rfl ?_
              refine i_iadd (pc' := 334) X30 hx (hb hby at_333) rfl ?_
              obtain ⟨v32, hv32⟩ : ∃ zz : Int32, zz = (v5 + (2 : Int32)) := ⟨_, rfl⟩
              rw [← hv32]
              refine i_istore (L' := #[.val (.int p1), .val (.int p2), .val (.int p3), .val (.int p4), .val (.int p5), .val (.int p6), .val (.int v1), .val (.int v2), .val (.int v3), .val (.int v5), .val (.ref b6), .val (.int kx), .val (.int (2 : Int32)), .val (.int v26), .val (.ref b27), .val (.int (p6.toInt8.toInt32)), .val (.int r30), .val (.int v32)]) (pc' := 336) X30 hx (hb hby at_334) rfl rfl ?_
              have hS : v32.toInt = ((K + 2 : Nat) : Int) := by rw [hv32]; exact own_add ho (n := 2) (by decide) (by omega)
              refine i_iload (v := v3) (pc' := 338) X30 hx (hb hby at_336) rfl rfl ?_
              by_cases hc33 : 0 < v3
              · skip
                have hkn := (own_lt _ _).mp hc33
                rw [own_z] at hkn
                have hXx := hX (by omega)
                refine i_ifF (pc' := 341) X30 hx (hb hby at_338) rfl (XT.i0_le_f hc33) ?_
                refine i_aload (v := (.ref b27)) (pc' := 343) X30 hx (hb hby at_341) rfl rfl rfl ?_
                refine i_iload (v := v32) (pc' := 345) X30 hx (hb hby at_343) rfl rfl ?_
                refine ldB (v := (.int (ga'30 (K + 2)))) (pc' := 346) X30 hx hZ P30_0 (own_in (k := (K + 2)) (M := (K + N + 4)) hS (by omega)).1 (own_in (k := (K + 2)) (M := (K + N + 4)) hS (by omega)).2.1 (congrArg (fun i => Value.int (ga'30 i)) (own_in (k := (K + 2)) (M := (K + N + 4)) hS (by omega)).2.2) (hb hby at_345) rfl ?_
                refine i_aload (v := (.ref b6)) (pc' := 348) X30 hx (hb hby at_346) rfl rfl rfl ?_
                refine i_iconst (pc' := 349) (0 : Int32) X30 hx (hb hby at_348) rfl (by decide) ?_
                have F34 : Av Z h30 b6 .byte N (fun i => .int (gb i)) := (G29_0.keep K30c (ninS ne_b6_b27 nin0))
                refine ldB (v := (.int (gb 0))) (pc' := 350) X30 hx hZ F34 (own_in (k := 0) (M := N) (by decide) (by omega)).1 (own_in (k := 0) (M := N) (by decide) (by omega)).2.1 (congrArg (fun i => Value.int (gb i)) (own_in (k := 0) (M := N) (by decide) (by omega)).2.2) (hb hby at_349) rfl ?_
                refine i_icT (pc' := 355) X30 hx (hb hby at_350) (XT.ii_eq_t (by have q := Yq2 0 (by omega); rw [hvb] at q; exact q)) (by decide) (by decide) ?_
                refine i_aload (v := (.ref b27)) (pc' := 357) X30 hx (hb hby at_355) rfl rfl rfl ?_
                refine i_iload (v := v32) (pc' := 359) X30 hx (hb hby at_357) rfl rfl ?_
                refine i_iload (v := v3) (pc' := 361) X30 hx (hb hby at_359) rfl rfl ?_
                refine i_iadd (pc' := 362) X30 hx (hb hby at_361) rfl ?_
                refine i_iconst (pc' := 363) (1 : Int32) X30 hx (hb hby at_362) rfl (by decide) ?_
                refine i_isub (pc' := 364) X30 hx (hb hby at_363) rfl ?_
                refine ldB (v := (.int (ga'30 (K + 2 + N - 1)))) (pc' := 365) X30 hx hZ P30_0 (own_in (k := (K + 2 + N - 1)) (M := (K + N + 4)) (own_s1 (own_add hS hNn (by omega)) (by omega) (by omega)) (by omega)).1 (own_in (k := (K + 2 + N - 1)) (M := (K + N + 4)) (own_s1 (own_add hS hNn (by omega)) (by omega) (by omega)) (by omega)).2.1 (congrArg (fun i => Value.int (ga'30 i)) (own_in (k := (K + 2 + N - 1)) (M := (K + N + 4)) (own_s1 (own_add hS hNn (by omega)) (by omega) (by omega)) (by omega)).2.2) (hb hby at_364) rfl ?_
                refine i_aload (v := (.ref b6)) (pc' := 367) X30 hx (hb hby at_365) rfl rfl rfl ?_
                refine i_iload (v := v3) (pc' := 369) X30 hx (hb hby at_367) rfl rfl ?_
                refine i_iconst (pc' := 370) (1 : Int32) X30 hx (hb hby at_369) rfl (by decide) ?_
                refine i_isub (pc' := 371) X30 hx (hb hby at_370) rfl ?_
                refine ldB (v := (.int (gb (N - 1)))) (pc' := 372) X30 hx hZ F34 (own_in (k := (N - 1)) (M := N) (own_s1 hNn (by omega) (by omega)) (by omega)).1 (own_in (k := (N - 1)) (M := N) (own_s1 hNn (by omega) (by omega)) (by omega)).2.1 (congrArg (fun i => Value.int (gb i)) (own_in (k := (N - 1)) (M := N) (own_s1 hNn (by omega) (by omega)) (by omega)).2.2) (hb hby at_371) rfl ?_
                refine i_icT (pc' := 377) X30 hx (hb hby at_372) (XT.ii_eq_t (by have q := Yq2 (N - 1) (by omega); rw [hvb, show K + 2 + (N - 1) = K + 2 + N - 1 by omega] at q; exact q)) (by decide) (by decide) ?_
                refine i_aload (v := (.ref b27)) (pc' := 379) X30 hx (hb hby at_377) rfl rfl rfl ?_
                refine i_iload (v := v32) (pc' := 381) X30 hx (hb hby at_379) rfl rfl ?_
                refine i_iload (v := kx) (pc' := 383) X30 hx (hb hby at_381) rfl rfl ?_
                refine i_iadd (pc' := 384) X30 hx (hb hby at_383) rfl ?_
                refine ldB (v := (.int (ga'30 (K + 2 + X)))) (pc' := 385) X30 hx hZ P30_0 (own_in (k := (K + 2 + X)) (M := (K + N + 4)) (own_add hS hXx.1 (by omega)) (by omega)).1 (own_in (k := (K + 2 + X)) (M := (K + N + 4)) (own_add hS hXx.1 (by omega)) (by omega)).2.1 (congrArg (fun i => Value.int (ga'30 i)) (own_in (k := (K + 2 + X)) (M := (K + N + 4)) (own_add hS hXx.1 (by omega)) (by omega)).2.2) (hb hby at_384) rfl ?_
                refine i_aload (v := (.ref b6)) (pc' := 387) X30 hx (hb hby at_385) rfl rfl rfl ?_
                refine i_iload (v := kx) (pc' := 389) X30 hx (hb hby at_387) rfl rfl ?_
                refine ldB (v := (.int (gb X))) (pc' := 390) X30 hx hZ F34 (own_in (k := X) (M := N) hXx.1 (by omega)).1 (own_in (k := X) (M := N) hXx.1 (by omega)).2.1 (congrArg (fun i => Value.int (gb i)) (own_in (k := X) (M := N) hXx.1 (by omega)).2.2) (hb hby at_389) rfl ?_
                refine i_icT (pc' := 395) X30 hx (hb hby at_390) (XT.ii_eq_t (by have q := Yq2 X hXx.2; rw [hvb] at q; exact q)) (by decide) (by decide) ?_
                refine i_iconst (pc' := 396) (1 : Int32) X30 hx (hb hby at_395) rfl (by decide) ?_
                refine rN X30 hx hlk hret (by simp) (hb hby at_396) (by decide) (by decide) ?_
                exact rfl
              · skip
                refine i_ifT (pc' := 395) X30 hx (hb hby at_338) (XT.i0_le_t hc33) (by decide) (by decide) ?_
                refine i_iconst (pc' := 396) (1 : Int32) X30 hx (hb hby at_395) rfl (by decide) ?_
                refine rN X30 hx hlk hret (by simp) (hb hby at_396) (by decide) (by decide) ?_
                exact rfl
            · skip
              refine i_ifT (pc' := 223) X30 hx (hb hby at_206) (XT.i0_le_t hc31) (by decide) (by decide) ?_
              refine i_iload (v := (2 : Int32)) (pc' := 225) X30 hx (hb hby at_223) rfl rfl ?_
              refine i_iconst (pc' := 226) (1 : Int32) X30 hx (hb hby at_225) rfl (by decide) ?_
              refine i_icT (pc' := 242) X30 hx (hb hby at_226) (XT.ii_ne_t (by decide)) (by decide) (by decide) ?_
              refine i_aload (v := (.ref b27)) (pc' := 244) X30 hx (hb hby at_242) rfl rfl rfl ?_
              refine i_iload (v := v5) (pc' := 246) X30 hx (hb hby at_244) rfl rfl ?_
              refine ldB (v := (.int (ga'30 K))) (pc' := 247) X30 hx hZ P30_0 (own_in (k := K) (M := (K + N + 4)) ho (by omega)).1 (own_in (k := K) (M := (K + N + 4)) ho (by omega)).2.1 (congrArg (fun i => Value.int (ga'30 i)) (own_in (k := K) (M := (K + N + 4)) ho (by omega)).2.2) (hb hby at_246) rfl ?_
              refine i_iload (v := v3) (pc' := 249) X30 hx (hb hby at_247) rfl rfl ?_
              refine i_bipush (pc' := 251) (127 : Int32) X30 hx (hb hby at_249) rfl (by decide) ?_
              refine i_iand (pc' := 252) X30 hx (hb hby at_251) rfl ?_
              refine i_sipush (pc' := 255) (128 : Int32) X30 hx (hb hby at_252) rfl (by decide) ?_
              refine i_ior (pc' := 256) X30 hx (hb hby at_255) rfl ?_
              refine i_i2b (pc' := 257) X30 hx (hb hby at_256) rfl ?_
              refine i_icT (pc' := 262) X30 hx (hb hby at_257) (XT.ii_eq_t (by rw [Yq5 (by omega), eNn])) (by decide) (by decide) ?_
              refine i_iload (v := (2 : Int32)) (pc' := 264) X30 hx (hb hby at_262) rfl rfl ?_
              refine i_iconst (pc' := 265) (2 : Int32) X30 hx (hb hby at_264) rfl (by decide) ?_
              refine i_icF (pc' := 268) X30 hx (hb hby at_265) rfl (XT.ii_ne_f (by decide)) ?_
              refine i_aload (v := (.ref b27)) (pc' := 270) X30 hx (hb hby at_268) rfl rfl rfl ?_
              refine i_iload (v := v5) (pc' := 272) X30 hx (hb hby at_270) rfl rfl ?_
              refine i_iconst (pc' := 273) (1 : Int32) X30 hx (hb hby at_272) rfl (by decide) ?_
              refine i_iadd (pc' := 274) X30 hx (hb hby at_273) rfl ?_
              refine ldB (v := (.int (ga'30 (K + 1)))) (pc' := 275) X30 hx hZ P30_0 (own_in (k := (K + 1)) (M := (K + N + 4)) (own_add ho (n := 1) (by decide) (by omega)) (by omega)).1 (own_in (k := (K + 1)) (M := (K + N + 4)) (own_add ho (n := 1) (by decide) (by omega)) (by omega)).2.1 (congrArg (fun i => Value.int (ga'30 i)) (own_in (k := (K + 1)) (M := (K + N + 4)) (own_add ho (n := 1) (by decide) (by omega)) (by omega)).2.2) (hb hby at_274) rfl ?_
              refine i_iload (v := v3) (pc' := 277) X30 hx (hb hby at_275) rfl rfl ?_
              refine i_bipush (pc' := 279) (7 : Int32) X30 hx (hb hby at_277) rfl (by decide) ?_
              refine i_iushr (pc' := 280) X30 hx (hb hby at_279) rfl ?_
              refine i_i2b (pc' := 281) X30 hx (hb hby at_280) rfl ?_
              refine i_icT (pc' := 329) X30 hx (hb hby at_281) (XT.ii_eq_t (by rw [Yq6 (by omega) (by omega), eNn])) (by decide) (by decide) ?_
              refine i_iload (v := v5) (pc' := 331) X30 hx (hb hby at_329) rfl rfl ?_
              refine i_iload (v := (2 : Int32)) (pc' := 333) X30 hx (hb hby at_331) rfl rfl ?_
              refine i_iadd (pc' := 334) X30 hx (hb hby at_333) rfl ?_
              obtain ⟨v35, hv35⟩ : ∃ zz : Int32, zz = (v5 + (2 : Int32)) := ⟨_, rfl⟩
              rw [← hv35]
              refine i_istore (L' := #[.val (.int p1), .val (.int p2), .val (.int p3), .val (.int p4), .val (.int p5), .val (.int p6), .val (.int v1), .val (.int v2), .val (.int v3), .val (.int v5), .val (.ref b6), .val (.int kx), .val (.int (2 : Int32)), .val (.int v26), .val (.ref b27), .val (.int (p6.toInt8.toInt32)), .val (.int r30), .val (.int v35)]) (pc' := 336) X30 hx (hb hby at_334) rfl rfl ?_
              have hS : v35.toInt = ((K + 2 : Nat) : Int) := by rw [hv35]; exact own_add ho (n := 2) (by decide) (by omega)
              refine i_iload (v := v3) (pc' := 338) X30 hx (hb hby at_336) rfl rfl ?_
              by_cases hc36 : 0 < v3
              · skip
                have hkn := (own_lt _ _).mp hc36
                rw [own_z] at hkn
                have hXx := hX (by omega)
                refine i_ifF (pc' := 341) X30 hx (hb hby at_338) rfl (XT.i0_le_f hc36) ?_
                refine i_aload (v := (.ref b27)) (pc' := 343) X30 hx (hb hby at_341) rfl rfl rfl ?_
                refine i_iload (v := v35) (pc' := 345) X30 hx (hb hby at_343) rfl rfl ?_
                refine ldB (v := (.int (ga'30 (K + 2)))) (pc' := 346) X30 hx hZ P30_0 (own_in (k := (K + 2)) (M := (K + N + 4)) hS (by omega)).1 (own_in (k := (K + 2)) (M := (K + N + 4)) hS (by omega)).2.1 (congrArg (fun i => Value.int (ga'30 i)) (own_in (k := (K + 2)) (M := (K + N + 4)) hS (by omega)).2.2) (hb hby at_345) rfl ?_
                refine i_aload (v := (.ref b6)) (pc' := 348) X30 hx (hb hby at_346) rfl rfl rfl ?_
                refine i_iconst (pc' := 349) (0 : Int32) X30 hx (hb hby at_348) rfl (by decide) ?_
                have F37 : Av Z h30 b6 .byte N (fun i => .int (gb i)) := (G29_0.keep K30c (ninS ne_b6_b27 nin0))
                refine ldB (v := (.int (gb 0))) (pc' := 350) X30 hx hZ F37 (own_in (k := 0) (M := N) (by decide) (by omega)).1 (own_in (k := 0) (M := N) (by decide) (by omega)).2.1 (congrArg (fun i => Value.int (gb i)) (own_in (k := 0) (M := N) (by decide) (by omega)).2.2) (hb hby at_349) rfl ?_
                refine i_icT (pc' := 355) X30 hx (hb hby at_350) (XT.ii_eq_t (by have q := Yq2 0 (by omega); rw [hvb] at q; exact q)) (by decide) (by decide) ?_
                refine i_aload (v := (.ref b27)) (pc' := 357) X30 hx (hb hby at_355) rfl rfl rfl ?_
                refine i_iload (v := v35) (pc' := 359) X30 hx (hb hby at_357) rfl rfl ?_
                refine i_iload (v := v3) (pc' := 361) X30 hx (hb hby at_359) rfl rfl ?_
                refine i_iadd (pc' := 362) X30 hx (hb hby at_361) rfl ?_
                refine i_iconst (pc' := 363) (1 : Int32) X30 hx (hb hby at_362) rfl (by decide) ?_
                refine i_isub (pc' := 364) X30 hx (hb hby at_363) rfl ?_
                refine ldB (v := (.int (ga'30 (K + 2 + N - 1)))) (pc' := 365) X30 hx hZ P30_0 (own_in (k := (K + 2 + N - 1)) (M := (K + N + 4)) (own_s1 (own_add hS hNn (by omega)) (by omega) (by omega)) (by omega)).1 (own_in (k := (K + 2 + N - 1)) (M := (K + N + 4)) (own_s1 (own_add hS hNn (by omega)) (by omega) (by omega)) (by omega)).2.1 (congrArg (fun i => Value.int (ga'30 i)) (own_in (k := (K + 2 + N - 1)) (M := (K + N + 4)) (own_s1 (own_add hS hNn (by omega)) (by omega) (by omega)) (by omega)).2.2) (hb hby at_364) rfl ?_
                refine i_aload (v := (.ref b6)) (pc' := 367) X30 hx (hb hby at_365) rfl rfl rfl ?_
                refine i_iload (v := v3) (pc' := 369) X30 hx (hb hby at_367) rfl rfl ?_
                refine i_iconst (pc' := 370) (1 : Int32) X30 hx (hb hby at_369) rfl (by decide) ?_
                refine i_isub (pc' := 371) X30 hx (hb hby at_370) rfl ?_
                refine ldB (v := (.int (gb (N - 1)))) (pc' := 372) X30 hx hZ F37 (own_in (k := (N - 1)) (M := N) (own_s1 hNn (by omega) (by omega)) (by omega)).1 (own_in (k := (N - 1)) (M := N) (own_s1 hNn (by omega) (by omega)) (by omega)).2.1 (congrArg (fun i => Value.int (gb i)) (own_in (k := (N - 1)) (M := N) (own_s1 hNn (by omega) (by omega)) (by omega)).2.2) (hb hby at_371) rfl ?_
                refine i_icT (pc' := 377) X30 hx (hb hby at_372) (XT.ii_eq_t (by have q := Yq2 (N - 1) (by omega); rw [hvb, show K + 2 + (N - 1) = K + 2 + N - 1 by omega] at q; exact q)) (by decide) (by decide) ?_
                refine i_aload (v := (.ref b27)) (pc' := 379) X30 hx (hb hby at_377) rfl rfl rfl ?_
                refine i_iload (v := v35) (pc' := 381) X30 hx (hb hby at_379) rfl rfl ?_
                refine i_iload (v := kx) (pc' := 383) X30 hx (hb hby at_381) rfl rfl ?_
                refine i_iadd (pc' := 384) X30 hx (hb hby at_383) rfl ?_
                refine ldB (v := (.int (ga'30 (K + 2 + X)))) (pc' := 385) X30 hx hZ P30_0 (own_in (k := (K + 2 + X)) (M := (K + N + 4)) (own_add hS hXx.1 (by omega)) (by omega)).1 (own_in (k := (K + 2 + X)) (M := (K + N + 4)) (own_add hS hXx.1 (by omega)) (by omega)).2.1 (congrArg (fun i => Value.int (ga'30 i)) (own_in (k := (K + 2 + X)) (M := (K + N + 4)) (own_add hS hXx.1 (by omega)) (by omega)).2.2) (hb hby at_384) rfl ?_
                refine i_aload (v := (.ref b6)) (pc' := 387) X30 hx (hb hby at_385) rfl rfl rfl ?_
                refine i_iload (v := kx) (pc' := 389) X30 hx (hb hby at_387) rfl rfl ?_
                refine ldB (v := (.int (gb X))) (pc' := 390) X30 hx hZ F37 (own_in (k := X) (M := N) hXx.1 (by omega)).1 (own_in (k := X) (M := N) hXx.1 (by omega)).2.1 (congrArg (fun i => Value.int (gb i)) (own_in (k := X) (M := N) hXx.1 (by omega)).2.2) (hb hby at_389) rfl ?_
                refine i_icT (pc' := 395) X30 hx (hb hby at_390) (XT.ii_eq_t (by have q := Yq2 X hXx.2; rw [hvb] at q; exact q)) (by decide) (by decide) ?_
                refine i_iconst (pc' := 396) (1 : Int32) X30 hx (hb hby at_395) rfl (by decide) ?_
                refine rN X30 hx hlk hret (by simp) (hb hby at_396) (by decide) (by decide) ?_
                exact rfl
              · skip
                refine i_ifT (pc' := 395) X30 hx (hb hby at_338) (XT.i0_le_t hc36) (by decide) (by decide) ?_
                refine i_iconst (pc' := 396) (1 : Int32) X30 hx (hb hby at_395) rfl (by decide) ?_
                refine rN X30 hx hlk hret (by simp) (hb hby at_396) (by decide) (by decide) ?_
                exact rfl
          refine i_iload (v := v5) (pc' := 160) X28 hx (hb hby at_158) rfl rfl ?_
          by_cases hc38 : 0 < v5
          · skip
            have hko160 := (own_lt _ _).mp hc38
            rw [own_z] at hko160
            refine i_ifF (pc' := 163) X28 hx (hb hby at_160) rfl (XT.i0_le_f hc38) ?_
            refine i_aload (v := (.ref b27)) (pc' := 165) X28 hx (hb hby at_163) rfl rfl rfl ?_
            refine i_iload (v := v5) (pc' := 167) X28 hx (hb hby at_165) rfl rfl ?_
            refine i_iconst (pc' := 168) (1 : Int32) X28 hx (hb hby at_167) rfl (by decide) ?_
            refine i_isub (pc' := 169) X28 hx (hb hby at_168) rfl ?_
            refine i_iload (v := (p6.toInt8.toInt32)) (pc' := 171) X28 hx (hb hby at_169) rfl rfl ?_
            refine saB (pc' := 172) X28 hx hZ A28 ge27 (own_in (k := (K - 1)) (M := (K + N + 4)) (own_s1 ho (by omega) (by omega)) (by omega)).1 (own_in (k := (K - 1)) (M := (K + N + 4)) (own_s1 ho (by omega) (by omega)) (by omega)).2.1 (hb hby at_171) rfl fun T39 h39 X39 W39 => ?_
            obtain ⟨g39, hg39, hf39, A39⟩ : ∃ g : Nat → Int32, (∀ i, g i = if i = (K - 1) then (p6.toInt8.toInt32) else g28 i) ∧ (∀ i, fits .byte (.int (g i)) = true) ∧ Av Z h39 b27 .byte (K + N + 4) (fun i => .int (g i)) := ⟨_, fun _ => rfl, own_fup hf28, (own_stB (k := (K - 1)) (g := g28) (own_in (k := (K - 1)) (M := (K + N + 4)) (own_s1 ho (by omega) (by omega)) (by omega)).2.2 A28 W39)⟩
            have F40 : Av Z h39 b6 .byte N (fun i => .int (gb i)) := (((G7_0.ext E27).other W28 ne_b6_b27).other W39 ne_b6_b27)
            exact J29 _ _ g39 (X39.mono (by decide) (by decide)) ((K27.wr W28 (Or.inr sz_b27)).wr W39 (Or.inr sz_b27)) F40 A39 hf39 (by simp only [hg39, hg28]; (repeat' split) <;> first | rfl | (exfalso; omega) | (exfalso; simp_all; done)) (fun q => by simp only [hg39, hg28]; (repeat' split) <;> first | rfl | (exfalso; omega) | (exfalso; simp_all; done))
          · skip
            refine i_ifT (pc' := 172) X28 hx (hb hby at_160) (XT.i0_le_t hc38) (by decide) (by decide) ?_
            have F41 : Av Z h28 b6 .byte N (fun i => .int (gb i)) := ((G7_0.ext E27).other W28 ne_b6_b27)
            exact J29 _ _ g28 (X28.mono (by decide) (by decide)) (K27.wr W28 (Or.inr sz_b27)) F41 A28 hf28 (by simp only [hg28]; (repeat' split) <;> first | rfl | (exfalso; omega) | (exfalso; simp_all; done)) (fun q => by have u := (not_congr (own_lt _ _)).mp hc38; rw [own_z] at u; omega)
        · skip
          refine i_icT (pc' := 122) X7 hx (hb hby at_115) (XT.ii_ge_t hc25) (by decide) (by decide) ?_
          refine i_iconst (pc' := 123) (3 : Int32) X7 hx (hb hby at_122) rfl (by decide) ?_
          refine i_istore (L' := #[.val (.int p1), .val (.int p2), .val (.int p3), .val (.int p4), .val (.int p5), .val (.int p6), .val (.int v1), .val (.int v2), .val (.int v3), .val (.int v5), .val (.ref b6), .val (.int kx), .val (.int (3 : Int32)), .unset, .unset, .unset, .unset, .unset]) (pc' := 125) X7 hx (hb hby at_123) rfl rfl ?_
          refine i_iload (v := v5) (pc' := 127) X7 hx (hb hby at_125) rfl rfl ?_
          refine i_iload (v := (3 : Int32)) (pc' := 129) X7 hx (hb hby at_127) rfl rfl ?_
          refine i_iadd (pc' := 130) X7 hx (hb hby at_129) rfl ?_
          refine i_iload (v := v3) (pc' := 132) X7 hx (hb hby at_130) rfl rfl ?_
          refine i_iadd (pc' := 133) X7 hx (hb hby at_132) rfl ?_
          obtain ⟨v42, hv42⟩ : ∃ zz : Int32, zz = ((v5 + (3 : Int32)) + v3) := ⟨_, rfl⟩
          rw [← hv42]
          refine i_istore (L' := #[.val (.int p1), .val (.int p2), .val (.int p3), .val (.int p4), .val (.int p5), .val (.int p6), .val (.int v1), .val (.int v2), .val (.int v3), .val (.int v5), .val (.ref b6), .val (.int kx), .val (.int (3 : Int32)), .val (.int v42), .unset, .unset, .unset, .unset]) (pc' := 135) X7 hx (hb hby at_133) rfl rfl ?_
          have hE : v42.toInt = ((K + 3 + N : Nat) : Int) := by rw [hv42]; exact own_add (own_add ho (n := 3) (by decide) (by omega)) hNn (by omega)
          have hb0 := (not_congr (own_lt _ _)).mp hc8
          have hb1 := (not_congr (own_lt _ _)).mp hc25
          have hvb : own_vb N = 3 := by unfold own_vb; rw [if_neg (by omega), if_neg (by omega)]
          refine i_iload (v := v5) (pc' := 137) X7 hx (hb hby at_135) rfl rfl ?_
          refine i_iload (v := v3) (pc' := 139) X7 hx (hb hby at_137) rfl rfl ?_
          refine i_iadd (pc' := 140) X7 hx (hb hby at_139) rfl ?_
          refine i_iconst (pc' := 141) (4 : Int32) X7 hx (hb hby at_140) rfl (by decide) ?_
          refine i_iadd (pc' := 142) X7 hx (hb hby at_141) rfl ?_
          refine na (aty := .byte) (pc' := 144) 32774 X7 hx hZ (hw _ (List.mem_of_getElem? (i := 0) rfl)) (hb hby at_142) rfl (own_in (M := K + N + 5) (own_add (own_add ho hNn (by omega)) (n := 4) (by decide) (by omega)) (by omega)).1 (by rw [(own_in (M := K + N + 5) (own_add (own_add ho hNn (by omega)) (n := 4) (by decide) (by omega)) (by omega)).2.2]; omega) (by decide) (by decide) (by decide) fun T43 h43 b43 X43 g43 ge43 E43 V43 => ?_
          have ne_b6_b43 : b6 ≠ b43 := Nat.ne_of_lt (Nat.lt_of_lt_of_eq G7_0.lt g43.symm)
          have sz_b43 : h0.size ≤ b43 := Nat.le_trans (K7 : Keep h0 h7 []).1 (Nat.le_of_eq g43.symm)
          have K43 : Keep h0 h43 [] := (K7 : Keep h0 h7 []).ext E43
          have A43 : Av Z h43 b43 .byte (K + N + 4) (fun _ => .int 0) := (by have q := V43; rw [(own_in (M := K + N + 5) (own_add (own_add ho hNn (by omega)) (n := 4) (by decide) (by omega)) (by omega)).2.2] at q; exact q)
          refine i_astore (L' := #[.val (.int p1), .val (.int p2), .val (.int p3), .val (.int p4), .val (.int p5), .val (.int p6), .val (.int v1), .val (.int v2), .val (.int v3), .val (.int v5), .val (.ref b6), .val (.int kx), .val (.int (3 : Int32)), .val (.int v42), .val (.ref b43), .unset, .unset, .unset]) (pc' := 146) X43 hx (hb hby at_144) rfl rfl rfl ?_
          refine i_iload (v := p6) (pc' := 148) X43 hx (hb hby at_146) rfl rfl ?_
          refine i_i2b (pc' := 149) X43 hx (hb hby at_148) rfl ?_
          refine i_istore (L' := #[.val (.int p1), .val (.int p2), .val (.int p3), .val (.int p4), .val (.int p5), .val (.int p6), .val (.int v1), .val (.int v2), .val (.int v3), .val (.int v5), .val (.ref b6), .val (.int kx), .val (.int (3 : Int32)), .val (.int v42), .val (.ref b43), .val (.int (p6.toInt8.toInt32)), .unset, .unset]) (pc' := 151) X43 hx (hb hby at_149) rfl rfl ?_
          refine i_aload (v := (.ref b43)) (pc' := 153) X43 hx (hb hby at_151) rfl rfl rfl ?_
          refine i_iload (v := v42) (pc' := 155) X43 hx (hb hby at_153) rfl rfl ?_
          refine i_iload (v := (p6.toInt8.toInt32)) (pc' := 157) X43 hx (hb hby at_155) rfl rfl ?_
          refine saB (pc' := 158) X43 hx hZ A43 ge43 (own_in (k := (K + 3 + N)) (M := (K + N + 4)) hE (by omega)).1 (own_in (k := (K + 3 + N)) (M := (K + N + 4)) hE (by omega)).2.1 (hb hby at_157) rfl fun T44 h44 X44 W44 => ?_
          obtain ⟨g44, hg44, hf44, A44⟩ : ∃ g : Nat → Int32, (∀ i, g i = if i = (K + 3 + N) then (p6.toInt8.toInt32) else (fun _ => (0 : Int32)) i) ∧ (∀ i, fits .byte (.int (g i)) = true) ∧ Av Z h44 b43 .byte (K + N + 4) (fun i => .int (g i)) := ⟨_, fun _ => rfl, own_fup (fun _ => own_f0), (own_stB (k := (K + 3 + N)) (g := (fun _ => (0 : Int32))) (own_in (k := (K + 3 + N)) (M := (K + N + 4)) hE (by omega)).2.2 A43 W44)⟩
          have J45 : ∀ (T45 : State) (h45 : Heap) (ga : Nat → Int32), Pn p l e room_1 s m #[(.int p1), (.int p2), (.int p3), (.int p4), (.int p5), (.int p6)] below meth c T45 h45 n0 2 65541 → Keep h0 h45 [] → Av Z h45 b6 .byte N (fun i => .int (gb i)) → Av Z h45 b43 .byte (K + N + 4) (fun i => .int (ga i)) → (∀ i, fits .byte (.int (ga i)) = true) → ga (K + 3 + N) = (p6.toInt8.toInt32) → (0 < K → ga (K - 1) = (p6.toInt8.toInt32)) → Go p e s below n0 Q0 room_1 T45 (mkF m 172 #[.val (.int p1), .val (.int p2), .val (.int p3), .val (.int p4), .val (.int p5), .val (.int p6), .val (.int v1), .val (.int v2), .val (.int v3), .val (.int v5), .val (.ref b6), .val (.int kx), .val (.int (3 : Int32)), .val (.int v42), .val (.ref b43), .val (.int (p6.toInt8.toInt32)), .unset, .unset] []) := by
            intro T45 h45 ga  X45 K45 G45_0 G45_1 hga hs1 hs2
            refine i_aload (v := (.ref b6)) (pc' := 174) X45 hx (hb hby at_172) rfl rfl rfl ?_
            refine i_aload (v := (.ref b43)) (pc' := 176) X45 hx (hb hby at_174) rfl rfl rfl ?_
            refine i_iload (v := v5) (pc' := 178) X45 hx (hb hby at_176) rfl rfl ?_
            refine cS (y := (⟨"com/example/rangewright/rangewright/storage/Codec", "putBytes", "([B[BI)I"⟩ : MethodName)) (rest := []) (pc' := 181) 0 [(.ref b6), (.ref b43), (.int v5)] X45 hx hZ hown (hw _ (List.mem_of_getElem? (i := 1) rfl)) (hw _ (List.mem_of_getElem? (i := 2) rfl)) (hw _ (List.mem_of_getElem? (i := 3) rfl)) (hw _ (List.mem_of_getElem? (i := 4) rfl)) (by decide) (rm1 l Z a0 hw [] b6 b43 v5 N (K + N + 4) K gb ga n0 h45 X45.le G45_0 G45_1 ge43 ne_b6_b43 (by omega) ho hK3 rfl hgb hga) (by decide) (by decide) (by rw [hml]; rfl) rfl (lenOf pd0 rfl) rfl (Nat.le_of_eq rfl) (hb hby at_178) rfl (by decide) (by decide) ?_
            intro r46 T46 h46 X46 q46
            obtain ⟨r46, ga'46, rfl, K46c, P46_0, p46_0, p46_1, p46_2, p46_3, p46_4, p46_5, p46_6, p46_7⟩ := q46
            show Go _ _ _ _ _ _ _ T46 (mkF m 181 #[.val (.int p1), .val (.int p2), .val (.int p3), .val (.int p4), .val (.int p5), .val (.int p6), .val (.int v1), .val (.int v2), .val (.int v3), .val (.int v5), .val (.ref b6), .val (.int kx), .val (.int (3 : Int32)), .val (.int v42), .val (.ref b43), .val (.int (p6.toInt8.toInt32)), .unset, .unset] [(.int r46)])
            have Yq0 := p46_0
            have Yq1 := p46_1
            have Yq2 := p46_2
            have Yq3 := p46_3
            have Yq4 := p46_4
            have Yq5 := p46_5
            have Yq6 := p46_6
            have Yq7 := p46_7
            refine i_istore (L' := #[.val (.int p1), .val (.int p2), .val (.int p3), .val (.int p4), .val (.int p5), .val (.int p6), .val (.int v1), .val (.int v2), .val (.int v3), .val (.int v5), .val (.ref b6), .val (.int kx), .val (.int (3 : Int32)), .val (.int v42), .val (.ref b43), .val (.int (p6.toInt8.toInt32)), .val (.int r46), .unset]) (pc' := 183) X46 hx (hb hby at_181) rfl rfl ?_
            refine i_iload (v := r46) (pc' := 185) X46 hx (hb hby at_183) rfl rfl ?_
            refine i_iload (v := v42) (pc' := 187) X46 hx (hb hby at_185) rfl rfl ?_
            refine i_icT (pc' := 192) X46 hx (hb hby at_187) (XT.ii_eq_t (Int32.toInt_inj.mp (by rw [Yq0, hvb, hE]))) (by decide) (by decide) ?_
            refine i_aload (v := (.ref b43)) (pc' := 194) X46 hx (hb hby at_192) rfl rfl rfl ?_
            refine i_iload (v := v42) (pc' := 196) X46 hx (hb hby at_194) rfl rfl ?_
            refine ldB (v := (.int (ga'46 (K + 3 + N)))) (pc' := 197) X46 hx hZ P46_0 (own_in (k := (K + 3 + N)) (M := (K + N + 4)) hE (by omega)).1 (own_in (k := (K + 3 + N)) (M := (K + N + 4)) hE (by omega)).2.1 (congrArg (fun i => Value.int (ga'46 i)) (own_in (k := (K + 3 + N)) (M := (K + N + 4)) hE (by omega)).2.2) (hb hby at_196) rfl ?_
            refine i_iload (v := (p6.toInt8.toInt32)) (pc' := 199) X46 hx (hb hby at_197) rfl rfl ?_
            refine i_icT (pc' := 204) X46 hx (hb hby at_199) (XT.ii_eq_t ((Yq3 _ (by omega)).trans hs1)) (by decide) (by decide) ?_
            refine i_iload (v := v5) (pc' := 206) X46 hx (hb hby at_204) rfl rfl ?_
            by_cases hc47 : 0 < v5
            · skip
              have hko206 := (own_lt _ _).mp hc47
              rw [own_z] at hko206
              refine i_ifF (pc' := 209) X46 hx (hb hby at_206) rfl (XT.i0_le_f hc47) ?_
              refine i_aload (v := (.ref b43)) (pc' := 211) X46 hx (hb hby at_209) rfl rfl rfl ?_
              refine i_iload (v := v5) (pc' := 213) X46 hx (hb hby at_211) rfl rfl ?_
              refine i_iconst (pc' := 214) (1 : Int32) X46 hx (hb hby at_213) rfl (by decide) ?_
              refine i_isub (pc' := 215) X46 hx (hb hby at_214) rfl ?_
              refine ldB (v := (.int (ga'46 (K - 1)))) (pc' := 216) X46 hx hZ P46_0 (own_in (k := (K - 1)) (M := (K + N + 4)) (own_s1 ho (by omega) (by omega)) (by omega)).1 (own_in (k := (K - 1)) (M := (K + N + 4)) (own_s1 ho (by omega) (by omega)) (by omega)).2.1 (congrArg (fun i => Value.int (ga'46 i)) (own_in (k := (K - 1)) (M := (K + N + 4)) (own_s1 ho (by omega) (by omega)) (by omega)).2.2) (hb hby at_215) rfl ?_
              refine i_iload (v := (p6.toInt8.toInt32)) (pc' := 218) X46 hx (hb hby at_216) rfl rfl ?_
              refine i_icT (pc' := 223) X46 hx (hb hby at_218) (XT.ii_eq_t ((Yq1 _ (by omega)).trans (hs2 (by omega)))) (by decide) (by decide) ?_
              refine i_iload (v := (3 : Int32)) (pc' := 225) X46 hx (hb hby at_223) rfl rfl ?_
              refine i_iconst (pc' := 226) (1 : Int32) X46 hx (hb hby at_225) rfl (by decide) ?_
              refine i_icT (pc' := 242) X46 hx (hb hby at_226) (XT.ii_ne_t (by decide)) (by decide) (by decide) ?_
              refine i_aload (v := (.ref b43)) (pc' := 244) X46 hx (hb hby at_242) rfl rfl rfl ?_
              refine i_iload (v := v5) (pc' := 246) X46 hx (hb hby at_244) rfl rfl ?_
              refine ldB (v := (.int (ga'46 K))) (pc' := 247) X46 hx hZ P46_0 (own_in (k := K) (M := (K + N + 4)) ho (by omega)).1 (own_in (k := K) (M := (K + N + 4)) ho (by omega)).2.1 (congrArg (fun i => Value.int (ga'46 i)) (own_in (k := K) (M := (K + N + 4)) ho (by omega)).2.2) (hb hby at_246) rfl ?_
              refine i_iload (v := v3) (pc' := 249) X46 hx (hb hby at_247) rfl rfl ?_
              refine i_bipush (pc' := 251) (127 : Int32) X46 hx (hb hby at_249) rfl (by decide) ?_
              refine i_iand (pc' := 252) X46 hx (hb hby at_251) rfl ?_
              refine i_sipush (pc' := 255) (128 : Int32) X46 hx (hb hby at_252) rfl (by decide) ?_
              refine i_ior (pc' := 256) X46 hx (hb hby at_255) rfl ?_
              refine i_i2b (pc' := 257) X46 hx (hb hby at_256) rfl ?_
              refine i_icT (pc' := 262) X46 hx (hb hby at_257) (XT.ii_eq_t (by rw [Yq5 (by omega), eNn])) (by decide) (by decide) ?_
              refine i_iload (v := (3 : Int32)) (pc' := 264) X46 hx (hb hby at_262) rfl rfl ?_
              refine i_iconst (pc' := 265) (2 : Int32) X46 hx (hb hby at_264) rfl (by decide) ?_
              refine i_icT (pc' := 286) X46 hx (hb hby at_265) (XT.ii_ne_t (by decide)) (by decide) (by decide) ?_
              refine i_aload (v := (.ref b43)) (pc' := 288) X46 hx (hb hby at_286) rfl rfl rfl ?_
              refine i_iload (v := v5) (pc' := 290) X46 hx (hb hby at_288) rfl rfl ?_
              refine i_iconst (pc' := 291) (1 : Int32) X46 hx (hb hby at_290) rfl (by decide) ?_
              refine i_iadd (pc' := 292) X46 hx (hb hby at_291) rfl ?_
              refine ldB (v := (.int (ga'46 (K + 1)))) (pc' := 293) X46 hx hZ P46_0 (own_in (k := (K + 1)) (M := (K + N + 4)) (own_add ho (n := 1) (by decide) (by omega)) (by omega)).1 (own_in (k := (K + 1)) (M := (K + N + 4)) (own_add ho (n := 1) (by decide) (by omega)) (by omega)).2.1 (congrArg (fun i => Value.int (ga'46 i)) (own_in (k := (K + 1)) (M := (K + N + 4)) (own_add ho (n := 1) (by decide) (by omega)) (by omega)).2.2) (hb hby at_292) rfl ?_
              refine i_iload (v := v3) (pc' := 295) X46 hx (hb hby at_293) rfl rfl ?_
              refine i_bipush (pc' := 297) (7 : Int32) X46 hx (hb hby at_295) rfl (by decide) ?_
              refine i_iushr (pc' := 298) X46 hx (hb hby at_297) rfl ?_
              refine i_bipush (pc' := 300) (127 : Int32) X46 hx (hb hby at_298) rfl (by decide) ?_
              refine i_iand (pc' := 301) X46 hx (hb hby at_300) rfl ?_
              refine i_sipush (pc' := 304) (128 : Int32) X46 hx (hb hby at_301) rfl (by decide) ?_
              refine i_ior (pc' := 305) X46 hx (hb hby at_304) rfl ?_
              refine i_i2b (pc' := 306) X46 hx (hb hby at_305) rfl ?_
              refine i_icT (pc' := 311) X46 hx (hb hby at_306) (XT.ii_eq_t (by rw [(Yq7 (by omega)).1, eNn])) (by decide) (by decide) ?_
              refine i_aload (v := (.ref b43)) (pc' := 313) X46 hx (hb hby at_311) rfl rfl rfl ?_
              refine i_iload (v := v5) (pc' := 315) X46 hx (hb hby at_313) rfl rfl ?_
              refine i_iconst (pc' := 316) (2 : Int32) X46 hx (hb hby at_315) rfl (by decide) ?_
              refine i_iadd (pc' := 317) X46 hx (hb hby at_316) rfl ?_
              refine ldB (v := (.int (ga'46 (K + 2)))) (pc' := 318) X46 hx hZ P46_0 (own_in (k := (K + 2)) (M := (K + N + 4)) (own_add ho (n := 2) (by decide) (by omega)) (by omega)).1 (own_in (k := (K + 2)) (M := (K + N + 4)) (own_add ho (n := 2) (by decide) (by omega)) (by omega)).2.1 (congrArg (fun i => Value.int (ga'46 i)) (own_in (k := (K + 2)) (M := (K + N + 4)) (own_add ho (n := 2) (by decide) (by omega)) (by omega)).2.2) (hb hby at_317) rfl ?_
              refine i_iload (v := v3) (pc' := 320) X46 hx (hb hby at_318) rfl rfl ?_
              refine i_bipush (pc' := 322) (14 : Int32) X46 hx (hb hby at_320) rfl (by decide) ?_
              refine i_iushr (pc' := 323) X46 hx (hb hby at_322) rfl ?_
              refine i_i2b (pc' := 324) X46 hx (hb hby at_323) rfl ?_
              refine i_icT (pc' := 329) X46 hx (hb hby at_324) (XT.ii_eq_t (by rw [(Yq7 (by omega)).2, eNn, own_us14 _ hn.1])) (by decide) (by decide) ?_
              refine i_iload (v := v5) (pc' := 331) X46 hx (hb hby at_329) rfl rfl ?_
              refine i_iload (v := (3 : Int32)) (pc' := 333) X46 hx (hb hby at_331) rfl rfl ?_
              refine i_iadd (pc' := 334) X46 hx (hb hby at_333) rfl ?_
              obtain ⟨v48, hv48⟩ : ∃ zz : Int32, zz = (v5 + (3 : Int32)) := ⟨_, rfl⟩
              rw [← hv48]
              refine i_istore (L' := #[.val (.int p1), .val (.int p2), .val (.int p3), .val (.int p4), .val (.int p5), .val (.int p6), .val (.int v1), .val (.int v2), .val (.int v3), .val (.int v5), .val (.ref b6), .val (.int kx), .val (.int (3 : Int32)), .val (.int v42), .val (.ref b43), .val (.int (p6.toInt8.toInt32)), .val (.int r46), .val (.int v48)]) (pc' := 336) X46 hx (hb hby at_334) rfl rfl ?_
              have hS : v48.toInt = ((K + 3 : Nat) : Int) := by rw [hv48]; exact own_add ho (n := 3) (by decide) (by omega)
              refine i_iload (v := v3) (pc' := 338) X46 hx (hb hby at_336) rfl rfl ?_
              by_cases hc49 : 0 < v3
              · skip
                have hkn := (own_lt _ _).mp hc49
                rw [own_z] at hkn
                have hXx := hX (by omega)
                refine i_ifF (pc' := 341) X46 hx (hb hby at_338) rfl (XT.i0_le_f hc49) ?_
                refine i_aload (v := (.ref b43)) (pc' := 343) X46 hx (hb hby at_341) rfl rfl rfl ?_
                refine i_iload (v := v48) (pc' := 345) X46 hx (hb hby at_343) rfl rfl ?_
                refine ldB (v := (.int (ga'46 (K + 3)))) (pc' := 346) X46 hx hZ P46_0 (own_in (k := (K + 3)) (M := (K + N + 4)) hS (by omega)).1 (own_in (k := (K + 3)) (M := (K + N + 4)) hS (by omega)).2.1 (congrArg (fun i => Value.int (ga'46 i)) (own_in (k := (K + 3)) (M := (K + N + 4)) hS (by omega)).2.2) (hb hby at_345) rfl ?_
                refine i_aload (v := (.ref b6)) (pc' := 348) X46 hx (hb hby at_346) rfl rfl rfl ?_
                refine i_iconst (pc' := 349) (0 : Int32) X46 hx (hb hby at_348) rfl (by decide) ?_
                have F50 : Av Z h46 b6 .byte N (fun i => .int (gb i)) := (G45_0.keep K46c (ninS ne_b6_b43 nin0))
                refine ldB (v := (.int (gb 0))) (pc' := 350) X46 hx hZ F50 (own_in (k := 0) (M := N) (by decide) (by omega)).1 (own_in (k := 0) (M := N) (by decide) (by omega)).2.1 (congrArg (fun i => Value.int (gb i)) (own_in (k := 0) (M := N) (by decide) (by omega)).2.2) (hb hby at_349) rfl ?_
                refine i_icT (pc' := 355) X46 hx (hb hby at_350) (XT.ii_eq_t (by have q := Yq2 0 (by omega); rw [hvb] at q; exact q)) (by decide) (by decide) ?_
                refine i_aload (v := (.ref b43)) (pc' := 357) X46 hx (hb hby at_355) rfl rfl rfl ?_
                refine i_iload (v := v48) (pc' := 359) X46 hx (hb hby at_357) rfl rfl ?_
                refine i_iload (v := v3) (pc' := 361) X46 hx (hb hby at_359) rfl rfl ?_
                refine i_iadd (pc' := 362) X46 hx (hb hby at_361) rfl ?_
                refine i_iconst (pc' := 363) (1 : Int32) X46 hx (hb hby at_362) rfl (by decide) ?_
                refine i_isub (pc' := 364) X46 hx (hb hby at_363) rfl ?_
                refine ldB (v := (.int (ga'46 (K + 3 + N - 1)))) (pc' := 365) X46 hx hZ P46_0 (own_in (k := (K + 3 + N - 1)) (M := (K + N + 4)) (own_s1 (own_add hS hNn (by omega)) (by omega) (by omega)) (by omega)).1 (own_in (k := (K + 3 + N - 1)) (M := (K + N + 4)) (own_s1 (own_add hS hNn (by omega)) (by omega) (by omega)) (by omega)).2.1 (congrArg (fun i => Value.int (ga'46 i)) (own_in (k := (K + 3 + N - 1)) (M := (K + N + 4)) (own_s1 (own_add hS hNn (by omega)) (by omega) (by omega)) (by omega)).2.2) (hb hby at_364) rfl ?_
                refine i_aload (v := (.ref b6)) (pc' := 367) X46 hx (hb hby at_365) rfl rfl rfl ?_
                refine i_iload (v := v3) (pc' := 369) X46 hx (hb hby at_367) rfl rfl ?_
                refine i_iconst (pc' := 370) (1 : Int32) X46 hx (hb hby at_369) rfl (by decide) ?_
                refine i_isub (pc' := 371) X46 hx (hb hby at_370) rfl ?_
                refine ldB (v := (.int (gb (N - 1)))) (pc' := 372) X46 hx hZ F50 (own_in (k := (N - 1)) (M := N) (own_s1 hNn (by omega) (by omega)) (by omega)).1 (own_in (k := (N - 1)) (M := N) (own_s1 hNn (by omega) (by omega)) (by omega)).2.1 (congrArg (fun i => Value.int (gb i)) (own_in (k := (N - 1)) (M := N) (own_s1 hNn (by omega) (by omega)) (by omega)).2.2) (hb hby at_371) rfl ?_
                refine i_icT (pc' := 377) X46 hx (hb hby at_372) (XT.ii_eq_t (by have q := Yq2 (N - 1) (by omega); rw [hvb, show K + 3 + (N - 1) = K + 3 + N - 1 by omega] at q; exact q)) (by decide) (by decide) ?_
                refine i_aload (v := (.ref b43)) (pc' := 379) X46 hx (hb hby at_377) rfl rfl rfl ?_
                refine i_iload (v := v48) (pc' := 381) X46 hx (hb hby at_379) rfl rfl ?_
                refine i_iload (v := kx) (pc' := 383) X46 hx (hb hby at_381) rfl rfl ?_
                refine i_iadd (pc' := 384) X46 hx (hb hby at_383) rfl ?_
                refine ldB (v := (.int (ga'46 (K + 3 + X)))) (pc' := 385) X46 hx hZ P46_0 (own_in (k := (K + 3 + X)) (M := (K + N + 4)) (own_add hS hXx.1 (by omega)) (by omega)).1 (own_in (k := (K + 3 + X)) (M := (K + N + 4)) (own_add hS hXx.1 (by omega)) (by omega)).2.1 (congrArg (fun i => Value.int (ga'46 i)) (own_in (k := (K + 3 + X)) (M := (K + N + 4)) (own_add hS hXx.1 (by omega)) (by omega)).2.2) (hb hby at_384) rfl ?_
                refine i_aload (v := (.ref b6)) (pc' := 387) X46 hx (hb hby at_385) rfl rfl rfl ?_
                refine i_iload (v := kx) (pc' := 389) X46 hx (hb hby at_387) rfl rfl ?_
                refine ldB (v := (.int (gb X))) (pc' := 390) X46 hx hZ F50 (own_in (k := X) (M := N) hXx.1 (by omega)).1 (own_in (k := X) (M := N) hXx.1 (by omega)).2.1 (congrArg (fun i => Value.int (gb i)) (own_in (k := X) (M := N) hXx.1 (by omega)).2.2) (hb hby at_389) rfl ?_
                refine i_icT (pc' := 395) X46 hx (hb hby at_390) (XT.ii_eq_t (by have q := Yq2 X hXx.2; rw [hvb] at q; exact q)) (by decide) (by decide) ?_
                refine i_iconst (pc' := 396) (1 : Int32) X46 hx (hb hby at_395) rfl (by decide) ?_
                refine rN X46 hx hlk hret (by simp) (hb hby at_396) (by decide) (by decide) ?_
                exact rfl
              · skip
                refine i_ifT (pc' := 395) X46 hx (hb hby at_338) (XT.i0_le_t hc49) (by decide) (by decide) ?_
                refine i_iconst (pc' := 396) (1 : Int32) X46 hx (hb hby at_395) rfl (by decide) ?_
                refine rN X46 hx hlk hret (by simp) (hb hby at_396) (by decide) (by decide) ?_
                exact rfl
            · skip
              refine i_ifT (pc' := 223) X46 hx (hb hby at_206) (XT.i0_le_t hc47) (by decide) (by decide) ?_
              refine i_iload (v := (3 : Int32)) (pc' := 225) X46 hx (hb hby at_223) rfl rfl ?_
              refine i_iconst (pc' := 226) (1 : Int32) X46 hx (hb hby at_225) rfl (by decide) ?_
              refine i_icT (pc' := 242) X46 hx (hb hby at_226) (XT.ii_ne_t (by decide)) (by decide) (by decide) ?_
              refine i_aload (v := (.ref b43)) (pc' := 244) X46 hx (hb hby at_242) rfl rfl rfl ?_
              refine i_iload (v := v5) (pc' := 246) X46 hx (hb hby at_244) rfl rfl ?_
              refine ldB (v := (.int (ga'46 K))) (pc' := 247) X46 hx hZ P46_0 (own_in (k := K) (M := (K + N + 4)) ho (by omega)).1 (own_in (k := K) (M := (K + N + 4)) ho (by omega)).2.1 (congrArg (fun i => Value.int (ga'46 i)) (own_in (k := K) (M := (K + N + 4)) ho (by omega)).2.2) (hb hby at_246) rfl ?_
              refine i_iload (v := v3) (pc' := 249) X46 hx (hb hby at_247) rfl rfl ?_
              refine i_bipush (pc' := 251) (127 : Int32) X46 hx (hb hby at_249) rfl (by decide) ?_
              refine i_iand (pc' := 252) X46 hx (hb hby at_251) rfl ?_
              refine i_sipush (pc' := 255) (128 : Int32) X46 hx (hb hby at_252) rfl (by decide) ?_
              refine i_ior (pc' := 256) X46 hx (hb hby at_255) rfl ?_
              refine i_i2b (pc' := 257) X46 hx (hb hby at_256) rfl ?_
              refine i_icT (pc' := 262) X46 hx (hb hby at_257) (XT.ii_eq_t (by rw [Yq5 (by omega), eNn])) (by decide) (by decide) ?_
              refine i_iload (v := (3 : Int32)) (pc' := 264) X46 hx (hb hby at_262) rfl rfl ?_
              refine i_iconst (pc' := 265) (2 : Int32) X46 hx (hb hby at_264) rfl (by decide) ?_
              refine i_icT (pc' := 286) X46 hx (hb hby at_265) (XT.ii_ne_t (by decide)) (by decide) (by decide) ?_
              refine i_aload (v := (.ref b43)) (pc' := 288) X46 hx (hb hby at_286) rfl rfl rfl ?_
              refine i_iload (v := v5) (pc' := 290) X46 hx (hb hby at_288) rfl rfl ?_
              refine i_iconst (pc' := 291) (1 : Int32) X46 hx (hb hby at_290) rfl (by decide) ?_
              refine i_iadd (pc' := 292) X46 hx (hb hby at_291) rfl ?_
              refine ldB (v := (.int (ga'46 (K + 1)))) (pc' := 293) X46 hx hZ P46_0 (own_in (k := (K + 1)) (M := (K + N + 4)) (own_add ho (n := 1) (by decide) (by omega)) (by omega)).1 (own_in (k := (K + 1)) (M := (K + N + 4)) (own_add ho (n := 1) (by decide) (by omega)) (by omega)).2.1 (congrArg (fun i => Value.int (ga'46 i)) (own_in (k := (K + 1)) (M := (K + N + 4)) (own_add ho (n := 1) (by decide) (by omega)) (by omega)).2.2) (hb hby at_292) rfl ?_
              refine i_iload (v := v3) (pc' := 295) X46 hx (hb hby at_293) rfl rfl ?_
              refine i_bipush (pc' := 297) (7 : Int32) X46 hx (hb hby at_295) rfl (by decide) ?_
              refine i_iushr (pc' := 298) X46 hx (hb hby at_297) rfl ?_
              refine i_bipush (pc' := 300) (127 : Int32) X46 hx (hb hby at_298) rfl (by decide) ?_
              refine i_iand (pc' := 301) X46 hx (hb hby at_300) rfl ?_
              refine i_sipush (pc' := 304) (128 : Int32) X46 hx (hb hby at_301) rfl (by decide) ?_
              refine i_ior (pc' := 305) X46 hx (hb hby at_304) rfl ?_
              refine i_i2b (pc' := 306) X46 hx (hb hby at_305) rfl ?_
              refine i_icT (pc' := 311) X46 hx (hb hby at_306) (XT.ii_eq_t (by rw [(Yq7 (by omega)).1, eNn])) (by decide) (by decide) ?_
              refine i_aload (v := (.ref b43)) (pc' := 313) X46 hx (hb hby at_311) rfl rfl rfl ?_
              refine i_iload (v := v5) (pc' := 315) X46 hx (hb hby at_313) rfl rfl ?_
              refine i_iconst (pc' := 316) (2 : Int32) X46 hx (hb hby at_315) rfl (by decide) ?_
              refine i_iadd (pc' := 317) X46 hx (hb hby at_316) rfl ?_
              refine ldB (v := (.int (ga'46 (K + 2)))) (pc' := 318) X46 hx hZ P46_0 (own_in (k := (K + 2)) (M := (K + N + 4)) (own_add ho (n := 2) (by decide) (by omega)) (by omega)).1 (own_in (k := (K + 2)) (M := (K + N + 4)) (own_add ho (n := 2) (by decide) (by omega)) (by omega)).2.1 (congrArg (fun i => Value.int (ga'46 i)) (own_in (k := (K + 2)) (M := (K + N + 4)) (own_add ho (n := 2) (by decide) (by omega)) (by omega)).2.2) (hb hby at_317) rfl ?_
              refine i_iload (v := v3) (pc' := 320) X46 hx (hb hby at_318) rfl rfl ?_
              refine i_bipush (pc' := 322) (14 : Int32) X46 hx (hb hby at_320) rfl (by decide) ?_
              refine i_iushr (pc' := 323) X46 hx (hb hby at_322) rfl ?_
              refine i_i2b (pc' := 324) X46 hx (hb hby at_323) rfl ?_
              refine i_icT (pc' := 329) X46 hx (hb hby at_324) (XT.ii_eq_t (by rw [(Yq7 (by omega)).2, eNn, own_us14 _ hn.1])) (by decide) (by decide) ?_
              refine i_iload (v := v5) (pc' := 331) X46 hx (hb hby at_329) rfl rfl ?_
              refine i_iload (v := (3 : Int32)) (pc' := 333) X46 hx (hb hby at_331) rfl rfl ?_
              refine i_iadd (pc' := 334) X46 hx (hb hby at_333) rfl ?_
              obtain ⟨v51, hv51⟩ : ∃ zz : Int32, zz = (v5 + (3 : Int32)) := ⟨_, rfl⟩
              rw [← hv51]
              refine i_istore (L' := #[.val (.int p1), .val (.int p2), .val (.int p3), .val (.int p4), .val (.int p5), .val (.int p6), .val (.int v1), .val (.int v2), .val (.int v3), .val (.int v5), .val (.ref b6), .val (.int kx), .val (.int (3 : Int32)), .val (.int v42), .val (.ref b43), .val (.int (p6.toInt8.toInt32)), .val (.int r46), .val (.int v51)]) (pc' := 336) X46 hx (hb hby at_334) rfl rfl ?_
              have hS : v51.toInt = ((K + 3 : Nat) : Int) := by rw [hv51]; exact own_add ho (n := 3) (by decide) (by omega)
              refine i_iload (v := v3) (pc' := 338) X46 hx (hb hby at_336) rfl rfl ?_
              by_cases hc52 : 0 < v3
              · skip
                have hkn := (own_lt _ _).mp hc52
                rw [own_z] at hkn
                have hXx := hX (by omega)
                refine i_ifF (pc' := 341) X46 hx (hb hby at_338) rfl (XT.i0_le_f hc52) ?_
                refine i_aload (v := (.ref b43)) (pc' := 343) X46 hx (hb hby at_341) rfl rfl rfl ?_
                refine i_iload (v := v51) (pc' := 345) X46 hx (hb hby at_343) rfl rfl ?_
                refine ldB (v := (.int (ga'46 (K + 3)))) (pc' := 346) X46 hx hZ P46_0 (own_in (k := (K + 3)) (M := (K + N + 4)) hS (by omega)).1 (own_in (k := (K + 3)) (M := (K + N + 4)) hS (by omega)).2.1 (congrArg (fun i => Value.int (ga'46 i)) (own_in (k := (K + 3)) (M := (K + N + 4)) hS (by omega)).2.2) (hb hby at_345) rfl ?_
                refine i_aload (v := (.ref b6)) (pc' := 348) X46 hx (hb hby at_346) rfl rfl rfl ?_
                refine i_iconst (pc' := 349) (0 : Int32) X46 hx (hb hby at_348) rfl (by decide) ?_
                have F53 : Av Z h46 b6 .byte N (fun i => .int (gb i)) := (G45_0.keep K46c (ninS ne_b6_b43 nin0))
                refine ldB (v := (.int (gb 0))) (pc' := 350) X46 hx hZ F53 (own_in (k := 0) (M := N) (by decide) (by omega)).1 (own_in (k := 0) (M := N) (by decide) (by omega)).2.1 (congrArg (fun i => Value.int (gb i)) (own_in (k := 0) (M := N) (by decide) (by omega)).2.2) (hb hby at_349) rfl ?_
                refine i_icT (pc' := 355) X46 hx (hb hby at_350) (XT.ii_eq_t (by have q := Yq2 0 (by omega); rw [hvb] at q; exact q)) (by decide) (by decide) ?_
                refine i_aload (v := (.ref b43)) (pc' := 357) X46 hx (hb hby at_355) rfl rfl rfl ?_
                refine i_iload (v := v51) (pc' := 359) X46 hx (hb hby at_357) rfl rfl ?_
                refine i_iload (v := v3) (pc' := 361) X46 hx (hb hby at_359) rfl rfl ?_
                refine i_iadd (pc' := 362) X46 hx (hb hby at_361) rfl ?_
                refine i_iconst (pc' := 363) (1 : Int32) X46 hx (hb hby at_362) rfl (by decide) ?_
                refine i_isub (pc' := 364) X46 hx (hb hby at_363) rfl ?_
                refine ldB (v := (.int (ga'46 (K + 3 + N - 1)))) (pc' := 365) X46 hx hZ P46_0 (own_in (k := (K + 3 + N - 1)) (M := (K + N + 4)) (own_s1 (own_add hS hNn (by omega)) (by omega) (by omega)) (by omega)).1 (own_in (k := (K + 3 + N - 1)) (M := (K + N + 4)) (own_s1 (own_add hS hNn (by omega)) (by omega) (by omega)) (by omega)).2.1 (congrArg (fun i => Value.int (ga'46 i)) (own_in (k := (K + 3 + N - 1)) (M := (K + N + 4)) (own_s1 (own_add hS hNn (by omega)) (by omega) (by omega)) (by omega)).2.2) (hb hby at_364) rfl ?_
                refine i_aload (v := (.ref b6)) (pc' := 367) X46 hx (hb hby at_365) rfl rfl rfl ?_
                refine i_iload (v := v3) (pc' := 369) X46 hx (hb hby at_367) rfl rfl ?_
                refine i_iconst (pc' := 370) (1 : Int32) X46 hx (hb hby at_369) rfl (by decide) ?_
                refine i_isub (pc' := 371) X46 hx (hb hby at_370) rfl ?_
                refine ldB (v := (.int (gb (N - 1)))) (pc' := 372) X46 hx hZ F53 (own_in (k := (N - 1)) (M := N) (own_s1 hNn (by omega) (by omega)) (by omega)).1 (own_in (k := (N - 1)) (M := N) (own_s1 hNn (by omega) (by omega)) (by omega)).2.1 (congrArg (fun i => Value.int (gb i)) (own_in (k := (N - 1)) (M := N) (own_s1 hNn (by omega) (by omega)) (by omega)).2.2) (hb hby at_371) rfl ?_
                refine i_icT (pc' := 377) X46 hx (hb hby at_372) (XT.ii_eq_t (by have q := Yq2 (N - 1) (by omega); rw [hvb, show K + 3 + (N - 1) = K + 3 + N - 1 by omega] at q; exact q)) (by decide) (by decide) ?_
                refine i_aload (v := (.ref b43)) (pc' := 379) X46 hx (hb hby at_377) rfl rfl rfl ?_
                refine i_iload (v := v51) (pc' := 381) X46 hx (hb hby at_379) rfl rfl ?_
                refine i_iload (v := kx) (pc' := 383) X46 hx (hb hby at_381) rfl rfl ?_
                refine i_iadd (pc' := 384) X46 hx (hb hby at_383) rfl ?_
                refine ldB (v := (.int (ga'46 (K + 3 + X)))) (pc' := 385) X46 hx hZ P46_0 (own_in (k := (K + 3 + X)) (M := (K + N + 4)) (own_add hS hXx.1 (by omega)) (by omega)).1 (own_in (k := (K + 3 + X)) (M := (K + N + 4)) (own_add hS hXx.1 (by omega)) (by omega)).2.1 (congrArg (fun i => Value.int (ga'46 i)) (own_in (k := (K + 3 + X)) (M := (K + N + 4)) (own_add hS hXx.1 (by omega)) (by omega)).2.2) (hb hby at_384) rfl ?_
                refine i_aload (v := (.ref b6)) (pc' := 387) X46 hx (hb hby at_385) rfl rfl rfl ?_
                refine i_iload (v := kx) (pc' := 389) X46 hx (hb hby at_387) rfl rfl ?_
                refine ldB (v := (.int (gb X))) (pc' := 390) X46 hx hZ F53 (own_in (k := X) (M := N) hXx.1 (by omega)).1 (own_in (k := X) (M := N) hXx.1 (by omega)).2.1 (congrArg (fun i => Value.int (gb i)) (own_in (k := X) (M := N) hXx.1 (by omega)).2.2) (hb hby at_389) rfl ?_
                refine i_icT (pc' := 395) X46 hx (hb hby at_390) (XT.ii_eq_t (by have q := Yq2 X hXx.2; rw [hvb] at q; exact q)) (by decide) (by decide) ?_
                refine i_iconst (pc' := 396) (1 : Int32) X46 hx (hb hby at_395) rfl (by decide) ?_
                refine rN X46 hx hlk hret (by simp) (hb hby at_396) (by decide) (by decide) ?_
                exact rfl
              · skip
                refine i_ifT (pc' := 395) X46 hx (hb hby at_338) (XT.i0_le_t hc52) (by decide) (by decide) ?_
                refine i_iconst (pc' := 396) (1 : Int32) X46 hx (hb hby at_395) rfl (by decide) ?_
                refine rN X46 hx hlk hret (by simp) (hb hby at_396) (by decide) (by decide) ?_
                exact rfl
          refine i_iload (v := v5) (pc' := 160) X44 hx (hb hby at_158) rfl rfl ?_
          by_cases hc54 : 0 < v5
          · skip
            have hko160 := (own_lt _ _).mp hc54
            rw [own_z] at hko160
            refine i_ifF (pc' := 163) X44 hx (hb hby at_160) rfl (XT.i0_le_f hc54) ?_
            refine i_aload (v := (.ref b43)) (pc' := 165) X44 hx (hb hby at_163) rfl rfl rfl ?_
            refine i_iload (v := v5) (pc' := 167) X44 hx (hb hby at_165) rfl rfl ?_
            refine i_iconst (pc' := 168) (1 : Int32) X44 hx (hb hby at_167) rfl (by decide) ?_
            refine i_isub (pc' := 169) X44 hx (hb hby at_168) rfl ?_
            refine i_iload (v := (p6.toInt8.toInt32)) (pc' := 171) X44 hx (hb hby at_169) rfl rfl ?_
            refine saB (pc' := 172) X44 hx hZ A44 ge43 (own_in (k := (K - 1)) (M := (K + N + 4)) (own_s1 ho (by omega) (by omega)) (by omega)).1 (own_in (k := (K - 1)) (M := (K + N + 4)) (own_s1 ho (by omega) (by omega)) (by omega)).2.1 (hb hby at_171) rfl fun T55 h55 X55 W55 => ?_
            obtain ⟨g55, hg55, hf55, A55⟩ : ∃ g : Nat → Int32, (∀ i, g i = if i = (K - 1) then (p6.toInt8.toInt32) else g44 i) ∧ (∀ i, fits .byte (.int (g i)) = true) ∧ Av Z h55 b43 .byte (K + N + 4) (fun i => .int (g i)) := ⟨_, fun _ => rfl, own_fup hf44, (own_stB (k := (K - 1)) (g := g44) (own_in (k := (K - 1)) (M := (K + N + 4)) (own_s1 ho (by omega) (by omega)) (by omega)).2.2 A44 W55)⟩
            have F56 : Av Z h55 b6 .byte N (fun i => .int (gb i)) := (((G7_0.ext E43).other W44 ne_b6_b43).other W55 ne_b6_b43)
            exact J45 _ _ g55 (X55.mono (by decide) (by decide)) ((K43.wr W44 (Or.inr sz_b43)).wr W55 (Or.inr sz_b43)) F56 A55 hf55 (by simp only [hg55, hg44]; (repeat' split) <;> first | rfl | (exfalso; omega) | (exfalso; simp_all; done)) (fun q => by simp only [hg55, hg44]; (repeat' split) <;> first | rfl | (exfalso; omega) | (exfalso; simp_all; done))
          · skip
            refine i_ifT (pc' := 172) X44 hx (hb hby at_160) (XT.i0_le_t hc54) (by decide) (by decide) ?_
            have F57 : Av Z h44 b6 .byte N (fun i => .int (gb i)) := ((G7_0.ext E43).other W44 ne_b6_b43)
            exact J45 _ _ g44 (X44.mono (by decide) (by decide)) (K43.wr W44 (Or.inr sz_b43)) F57 A44 hf44 (by simp only [hg44]; (repeat' split) <;> first | rfl | (exfalso; omega) | (exfalso; simp_all; done)) (fun q => by have u := (not_congr (own_lt _ _)).mp hc54; rw [own_z] at u; omega)
    refine i_iload (v := v3) (pc' := 62) X6 hx (hb hby at_60) rfl rfl ?_
    by_cases hc58 : 0 < v3
    · skip
      refine i_ifF (pc' := 65) X6 hx (hb hby at_62) rfl (XT.i0_le_f hc58) ?_
      have hpos : 0 < v3.toInt := by have u := (own_lt _ _).mp hc58; rw [own_z] at u; exact u
      refine i_iload (v := p5) (pc' := 67) X6 hx (hb hby at_65) rfl rfl ?_
      refine i_ldc (pc' := 69) (2147483647 : Int32) X6 hx hZ hown (hw _ (List.mem_of_getElem? (i := 9) rfl)) (hb hby at_67) rfl ?_
      refine i_iand (pc' := 70) X6 hx (hb hby at_69) rfl ?_
      refine i_iload (v := v3) (pc' := 72) X6 hx (hb hby at_70) rfl rfl ?_
      refine i_irem (pc' := 73) X6 hx (hb hby at_72) rfl (own_nz hc58) ?_
      obtain ⟨v59, hv59⟩ : ∃ zz : Int32, zz = ((p5 &&& (2147483647 : Int32)) % v3) := ⟨_, rfl⟩
      rw [← hv59]
      refine i_istore (L' := #[.val (.int p1), .val (.int p2), .val (.int p3), .val (.int p4), .val (.int p5), .val (.int p6), .val (.int v1), .val (.int v2), .val (.int v3), .val (.int v5), .val (.ref b6), .val (.int v59), .unset, .unset, .unset, .unset, .unset, .unset]) (pc' := 75) X6 hx (hb hby at_73) rfl rfl ?_
      refine i_aload (v := (.ref b6)) (pc' := 77) X6 hx (hb hby at_75) rfl rfl rfl ?_
      refine i_iconst (pc' := 78) (0 : Int32) X6 hx (hb hby at_77) rfl (by decide) ?_
      refine i_iloadN (v := p3) (pc' := 79) X6 hx (hb hby at_78) rfl rfl ?_
      refine i_i2b (pc' := 80) X6 hx (hb hby at_79) rfl ?_
      refine saB (pc' := 81) X6 hx hZ A6 ge6 (own_in (k := 0) (M := N) (by decide) (by omega)).1 (own_in (k := 0) (M := N) (by decide) (by omega)).2.1 (hb hby at_80) rfl fun T60 h60 X60 W60 => ?_
      obtain ⟨g60, hg60, hf60, A60⟩ : ∃ g : Nat → Int32, (∀ i, g i = if i = 0 then (p3.toInt8.toInt32) else (fun _ => (0 : Int32)) i) ∧ (∀ i, fits .byte (.int (g i)) = true) ∧ Av Z h60 b6 .byte N (fun i => .int (g i)) := ⟨_, fun _ => rfl, own_fup (fun _ => own_f0), (own_stB (k := 0) (g := (fun _ => (0 : Int32))) (own_in (k := 0) (M := N) (by decide) (by omega)).2.2 A6 W60)⟩
      refine i_aload (v := (.ref b6)) (pc' := 83) X60 hx (hb hby at_81) rfl rfl rfl ?_
      refine i_iload (v := v3) (pc' := 85) X60 hx (hb hby at_83) rfl rfl ?_
      refine i_iconst (pc' := 86) (1 : Int32) X60 hx (hb hby at_85) rfl (by decide) ?_
      refine i_isub (pc' := 87) X60 hx (hb hby at_86) rfl ?_
      refine i_iloadN (v := p4) (pc' := 88) X60 hx (hb hby at_87) rfl rfl ?_
      refine i_i2b (pc' := 89) X60 hx (hb hby at_88) rfl ?_
      refine saB (pc' := 90) X60 hx hZ A60 ge6 (own_in (k := (N - 1)) (M := N) (own_s1 hNn (by omega) (by omega)) (by omega)).1 (own_in (k := (N - 1)) (M := N) (own_s1 hNn (by omega) (by omega)) (by omega)).2.1 (hb hby at_89) rfl fun T61 h61 X61 W61 => ?_
      obtain ⟨g61, hg61, hf61, A61⟩ : ∃ g : Nat → Int32, (∀ i, g i = if i = (N - 1) then (p4.toInt8.toInt32) else g60 i) ∧ (∀ i, fits .byte (.int (g i)) = true) ∧ Av Z h61 b6 .byte N (fun i => .int (g i)) := ⟨_, fun _ => rfl, own_fup hf60, (own_stB (k := (N - 1)) (g := g60) (own_in (k := (N - 1)) (M := N) (own_s1 hNn (by omega) (by omega)) (by omega)).2.2 A60 W61)⟩
      refine i_aload (v := (.ref b6)) (pc' := 92) X61 hx (hb hby at_90) rfl rfl rfl ?_
      refine i_iload (v := v59) (pc' := 94) X61 hx (hb hby at_92) rfl rfl ?_
      refine i_iload (v := p5) (pc' := 96) X61 hx (hb hby at_94) rfl rfl ?_
      refine i_i2b (pc' := 97) X61 hx (hb hby at_96) rfl ?_
      refine saB (pc' := 98) X61 hx hZ A61 ge6 (own_in (k := v59.toInt.toNat) (M := N) (by have u := own_kr p5 _ hpos; rw [← hv59] at u; omega) (by have u := own_kr p5 _ hpos; rw [← hv59] at u; omega)).1 (own_in (k := v59.toInt.toNat) (M := N) (by have u := own_kr p5 _ hpos; rw [← hv59] at u; omega) (by have u := own_kr p5 _ hpos; rw [← hv59] at u; omega)).2.1 (hb hby at_97) rfl fun T62 h62 X62 W62 => ?_
      obtain ⟨g62, hg62, hf62, A62⟩ : ∃ g : Nat → Int32, (∀ i, g i = if i = v59.toNatClampNeg then (p5.toInt8.toInt32) else g61 i) ∧ (∀ i, fits .byte (.int (g i)) = true) ∧ Av Z h62 b6 .byte N (fun i => .int (g i)) := ⟨_, fun _ => rfl, own_fup hf61, (own_stB (k := v59.toNatClampNeg) (g := g61) rfl A61 W62)⟩
      exact J7 _ _ v59 g62 (X62.mono (by decide) (by decide)) (((K6.wr W60 (Or.inr sz_b6)).wr W61 (Or.inr sz_b6)).wr W62 (Or.inr sz_b6)) A62 hf62 (fun _ => by rw [← hNn, hv59]; exact own_kr _ _ hpos)
    · skip
      refine i_ifT (pc' := 98) X6 hx (hb hby at_62) (XT.i0_le_t hc58) (by decide) (by decide) ?_
      exact J7 _ _ (0 : Int32) (fun _ => (0 : Int32)) (X6.mono (by decide) (by decide)) K6 A6 (fun _ => own_f0) (fun q => by have u := (not_congr (own_lt _ _)).mp hc58; rw [own_z] at u; omega)
  by_cases hc63 : v1 = 0
  · skip
    refine i_ifF (pc' := 15) X0 hx (hb hby at_12) rfl (XT.i0_ne_f hc63) ?_
    refine i_iload (v := v2) (pc' := 17) X0 hx (hb hby at_15) rfl rfl ?_
    refine i_bipush (pc' := 19) (127 : Int32) X0 hx (hb hby at_17) rfl (by decide) ?_
    refine i_iand (pc' := 20) X0 hx (hb hby at_19) rfl ?_
    refine i_goto (pc' := 44) X0 hx (hb hby at_20) (by decide) (by decide) ?_
    have ev3 := hv3
    simp only [if_pos hc63] at ev3
    rw [ev3] at J4
    exact J4 _ (X0.mono (by decide) (by decide))
  · skip
    refine i_ifT (pc' := 23) X0 hx (hb hby at_12) (XT.i0_ne_t hc63) (by decide) (by decide) ?_
    refine i_iload (v := v1) (pc' := 25) X0 hx (hb hby at_23) rfl rfl ?_
    refine i_iconst (pc' := 26) (1 : Int32) X0 hx (hb hby at_25) rfl (by decide) ?_
    by_cases hc64 : v1 = (1 : Int32)
    · skip
      refine i_icF (pc' := 29) X0 hx (hb hby at_26) rfl (XT.ii_ne_f hc64) ?_
      refine i_iload (v := v2) (pc' := 31) X0 hx (hb hby at_29) rfl rfl ?_
      refine i_sipush (pc' := 34) (16383 : Int32) X0 hx (hb hby at_31) rfl (by decide) ?_
      refine i_iand (pc' := 35) X0 hx (hb hby at_34) rfl ?_
      refine i_goto (pc' := 44) X0 hx (hb hby at_35) (by decide) (by decide) ?_
      have ev3 := hv3
      simp only [if_neg hc63, if_pos hc64] at ev3
      rw [ev3] at J4
      exact J4 _ (X0.mono (by decide) (by decide))
    · skip
      refine i_icT (pc' := 38) X0 hx (hb hby at_26) (XT.ii_ne_t hc64) (by decide) (by decide) ?_
      refine i_iload (v := v2) (pc' := 40) X0 hx (hb hby at_38) rfl rfl ?_
      refine i_sipush (pc' := 43) (32767 : Int32) X0 hx (hb hby at_40) rfl (by decide) ?_
      refine i_iand (pc' := 44) X0 hx (hb hby at_43) rfl ?_
      have ev3 := hv3
      simp only [if_neg hc63, if_neg hc64] at ev3
      rw [ev3] at J4
      exact J4 _ (X0.mono (by decide) (by decide))
set_option maxRecDepth 65536 in
set_option maxHeartbeats 40000000 in
theorem comes_1 {Post : Tables → Env → Array Value → State → Outcome → State → Prop} (hpost : ∀ tb e args s v u, (limb_1_1.after args s (.returned v) u = true ∧ limb_1_2.after args s (.returned v) u = true ∧ True) → FrameEnd s (.returned v) u (Jvm.fieldLocs frame_1_writes args s ++ Jvm.arrayLocs frame_1_arrays args s ++ Jvm.staticLocs frame_1_statics s) 16 131200 → Post tb e args s (.returned v) u) :
    ArmFor flags0 classFile x code maxLocals ret World_1 tables_1 room_1 Calls_1 rest_1 Pre_1 Post := by
  intro l hfl _ _ p e ha hc hk s m args below hf hA hF happ hP
  obtain ⟨hcalls, hrest, hpre⟩ := hP
  obtain ⟨-, -, -, hnamed, -, -, -, hat⟩ := (Spec.applies_iff hf).mp happ
  obtain ⟨hg, hn⟩ := and_e (Cond.before_iff.mp (show (Jvm.Cond.and given_1 narrow_1).before args s = true from hpre))
  obtain ⟨g0, k0⟩ := and_e hg
  obtain ⟨g1, k1⟩ := and_e k0
  obtain ⟨g2, k2⟩ := and_e k1
  obtain ⟨g3, k3⟩ := and_e k2
  obtain ⟨g4, k4⟩ := and_e k3
  obtain ⟨g5, k5⟩ := and_e k4
  obtain ⟨w0, w1, w2, w3, w4, w5, rfl⟩ : ∃ w0 w1 w2 w3 w4 w5 : Value, args = #[w0, w1, w2, w3, w4, w5] := by
    have hs : args.size = 6 := by simpa [Cond.value, given_1] using g0
    obtain ⟨L⟩ := args
    match L, hs with
    | [w0, w1, w2, w3, w4, w5], _ => exact ⟨w0, w1, w2, w3, w4, w5, rfl⟩
  have hw := fun d (hd : d ∈ tables_1) => atoms_spec (ws := Jvm.Cond.code x code maxLocals ret :: tables_1) hat d (List.mem_cons_of_mem _ hd)
  have hfit : Fit s := fun {y c} hc i hi => by
    obtain ⟨ha, rfl⟩ := Array.getElem?_eq_some_iff.mp hc
    have q := List.all_eq_true.mp ((Array.all_eq_true_iff_forall_mem.mp hF) _ (Array.getElem_mem ha)) i (List.mem_range.mpr hi)
    simpa [Array.getElem?_eq_getElem hi] using q
  obtain ⟨i0, ei0⟩ := is_v g1
  obtain rfl : w0 = (.int i0) := Option.some.inj ei0
  obtain ⟨i1, ei1⟩ := is_v g2
  obtain rfl : w1 = (.int i1) := Option.some.inj ei1
  obtain ⟨i2, ei2⟩ := is_v g3
  obtain rfl : w2 = (.int i2) := Option.some.inj ei2
  obtain ⟨i3, ei3⟩ := is_v g4
  obtain rfl : w3 = (.int i3) := Option.some.inj ei3
  obtain ⟨i4, ei4⟩ := is_v g5
  obtain rfl : w4 = (.int i4) := Option.some.inj ei4
  obtain ⟨i5, ei5⟩ := is_v k5
  obtain rfl : w5 = (.int i5) := Option.some.inj ei5
  obtain ⟨n, o, h1, h2, h3, _, L, rfl, ⟨rfl, N⟩, hq⟩ := rm0 l s _ hw tables_1 i0 i1 i2 i3 i4 i5 s.heap.size s.heap (Nat.le_refl _)  p e ha hc hk s m _ below hf ((Spec.applies_iff_loose hf).mp happ).1 ⟨rfl, State.Warmed39.refl s, rfl⟩ trivial
  refine ⟨n, _, h1, h2, h3, hpost _ _ _ _ _ _ ⟨Cond.after_iff.mpr rfl, Cond.after_iff.mpr (eq_i res_at (Term.int_eval (1)) rfl), trivial⟩ ⟨hq.1, hq.2.1, (hq.2.2.sift fun y hy => Or.inr (N y hy)).mono (by decide) (by decide)⟩⟩
theorem main_1_1 : Claimed_1_1 := comes_1 fun _ _ _ _ _ _ h hF => ⟨h.1, hF⟩
theorem main_1_2 : Claimed_1_2 := comes_1 fun _ _ _ _ _ _ h hF => ⟨h.2.1, hF⟩
end Jvm.Pilot.@@N@@
namespace Jvm.Pilot.@@N@@
open Jvm Jvm.ClassFile Sem Op Lib Jvm.Free Jvm.Stand Jvm.Pilot.@@N@@.Jvm.D
/-! MADE BY PROGRAM (witnessworld.py) out of the Statement's table words and the real class files: 10 classes; the members and pool entries that the words name. The judged class is class 1, her method 1. -/
namespace start1
open Jvm.ClassFile
def u (s : String) : CpInfo := .utf8 (stringToUtf16 s)
/-- a pool by its gaps: so many unusable entries, then the entry; so many at the end -/
def gap : Nat → List CpInfo → List CpInfo
  | 0, r => r
  | n + 1, r => .unusable :: gap n r
def poolList (es : List (Nat × CpInfo)) (last : Nat) : List CpInfo := es.foldr (fun e r => gap e.1 (e.2 :: r)) (gap last [])
def pool (es : List (Nat × CpInfo)) (last : Nat) : Array CpInfo := ⟨poolList es last⟩
def fileOf (pool : Array CpInfo) (this : Nat) (attrs : Array Attribute := #[]) (ms : Array MethodInfo := #[]) (fl : Nat := 33) (sup : Nat := 0) (ifs : Array Nat := #[]) (fds : Array FieldInfo := #[]) : ClassFile where
  minorVersion := 0
  majorVersion := 65
  constantPool := pool
  accessFlags := fl
  thisClass := this
  superClass := sup
  interfaces := ifs
  fields := fds
  methods := ms
  attributes := attrs
def plain (name : String) (sup : Option ClassId) : Class where
  name := name
  kind := .ordinary
  loader := none
  accessFlags := 33
  super := sup
  interfaces := #[]
  cf := none
  fields := #[]
  methods := #[]
  instanceTypes := #[]
  staticTypes := #[]
  resolved := #[]
  callSites := []
  init := .initialized
  statics := none
  mirror := none

def pool0 : Array CpInfo := pool [(5, u "<init>"), (0, u "()V"), (1, .class_ 10), (1, u "java/lang/Object")] 113

def k0m0 : Method := { name := "<init>", desc := "()V", sig := { parameters := [], returnType := none }, accessFlags := 1, code := none }
/-- java/lang/Object -/
def k0 : Class := { plain "java/lang/Object" none with
  accessFlags := 33
  interfaces := #[]
  cf := some (fileOf pool0 8 #[] #[{ accessFlags := 1, nameIndex := 5, descriptorIndex := 6, attributes := #[] }] 33 0 #[] #[])
  fields := #[]
  methods := #[k0m0]
  instanceTypes := #[]
  staticTypes := #[]
  resolved := Array.replicate 124 none
  statics := none }

def pool1 : Array CpInfo := pool [(2, .class_ 4), (1, u "java/lang/Object"), (0, u "<init>"), (0, u "()V"), (0, .integer 2147483647), (0, .methodref 9 10), (0, .class_ 11), (0, .nameAndType 12 13), (0, u "com/example/rangewright/rangewright/storage/Codec"), (0, u "putBytes"), (0, u "([B[BI)I"), (0, .class_ 15), (0, u "com/example/rangewright/rangewright/storage/CodecPutBytesPinLaw"), (2, u "law"), (0, u "(IIIIII)Z")] 5

def k1m0 : Method := { name := "<init>", desc := "()V", sig := { parameters := [], returnType := none }, accessFlags := 2, code := none }
def k1c1 : Code := { maxStack := 4, maxLocals := 18, code := code, exceptionTable := #[], attributes := #[] }
def k1m1 : Method := { name := "law", desc := "(IIIIII)Z", sig := { parameters := [.int, .int, .int, .int, .int, .int], returnType := some .boolean }, accessFlags := 9, code := some k1c1 }
/-- com/example/rangewright/rangewright/storage/CodecPutBytesPinLaw -/
def k1 : Class := { plain "com/example/rangewright/rangewright/storage/CodecPutBytesPinLaw" (some 0) with
  accessFlags := 49
  interfaces := #[]
  cf := some (fileOf pool1 14 #[] #[{ accessFlags := 2, nameIndex := 5, descriptorIndex := 6, attributes := #[] }, { accessFlags := 9, nameIndex := 18, descriptorIndex := 19, attributes := #[] }] 49 2 #[] #[])
  fields := #[]
  methods := #[k1m0, k1m1]
  instanceTypes := #[]
  staticTypes := #[]
  resolved := Array.replicate 25 none
  statics := none }

def pool2 : Array CpInfo := pool [(2, .class_ 4), (1, u "java/lang/Object"), (0, u "<init>"), (0, u "()V"), (1, .class_ 10), (1, u "com/example/rangewright/rangewright/storage/Codec"), (70, .methodref 82 83), (0, .class_ 84), (0, .nameAndType 85 86), (0, u "java/lang/System"), (0, u "arraycopy"), (0, u "(Ljava/lang/Object;ILjava/lang/Object;II)V"), (21, u "putBytes"), (0, u "([B[BI)I")] 5

def k2m0 : Method := { name := "<init>", desc := "()V", sig := { parameters := [], returnType := none }, accessFlags := 2, code := none }
def k2c1 : Code := { maxStack := 5, maxLocals := 5, code := prog_24_method_9_code, exceptionTable := #[], attributes := #[] }
def k2m1 : Method := { name := "putBytes", desc := "([B[BI)I", sig := { parameters := [(.array .byte), (.array .byte), .int], returnType := some .int }, accessFlags := 8, code := some k2c1 }
/-- com/example/rangewright/rangewright/storage/Codec -/
def k2 : Class := { plain "com/example/rangewright/rangewright/storage/Codec" (some 0) with
  accessFlags := 32
  interfaces := #[]
  cf := some (fileOf pool2 8 #[] #[{ accessFlags := 2, nameIndex := 5, descriptorIndex := 6, attributes := #[] }, { accessFlags := 8, nameIndex := 108, descriptorIndex := 109, attributes := #[] }] 32 2 #[] #[])
  fields := #[]
  methods := #[k2m0, k2m1]
  instanceTypes := #[]
  staticTypes := #[]
  resolved := Array.replicate 115 none
  statics := none }

def pool3 : Array CpInfo := pool [(2, .class_ 4), (1, u "java/lang/Object"), (0, u "<init>"), (0, u "()V"), (1, .class_ 10), (1, u "java/lang/System"), (0, u "allowSecurityManager"), (0, u "I"), (16, u "cons"), (0, u "Ljava/io/Console;"), (77, .class_ 110), (1, u "java/lang/System$CallersHolder"), (43, u "initialErrStream"), (0, u "Ljava/io/PrintStream;"), (19, u "security"), (0, u "Ljava/lang/SecurityManager;"), (31, .class_ 209), (0, u "java/lang/System$1"), (7, u "props"), (0, u "Ljava/util/Properties;"), (2, u "lineSeparator"), (0, u "Ljava/lang/String;"), (96, .class_ 321), (1, u "java/lang/System$LoggerFinder"), (5, .class_ 328), (0, u "java/lang/System$Logger"), (67, u "err"), (2, u "out"), (91, u "notSupportedJnuEncoding"), (15, u "in"), (17, u "initialIn"), (0, u "Ljava/io/InputStream;"), (35, u "bootLayer"), (0, u "Ljava/lang/ModuleLayer;"), (99, .class_ 664), (0, u "java/lang/System$2"), (9, u "NEVER"), (2, u "MAYBE"), (49, u "arraycopy"), (0, u "(Ljava/lang/Object;ILjava/lang/Object;II)V"), (72, .class_ 802), (0, u "java/lang/System$Logger$Level")] 31

def k3m0 : Method := { name := "<init>", desc := "()V", sig := { parameters := [], returnType := none }, accessFlags := 2, code := none }
def k3m1 : Method := { name := "arraycopy", desc := "(Ljava/lang/Object;ILjava/lang/Object;II)V", sig := { parameters := [(.object "java/lang/Object"), .int, (.object "java/lang/Object"), .int, .int], returnType := none }, accessFlags := 265, code := none }
/-- java/lang/System -/
def k3 : Class := { plain "java/lang/System" (some 0) with
  accessFlags := 49
  interfaces := #[]
  cf := some (fileOf pool3 8 #[.nestMembers #[319, 327, 801, 108, 663, 208]] #[{ accessFlags := 2, nameIndex := 5, descriptorIndex := 6, attributes := #[] }, { accessFlags := 265, nameIndex := 727, descriptorIndex := 728, attributes := #[] }] 49 2 #[] #[{ accessFlags := 25, nameIndex := 507, descriptorIndex := 526, attributes := #[] }, { accessFlags := 25, nameIndex := 399, descriptorIndex := 155, attributes := #[] }, { accessFlags := 25, nameIndex := 396, descriptorIndex := 155, attributes := #[] }, { accessFlags := 10, nameIndex := 525, descriptorIndex := 526, attributes := #[] }, { accessFlags := 26, nameIndex := 674, descriptorIndex := 12, attributes := #[] }, { accessFlags := 26, nameIndex := 677, descriptorIndex := 12, attributes := #[] }, { accessFlags := 10, nameIndex := 11, descriptorIndex := 12, attributes := #[] }, { accessFlags := 74, nameIndex := 175, descriptorIndex := 176, attributes := #[] }, { accessFlags := 10, nameIndex := 491, descriptorIndex := 222, attributes := #[] }, { accessFlags := 74, nameIndex := 29, descriptorIndex := 30, attributes := #[] }, { accessFlags := 74, nameIndex := 154, descriptorIndex := 155, attributes := #[] }, { accessFlags := 10, nameIndex := 217, descriptorIndex := 218, attributes := #[] }, { accessFlags := 10, nameIndex := 221, descriptorIndex := 222, attributes := #[] }, { accessFlags := 8, nameIndex := 562, descriptorIndex := 563, attributes := #[] }])
  fields := #[{ name := "in", type := (.object "java/io/InputStream"), accessFlags := 25, slot := 0, constantValue := 0 }, { name := "out", type := (.object "java/io/PrintStream"), accessFlags := 25, slot := 1, constantValue := 0 }, { name := "err", type := (.object "java/io/PrintStream"), accessFlags := 25, slot := 2, constantValue := 0 }, { name := "initialIn", type := (.object "java/io/InputStream"), accessFlags := 10, slot := 3, constantValue := 0 }, { name := "NEVER", type := .int, accessFlags := 26, slot := 4, constantValue := 0 }, { name := "MAYBE", type := .int, accessFlags := 26, slot := 5, constantValue := 0 }, { name := "allowSecurityManager", type := .int, accessFlags := 10, slot := 6, constantValue := 0 }, { name := "security", type := (.object "java/lang/SecurityManager"), accessFlags := 74, slot := 7, constantValue := 0 }, { name := "notSupportedJnuEncoding", type := (.object "java/lang/String"), accessFlags := 10, slot := 8, constantValue := 0 }, { name := "cons", type := (.object "java/io/Console"), accessFlags := 74, slot := 9, constantValue := 0 }, { name := "initialErrStream", type := (.object "java/io/PrintStream"), accessFlags := 74, slot := 10, constantValue := 0 }, { name := "props", type := (.object "java/util/Properties"), accessFlags := 10, slot := 11, constantValue := 0 }, { name := "lineSeparator", type := (.object "java/lang/String"), accessFlags := 10, slot := 12, constantValue := 0 }, { name := "bootLayer", type := (.object "java/lang/ModuleLayer"), accessFlags := 8, slot := 13, constantValue := 0 }]
  methods := #[k3m0, k3m1]
  instanceTypes := #[]
  staticTypes := #[(.object "java/io/InputStream"), (.object "java/io/PrintStream"), (.object "java/io/PrintStream"), (.object "java/io/InputStream"), .int, .int, .int, (.object "java/lang/SecurityManager"), (.object "java/lang/String"), (.object "java/io/Console"), (.object "java/io/PrintStream"), (.object "java/util/Properties"), (.object "java/lang/String"), (.object "java/lang/ModuleLayer")]
  resolved := Array.replicate 834 none
  statics := none }

def pool4 : Array CpInfo := pool [(1, u "java/lang/Cloneable"), (0, .class_ 1), (0, u "java/lang/Object"), (0, .class_ 3)] 3

/-- java/lang/Cloneable -/
def k4 : Class := { plain "java/lang/Cloneable" (some 0) with
  accessFlags := 1537
  interfaces := #[]
  cf := some (fileOf pool4 2 #[] #[] 1537 4 #[] #[])
  fields := #[]
  methods := #[]
  instanceTypes := #[]
  staticTypes := #[]
  resolved := Array.replicate 8 none
  statics := none }

def pool5 : Array CpInfo := pool [(1, u "java/io/Serializable"), (0, .class_ 1), (0, u "java/lang/Object"), (0, .class_ 3)] 3

/-- java/io/Serializable -/
def k5 : Class := { plain "java/io/Serializable" (some 0) with
  accessFlags := 1537
  interfaces := #[]
  cf := some (fileOf pool5 2 #[] #[] 1537 4 #[] #[])
  fields := #[]
  methods := #[]
  instanceTypes := #[]
  staticTypes := #[]
  resolved := Array.replicate 8 none
  statics := none }

/-- the primitive byte -/
def k6 : Class := { plain "byte" none with kind := .primitive 'B', accessFlags := 0x411 }
/-- [B -/
def k7 : Class := { plain "[B" (some 0) with kind := .array 6 .byte, interfaces := #[4, 5], accessFlags := 1041 }

/-- the primitive int -/
def k8 : Class := { plain "int" none with kind := .primitive 'I', accessFlags := 0x411 }
/-- [I -/
def k9 : Class := { plain "[I" (some 0) with kind := .array 8 .int, interfaces := #[4, 5], accessFlags := 1041 }

def heap : Heap := #[]
def classes : Array Class := #[k0, k1, k2, k3, k4, k5, k6, k7, k8, k9]
def interned : List (Array UInt16 × Addr) := []
def slotsUsed : Nat := 0
def theMethod : MethodId := ⟨1, 1⟩
def args0 : Array Value := #[.int 300, .int 2, .int 77, .int 5, .int 9, .int 11]
def aboutOver (below : List Frame) : State where
  vm := { classes := classes, interned := interned.toArray }
  heap := heap
  slotsUsed := slotsUsed
  threads := #[{ frames := .invoking theMethod args0 :: below }]
def below0 : List Frame := [.native { method := ⟨0, 0⟩, args := #[] }]
def about1 : State := aboutOver below0
def p0 : Program := .bare "" "" ""
def e0 : Env := launch0.env 0 0 0
theorem w_frames : about1.frames = Frame.invoking theMethod args0 :: below0 := rfl
set_option maxRecDepth 65536 in
theorem w_args : argsFit about1.vm theMethod args0 = true := by decide +kernel
set_option maxRecDepth 65536 in
theorem w_heap : heapFits about1 = true := by decide +kernel
set_option maxRecDepth 65536 in
theorem w_runnable : about1.curStatus? = some .runnable := by decide +kernel
set_option maxRecDepth 65536 in
theorem w_alone : about1.alone = true := by decide +kernel
set_option maxRecDepth 65536 in
theorem w_named : about1.methodNamed? x = some theMethod := by decide +kernel
set_option maxRecDepth 65536 in
theorem w_hears : about1.hears theMethod below0 = true := by decide +kernel
set_option maxRecDepth 65536 in
theorem w_ripe : about1.ripe theMethod args0 below0 = true := by decide +kernel
theorem w_running : about1.status = .running := rfl
set_option maxRecDepth 65536 in
theorem w_room : about1.hasRoom e0.platform room_1 = true :=
  launch0.hasRoom_least _ room_1 (by decide +kernel) (by decide +kernel) (by decide +kernel) (by decide +kernel) (by decide +kernel) (by decide +kernel)
theorem allAtoms_all (ts : List Jvm.Cond) (a : Array Jvm.Value) (st : Jvm.State) : (allAtoms ts).before a st = ts.all (fun c => c.before a st) := by
  induction ts with
  | nil => rfl
  | cons c t ih =>
    show (Jvm.Cond.and c (allAtoms t)).before a st = _
    rw [Jvm.Cond.before_and, ih, List.all_cons]
def words1 : List Jvm.Cond := Jvm.Cond.code x code maxLocals ret :: tables_1
/-- a 'code' word, met by the world's own term for the bytes: nothing is compared byte by byte -/
theorem code_word {y : MethodName} {bytes : ByteArray} {mx : Nat} {rt : Option FieldType} {a : Array Value} {s : State} {m : MethodId} {meth : Method} {c : Code} (h1 : s.methodNamed? y = some m) (h2 : s.vm.method? m = some meth) (h3 : meth.code = some c) (h4 : c.code = bytes)
    (h5 : (c.maxLocals == mx && c.exceptionTable.isEmpty && decide (c.maxStack ≤ mostOperands) && decide (meth.sig.returnType = rt) && !meth.locks && decide (parseMethodDescriptor y.desc = some meth.sig)) = true) : (Jvm.Cond.code y bytes mx rt).before a s = true := by
  simp only [Bool.and_eq_true, beq_iff_eq, Bool.not_eq_true', decide_eq_true_eq] at h5
  obtain ⟨⟨⟨⟨⟨g1, g2⟩, g3⟩, g4⟩, g5⟩, g6⟩ := h5
  simp [Cond.before, Cond.holds, Cond.value, h1, h2, h3, h4, g1, g2, g3, g4, g5, g6]
def isCode : Jvm.Cond → Bool
  | .code _ _ _ _ => true
  | _ => false
theorem all_split {L : List Jvm.Cond} {P : Jvm.Cond → Bool} (h1 : L.all (fun c => isCode c || P c) = true) (h2 : ∀ c ∈ L.filter isCode, P c = true) : L.all P = true := by
  refine List.all_eq_true.mpr fun c hc => ?_
  have h := List.all_eq_true.mp h1 c hc
  rcases Bool.eq_false_or_eq_true (isCode c) with hi | hi
  · exact h2 c (List.mem_filter.mpr ⟨hc, hi⟩)
  · simpa [hi] using h
set_option maxRecDepth 65536 in
theorem w_c0 : (Jvm.Cond.code x code maxLocals ret).before args0 about1 = true := code_word (m := ⟨1, 1⟩) (meth := k1m1) (c := k1c1) (by decide +kernel) rfl rfl rfl (by decide +kernel)
set_option maxRecDepth 65536 in
theorem w_c1 : (Jvm.Cond.code ({ cls := "com/example/rangewright/rangewright/storage/Codec", name := "putBytes", desc := "([B[BI)I" } : Jvm.MethodName) prog_24_method_9_code (5 : Nat) (Option.some Jvm.ClassFile.FieldType.int)).before args0 about1 = true := code_word (m := ⟨2, 1⟩) (meth := k2m1) (c := k2c1) (by decide +kernel) rfl rfl rfl (by decide +kernel)
def codes1 : List Jvm.Cond := [Jvm.Cond.code x code maxLocals ret, Jvm.Cond.code ({ cls := "com/example/rangewright/rangewright/storage/Codec", name := "putBytes", desc := "([B[BI)I" } : Jvm.MethodName) prog_24_method_9_code (5 : Nat) (Option.some Jvm.ClassFile.FieldType.int)]
set_option maxRecDepth 65536 in
theorem codes_eq : words1.filter isCode = codes1 := rfl
theorem w_codes : ∀ c ∈ words1.filter isCode, c.before args0 about1 = true := by
  rw [codes_eq]
  intro c hc
  simp only [codes1, List.mem_cons, List.not_mem_nil, or_false] at hc
  rcases hc with rfl | rfl
  · exact w_c0
  · exact w_c1
set_option maxRecDepth 65536 in
theorem w_t1 : words1.all (fun c => isCode c || c.before args0 about1) = true := by decide +kernel
theorem w_tables : (allAtoms (Jvm.Cond.code x code maxLocals ret :: tables_1)).before args0 about1 = true := by
  rw [allAtoms_all]
  show words1.all (fun c => c.before args0 about1) = true
  refine all_split ?_ w_codes
  rw [w_t1]
set_option maxRecDepth 65536 in
theorem w_case : (Jvm.Cond.and given_1 narrow_1).before args0 about1 = true := by decide +kernel
theorem w_applies : (headSpec (Jvm.Cond.code x code maxLocals ret :: tables_1) room_1).applies x e0.platform about1 = true :=
  (Spec.applies_iff w_frames).mpr ⟨w_running, w_runnable, w_alone, w_named, w_hears, w_ripe, w_room, w_tables⟩
theorem atStart : AtStart classFile x code maxLocals ret World_1 tables_1 room_1 Calls_1 rest_1 Pre_1 launch0 p0 e0 about1 theMethod args0 below0 :=
  ⟨lists_1, trivial, launch0.admits_env _ _ _, launch0.least_env, fairChoices_fair.cas, fairChoices_fair.clock, w_frames, w_args, w_heap, w_applies, trivial, trivial, w_case⟩
end start1
theorem witness_1 : WitnessClaimed_1 := ⟨start1.p0, start1.e0, start1.about1, start1.theMethod, start1.args0, start1.below0, start1.atStart⟩
end Jvm.Pilot.@@N@@
