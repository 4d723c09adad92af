import JvmDerived
import JvmDerived.Pilot.@@N@@Statement
import JvmDerived.Pilot.@@N@@Code
set_option linter.unusedVariables false
set_option linter.unusedSimpArgs false
namespace Jvm.OwnKit
open Sem ClassFile Op Lib Jvm.Stand Jvm.Free Jvm.LawKit Jvm.RoadKit
section Own
variable {p : Program} {l : Launch} {e : Env} {R : Room} {s : State} {m : MethodId} {args : Array Value} {below : List Frame} {meth : Method} {c : Code} {T : State} {h : Heap} {n0 cells slots : Nat} {Z : State} {a0 : Array Value} {Q : Option Value → Heap → Prop} {pc pc' : Nat} {Ls : Array Slot} {S rest : List Value}
/-- where the walk stands: over T, whose heap is h; nothing older than n0 was written -/
def Pn (p : Program) (l : Launch) (e : Env) (R : Room) (s : State) (m : MethodId) (args : Array Value) (below : List Frame) (meth : Method) (c : Code) (T : State) (h : Heap) (n0 cells slots : Nat) : Prop :=
  T.heap = h ∧ n0 ≤ s.heap.size ∧ ∃ locs, Stand p l e R s m args below meth c T locs cells slots ∧ Fr n0 locs
theorem Pn.here (X : Pn p l e R s m args below meth c T h n0 cells slots) : At T m c below := by obtain ⟨_, _, _, X, _⟩ := X; exact X.here
theorem Pn.le (X : Pn p l e R s m args below meth c T h n0 cells slots) : n0 ≤ h.size := by
  obtain ⟨e0, hn, _, X, _⟩ := X
  have q : s.heap.size ≤ T.heap.size := X.same.2.1
  rw [← e0]; exact Nat.le_trans hn q
theorem Pn.mono (X : Pn p l e R s m args below meth c T h n0 cells slots) {cells' slots' : Nat} (hc : cells ≤ cells') (hs : slots ≤ slots') : Pn p l e R s m args below meth c T h n0 cells' slots' := by
  obtain ⟨e0, hn, L, X, N⟩ := X
  exact ⟨e0, hn, L, ⟨X.admits, X.cas, X.clock, X.frames, X.room, X.hears, X.method, X.code, X.here, X.tail, X.warmed, X.limits, X.bytes, X.same.mono hc hs⟩, N⟩
/-- from here the run comes to a return that Q speaks of -/
def Go (p : Program) (e : Env) (s : State) (below : List Frame) (n0 : Nat) (Q : Option Value → Heap → Prop) (R : Room) (T : State) (f : JFrame) : Prop :=
  ∃ V, Steps p.tables e below (T.setTop f) V ∧ V.status = .running ∧ ∃ v L, Ended V below (.returned v) ∧ Q v V.heap ∧ Fr n0 L ∧ FrameEnd s (.returned v) V L R.cells R.slots
theorem stp {T' : State} {f f' : JFrame} (k : ∀ t, Steps p.tables e below (T'.setTop f') t → Steps p.tables e below (T.setTop f) t) (g : Go p e s below n0 Q R T' f') : Go p e s below n0 Q R T f := by
  obtain ⟨V, h1, h2⟩ := g; exact ⟨V, k V h1, h2⟩
def Con (l : Launch) (Z : State) (y : MethodName) (bytes : ByteArray) (maxL : Nat) (ret : Option FieldType) (ws : List Jvm.Cond) (rm : Room) (as : Array Value) (h0 : Heap) (n0 : Nat) (Q : Option Value → Heap → Prop) : Prop :=
  MetFree l y (head1 (Jvm.Cond.code y bytes maxL ret :: ws) rm) (fun a U => a = as ∧ Z.Warmed39 U.vm ∧ U.heap = h0) (fun _ _ _ _ _ => True) (fun _ U o U' => ∃ v L, o = .returned v ∧ (Q v U'.heap ∧ Fr n0 L) ∧ FrameEnd U o U' L rm.cells rm.slots)
theorem body {y : MethodName} {bytes : ByteArray} {maxL : Nat} {ret : Option FieldType} {ws : List Jvm.Cond} {rm : Room} {as : Array Value} {h0 : Heap} (hp : plainFor y = true) (hn : n0 ≤ h0.size) (ent : ∀ m, entryFrame m as maxL = mkF m 0 Ls [])
    (walk : ∀ (p : Program) (e : Env) (s : State) (m : MethodId) (below : List Frame) (meth : Method) (c : Code) (T : State), p.tables.exec = Jvm.exec → c.code = bytes → c.maxLocals = maxL → s.vm.findClass y.cls = some m.cls → meth.name = y.name → meth.sig.returnType = ret → meth.locks = false → Z.Warmed39 s.vm →
      Pn p l e rm s m as below meth c T h0 n0 0 0 → Go p e s below n0 Q rm T (mkF m 0 Ls [])) : Con l Z y bytes maxL ret ws rm as h0 n0 Q := by
  refine MetFree.of_bodySF hp hisR ?_
  intro p e s m args below meth c s₁ Bd hml0 hP hK
  obtain ⟨rfl, hZ, hh⟩ := hP
  have hown : s.vm.findClass y.cls = some m.cls := findClass_of_methodNamed Bd.named
  have hnm := (name_of_methodNamed Bd.named Bd.method).1
  have X0 : Stand p l e rm s m _ below meth c s₁ [] 0 0 := Stand.of_body Bd
  have e0 : s₁.heap = h0 := by rw [← hh, Bd.state]; rfl
  obtain ⟨V, h1, h2, v, L, h3, h4, h5, h6⟩ := walk p e s m below meth c s₁ Bd.exec Bd.bytes hml0 hown hnm Bd.returns Bd.notSynchronized hZ ⟨e0, by rw [hh]; exact hn, [], X0, Fr.nil n0⟩
  exact ⟨V, _, castTop (ent m) h1, h2, h3, v, L, rfl, ⟨h4, h5⟩, h6⟩
/-! the ends -/
theorem fin (X : Pn p l e R s m args below meth c T h n0 cells slots) (hlk : meth.locks = false) {v : Option Value} (hv : meth.sig.returnType = none → v = none) (hc : cells ≤ R.cells) (hs : slots ≤ R.slots) (hq : Q v h) {f : JFrame}
    (k : ∀ locs, Stand p l e R s m args below meth c T locs cells slots → ∀ fs, (∀ (f : JFrame) (acts : List Action), f.method = m → f.locked = none → f.entered = [] → (doReturn e (T.setTop f) acts v).1 = T.setFrames fs) → Steps p.tables e below (T.setTop f) (T.setFrames fs)) : Go p e s below n0 Q R T f := by
  obtain ⟨e0, hn, locs, Y, N⟩ := X
  obtain ⟨fs, hr, hrun, hended, hW, hsame⟩ := Y.leave hv hlk
  refine ⟨_, k locs Y fs hr, hrun, v, locs, hended, ?_, N, ⟨_, rfl⟩, hW, hsame.mono hc hs⟩
  show Q v T.heap
  rw [e0]; exact hq
theorem rI {z : Int32} (X : Pn p l e R s m args below meth c T h n0 cells slots) (hx : p.tables.exec = Jvm.exec) (hlk : meth.locks = false) (hret : meth.sig.returnType = some .int) (hd : decode c.code pc = .ok (.ireturn, 1)) (hc : cells ≤ R.cells) (hs : slots ≤ R.slots) (hq : Q (some (.int z)) h) :
    Go p e s below n0 Q R T (mkF m pc Ls (.int z :: S)) :=
  fin X hlk (fun q => by rw [hret] at q; cases q) hc hs hq fun _ Y fs hr => retOut Y hx hret rfl (Or.inl ⟨rfl, Or.inl rfl, z, rfl⟩) hd hr
theorem rN {z : Int32} {t : FieldType} (X : Pn p l e R s m args below meth c T h n0 cells slots) (hx : p.tables.exec = Jvm.exec) (hlk : meth.locks = false) (hret : meth.sig.returnType = some t) (ht : t = .boolean ∨ t = .byte ∨ t = .char ∨ t = .short) (hd : decode c.code pc = .ok (.ireturn, 1)) (hc : cells ≤ R.cells) (hs : slots ≤ R.slots) (hq : Q (some (.int (nar t z))) h) :
    Go p e s below n0 Q R T (mkF m pc Ls (.int z :: S)) :=
  fin X hlk (fun q => by rw [hret] at q; cases q) hc hs hq fun _ Y fs hr => retN Y hx hret ht hd hr
theorem rL {z : Int64} (X : Pn p l e R s m args below meth c T h n0 cells slots) (hx : p.tables.exec = Jvm.exec) (hlk : meth.locks = false) (hret : meth.sig.returnType = some .long) (hd : decode c.code pc = .ok (.lreturn, 1)) (hc : cells ≤ R.cells) (hs : slots ≤ R.slots) (hq : Q (some (.long z)) h) :
    Go p e s below n0 Q R T (mkF m pc Ls (.long z :: S)) :=
  fin X hlk (fun q => by rw [hret] at q; cases q) hc hs hq fun _ Y fs hr => retOut Y hx hret rfl (Or.inr (Or.inl ⟨rfl, rfl, z, rfl⟩)) hd hr
theorem rA {w : Value} {t : FieldType} (X : Pn p l e R s m args below meth c T h n0 cells slots) (hx : p.tables.exec = Jvm.exec) (hlk : meth.locks = false) (hret : meth.sig.returnType = some t) (ht : t.isReference = true) (hw : w.isRef = true) (hn : narrow t w = w) (hd : decode c.code pc = .ok (.areturn, 1)) (hc : cells ≤ R.cells) (hs : slots ≤ R.slots) (hq : Q (some w) h) :
    Go p e s below n0 Q R T (mkF m pc Ls (w :: S)) :=
  fin X hlk (fun q => by rw [hret] at q; cases q) hc hs hq fun _ Y fs hr => retOut Y hx hret hn (Or.inr (Or.inr (Or.inr (Or.inr ⟨rfl, ht, hw⟩)))) hd hr
theorem rV (X : Pn p l e R s m args below meth c T h n0 cells slots) (hx : p.tables.exec = Jvm.exec) (hlk : meth.locks = false) (hret : meth.sig.returnType = none) (hd : decode c.code pc = .ok (.return_, 1)) (hc : cells ≤ R.cells) (hs : slots ≤ R.slots) (hq : Q none h) :
    Go p e s below n0 Q R T (mkF m pc Ls []) :=
  fin X hlk (fun _ => rfl) hc hs hq fun _ Y fs hr => Y.returnOut hx hret hd hr
/-! heap and tables -/
theorem gf {own R0 O n d host : String} {index : Nat} {a : Addr} {v : Value} (X : Pn p l e R s m args below meth c T h n0 cells slots) (hx : p.tables.exec = Jvm.exec) (hZ : Z.Warmed39 s.vm) (hown : s.vm.findClass own = some m.cls) (w : (Cond.fieldLink own index R0 n d).before a0 Z = true ∨ (Cond.fieldLinkNest own index R0 n d host).before a0 Z = true) (via : Via Z R0 O n d)
    (F : Fld Z h a O n d v) (hd : decode c.code pc = .ok (.getfield index, 3)) (hp : pc + 3 = pc') (k : ∀ T', Pn p l e R s m args below meth c T' h n0 cells slots → Go p e s below n0 Q R T' (mkF m pc' Ls (v :: S))) : Go p e s below n0 Q R T (mkF m pc Ls (.ref a :: S)) := by
  subst hp
  obtain ⟨e0, hn, locs, Y, N⟩ := X
  obtain ⟨T', Y', e', st⟩ := getF Y hx hZ hown w via e0 F (g := mkF m pc Ls (.ref a :: S)) rfl rfl hd
  exact stp st (k T' ⟨e', hn, locs, Y', N⟩)
theorem gs {own R0 O n d host : String} {index : Nat} {v : Value} (X : Pn p l e R s m args below meth c T h n0 cells slots) (hx : p.tables.exec = Jvm.exec) (hZ : Z.Warmed39 s.vm) (hown : s.vm.findClass own = some m.cls) (w : (Cond.fieldLink own index R0 n d).before a0 Z = true ∨ (Cond.fieldLinkNest own index R0 n d host).before a0 Z = true) (via : Via Z R0 O n d)
    (F : Sta Z h O n d v) (hd : decode c.code pc = .ok (.getstatic index, 3)) (hp : pc + 3 = pc') (k : ∀ T', Pn p l e R s m args below meth c T' h n0 cells slots → Go p e s below n0 Q R T' (mkF m pc' Ls (v :: S))) : Go p e s below n0 Q R T (mkF m pc Ls S) := by
  subst hp
  obtain ⟨e0, hn, locs, Y, N⟩ := X
  obtain ⟨T', Y', e', st⟩ := getS2 Y hx hZ hown w via e0 F (g := mkF m pc Ls S) rfl hd
  exact stp st (k T' ⟨e', hn, locs, Y', N⟩)
theorem pf {own R0 O n d host C : String} {index kk : Nat} {ty : FieldType} {a : Addr} {v old : Value} (X : Pn p l e R s m args below meth c T h n0 cells slots) (hx : p.tables.exec = Jvm.exec) (hZ : Z.Warmed39 s.vm) (hown : s.vm.findClass own = some m.cls) (w : (Cond.fieldLink own index R0 n d).before a0 Z = true ∨ (Cond.fieldLinkNest own index R0 n d host).before a0 Z = true) (via : Via Z R0 O n d)
    (F : Fld Z h a O n d old) (E : Exa Z h a C) (L : (Cond.lays C O n d).before a0 Z = true ∨ ((Cond.laysFinal C O n d).before a0 Z = true ∧ own = O ∧ meth.name = "<init>")) (wi : (Cond.instantiable C kk).before a0 Z = true)
    (hty : parseFieldDescriptor d = some ty) (hn : narrow ty v = v) (hf : fits ty v = true) (ge : n0 ≤ a) (hd : decode c.code pc = .ok (.putfield index, 3)) (hp : pc + 3 = pc')
    (k : ∀ T' h', Pn p l e R s m args below meth c T' h' n0 cells slots → Wr h h' a (Jvm.RoadKit.slotOf Z O n d) v → Go p e s below n0 Q R T' (mkF m pc' Ls S)) : Go p e s below n0 Q R T (mkF m pc Ls (v :: .ref a :: S)) := by
  subst hp
  obtain ⟨e0, hm, locs, Y, N⟩ := X
  obtain ⟨T', h', Y', e', W, st⟩ := putF Y hx hZ hown w via e0 F E L wi hty hn hf (g := mkF m pc Ls (v :: .ref a :: S)) rfl rfl hd
  exact stp st (k T' h' ⟨e', hm, _, Y', Fr.snoc Y' N ge⟩ W)
theorem nw {own C : String} {index n : Nat} (X : Pn p l e R s m args below meth c T h n0 cells slots) (hx : p.tables.exec = Jvm.exec) (hZ : Z.Warmed39 s.vm) (hown : s.vm.findClass own = some m.cls) (w : (Cond.classLink own index C).before a0 Z = true) (wi : (Cond.instantiable C n).before a0 Z = true) (wz : (Cond.initialized C).before a0 Z = true)
    (hd : decode c.code pc = .ok (.new index, 3)) (hp : pc + 3 = pc') (hc : cells + 1 ≤ R.cells) (hl : slots + n ≤ R.slots)
    (k : ∀ T' h' b, Pn p l e R s m args below meth c T' h' n0 (cells + 1) (slots + n) → b = h.size → n0 ≤ b → Ext h h' → Exa Z h' b C → (∀ {O nm d : String} {ty : FieldType}, Laid Z a0 C O nm d → parseFieldDescriptor d = some ty → Fld Z h' b O nm d (defaultValue ty)) → Go p e s below n0 Q R T' (mkF m pc' Ls (.ref b :: S))) :
    Go p e s below n0 Q R T (mkF m pc Ls S) := by
  subst hp
  have q := X.le
  obtain ⟨e0, hn, locs, Y, N⟩ := X
  obtain ⟨T', h', Y', e', E', A', D', -, st⟩ := newO Y hx hZ hown w wi wz e0 (g := mkF m pc Ls S) rfl hd hc hl
  exact stp st (k T' h' _ ⟨e', hn, _, Y', N⟩ rfl q E' A' D')
theorem oi {own : String} {idx : Nat} {a : Addr} {W : Nat} (X : Pn p l e R s m args below meth c T h n0 cells slots) (hx : p.tables.exec = Jvm.exec) (hZ : Z.Warmed39 s.vm) (hown : s.vm.findClass own = some m.cls) (w1 : (Cond.methodLink own idx Lib.objectInit).before a0 Z = true) (w2 : (Cond.instanceMethod Lib.objectInit).before a0 Z = true) (w3 : (Cond.code Lib.objectInit ⟨#[0xb1]⟩ 1 none).before a0 Z = true)
    (hsize : Ls.size = c.maxLocals) (hd : decode c.code pc = .ok (.invokespecial idx, 3)) (hp : pc + 3 = pc') (hf : 1 ≤ R.frames) (hW : (S.map fun v => v.category).sum ≤ W) (hl : W + 12 ≤ R.locals)
    (k : ∀ T', Pn p l e R s m args below meth c T' h n0 cells slots → Go p e s below n0 Q R T' (mkF m pc' Ls S)) : Go p e s below n0 Q R T (mkF m pc Ls (.ref a :: S)) := by
  subst hp
  obtain ⟨e0, hn, locs, Y, N⟩ := X
  obtain ⟨T', Y', e', st⟩ := initO Y hx hZ hown w1 w2 w3 e0 (g := mkF m pc Ls (.ref a :: S)) rfl hsize rfl hd hf (W := W) (by show 2 * 0 + _ ≤ _; omega) hl
  exact stp st (k T' ⟨e', hn, locs, Y', N⟩)
/-! calls by their contracts -/
theorem cS {own : String} {index : Nat} {y : MethodName} {bytes : ByteArray} {maxL : Nat} {ret : Option FieldType} {rm : Room} {as : Array Value} {Q' : Option Value → Heap → Prop} (W : Nat) (argsL : List Value) (X : Pn p l e R s m args below meth c T h n0 cells slots) (hx : p.tables.exec = Jvm.exec) (hZ : Z.Warmed39 s.vm) (hown : s.vm.findClass own = some m.cls)
    (w1 : (Cond.methodLink own index y).before a0 Z = true) (w2 : (Cond.static y).before a0 Z = true) (w3 : (Cond.initialized y.cls).before a0 Z = true) (w4 : (Cond.code y bytes maxL ret).before a0 Z = true) (hy : y.cls ≠ "java/lang/invoke/MethodHandle" ∧ y.cls ≠ "java/lang/invoke/VarHandle")
    (hM : Con l Z y bytes maxL ret [] rm as h n0 Q') (hf : rm.frames + 1 ≤ R.frames) (hl : W + (maxL + 11) + rm.locals ≤ R.locals) (hsz : Ls.size = c.maxLocals) (has : as = argsL.toArray) (hlen : ∀ sig, parseMethodDescriptor y.desc = some sig → argsL.length = sig.parameters.length) (hst : S = argsL.reverse ++ rest) (hW : (rest.map fun v => v.category).sum ≤ W)
    (hd : decode c.code pc = .ok (.invokestatic index, 3)) (hp : pc + 3 = pc') (hc : cells + rm.cells ≤ R.cells) (hs : slots + rm.slots ≤ R.slots)
    (k : ∀ v T' h', Pn p l e R s m args below meth c T' h' n0 (cells + rm.cells) (slots + rm.slots) → Q' v h' → Go p e s below n0 Q R T' (mkF m pc' Ls (v.toList ++ rest))) : Go p e s below n0 Q R T (mkF m pc Ls S) := by
  subst hp has
  obtain ⟨e0, hn, locs, Y, N⟩ := X
  obtain ⟨v, _, ⟨T', L', k', n'⟩, -, Y', ⟨Lc, ⟨hq, hN⟩, l', y', z'⟩, st⟩ := Jvm.LawKit.callS Y hx (y := y) hown (mvT hZ w1) (mvT hZ w2) (mvT hZ w3) (mvT hZ w4) hy (backOf (W := W) (Q := fun v h L => Q' v h ∧ Fr n0 L) hM hZ w4 w3 hf hl) (g := mkF m pc Ls S) rfl hsz (argsL := argsL) (rest := rest) hlen hst (by show 2 * 0 + _ ≤ _; omega) hd (fun _ _ => ⟨rfl, e0, hc, hs⟩)
  dsimp only [Pt.U, Pt.locs, Pt.cells, Pt.slots] at Y' l' y' z' st hq
  subst l' y' z'
  exact stp st (k v T' _ ⟨rfl, hn, _, Y', N.app hN⟩ hq)
theorem cI {own : String} {index : Nat} {y : MethodName} {bytes : ByteArray} {maxL : Nat} {rm : Room} {as : Array Value} {a : Addr} {Q' : Option Value → Heap → Prop} (W : Nat) (argsL : List Value) (X : Pn p l e R s m args below meth c T h n0 cells slots) (hx : p.tables.exec = Jvm.exec) (hZ : Z.Warmed39 s.vm) (hown : s.vm.findClass own = some m.cls) (hy1 : y.name = "<init>")
    (w1 : (Cond.methodLink own index y).before a0 Z = true) (w2 : (Cond.instanceMethod y).before a0 Z = true) (w3 : (Cond.initialized y.cls).before a0 Z = true) (w4 : (Cond.code y bytes maxL none).before a0 Z = true) (hy : y.cls ≠ "java/lang/invoke/MethodHandle" ∧ y.cls ≠ "java/lang/invoke/VarHandle")
    (hM : Con l Z y bytes maxL none [] rm as h n0 Q') (hf : rm.frames + 1 ≤ R.frames) (hl : W + (maxL + 11) + rm.locals ≤ R.locals) (hsz : Ls.size = c.maxLocals) (has : as = (.ref a :: argsL).toArray) (hlen : ∀ sig, parseMethodDescriptor y.desc = some sig → argsL.length = sig.parameters.length) (hst : S = argsL.reverse ++ .ref a :: rest) (hW : (rest.map fun v => v.category).sum ≤ W)
    (hd : decode c.code pc = .ok (.invokespecial index, 3)) (hp : pc + 3 = pc') (hc : cells + rm.cells ≤ R.cells) (hs : slots + rm.slots ≤ R.slots)
    (k : ∀ v T' h', Pn p l e R s m args below meth c T' h' n0 (cells + rm.cells) (slots + rm.slots) → Q' v h' → Go p e s below n0 Q R T' (mkF m pc' Ls (v.toList ++ rest))) : Go p e s below n0 Q R T (mkF m pc Ls S) := by
  subst hp has
  obtain ⟨e0, hn, locs, Y, N⟩ := X
  obtain ⟨v, _, ⟨T', L', k', n'⟩, -, Y', ⟨Lc, ⟨hq, hN⟩, l', y', z'⟩, st⟩ := Y.specialBack hx (y := y) hy1 hown (mvT hZ w1) (mvT hZ w2) (mvT hZ w4) hy (backOf (W := W) (Q := fun v h L => Q' v h ∧ Fr n0 L) hM hZ w4 w3 hf hl) (g := mkF m pc Ls S) rfl hsz (Steps.refl _) (a := a) (argsL := argsL) (rest := rest) hlen hst (by show 2 * 0 + _ ≤ _; omega) hd (fun _ _ => ⟨rfl, e0, hc, hs⟩)
  dsimp only [Pt.U, Pt.locs, Pt.cells, Pt.slots] at Y' l' y' z' st hq
  subst l' y' z'
  exact stp (fun _ q => st.trans q) (k v T' _ ⟨rfl, hn, _, Y', N.app hN⟩ hq)
theorem cV {own C : String} {index : Nat} {y : MethodName} {bytes : ByteArray} {maxL : Nat} {ret : Option FieldType} {rm : Room} {as : Array Value} {a : Addr} {Q' : Option Value → Heap → Prop} (W : Nat) (argsL : List Value) (X : Pn p l e R s m args below meth c T h n0 cells slots) (hx : p.tables.exec = Jvm.exec) (hZ : Z.Warmed39 s.vm) (hown : s.vm.findClass own = some m.cls)
    (w1 : (Cond.methodLink own index y).before a0 Z = true) (w2 : (Cond.declares y).before a0 Z = true) (w5 : (Cond.selects C y y).before a0 Z = true) (w6 : (Cond.instanceMethod y).before a0 Z = true) (w3 : (Cond.initialized y.cls).before a0 Z = true) (w4 : (Cond.code y bytes maxL ret).before a0 Z = true) (hy : y.cls ≠ "java/lang/invoke/MethodHandle" ∧ y.cls ≠ "java/lang/invoke/VarHandle")
    (hE : Exa Z h a C) (hM : Con l Z y bytes maxL ret [] rm as h n0 Q') (hf : rm.frames + 1 ≤ R.frames) (hl : W + (maxL + 11) + rm.locals ≤ R.locals) (hsz : Ls.size = c.maxLocals) (has : as = (.ref a :: argsL).toArray) (hlen : ∀ sig, parseMethodDescriptor y.desc = some sig → argsL.length = sig.parameters.length) (hst : S = argsL.reverse ++ .ref a :: rest) (hW : (rest.map fun v => v.category).sum ≤ W)
    (hd : decode c.code pc = .ok (.invokevirtual index, 3)) (hp : pc + 3 = pc') (hc : cells + rm.cells ≤ R.cells) (hs : slots + rm.slots ≤ R.slots)
    (k : ∀ v T' h', Pn p l e R s m args below meth c T' h' n0 (cells + rm.cells) (slots + rm.slots) → Q' v h' → Go p e s below n0 Q R T' (mkF m pc' Ls (v.toList ++ rest))) : Go p e s below n0 Q R T (mkF m pc Ls S) := by
  subst hp has
  obtain ⟨e0, hn, locs, Y, N⟩ := X
  obtain ⟨cq, kq, q1, q2, q3⟩ := isOf hZ e0 hE
  obtain ⟨v, _, ⟨T', L', k', n'⟩, -, Y', ⟨Lc, ⟨hq, hN⟩, l', y', z'⟩, st⟩ := Y.virtualBack hx (y := y) (z := y) hown (mvT hZ w1) (mvT hZ w2) (notFace_of_selects (args := #[]) (mvT hZ w5)) (mvT hZ w5) (mvT hZ w6) hy (backOf (W := W) (Q := fun v h L => Q' v h ∧ Fr n0 L) hM hZ w4 w3 hf hl) q1 q3 (g := mkF m pc Ls S) rfl hsz (Steps.refl _) (argsL := argsL) (rest := rest) hlen hst (by show 2 * 0 + _ ≤ _; omega) hd (fun _ _ => ⟨rfl, e0, hc, hs⟩)
  dsimp only [Pt.U, Pt.locs, Pt.cells, Pt.slots] at Y' l' y' z' st hq
  subst l' y' z'
  exact stp (fun _ q => st.trans q) (k v T' _ ⟨rfl, hn, _, Y', N.app hN⟩ hq)
theorem cP {own : String} {index kk : Nat} {y : MethodName} {bytes : ByteArray} {maxL : Nat} {ret : Option FieldType} {rm : Room} {as : Array Value} {a : Addr} {C : String} {Q' : Option Value → Heap → Prop} (W : Nat) (argsL : List Value) (X : Pn p l e R s m args below meth c T h n0 cells slots) (hx : p.tables.exec = Jvm.exec) (hZ : Z.Warmed39 s.vm) (hown : s.vm.findClass own = some m.cls)
    (w1 : (Cond.methodLink own index y).before a0 Z = true) (w6 : (Cond.instanceMethod y).before a0 Z = true) (wp : (Cond.privateMethod y).before a0 Z = true) (wi : (Cond.instantiable y.cls kk).before a0 Z = true) (w3 : (Cond.initialized y.cls).before a0 Z = true) (w4 : (Cond.code y bytes maxL ret).before a0 Z = true) (hy : y.cls ≠ "java/lang/invoke/MethodHandle" ∧ y.cls ≠ "java/lang/invoke/VarHandle")
    (hE : Exa Z h a C) (hM : Con l Z y bytes maxL ret [] rm as h n0 Q') (hf : rm.frames + 1 ≤ R.frames) (hl : W + (maxL + 11) + rm.locals ≤ R.locals) (hsz : Ls.size = c.maxLocals) (has : as = (.ref a :: argsL).toArray) (hlen : ∀ sig, parseMethodDescriptor y.desc = some sig → argsL.length = sig.parameters.length) (hst : S = argsL.reverse ++ .ref a :: rest) (hW : (rest.map fun v => v.category).sum ≤ W)
    (hd : decode c.code pc = .ok (.invokevirtual index, 3)) (hp : pc + 3 = pc') (hc : cells + rm.cells ≤ R.cells) (hs : slots + rm.slots ≤ R.slots)
    (k : ∀ v T' h', Pn p l e R s m args below meth c T' h' n0 (cells + rm.cells) (slots + rm.slots) → Q' v h' → Go p e s below n0 Q R T' (mkF m pc' Ls (v.toList ++ rest))) : Go p e s below n0 Q R T (mkF m pc Ls S) := by
  subst hp has
  obtain ⟨e0, hn, locs, Y, N⟩ := X
  obtain ⟨cq, q1, q2⟩ := hE.cell
  have mi : (Cond.instantiable y.cls kk).before args s = true := mvT hZ wi
  obtain ⟨cc, kc, u1, u2, -, u3, -⟩ := Cond.instantiable_spec mi
  have hpv := Cond.privateMethod_at (mvP hZ wp (args := #[]))
  have hse := selects_self_of_private (args := args) u1 u2 (by rw [Bool.or_eq_false_iff] at u3; exact u3.1) hpv (mvT hZ w6) hy
  obtain ⟨v, _, ⟨T', L', k', n'⟩, -, Y', ⟨Lc, ⟨hq, hN⟩, l', y', z'⟩, st⟩ := Y.privateBack hx (y := y) hown (mvT hZ w1) (mvT hZ w6) hse hpv (mvT hZ w4) hy (backOf (W := W) (Q := fun v h L => Q' v h ∧ Fr n0 L) hM hZ w4 w3 hf hl) (g := mkF m pc Ls S) rfl hsz (Steps.refl _) (a := a) (by rw [e0]; exact q1) q2 (argsL := argsL) (rest := rest) hlen hst (by show 2 * 0 + _ ≤ _; omega) hd (fun _ _ => ⟨rfl, e0, hc, hs⟩)
  dsimp only [Pt.U, Pt.locs, Pt.cells, Pt.slots] at Y' l' y' z' st hq
  subst l' y' z'
  exact stp (fun _ q => st.trans q) (k v T' _ ⟨rfl, hn, _, Y', N.app hN⟩ hq)
theorem cF {own C : String} {index count : Nat} {y z : MethodName} {bytes : ByteArray} {maxL : Nat} {ret : Option FieldType} {rm : Room} {as : Array Value} {a : Addr} {Q' : Option Value → Heap → Prop} (W : Nat) (argsL : List Value) (X : Pn p l e R s m args below meth c T h n0 cells slots) (hx : p.tables.exec = Jvm.exec) (hZ : Z.Warmed39 s.vm) (hown : s.vm.findClass own = some m.cls)
    (w1 : (Cond.methodLink own index y).before a0 Z = true) (w2 : (Cond.declares y).before a0 Z = true) (w7 : (Cond.interfaceMethod y.cls y.cls y.name y.desc).before a0 Z = true) (w5 : (Cond.selects C y z).before a0 Z = true) (w6 : (Cond.instanceMethod z).before a0 Z = true) (w8 : (Cond.publicMethod z).before a0 Z = true) (w9 : (Cond.unhidden C y.name y.desc).before a0 Z = true) (w10 : (Cond.castable C y.cls).before a0 Z = true)
    (w3 : (Cond.initialized z.cls).before a0 Z = true) (w4 : (Cond.code z bytes maxL ret).before a0 Z = true) (hy : y.cls ≠ "java/lang/invoke/MethodHandle" ∧ y.cls ≠ "java/lang/invoke/VarHandle")
    (hE : Exa Z h a C) (hM : Con l Z z bytes maxL ret [] rm as h n0 Q') (hf : rm.frames + 1 ≤ R.frames) (hl : W + (maxL + 11) + rm.locals ≤ R.locals) (hsz : Ls.size = c.maxLocals) (has : as = (.ref a :: argsL).toArray) (hlen : ∀ sig, parseMethodDescriptor y.desc = some sig → argsL.length = sig.parameters.length) (hst : S = argsL.reverse ++ .ref a :: rest) (hW : (rest.map fun v => v.category).sum ≤ W)
    (hd : decode c.code pc = .ok (.invokeinterface index count, 5)) (hp : pc + 5 = pc') (hc : cells + rm.cells ≤ R.cells) (hs : slots + rm.slots ≤ R.slots)
    (k : ∀ v T' h', Pn p l e R s m args below meth c T' h' n0 (cells + rm.cells) (slots + rm.slots) → Q' v h' → Go p e s below n0 Q R T' (mkF m pc' Ls (v.toList ++ rest))) : Go p e s below n0 Q R T (mkF m pc Ls S) := by
  subst hp has
  obtain ⟨e0, hn, locs, Y, N⟩ := X
  obtain ⟨cq, kq, q1, q2, q3⟩ := isOf hZ e0 hE
  obtain ⟨v, _, ⟨T', L', k', n'⟩, -, Y', ⟨Lc, ⟨hq, hN⟩, l', y', z'⟩, st⟩ := Y.interfaceBack hx (xi := y) (y := z) hown (mvT hZ w1) (mvT hZ w2) (mvT hZ w7 (by simp [Cond.onTables, Cond.keepsFace, Cond.faceAtom, hy.1, hy.2])) (mvT hZ w5) (mvT hZ w6) (mvT hZ w8) (mvT hZ w9) (mvT hZ w10) hy (backOf (W := W) (Q := fun v h L => Q' v h ∧ Fr n0 L) hM hZ w4 w3 hf hl) q1 q2 q3 (g := mkF m pc Ls S) rfl hsz (Steps.refl _) (argsL := argsL) (rest := rest) hlen hst (by show 2 * 0 + _ ≤ _; omega) hd (fun _ _ => ⟨rfl, e0, hc, hs⟩)
  dsimp only [Pt.U, Pt.locs, Pt.cells, Pt.slots] at Y' l' y' z' st hq
  subst l' y' z'
  exact stp (fun _ q => st.trans q) (k v T' _ ⟨rfl, hn, _, Y', N.app hN⟩ hq)
theorem ioY {own K : String} {index : Nat} {a : Addr} (X : Pn p l e R s m args below meth c T h n0 cells slots) (hx : p.tables.exec = Jvm.exec) (hZ : Z.Warmed39 s.vm) (hown : s.vm.findClass own = some m.cls) (w : (Cond.classLink own index K).before a0 Z = true) (F : Ins Z h a K true) (hd : decode c.code pc = .ok (.instanceof index, 3)) (hp : pc + 3 = pc')
    (k : ∀ T', Pn p l e R s m args below meth c T' h n0 cells slots → Go p e s below n0 Q R T' (mkF m pc' Ls (.int 1 :: S))) : Go p e s below n0 Q R T (mkF m pc Ls (.ref a :: S)) := by
  subst hp
  obtain ⟨e0, hn, locs, Y, N⟩ := X
  obtain ⟨T', Y', e', st⟩ := instY Y hx hZ hown w e0 F (g := mkF m pc Ls (.ref a :: S)) rfl rfl hd
  exact stp st (k T' ⟨e', hn, locs, Y', N⟩)
theorem ioN {own K C : String} {index : Nat} {a : Addr} (X : Pn p l e R s m args below meth c T h n0 cells slots) (hx : p.tables.exec = Jvm.exec) (hZ : Z.Warmed39 s.vm) (hown : s.vm.findClass own = some m.cls) (w : (Cond.classLink own index K).before a0 Z = true) (E : Exa Z h a C) (F : ∃ c t, Z.vm.findClass C = some c ∧ Z.vm.findClass K = some t ∧ Z.vm.assignable c t = false) (hd : decode c.code pc = .ok (.instanceof index, 3)) (hp : pc + 3 = pc')
    (k : ∀ T', Pn p l e R s m args below meth c T' h n0 cells slots → Go p e s below n0 Q R T' (mkF m pc' Ls (.int 0 :: S))) : Go p e s below n0 Q R T (mkF m pc Ls (.ref a :: S)) := by
  subst hp
  obtain ⟨e0, hn, locs, Y, N⟩ := X
  obtain ⟨T', Y', e', st⟩ := instNo Y hx hZ hown w e0 E F (g := mkF m pc Ls (.ref a :: S)) rfl rfl hd
  exact stp st (k T' ⟨e', hn, locs, Y', N⟩)
theorem ioZ {index : Nat} (X : Pn p l e R s m args below meth c T h n0 cells slots) (hx : p.tables.exec = Jvm.exec) (hd : decode c.code pc = .ok (.instanceof index, 3)) (hp : pc + 3 = pc')
    (k : Go p e s below n0 Q R T (mkF m pc' Ls (.int 0 :: S))) : Go p e s below n0 Q R T (mkF m pc Ls (.null :: S)) := by
  subst hp
  obtain ⟨e0, hn, locs, Y, N⟩ := X
  exact stp (Y.instanceofNull hx (g := mkF m pc Ls (.null :: S)) rfl rfl hd) k
theorem ccY {own K : String} {index : Nat} {a : Addr} (X : Pn p l e R s m args below meth c T h n0 cells slots) (hx : p.tables.exec = Jvm.exec) (hZ : Z.Warmed39 s.vm) (hown : s.vm.findClass own = some m.cls) (w : (Cond.classLink own index K).before a0 Z = true) (F : Ins Z h a K true) (hd : decode c.code pc = .ok (.checkcast index, 3)) (hp : pc + 3 = pc')
    (k : ∀ T', Pn p l e R s m args below meth c T' h n0 cells slots → Go p e s below n0 Q R T' (mkF m pc' Ls (.ref a :: S))) : Go p e s below n0 Q R T (mkF m pc Ls (.ref a :: S)) := by
  subst hp
  obtain ⟨e0, hn, locs, Y, N⟩ := X
  obtain ⟨T', Y', e', st⟩ := castY Y hx hZ hown w e0 F (g := mkF m pc Ls (.ref a :: S)) rfl rfl hd
  exact stp st (k T' ⟨e', hn, locs, Y', N⟩)
theorem own_nsRoot {O K : String} {kk : Nat} (w : (Cond.noSuperclass O).before a0 Z = true) (wk : (Cond.instantiable K kk).before a0 Z = true) (hn : O ≠ K) : NS Z O K := by
  obtain ⟨c, k, h1, h2, h3, -, -⟩ := Cond.noSuperclass_spec w
  obtain ⟨t, _, g1, -⟩ := Cond.instantiable_spec wk
  have ne := ids_ne h1 g1 hn
  refine ⟨c, t, h1, g1, fun fuel => ?_⟩
  cases fuel with
  | zero => rfl
  | succ f => simp [Vm.isSubclassAux, ne, h2, h3]
theorem own_nsNo {C U K : String} {kk : Nat} (w : (Cond.superclass C U).before a0 Z = true) (wk : (Cond.instantiable K kk).before a0 Z = true) (n : NS Z C K) (hn : C ≠ K) : ∃ c t, Z.vm.findClass C = some c ∧ Z.vm.findClass K = some t ∧ Z.vm.assignable c t = false := by
  obtain ⟨c, t, h0, g0, n3⟩ := n
  obtain ⟨q, k, kp, h1, h2, h3, h4, h5, -, h7⟩ := Cond.superclass_spec h0 w
  obtain ⟨t', k', g1, g2, g3, g4, -⟩ := Cond.instantiable_spec wk
  cases g0.symm.trans g1
  have g7 : k'.isInterface = false := by rw [Bool.or_eq_false_iff] at g4; exact g4.1
  have ne := ids_ne h0 g0 hn
  refine ⟨c, t, h0, g0, ?_⟩
  show Z.vm.assignableAux (255 + 1) c t = false
  simp [Vm.assignableAux, ne, h2, g2, h5, g3, g7, Vm.isSubclass, n3]
/-! arrays: n places, the i-th holds f i -/
def Av (Z : State) (h : Heap) (a : Addr) (ty : FieldType) (n : Nat) (f : Nat → Value) : Prop := ∃ c : Cell, Arr Z h a c ty ∧ c.slots.size = n ∧ ∀ i, i < n → c.slots[i]? = some (f i)
theorem Av.lt {a : Addr} {ty : FieldType} {n : Nat} {f : Nat → Value} (F : Av Z h a ty n f) : a < h.size := by obtain ⟨c, A, -⟩ := F; exact A.lt
theorem Av.ext {h' : Heap} {a : Addr} {ty : FieldType} {n : Nat} {f : Nat → Value} (F : Av Z h a ty n f) (E : Ext h h') : Av Z h' a ty n f := by obtain ⟨c, A, r⟩ := F; exact ⟨c, A.ext E, r⟩
theorem Av.other {h' : Heap} {a b : Addr} {ty : FieldType} {n sl : Nat} {v : Value} {f : Nat → Value} (F : Av Z h b ty n f) (W : Wr h h' a sl v) (q : b ≠ a) : Av Z h' b ty n f := by obtain ⟨c, A, r⟩ := F; exact ⟨c, A.other W q, r⟩
theorem Av.keep {h' : Heap} {a : Addr} {ws : List Addr} {ty : FieldType} {n : Nat} {f : Nat → Value} (F : Av Z h a ty n f) (K : Keep h h' ws) (q : a ∉ ws) : Av Z h' a ty n f := by obtain ⟨c, A, r⟩ := F; exact ⟨c, ⟨K.2.1 a c A.1 q, A.2⟩, r⟩
theorem Av.same {h' : Heap} {a : Addr} {ty : FieldType} {n j : Nat} {v : Value} {f : Nat → Value} (F : Av Z h a ty n f) (W : Wr h h' a j v) : Av Z h' a ty n (fun i => if i = j then v else f i) := by
  obtain ⟨c, A, q, r⟩ := F
  refine ⟨c.setSlot j v, A.same W, by rw [sz_set]; exact q, fun i hi => ?_⟩
  obtain ⟨c', e1, -, -, -, -, e6, e7⟩ := wr_at W A.1
  obtain ⟨e8, e9, -⟩ := e7 rfl
  by_cases hj : i = j
  · subst hj; show _ = some (if i = i then v else f i); rw [if_pos rfl, ← e8]; exact e9
  · show _ = some (if i = j then v else f i); rw [if_neg hj, ← e8, e6 _ hj]; exact r i hi
theorem Av.congr {a : Addr} {ty : FieldType} {n : Nat} {f g : Nat → Value} (F : Av Z h a ty n f) (q : ∀ i, i < n → f i = g i) : Av Z h a ty n g := by obtain ⟨c, A, r, u⟩ := F; exact ⟨c, A, r, fun i hi => by rw [u i hi, q i hi]⟩
theorem na {aty : ArrayType} {z : Int32} (cap : Nat) (X : Pn p l e R s m args below meth c T h n0 cells slots) (hx : p.tables.exec = Jvm.exec) (hZ : Z.Warmed39 s.vm) (w : (Cond.arrayClass (newarray.typeOf aty)).before a0 Z = true) (hd : decode c.code pc = .ok (.newarray aty, 2)) (hp : pc + 2 = pc') (hz : ¬ z < 0) (hcap : z.toNatClampNeg ≤ cap) (hb : cap * 8 ≤ 536870912) (hc : cells + 1 ≤ R.cells) (hl : slots + cap ≤ R.slots)
    (k : ∀ T' h' b, Pn p l e R s m args below meth c T' h' n0 (cells + 1) (slots + cap) → b = h.size → n0 ≤ b → Ext h h' → Av Z h' b (newarray.typeOf aty) z.toNatClampNeg (fun _ => defaultValue (newarray.typeOf aty)) → Go p e s below n0 Q R T' (mkF m pc' Ls (.ref b :: S))) :
    Go p e s below n0 Q R T (mkF m pc Ls (.int z :: S)) := by
  subst hp
  have q := X.le
  obtain ⟨e0, hn, locs, Y, N⟩ := X
  obtain ⟨T', h', k', Y', e', E', A', st⟩ := newP Y hx hZ w e0 (g := mkF m pc Ls (.int z :: S)) rfl hd rfl hz hcap hb hc hl
  refine stp st (k T' h' _ ⟨e', hn, _, Y', N⟩ rfl q E' ⟨_, A', sz_new _ _ _, fun i hi => ?_⟩)
  simp [newA, hi]
theorem len {a : Addr} {ty : FieldType} {n : Nat} {f : Nat → Value} (z : Int32) (X : Pn p l e R s m args below meth c T h n0 cells slots) (hx : p.tables.exec = Jvm.exec) (hZ : Z.Warmed39 s.vm) (A : Av Z h a ty n f) (hz : n.toInt32 = z) (hd : decode c.code pc = .ok (.arraylength, 1)) (hp : pc + 1 = pc')
    (k : Go p e s below n0 Q R T (mkF m pc' Ls (.int z :: S))) : Go p e s below n0 Q R T (mkF m pc Ls (.ref a :: S)) := by
  subst hp hz
  obtain ⟨e0, hn, locs, Y, N⟩ := X
  obtain ⟨cl, Ar, S0, r⟩ := A
  subst S0
  exact stp (fun t q => Y.arraylength hx (by rw [e0]; exact Ar.1) (State.isArrayOf_alike hZ.alike Ar.2.1) (g := mkF m pc Ls (.ref a :: S)) rfl rfl hd t q) k
theorem inn {cl : Cell} {n : Nat} {j : Int32} (S0 : cl.slots.size = n) (q : ¬ j < 0) (r : j.toNatClampNeg < n) : ¬ (j < 0 ∨ cl.slots.size ≤ j.toNatClampNeg) := fun u => u.elim q fun v => by omega
theorem ldI {a : Addr} {n : Nat} {f : Nat → Value} {j : Int32} {v : Value} (X : Pn p l e R s m args below meth c T h n0 cells slots) (hx : p.tables.exec = Jvm.exec) (hZ : Z.Warmed39 s.vm) (A : Av Z h a .int n f) (q : ¬ j < 0) (r : j.toNatClampNeg < n) (hv : f j.toNatClampNeg = v) (hd : decode c.code pc = .ok (.iaload, 1)) (hp : pc + 1 = pc')
    (k : Go p e s below n0 Q R T (mkF m pc' Ls (v :: S))) : Go p e s below n0 Q R T (mkF m pc Ls (.int j :: .ref a :: S)) := by
  subst hp hv
  obtain ⟨e0, hn, locs, Y, N⟩ := X
  obtain ⟨cl, Ar, S0, u⟩ := A
  exact stp (fun t y => Y.iaload hx (by rw [e0]; exact Ar.1) (State.isArrayOf_alike hZ.alike Ar.2.1) Ar.2.2 (inn S0 q r) (u _ r) (g := mkF m pc Ls (.int j :: .ref a :: S)) rfl rfl hd t y) k
theorem ldJ {a : Addr} {n : Nat} {f : Nat → Value} {j : Int32} {v : Value} (X : Pn p l e R s m args below meth c T h n0 cells slots) (hx : p.tables.exec = Jvm.exec) (hZ : Z.Warmed39 s.vm) (A : Av Z h a .long n f) (q : ¬ j < 0) (r : j.toNatClampNeg < n) (hv : f j.toNatClampNeg = v) (hd : decode c.code pc = .ok (.laload, 1)) (hp : pc + 1 = pc')
    (k : Go p e s below n0 Q R T (mkF m pc' Ls (v :: S))) : Go p e s below n0 Q R T (mkF m pc Ls (.int j :: .ref a :: S)) := by
  subst hp hv
  obtain ⟨e0, hn, locs, Y, N⟩ := X
  obtain ⟨cl, Ar, S0, u⟩ := A
  exact stp (fun t y => Y.laload hx (by rw [e0]; exact Ar.1) (State.isArrayOf_alike hZ.alike Ar.2.1) Ar.2.2 (inn S0 q r) (u _ r) (g := mkF m pc Ls (.int j :: .ref a :: S)) rfl rfl hd t y) k
theorem ldB {a : Addr} {n : Nat} {f : Nat → Value} {j : Int32} {v : Value} (X : Pn p l e R s m args below meth c T h n0 cells slots) (hx : p.tables.exec = Jvm.exec) (hZ : Z.Warmed39 s.vm) (A : Av Z h a .byte n f) (q : ¬ j < 0) (r : j.toNatClampNeg < n) (hv : f j.toNatClampNeg = v) (hd : decode c.code pc = .ok (.baload, 1)) (hp : pc + 1 = pc')
    (k : Go p e s below n0 Q R T (mkF m pc' Ls (v :: S))) : Go p e s below n0 Q R T (mkF m pc Ls (.int j :: .ref a :: S)) := by
  subst hp hv
  obtain ⟨e0, hn, locs, Y, N⟩ := X
  obtain ⟨cl, Ar, S0, u⟩ := A
  exact stp (fun t y => Y.baloadBytes hx (by rw [e0]; exact Ar.1) (State.isArrayOf_alike hZ.alike Ar.2.1) Ar.2.2 (inn S0 q r) (u _ r) (g := mkF m pc Ls (.int j :: .ref a :: S)) rfl rfl hd t y) k
theorem ldR {a : Addr} {ty : FieldType} {n : Nat} {f : Nat → Value} {j : Int32} {v : Value} (X : Pn p l e R s m args below meth c T h n0 cells slots) (hx : p.tables.exec = Jvm.exec) (hZ : Z.Warmed39 s.vm) (A : Av Z h a ty n f) (hty : ty.isReference = true) (q : ¬ j < 0) (r : j.toNatClampNeg < n) (hv : f j.toNatClampNeg = v) (hd : decode c.code pc = .ok (.aaload, 1)) (hp : pc + 1 = pc')
    (k : Go p e s below n0 Q R T (mkF m pc' Ls (v :: S))) : Go p e s below n0 Q R T (mkF m pc Ls (.int j :: .ref a :: S)) := by
  subst hp hv
  obtain ⟨e0, hn, locs, Y, N⟩ := X
  obtain ⟨cl, Ar, S0, u⟩ := A
  exact stp (fun t y => Y.aaload hx (by rw [e0]; exact Ar.1) (State.isArrayOf_alike hZ.alike Ar.2.1) hty Ar.2.2 (inn S0 q r) (u _ r) (g := mkF m pc Ls (.int j :: .ref a :: S)) rfl rfl hd t y) k
theorem saI {a : Addr} {n : Nat} {f : Nat → Value} {j x : Int32} (X : Pn p l e R s m args below meth c T h n0 cells slots) (hx : p.tables.exec = Jvm.exec) (hZ : Z.Warmed39 s.vm) (A : Av Z h a .int n f) (ge : n0 ≤ a) (q : ¬ j < 0) (r : j.toNatClampNeg < n) (hd : decode c.code pc = .ok (.iastore, 1)) (hp : pc + 1 = pc')
    (k : ∀ T' h', Pn p l e R s m args below meth c T' h' n0 cells slots → Wr h h' a j.toNatClampNeg (.int x) → Go p e s below n0 Q R T' (mkF m pc' Ls S)) : Go p e s below n0 Q R T (mkF m pc Ls (.int x :: .int j :: .ref a :: S)) := by
  subst hp
  obtain ⟨e0, hn, locs, Y, N⟩ := X
  obtain ⟨cl, Ar, S0, u⟩ := A
  obtain ⟨T', h', Y', e', W', st⟩ := stI Y hx hZ e0 Ar (inn S0 q r) (g := mkF m pc Ls (.int x :: .int j :: .ref a :: S)) rfl rfl hd
  exact stp st (k T' h' ⟨e', hn, _, Y', Fr.snoc Y' N ge⟩ W')
theorem saJ {a : Addr} {n : Nat} {f : Nat → Value} {j : Int32} {x : Int64} (X : Pn p l e R s m args below meth c T h n0 cells slots) (hx : p.tables.exec = Jvm.exec) (hZ : Z.Warmed39 s.vm) (A : Av Z h a .long n f) (ge : n0 ≤ a) (q : ¬ j < 0) (r : j.toNatClampNeg < n) (hd : decode c.code pc = .ok (.lastore, 1)) (hp : pc + 1 = pc')
    (k : ∀ T' h', Pn p l e R s m args below meth c T' h' n0 cells slots → Wr h h' a j.toNatClampNeg (.long x) → Go p e s below n0 Q R T' (mkF m pc' Ls S)) : Go p e s below n0 Q R T (mkF m pc Ls (.long x :: .int j :: .ref a :: S)) := by
  subst hp
  obtain ⟨e0, hn, locs, Y, N⟩ := X
  obtain ⟨cl, Ar, S0, u⟩ := A
  obtain ⟨T', h', Y', e', W', st⟩ := stJ Y hx hZ e0 Ar (inn S0 q r) (g := mkF m pc Ls (.long x :: .int j :: .ref a :: S)) rfl rfl hd
  exact stp st (k T' h' ⟨e', hn, _, Y', Fr.snoc Y' N ge⟩ W')
theorem saB {a : Addr} {n : Nat} {f : Nat → Value} {j x : Int32} (X : Pn p l e R s m args below meth c T h n0 cells slots) (hx : p.tables.exec = Jvm.exec) (hZ : Z.Warmed39 s.vm) (A : Av Z h a .byte n f) (ge : n0 ≤ a) (q : ¬ j < 0) (r : j.toNatClampNeg < n) (hd : decode c.code pc = .ok (.bastore, 1)) (hp : pc + 1 = pc')
    (k : ∀ T' h', Pn p l e R s m args below meth c T' h' n0 cells slots → Wr h h' a j.toNatClampNeg (.int x.toInt8.toInt32) → Go p e s below n0 Q R T' (mkF m pc' Ls S)) : Go p e s below n0 Q R T (mkF m pc Ls (.int x :: .int j :: .ref a :: S)) := by
  subst hp
  obtain ⟨e0, hn, locs, Y, N⟩ := X
  obtain ⟨cl, Ar, S0, u⟩ := A
  obtain ⟨T', h', Y', e', W', st⟩ := stB Y hx hZ e0 Ar (inn S0 q r) (g := mkF m pc Ls (.int x :: .int j :: .ref a :: S)) rfl rfl hd
  exact stp st (k T' h' ⟨e', hn, _, Y', Fr.snoc Y' N ge⟩ W')
/-! arrays of references: the class is known too -/
def AvR (Z : State) (h : Heap) (a : Addr) (C : String) (n : Nat) (f : Nat → Value) : Prop := ∃ c : Cell, Arr Z h a c (.object C) ∧ Ovr Z c.cls C ∧ c.slots.size = n ∧ ∀ i, i < n → c.slots[i]? = some (f i)
theorem AvR.lt {a : Addr} {C : String} {n : Nat} {f : Nat → Value} (F : AvR Z h a C n f) : a < h.size := by obtain ⟨c, A, -⟩ := F; exact A.lt
theorem AvR.av {a : Addr} {C : String} {n : Nat} {f : Nat → Value} (F : AvR Z h a C n f) : Av Z h a (.object C) n f := by obtain ⟨c, A, -, r⟩ := F; exact ⟨c, A, r⟩
theorem AvR.ext {h' : Heap} {a : Addr} {C : String} {n : Nat} {f : Nat → Value} (F : AvR Z h a C n f) (E : Ext h h') : AvR Z h' a C n f := by obtain ⟨c, A, r⟩ := F; exact ⟨c, A.ext E, r⟩
theorem AvR.other {h' : Heap} {a b : Addr} {C : String} {n sl : Nat} {v : Value} {f : Nat → Value} (F : AvR Z h b C n f) (W : Wr h h' a sl v) (q : b ≠ a) : AvR Z h' b C n f := by obtain ⟨c, A, r⟩ := F; exact ⟨c, A.other W q, r⟩
theorem AvR.set {h' : Heap} {a : Addr} {C : String} {n k : Nat} {j : Int32} {v : Value} {f : Nat → Value} (e : j.toNatClampNeg = k) (F : AvR Z h a C n f) (W : Wr h h' a j.toNatClampNeg v) : AvR Z h' a C n (fun i => if i = k then v else f i) := by
  subst e
  obtain ⟨c, A, O, q, r⟩ := F
  refine ⟨c.setSlot j.toNatClampNeg v, A.same W, O, by rw [sz_set]; exact q, fun i hi => ?_⟩
  obtain ⟨c', e1, -, -, -, -, e6, e7⟩ := wr_at W A.1
  obtain ⟨e8, e9, -⟩ := e7 rfl
  by_cases hj : i = j.toNatClampNeg
  · subst hj; show _ = some (if j.toNatClampNeg = j.toNatClampNeg then v else f j.toNatClampNeg); rw [if_pos rfl, ← e8]; exact e9
  · show _ = some (if i = j.toNatClampNeg then v else f i); rw [if_neg hj, ← e8, e6 _ hj]; exact r i hi
theorem nr {own C : String} {index : Nat} {z : Int32} (cap : Nat) (X : Pn p l e R s m args below meth c T h n0 cells slots) (hx : p.tables.exec = Jvm.exec) (hZ : Z.Warmed39 s.vm) (hown : s.vm.findClass own = some m.cls) (w1 : (Cond.classLink own index C).before a0 Z = true) (w2 : (Cond.arrayOver (.object C)).before a0 Z = true) (hd : decode c.code pc = .ok (.anewarray index, 3)) (hp : pc + 3 = pc') (hz : ¬ z < 0) (hcap : z.toNatClampNeg ≤ cap) (hb : cap * 8 ≤ 536870912) (hc : cells + 1 ≤ R.cells) (hl : slots + cap ≤ R.slots)
    (k : ∀ T' h' b, Pn p l e R s m args below meth c T' h' n0 (cells + 1) (slots + cap) → b = h.size → n0 ≤ b → Ext h h' → AvR Z h' b C z.toNatClampNeg (fun _ => .null) → Go p e s below n0 Q R T' (mkF m pc' Ls (.ref b :: S))) :
    Go p e s below n0 Q R T (mkF m pc Ls (.int z :: S)) := by
  subst hp
  have q := X.le
  obtain ⟨e0, hn, locs, Y, N⟩ := X
  obtain ⟨T', h', k', Y', e', E', A', O', st⟩ := newR Y hx hZ hown w1 w2 e0 (g := mkF m pc Ls (.int z :: S)) rfl hd rfl hz hcap hb hc hl
  refine stp st (k T' h' _ ⟨e', hn, _, Y', N⟩ rfl q E' ⟨_, A', O', sz_new _ _ _, fun i hi => ?_⟩)
  simp [newA, hi, defaultValue]
theorem saR {a y : Addr} {C : String} {n : Nat} {f : Nat → Value} {j : Int32} (X : Pn p l e R s m args below meth c T h n0 cells slots) (hx : p.tables.exec = Jvm.exec) (hZ : Z.Warmed39 s.vm) (A : AvR Z h a C n f) (I : Ins Z h y C true) (ge : n0 ≤ a) (q : ¬ j < 0) (r : j.toNatClampNeg < n) (hd : decode c.code pc = .ok (.aastore, 1)) (hp : pc + 1 = pc')
    (k : ∀ T' h', Pn p l e R s m args below meth c T' h' n0 cells slots → Wr h h' a j.toNatClampNeg (.ref y) → Go p e s below n0 Q R T' (mkF m pc' Ls S)) : Go p e s below n0 Q R T (mkF m pc Ls (.ref y :: .int j :: .ref a :: S)) := by
  subst hp
  obtain ⟨e0, hn, locs, Y, N⟩ := X
  obtain ⟨cl, Ar, O, S0, u⟩ := A
  obtain ⟨T', h', Y', e', W', st⟩ := stR Y hx hZ e0 Ar (inn S0 q r) rfl (Sto.of Ar O I) (g := mkF m pc Ls (.ref y :: .int j :: .ref a :: S)) rfl rfl hd
  exact stp st (k T' h' ⟨e', hn, _, Y', Fr.snoc Y' N ge⟩ W')
theorem i_iadd {x y : Int32} (X : Pn p l e R s m args below meth c T h n0 cells slots) (hx : p.tables.exec = Jvm.exec) (hd : decode c.code pc = .ok (.iadd, 1)) (hp : pc + 1 = pc')
    (k : Go p e s below n0 Q R T (mkF m pc' Ls (.int (x + y) :: S))) : Go p e s below n0 Q R T (mkF m pc Ls (.int y :: .int x :: S)) := by subst hp; exact stp (fun _ q => XS.iadd X.here hx rfl hd rfl q) k
theorem i_isub {x y : Int32} (X : Pn p l e R s m args below meth c T h n0 cells slots) (hx : p.tables.exec = Jvm.exec) (hd : decode c.code pc = .ok (.isub, 1)) (hp : pc + 1 = pc')
    (k : Go p e s below n0 Q R T (mkF m pc' Ls (.int (x - y) :: S))) : Go p e s below n0 Q R T (mkF m pc Ls (.int y :: .int x :: S)) := by subst hp; exact stp (fun _ q => XS.isub X.here hx rfl hd rfl q) k
theorem i_imul {x y : Int32} (X : Pn p l e R s m args below meth c T h n0 cells slots) (hx : p.tables.exec = Jvm.exec) (hd : decode c.code pc = .ok (.imul, 1)) (hp : pc + 1 = pc')
    (k : Go p e s below n0 Q R T (mkF m pc' Ls (.int (x * y) :: S))) : Go p e s below n0 Q R T (mkF m pc Ls (.int y :: .int x :: S)) := by subst hp; exact stp (fun _ q => XS.imul X.here hx rfl hd rfl q) k
theorem i_iand {x y : Int32} (X : Pn p l e R s m args below meth c T h n0 cells slots) (hx : p.tables.exec = Jvm.exec) (hd : decode c.code pc = .ok (.iand, 1)) (hp : pc + 1 = pc')
    (k : Go p e s below n0 Q R T (mkF m pc' Ls (.int (x &&& y) :: S))) : Go p e s below n0 Q R T (mkF m pc Ls (.int y :: .int x :: S)) := by subst hp; exact stp (fun _ q => XS.iand X.here hx rfl hd rfl q) k
theorem i_ior {x y : Int32} (X : Pn p l e R s m args below meth c T h n0 cells slots) (hx : p.tables.exec = Jvm.exec) (hd : decode c.code pc = .ok (.ior, 1)) (hp : pc + 1 = pc')
    (k : Go p e s below n0 Q R T (mkF m pc' Ls (.int (x ||| y) :: S))) : Go p e s below n0 Q R T (mkF m pc Ls (.int y :: .int x :: S)) := by subst hp; exact stp (fun _ q => XT.ior X.here hx rfl hd rfl q) k
theorem i_ixor {x y : Int32} (X : Pn p l e R s m args below meth c T h n0 cells slots) (hx : p.tables.exec = Jvm.exec) (hd : decode c.code pc = .ok (.ixor, 1)) (hp : pc + 1 = pc')
    (k : Go p e s below n0 Q R T (mkF m pc' Ls (.int (x ^^^ y) :: S))) : Go p e s below n0 Q R T (mkF m pc Ls (.int y :: .int x :: S)) := by subst hp; exact stp (fun _ q => XT.ixor X.here hx rfl hd rfl q) k
theorem i_ishl {x y : Int32} (X : Pn p l e R s m args below meth c T h n0 cells slots) (hx : p.tables.exec = Jvm.exec) (hd : decode c.code pc = .ok (.ishl, 1)) (hp : pc + 1 = pc')
    (k : Go p e s below n0 Q R T (mkF m pc' Ls (.int (x <<< (y &&& 31)) :: S))) : Go p e s below n0 Q R T (mkF m pc Ls (.int y :: .int x :: S)) := by subst hp; exact stp (fun _ q => XT.ishl X.here hx rfl hd rfl q) k
theorem i_ishr {x y : Int32} (X : Pn p l e R s m args below meth c T h n0 cells slots) (hx : p.tables.exec = Jvm.exec) (hd : decode c.code pc = .ok (.ishr, 1)) (hp : pc + 1 = pc')
    (k : Go p e s below n0 Q R T (mkF m pc' Ls (.int (x >>> (y &&& 31)) :: S))) : Go p e s below n0 Q R T (mkF m pc Ls (.int y :: .int x :: S)) := by subst hp; exact stp (fun _ q => XT.ishr X.here hx rfl hd rfl q) k
theorem i_iushr {x y : Int32} (X : Pn p l e R s m args below meth c T h n0 cells slots) (hx : p.tables.exec = Jvm.exec) (hd : decode c.code pc = .ok (.iushr, 1)) (hp : pc + 1 = pc')
    (k : Go p e s below n0 Q R T (mkF m pc' Ls (.int (XT.ushr x y) :: S))) : Go p e s below n0 Q R T (mkF m pc Ls (.int y :: .int x :: S)) := by subst hp; exact stp (fun _ q => XT.iushr X.here hx rfl hd rfl q) k
theorem i_ladd {x y : Int64} (X : Pn p l e R s m args below meth c T h n0 cells slots) (hx : p.tables.exec = Jvm.exec) (hd : decode c.code pc = .ok (.ladd, 1)) (hp : pc + 1 = pc')
    (k : Go p e s below n0 Q R T (mkF m pc' Ls (.long (x + y) :: S))) : Go p e s below n0 Q R T (mkF m pc Ls (.long y :: .long x :: S)) := by subst hp; exact stp (fun _ q => XT.ladd X.here hx rfl hd rfl q) k
theorem i_lsub {x y : Int64} (X : Pn p l e R s m args below meth c T h n0 cells slots) (hx : p.tables.exec = Jvm.exec) (hd : decode c.code pc = .ok (.lsub, 1)) (hp : pc + 1 = pc')
    (k : Go p e s below n0 Q R T (mkF m pc' Ls (.long (x - y) :: S))) : Go p e s below n0 Q R T (mkF m pc Ls (.long y :: .long x :: S)) := by subst hp; exact stp (fun _ q => XT.lsub X.here hx rfl hd rfl q) k
theorem i_lmul {x y : Int64} (X : Pn p l e R s m args below meth c T h n0 cells slots) (hx : p.tables.exec = Jvm.exec) (hd : decode c.code pc = .ok (.lmul, 1)) (hp : pc + 1 = pc')
    (k : Go p e s below n0 Q R T (mkF m pc' Ls (.long (x * y) :: S))) : Go p e s below n0 Q R T (mkF m pc Ls (.long y :: .long x :: S)) := by subst hp; exact stp (fun _ q => XT.lmul X.here hx rfl hd rfl q) k
theorem i_land {x y : Int64} (X : Pn p l e R s m args below meth c T h n0 cells slots) (hx : p.tables.exec = Jvm.exec) (hd : decode c.code pc = .ok (.land, 1)) (hp : pc + 1 = pc')
    (k : Go p e s below n0 Q R T (mkF m pc' Ls (.long (x &&& y) :: S))) : Go p e s below n0 Q R T (mkF m pc Ls (.long y :: .long x :: S)) := by subst hp; exact stp (fun _ q => XT.land X.here hx rfl hd rfl q) k
theorem i_lor {x y : Int64} (X : Pn p l e R s m args below meth c T h n0 cells slots) (hx : p.tables.exec = Jvm.exec) (hd : decode c.code pc = .ok (.lor, 1)) (hp : pc + 1 = pc')
    (k : Go p e s below n0 Q R T (mkF m pc' Ls (.long (x ||| y) :: S))) : Go p e s below n0 Q R T (mkF m pc Ls (.long y :: .long x :: S)) := by subst hp; exact stp (fun _ q => XT.lor X.here hx rfl hd rfl q) k
theorem i_lxor {x y : Int64} (X : Pn p l e R s m args below meth c T h n0 cells slots) (hx : p.tables.exec = Jvm.exec) (hd : decode c.code pc = .ok (.lxor, 1)) (hp : pc + 1 = pc')
    (k : Go p e s below n0 Q R T (mkF m pc' Ls (.long (x ^^^ y) :: S))) : Go p e s below n0 Q R T (mkF m pc Ls (.long y :: .long x :: S)) := by subst hp; exact stp (fun _ q => XT.lxor X.here hx rfl hd rfl q) k
theorem i_lshl {x : Int64} {y : Int32} (X : Pn p l e R s m args below meth c T h n0 cells slots) (hx : p.tables.exec = Jvm.exec) (hd : decode c.code pc = .ok (.lshl, 1)) (hp : pc + 1 = pc')
    (k : Go p e s below n0 Q R T (mkF m pc' Ls (.long (x <<< (y.toInt64 &&& 63)) :: S))) : Go p e s below n0 Q R T (mkF m pc Ls (.int y :: .long x :: S)) := by subst hp; exact stp (fun _ q => XT.lshl X.here hx rfl hd rfl q) k
theorem i_lshr {x : Int64} {y : Int32} (X : Pn p l e R s m args below meth c T h n0 cells slots) (hx : p.tables.exec = Jvm.exec) (hd : decode c.code pc = .ok (.lshr, 1)) (hp : pc + 1 = pc')
    (k : Go p e s below n0 Q R T (mkF m pc' Ls (.long (x >>> (y.toInt64 &&& 63)) :: S))) : Go p e s below n0 Q R T (mkF m pc Ls (.int y :: .long x :: S)) := by subst hp; exact stp (fun _ q => XT.lshr X.here hx rfl hd rfl q) k
theorem i_lushr {x : Int64} {y : Int32} (X : Pn p l e R s m args below meth c T h n0 cells slots) (hx : p.tables.exec = Jvm.exec) (hd : decode c.code pc = .ok (.lushr, 1)) (hp : pc + 1 = pc')
    (k : Go p e s below n0 Q R T (mkF m pc' Ls (.long (XT.ushrL x y) :: S))) : Go p e s below n0 Q R T (mkF m pc Ls (.int y :: .long x :: S)) := by subst hp; exact stp (fun _ q => XT.lushr X.here hx rfl hd rfl q) k
theorem i_idiv {x y : Int32} (X : Pn p l e R s m args below meth c T h n0 cells slots) (hx : p.tables.exec = Jvm.exec) (hd : decode c.code pc = .ok (.idiv, 1)) (hp : pc + 1 = pc') (hy : y ≠ 0)
    (k : Go p e s below n0 Q R T (mkF m pc' Ls (.int (x / y) :: S))) : Go p e s below n0 Q R T (mkF m pc Ls (.int y :: .int x :: S)) := by subst hp; exact stp (fun _ q => XS.idiv X.here hx rfl hd rfl hy q) k
theorem i_ldiv {x y : Int64} (X : Pn p l e R s m args below meth c T h n0 cells slots) (hx : p.tables.exec = Jvm.exec) (hd : decode c.code pc = .ok (.ldiv, 1)) (hp : pc + 1 = pc') (hy : y ≠ 0)
    (k : Go p e s below n0 Q R T (mkF m pc' Ls (.long (x / y) :: S))) : Go p e s below n0 Q R T (mkF m pc Ls (.long y :: .long x :: S)) := by subst hp; exact stp (fun _ q => XT.ldiv X.here hx rfl hd rfl hy q) k
theorem i_lrem {x y : Int64} (X : Pn p l e R s m args below meth c T h n0 cells slots) (hx : p.tables.exec = Jvm.exec) (hd : decode c.code pc = .ok (.lrem, 1)) (hp : pc + 1 = pc') (hy : y ≠ 0)
    (k : Go p e s below n0 Q R T (mkF m pc' Ls (.long (x - (x / y) * y) :: S))) : Go p e s below n0 Q R T (mkF m pc Ls (.long y :: .long x :: S)) := by subst hp; exact stp (fun _ q => XT.lrem X.here hx rfl hd rfl hy q) k
theorem i_irem {x y : Int32} (X : Pn p l e R s m args below meth c T h n0 cells slots) (hx : p.tables.exec = Jvm.exec) (hd : decode c.code pc = .ok (.irem, 1)) (hp : pc + 1 = pc') (hy : y ≠ 0)
    (k : Go p e s below n0 Q R T (mkF m pc' Ls (.int (x % y) :: S))) : Go p e s below n0 Q R T (mkF m pc Ls (.int y :: .int x :: S)) := by subst hp; obtain ⟨e0, hn, locs, Y, N⟩ := X; exact stp (fun _ q => iremM Y hx rfl hd rfl hy q) k
theorem i_ineg {x : Int32} (X : Pn p l e R s m args below meth c T h n0 cells slots) (hx : p.tables.exec = Jvm.exec) (hd : decode c.code pc = .ok (.ineg, 1)) (hp : pc + 1 = pc')
    (k : Go p e s below n0 Q R T (mkF m pc' Ls (.int (-x) :: S))) : Go p e s below n0 Q R T (mkF m pc Ls (.int x :: S)) := by subst hp; exact stp (fun _ q => XS.ineg X.here hx rfl hd rfl q) k
theorem i_lneg {x : Int64} (X : Pn p l e R s m args below meth c T h n0 cells slots) (hx : p.tables.exec = Jvm.exec) (hd : decode c.code pc = .ok (.lneg, 1)) (hp : pc + 1 = pc')
    (k : Go p e s below n0 Q R T (mkF m pc' Ls (.long (-x) :: S))) : Go p e s below n0 Q R T (mkF m pc Ls (.long x :: S)) := by subst hp; exact stp (fun _ q => XT.lneg X.here hx rfl hd rfl q) k
theorem i_i2l {x : Int32} (X : Pn p l e R s m args below meth c T h n0 cells slots) (hx : p.tables.exec = Jvm.exec) (hd : decode c.code pc = .ok (.i2l, 1)) (hp : pc + 1 = pc')
    (k : Go p e s below n0 Q R T (mkF m pc' Ls (.long x.toInt64 :: S))) : Go p e s below n0 Q R T (mkF m pc Ls (.int x :: S)) := by subst hp; exact stp (fun _ q => XT.i2l X.here hx rfl hd rfl q) k
theorem i_l2i {x : Int64} (X : Pn p l e R s m args below meth c T h n0 cells slots) (hx : p.tables.exec = Jvm.exec) (hd : decode c.code pc = .ok (.l2i, 1)) (hp : pc + 1 = pc')
    (k : Go p e s below n0 Q R T (mkF m pc' Ls (.int x.toInt32 :: S))) : Go p e s below n0 Q R T (mkF m pc Ls (.long x :: S)) := by subst hp; exact stp (fun _ q => XT.l2i X.here hx rfl hd rfl q) k
theorem i_i2b {x : Int32} (X : Pn p l e R s m args below meth c T h n0 cells slots) (hx : p.tables.exec = Jvm.exec) (hd : decode c.code pc = .ok (.i2b, 1)) (hp : pc + 1 = pc')
    (k : Go p e s below n0 Q R T (mkF m pc' Ls (.int x.toInt8.toInt32 :: S))) : Go p e s below n0 Q R T (mkF m pc Ls (.int x :: S)) := by subst hp; exact stp (fun _ q => XT.i2b X.here hx rfl hd rfl q) k
theorem i_i2c {x : Int32} (X : Pn p l e R s m args below meth c T h n0 cells slots) (hx : p.tables.exec = Jvm.exec) (hd : decode c.code pc = .ok (.i2c, 1)) (hp : pc + 1 = pc')
    (k : Go p e s below n0 Q R T (mkF m pc' Ls (.int x.toUInt32.toUInt16.toUInt32.toInt32 :: S))) : Go p e s below n0 Q R T (mkF m pc Ls (.int x :: S)) := by subst hp; exact stp (fun _ q => XT.i2c X.here hx rfl hd rfl q) k
theorem i_i2s {x : Int32} (X : Pn p l e R s m args below meth c T h n0 cells slots) (hx : p.tables.exec = Jvm.exec) (hd : decode c.code pc = .ok (.i2s, 1)) (hp : pc + 1 = pc')
    (k : Go p e s below n0 Q R T (mkF m pc' Ls (.int x.toInt16.toInt32 :: S))) : Go p e s below n0 Q R T (mkF m pc Ls (.int x :: S)) := by subst hp; exact stp (fun _ q => XT.i2s X.here hx rfl hd rfl q) k
theorem i_lcmp {x y : Int64} (X : Pn p l e R s m args below meth c T h n0 cells slots) (hx : p.tables.exec = Jvm.exec) (hd : decode c.code pc = .ok (.lcmp, 1)) (hp : pc + 1 = pc')
    (k : Go p e s below n0 Q R T (mkF m pc' Ls (.int (XT.cmpL x y) :: S))) : Go p e s below n0 Q R T (mkF m pc Ls (.long y :: .long x :: S)) := by subst hp; exact stp (fun _ q => XT.lcmp X.here hx rfl hd rfl q) k
theorem i_aloadN {k : Fin 4} {v : Value} (X : Pn p l e R s m args below meth c T h n0 cells slots) (hx : p.tables.exec = Jvm.exec) (hd : decode c.code pc = .ok (.aload_n k, 1)) (hp : pc + 1 = pc') (hl : Ls[k.val]? = some (.val v)) (hv : v.isRef = true)
    (k : Go p e s below n0 Q R T (mkF m pc' Ls (v :: S))) : Go p e s below n0 Q R T (mkF m pc Ls S) := by subst hp; exact stp (fun _ q => XS.aloadN X.here hx rfl hd hl hv q) k
theorem i_aload {k : Nat} {v : Value} (X : Pn p l e R s m args below meth c T h n0 cells slots) (hx : p.tables.exec = Jvm.exec) (hd : decode c.code pc = .ok (.aload k, 2)) (hp : pc + 2 = pc') (hl : Ls[k]? = some (.val v)) (hv : v.isRef = true)
    (k : Go p e s below n0 Q R T (mkF m pc' Ls (v :: S))) : Go p e s below n0 Q R T (mkF m pc Ls S) := by subst hp; exact stp (fun _ q => XS.aload X.here hx rfl hd hl hv q) k
theorem i_iloadN {k : Fin 4} {v : Int32} (X : Pn p l e R s m args below meth c T h n0 cells slots) (hx : p.tables.exec = Jvm.exec) (hd : decode c.code pc = .ok (.iload_n k, 1)) (hp : pc + 1 = pc') (hl : Ls[k.val]? = some (.val (.int v)))
    (k : Go p e s below n0 Q R T (mkF m pc' Ls (.int v :: S))) : Go p e s below n0 Q R T (mkF m pc Ls S) := by subst hp; exact stp (fun _ q => XS.iloadN X.here hx rfl hd hl q) k
theorem i_iload {k : Nat} {v : Int32} (X : Pn p l e R s m args below meth c T h n0 cells slots) (hx : p.tables.exec = Jvm.exec) (hd : decode c.code pc = .ok (.iload k, 2)) (hp : pc + 2 = pc') (hl : Ls[k]? = some (.val (.int v)))
    (k : Go p e s below n0 Q R T (mkF m pc' Ls (.int v :: S))) : Go p e s below n0 Q R T (mkF m pc Ls S) := by subst hp; exact stp (fun _ q => XS.iload X.here hx rfl hd hl q) k
theorem i_lloadN {k : Fin 4} {v : Int64} (X : Pn p l e R s m args below meth c T h n0 cells slots) (hx : p.tables.exec = Jvm.exec) (hd : decode c.code pc = .ok (.lload_n k, 1)) (hp : pc + 1 = pc') (hl : Ls[k.val]? = some (.val (.long v)))
    (k : Go p e s below n0 Q R T (mkF m pc' Ls (.long v :: S))) : Go p e s below n0 Q R T (mkF m pc Ls S) := by subst hp; exact stp (fun _ q => XT.lloadN X.here hx rfl hd hl q) k
theorem i_lload {k : Nat} {v : Int64} (X : Pn p l e R s m args below meth c T h n0 cells slots) (hx : p.tables.exec = Jvm.exec) (hd : decode c.code pc = .ok (.lload k, 2)) (hp : pc + 2 = pc') (hl : Ls[k]? = some (.val (.long v)))
    (k : Go p e s below n0 Q R T (mkF m pc' Ls (.long v :: S))) : Go p e s below n0 Q R T (mkF m pc Ls S) := by subst hp; exact stp (fun _ q => XT.lload X.here hx rfl hd hl q) k
theorem i_istoreN {k : Fin 4} {x : Int32} {L' : Array Slot} (X : Pn p l e R s m args below meth c T h n0 cells slots) (hx : p.tables.exec = Jvm.exec) (hd : decode c.code pc = .ok (.istore_n k, 1)) (hp : pc + 1 = pc') (hl : storeLocals Ls k.val (.int x) = some L')
    (k : Go p e s below n0 Q R T (mkF m pc' L' S)) : Go p e s below n0 Q R T (mkF m pc Ls (.int x :: S)) := by subst hp; exact stp (fun _ q => XS.istoreN X.here hx rfl hd rfl hl q) k
theorem i_istore {k : Nat} {x : Int32} {L' : Array Slot} (X : Pn p l e R s m args below meth c T h n0 cells slots) (hx : p.tables.exec = Jvm.exec) (hd : decode c.code pc = .ok (.istore k, 2)) (hp : pc + 2 = pc') (hl : storeLocals Ls k (.int x) = some L')
    (k : Go p e s below n0 Q R T (mkF m pc' L' S)) : Go p e s below n0 Q R T (mkF m pc Ls (.int x :: S)) := by subst hp; exact stp (fun _ q => XS.istore X.here hx rfl hd rfl hl q) k
theorem i_lstoreN {k : Fin 4} {x : Int64} {L' : Array Slot} (X : Pn p l e R s m args below meth c T h n0 cells slots) (hx : p.tables.exec = Jvm.exec) (hd : decode c.code pc = .ok (.lstore_n k, 1)) (hp : pc + 1 = pc') (hl : storeLocals Ls k.val (.long x) = some L')
    (k : Go p e s below n0 Q R T (mkF m pc' L' S)) : Go p e s below n0 Q R T (mkF m pc Ls (.long x :: S)) := by subst hp; exact stp (fun _ q => XT.lstoreN X.here hx rfl hd rfl hl q) k
theorem i_lstore {k : Nat} {x : Int64} {L' : Array Slot} (X : Pn p l e R s m args below meth c T h n0 cells slots) (hx : p.tables.exec = Jvm.exec) (hd : decode c.code pc = .ok (.lstore k, 2)) (hp : pc + 2 = pc') (hl : storeLocals Ls k (.long x) = some L')
    (k : Go p e s below n0 Q R T (mkF m pc' L' S)) : Go p e s below n0 Q R T (mkF m pc Ls (.long x :: S)) := by subst hp; exact stp (fun _ q => XT.lstore X.here hx rfl hd rfl hl q) k
theorem i_astoreN {k : Fin 4} {x : Value} {L' : Array Slot} (X : Pn p l e R s m args below meth c T h n0 cells slots) (hx : p.tables.exec = Jvm.exec) (hd : decode c.code pc = .ok (.astore_n k, 1)) (hp : pc + 1 = pc') (hv : x.isRef = true) (hl : storeLocals Ls k.val x = some L')
    (k : Go p e s below n0 Q R T (mkF m pc' L' S)) : Go p e s below n0 Q R T (mkF m pc Ls (x :: S)) := by subst hp; exact stp (fun _ q => XS.astoreN X.here hx rfl hd rfl hv hl q) k
theorem i_astore {k : Nat} {x : Value} {L' : Array Slot} (X : Pn p l e R s m args below meth c T h n0 cells slots) (hx : p.tables.exec = Jvm.exec) (hd : decode c.code pc = .ok (.astore k, 2)) (hp : pc + 2 = pc') (hv : x.isRef = true) (hl : storeLocals Ls k x = some L')
    (k : Go p e s below n0 Q R T (mkF m pc' L' S)) : Go p e s below n0 Q R T (mkF m pc Ls (x :: S)) := by subst hp; exact stp (fun _ q => XS.astore X.here hx rfl hd rfl hv hl q) k
theorem i_iconst {i : Int} (v : Int32) (X : Pn p l e R s m args below meth c T h n0 cells slots) (hx : p.tables.exec = Jvm.exec) (hd : decode c.code pc = .ok (.iconst i, 1)) (hp : pc + 1 = pc') (hv : Int32.ofInt i = v)
    (k : Go p e s below n0 Q R T (mkF m pc' Ls (.int v :: S))) : Go p e s below n0 Q R T (mkF m pc Ls S) := by subst hp; exact stp (fun _ q => XT.iconstV X.here hx rfl v hd hv q) k
theorem i_bipush {i : Int} (v : Int32) (X : Pn p l e R s m args below meth c T h n0 cells slots) (hx : p.tables.exec = Jvm.exec) (hd : decode c.code pc = .ok (.bipush i, 2)) (hp : pc + 2 = pc') (hv : (Int8.ofInt i).toInt32 = v)
    (k : Go p e s below n0 Q R T (mkF m pc' Ls (.int v :: S))) : Go p e s below n0 Q R T (mkF m pc Ls S) := by subst hp; exact stp (fun _ q => XT.bipushV X.here hx rfl v hd hv q) k
theorem i_sipush {i : Int} (v : Int32) (X : Pn p l e R s m args below meth c T h n0 cells slots) (hx : p.tables.exec = Jvm.exec) (hd : decode c.code pc = .ok (.sipush i, 3)) (hp : pc + 3 = pc') (hv : (Int16.ofInt i).toInt32 = v)
    (k : Go p e s below n0 Q R T (mkF m pc' Ls (.int v :: S))) : Go p e s below n0 Q R T (mkF m pc Ls S) := by subst hp; exact stp (fun _ q => XT.sipushV X.here hx rfl v hd hv q) k
theorem i_lconst {i : Fin 2} (v : Int64) (X : Pn p l e R s m args below meth c T h n0 cells slots) (hx : p.tables.exec = Jvm.exec) (hd : decode c.code pc = .ok (.lconst i, 1)) (hp : pc + 1 = pc') (hv : Int64.ofNat i = v)
    (k : Go p e s below n0 Q R T (mkF m pc' Ls (.long v :: S))) : Go p e s below n0 Q R T (mkF m pc Ls S) := by subst hp; exact stp (fun _ q => XT.lconstV X.here hx rfl v hd hv q) k
theorem i_aconstNull (X : Pn p l e R s m args below meth c T h n0 cells slots) (hx : p.tables.exec = Jvm.exec) (hd : decode c.code pc = .ok (.aconst_null, 1)) (hp : pc + 1 = pc')
    (k : Go p e s below n0 Q R T (mkF m pc' Ls (.null :: S))) : Go p e s below n0 Q R T (mkF m pc Ls S) := by subst hp; exact stp (fun _ q => XS.aconstNull X.here hx rfl hd q) k
theorem i_iinc {i : Nat} {cst : Int} {x : Int32} {L' : Array Slot} (v : Int32) (X : Pn p l e R s m args below meth c T h n0 cells slots) (hx : p.tables.exec = Jvm.exec) (hd : decode c.code pc = .ok (.iinc i cst, 3)) (hp : pc + 3 = pc') (hv : Int32.ofInt cst = v) (hl : Ls[i]? = some (.val (.int x))) (hl' : storeLocals Ls i (.int (x + v)) = some L')
    (k : Go p e s below n0 Q R T (mkF m pc' L' S)) : Go p e s below n0 Q R T (mkF m pc Ls S) := by subst hp; exact stp (fun _ q => XT.iincV X.here hx rfl v hd hv hl hl' q) k
theorem i_ldc {own : String} {i : Nat} (v : Int32) (X : Pn p l e R s m args below meth c T h n0 cells slots) (hx : p.tables.exec = Jvm.exec) (hZ : Z.Warmed39 s.vm) (hown : s.vm.findClass own = some m.cls) (w : (Cond.constant own i v).before a0 Z = true) (hd : decode c.code pc = .ok (.ldc i, 2)) (hp : pc + 2 = pc')
    (k : Go p e s below n0 Q R T (mkF m pc' Ls (.int v :: S))) : Go p e s below n0 Q R T (mkF m pc Ls S) := by subst hp; obtain ⟨e0, hn, locs, Y, N⟩ := X; exact stp (fun _ q => Y.ldcI hx hown (mv hZ w) (g := mkF m pc Ls S) rfl hd q) k
theorem i_ldcW {own : String} {i : Nat} (v : Int32) (X : Pn p l e R s m args below meth c T h n0 cells slots) (hx : p.tables.exec = Jvm.exec) (hZ : Z.Warmed39 s.vm) (hown : s.vm.findClass own = some m.cls) (w : (Cond.constant own i v).before a0 Z = true) (hd : decode c.code pc = .ok (.ldc_w i, 3)) (hp : pc + 3 = pc')
    (k : Go p e s below n0 Q R T (mkF m pc' Ls (.int v :: S))) : Go p e s below n0 Q R T (mkF m pc Ls S) := by subst hp; obtain ⟨e0, hn, locs, Y, N⟩ := X; exact stp (fun _ q => Y.ldcWI hx hown (mv hZ w) (g := mkF m pc Ls S) rfl hd q) k
theorem i_ldc2 {own : String} {i : Nat} (v : Int64) (X : Pn p l e R s m args below meth c T h n0 cells slots) (hx : p.tables.exec = Jvm.exec) (hZ : Z.Warmed39 s.vm) (hown : s.vm.findClass own = some m.cls) (w : (Cond.constantLong own i v).before a0 Z = true) (hd : decode c.code pc = .ok (.ldc2_w i, 3)) (hp : pc + 3 = pc')
    (k : Go p e s below n0 Q R T (mkF m pc' Ls (.long v :: S))) : Go p e s below n0 Q R T (mkF m pc Ls S) := by subst hp; obtain ⟨e0, hn, locs, Y, N⟩ := X; exact stp (fun _ q => Y.ldc2J hx hown (mv hZ w) (g := mkF m pc Ls S) rfl hd q) k
theorem i_dup {x : Value} (X : Pn p l e R s m args below meth c T h n0 cells slots) (hx : p.tables.exec = Jvm.exec) (hd : decode c.code pc = .ok (.dup, 1)) (hp : pc + 1 = pc') (hc : x.category = 1)
    (k : Go p e s below n0 Q R T (mkF m pc' Ls (x :: x :: S))) : Go p e s below n0 Q R T (mkF m pc Ls (x :: S)) := by subst hp; exact stp (fun _ q => XS.dup X.here hx rfl hd rfl hc q) k
theorem i_pop {x : Value} (X : Pn p l e R s m args below meth c T h n0 cells slots) (hx : p.tables.exec = Jvm.exec) (hd : decode c.code pc = .ok (.pop, 1)) (hp : pc + 1 = pc') (hc : x.category = 1)
    (k : Go p e s below n0 Q R T (mkF m pc' Ls S)) : Go p e s below n0 Q R T (mkF m pc Ls (x :: S)) := by subst hp; exact stp (fun _ q => XT.pop X.here hx rfl hd rfl hc q) k
theorem i_dupX1 {x y : Value} (X : Pn p l e R s m args below meth c T h n0 cells slots) (hx : p.tables.exec = Jvm.exec) (hd : decode c.code pc = .ok (.dup_x1, 1)) (hp : pc + 1 = pc') (hc : x.category = 1) (hc' : y.category = 1)
    (k : Go p e s below n0 Q R T (mkF m pc' Ls (x :: y :: x :: S))) : Go p e s below n0 Q R T (mkF m pc Ls (x :: y :: S)) := by subst hp; exact stp (fun _ q => XT.dupX1 X.here hx rfl hd rfl hc hc' q) k
theorem i_dup2 {x y : Value} (X : Pn p l e R s m args below meth c T h n0 cells slots) (hx : p.tables.exec = Jvm.exec) (hd : decode c.code pc = .ok (.dup2, 1)) (hp : pc + 1 = pc') (hc : x.category = 1) (hc' : y.category = 1)
    (k : Go p e s below n0 Q R T (mkF m pc' Ls (x :: y :: x :: y :: S))) : Go p e s below n0 Q R T (mkF m pc Ls (x :: y :: S)) := by subst hp; exact stp (fun _ q => XT.dup2 X.here hx rfl hd rfl hc hc' q) k
theorem i_dup2L {x : Int64} (X : Pn p l e R s m args below meth c T h n0 cells slots) (hx : p.tables.exec = Jvm.exec) (hd : decode c.code pc = .ok (.dup2, 1)) (hp : pc + 1 = pc')
    (k : Go p e s below n0 Q R T (mkF m pc' Ls (.long x :: .long x :: S))) : Go p e s below n0 Q R T (mkF m pc Ls (.long x :: S)) := by subst hp; exact stp (fun _ q => XT.dup2L X.here hx rfl hd rfl q) k
theorem i_goto {o : Int} (X : Pn p l e R s m args below meth c T h n0 cells slots) (hx : p.tables.exec = Jvm.exec) (hd : decode c.code pc = .ok (.goto o, 3)) (ho : 0 ≤ (pc : Int) + o) (hp : ((pc : Int) + o).toNat = pc')
    (k : Go p e s below n0 Q R T (mkF m pc' Ls S)) : Go p e s below n0 Q R T (mkF m pc Ls S) := stp (fun _ q => XS.goto X.here hx rfl rfl hd ho hp q) k
theorem i_ifT {cd : ClassFile.Cond} {o : Int} {x : Int32} (X : Pn p l e R s m args below meth c T h n0 cells slots) (hx : p.tables.exec = Jvm.exec) (hd : decode c.code pc = .ok (.ifCond cd o, 3)) (hc : ifCond.holds cd x = true) (ho : 0 ≤ (pc : Int) + o) (hp : ((pc : Int) + o).toNat = pc')
    (k : Go p e s below n0 Q R T (mkF m pc' Ls S)) : Go p e s below n0 Q R T (mkF m pc Ls (.int x :: S)) := stp (fun _ q => XS.ifYes X.here hx rfl rfl hd rfl hc ho hp q) k
theorem i_ifF {cd : ClassFile.Cond} {o : Int} {x : Int32} (X : Pn p l e R s m args below meth c T h n0 cells slots) (hx : p.tables.exec = Jvm.exec) (hd : decode c.code pc = .ok (.ifCond cd o, 3)) (hp : pc + 3 = pc') (hc : ifCond.holds cd x = false)
    (k : Go p e s below n0 Q R T (mkF m pc' Ls S)) : Go p e s below n0 Q R T (mkF m pc Ls (.int x :: S)) := by subst hp; exact stp (fun _ q => XS.ifNo X.here hx rfl hd rfl hc q) k
theorem i_icT {cd : ClassFile.Cond} {o : Int} {x y : Int32} (X : Pn p l e R s m args below meth c T h n0 cells slots) (hx : p.tables.exec = Jvm.exec) (hd : decode c.code pc = .ok (.if_icmp cd o, 3)) (hc : if_icmp.holds cd x y = true) (ho : 0 ≤ (pc : Int) + o) (hp : ((pc : Int) + o).toNat = pc')
    (k : Go p e s below n0 Q R T (mkF m pc' Ls S)) : Go p e s below n0 Q R T (mkF m pc Ls (.int y :: .int x :: S)) := stp (fun _ q => XS.icmpYes X.here hx rfl rfl hd rfl hc ho hp q) k
theorem i_icF {cd : ClassFile.Cond} {o : Int} {x y : Int32} (X : Pn p l e R s m args below meth c T h n0 cells slots) (hx : p.tables.exec = Jvm.exec) (hd : decode c.code pc = .ok (.if_icmp cd o, 3)) (hp : pc + 3 = pc') (hc : if_icmp.holds cd x y = false)
    (k : Go p e s below n0 Q R T (mkF m pc' Ls S)) : Go p e s below n0 Q R T (mkF m pc Ls (.int y :: .int x :: S)) := by subst hp; exact stp (fun _ q => XS.icmpNo X.here hx rfl hd rfl hc q) k
theorem i_acT {cd : ClassFile.ACond} {o : Int} {x y : Value} (X : Pn p l e R s m args below meth c T h n0 cells slots) (hx : p.tables.exec = Jvm.exec) (hd : decode c.code pc = .ok (.if_acmp cd o, 3)) (hx' : x.isRef = true) (hy' : y.isRef = true) (hc : XT.acmp cd x y = true) (ho : 0 ≤ (pc : Int) + o) (hp : ((pc : Int) + o).toNat = pc')
    (k : Go p e s below n0 Q R T (mkF m pc' Ls S)) : Go p e s below n0 Q R T (mkF m pc Ls (y :: x :: S)) := stp (fun _ q => XT.acmpYes X.here hx rfl rfl hd rfl hx' hy' hc ho hp q) k
theorem i_acF {cd : ClassFile.ACond} {o : Int} {x y : Value} (X : Pn p l e R s m args below meth c T h n0 cells slots) (hx : p.tables.exec = Jvm.exec) (hd : decode c.code pc = .ok (.if_acmp cd o, 3)) (hp : pc + 3 = pc') (hx' : x.isRef = true) (hy' : y.isRef = true) (hc : XT.acmp cd x y = false)
    (k : Go p e s below n0 Q R T (mkF m pc' Ls S)) : Go p e s below n0 Q R T (mkF m pc Ls (y :: x :: S)) := by subst hp; exact stp (fun _ q => XT.acmpNo X.here hx rfl hd rfl hx' hy' hc q) k
theorem i_nuT {o : Int} {x : Value} (X : Pn p l e R s m args below meth c T h n0 cells slots) (hx : p.tables.exec = Jvm.exec) (hd : decode c.code pc = .ok (.ifnull o, 3)) (hv : x = .null) (ho : 0 ≤ (pc : Int) + o) (hp : ((pc : Int) + o).toNat = pc')
    (k : Go p e s below n0 Q R T (mkF m pc' Ls S)) : Go p e s below n0 Q R T (mkF m pc Ls (x :: S)) := stp (fun _ q => XT.nullYes X.here hx rfl rfl hd rfl hv ho hp q) k
theorem i_nuF {o : Int} {x : Value} (X : Pn p l e R s m args below meth c T h n0 cells slots) (hx : p.tables.exec = Jvm.exec) (hd : decode c.code pc = .ok (.ifnull o, 3)) (hp : pc + 3 = pc') (hr : x.isRef = true) (hv : ¬ x = .null)
    (k : Go p e s below n0 Q R T (mkF m pc' Ls S)) : Go p e s below n0 Q R T (mkF m pc Ls (x :: S)) := by subst hp; exact stp (fun _ q => XT.nullNo X.here hx rfl hd rfl hr hv q) k
theorem i_nnT {o : Int} {x : Value} (X : Pn p l e R s m args below meth c T h n0 cells slots) (hx : p.tables.exec = Jvm.exec) (hd : decode c.code pc = .ok (.ifnonnull o, 3)) (hr : x.isRef = true) (hv : ¬ x = .null) (ho : 0 ≤ (pc : Int) + o) (hp : ((pc : Int) + o).toNat = pc')
    (k : Go p e s below n0 Q R T (mkF m pc' Ls S)) : Go p e s below n0 Q R T (mkF m pc Ls (x :: S)) := stp (fun _ q => XT.nonnullYes X.here hx rfl rfl hd rfl hr hv ho hp q) k
theorem i_nnF {o : Int} {x : Value} (X : Pn p l e R s m args below meth c T h n0 cells slots) (hx : p.tables.exec = Jvm.exec) (hd : decode c.code pc = .ok (.ifnonnull o, 3)) (hp : pc + 3 = pc') (hv : x = .null)
    (k : Go p e s below n0 Q R T (mkF m pc' Ls S)) : Go p e s below n0 Q R T (mkF m pc Ls (x :: S)) := by subst hp; exact stp (fun _ q => XT.nonnullNo X.here hx rfl hd rfl hv q) k
theorem i_tsI {dflt low high : Int} {offs : Array Int} {ln : Nat} {o : Int} {x : Int32} (X : Pn p l e R s m args below meth c T h n0 cells slots) (hx : p.tables.exec = Jvm.exec) (hd : decode c.code pc = .ok (.tableswitch dflt low high offs, ln)) (hin : ¬ (x.toInt < low ∨ x.toInt > high)) (hoff : offs[(x.toInt - low).toNat]? = some o) (ho : 0 ≤ (pc : Int) + o) (hp : ((pc : Int) + o).toNat = pc')
    (k : Go p e s below n0 Q R T (mkF m pc' Ls S)) : Go p e s below n0 Q R T (mkF m pc Ls (.int x :: S)) := stp (fun _ q => XS.tswIn X.here hx rfl rfl hd rfl hin hoff ho hp q) k
theorem i_tsO {dflt low high : Int} {offs : Array Int} {ln : Nat} {x : Int32} (X : Pn p l e R s m args below meth c T h n0 cells slots) (hx : p.tables.exec = Jvm.exec) (hd : decode c.code pc = .ok (.tableswitch dflt low high offs, ln)) (hout : x.toInt < low ∨ x.toInt > high) (ho : 0 ≤ (pc : Int) + dflt) (hp : ((pc : Int) + dflt).toNat = pc')
    (k : Go p e s below n0 Q R T (mkF m pc' Ls S)) : Go p e s below n0 Q R T (mkF m pc Ls (.int x :: S)) := stp (fun _ q => XS.tswOut X.here hx rfl rfl hd rfl hout ho hp q) k
theorem own_irr (x : Int32) : ¬ x < x := Int32.lt_irrefl
theorem own_nar {t : FieldType} {w : Value} (h : w.isRef = true) : narrow t w = w := by rcases XT.refc h with rfl | ⟨_, rfl⟩ <;> cases t <;> rfl
theorem own_fitO {C : String} {w : Value} (h : w.isRef = true) : fits (.object C) w = true := by rcases XT.refc h with rfl | ⟨_, rfl⟩ <;> rfl
theorem own_fitA {t : FieldType} {w : Value} (h : w.isRef = true) : fits (.array t) w = true := by rcases XT.refc h with rfl | ⟨_, rfl⟩ <;> rfl
theorem own_sta_keep {h' : Heap} {ws : List Addr} {C n d : String} {v : Value} (F : Sta Z h C n d v) (K : Keep h h' ws) (q : ∀ (a : Addr) (cl : Cell), a ∈ ws → h[a]? = some cl → cl.vm.isStatics = false) : Sta Z h' C n d v := by
  obtain ⟨cf, i, k, f, st, cell, h1, h2, h3, h4, h5, h6, h7⟩ := F
  refine ⟨cf, i, k, f, st, cell, h1, h2, h3, h4, K.2.1 st cell h5 (fun hm => ?_), h6, h7⟩
  rw [q st cell hm h5] at h6; cases h6
theorem own_sw3 {x : Int32} (h0 : ¬ x = (0 : Int32)) (h1 : ¬ x = (1 : Int32)) (h2 : ¬ x = (2 : Int32)) : x.toInt < 0 ∨ x.toInt > 2 := by
  have a : ¬ x.toInt = 0 := fun q => h0 (Int32.toInt_inj.mp q)
  have b : ¬ x.toInt = 1 := fun q => h1 (Int32.toInt_inj.mp q)
  have c : ¬ x.toInt = 2 := fun q => h2 (Int32.toInt_inj.mp q)
  omega
def Two (a b : Slot) : Prop := (a = .unset ∧ b = .unset) ∨ ∃ z, a = .val (.long z) ∧ b = .second
theorem Two.u : Two .unset .unset := Or.inl ⟨rfl, rfl⟩
theorem Two.v (z : Int64) : Two (.val (.long z)) .second := Or.inr ⟨z, rfl, rfl⟩
theorem own_nar1 : nar .boolean 1 = 1 := by decide
theorem own_nar0 : nar .boolean 0 = 0 := by decide
end Own
end Jvm.OwnKit
namespace Jvm.Pilot.@@N@@
open Jvm Jvm.ClassFile Sem Op Lib Jvm.Free Jvm.Stand Jvm.LawKit Jvm.RoadKit Jvm.OwnKit Bundle Jvm.Pilot.@@N@@.Jvm.D
def own_min (x y : Int32) : Int32 := if y < x then y else x
def own_max (x y : Int32) : Int32 := if x < y then y else x
theorem own_two (r : Int32) : (2 : Int32) * r = r + r := by
  have e : (2 : Int32).toInt = 2 := by decide
  refine Int32.toInt_inj.mp ?_
  rw [Int32.toInt_mul, Int32.toInt_add, e]
  congr 1; omega
theorem d5_0 : decode jdk_29_method_69_code 0 = .ok (.iload_n 0, 1) := by decide +kernel
theorem d5_1 : decode jdk_29_method_69_code 1 = .ok (.iload_n 1, 1) := by decide +kernel
theorem d5_2 : decode jdk_29_method_69_code 2 = .ok (.if_icmp .gt 7, 3) := by decide +kernel
theorem d5_5 : decode jdk_29_method_69_code 5 = .ok (.iload_n 0, 1) := by decide +kernel
theorem d5_6 : decode jdk_29_method_69_code 6 = .ok (.goto 4, 3) := by decide +kernel
theorem d5_9 : decode jdk_29_method_69_code 9 = .ok (.iload_n 1, 1) := by decide +kernel
theorem d5_10 : decode jdk_29_method_69_code 10 = .ok (.ireturn, 1) := by decide +kernel
theorem ef_rmMin (m : MethodId) (x : Int32) (y : Int32) : entryFrame m #[(.int x), (.int y)] 2 = mkF m 0 #[.val (.int x), .val (.int y)] [] := by first | rfl | (simp [entryFrame, mkF, argsToLocals, Value.category, maxLocals]; done)
def QrmMin (Z : State) (x : Int32) (y : Int32) (n0 : Nat) (h0 : Heap) (v : Option Value) (h : Heap) : Prop := v = some (.int (own_min x y)) ∧ h0 = h
abbrev RrmMin : Room := { frames := 0, cells := 0, slots := 0, locals := 0 }
set_option maxRecDepth 65536 in
set_option maxHeartbeats 40000000 in
theorem rmMin (l : Launch) (Z : State) (a0 : Array Value) (hw : ∀ d ∈ tables_1, d.before a0 Z = true) (ws : List Jvm.Cond) (x : Int32) (y : Int32) (n0 : Nat) (h0 : Heap) (hn : n0 ≤ h0.size)   :
    Con l Z (⟨"java/lang/Math", "min", "(II)I"⟩ : MethodName) jdk_29_method_69_code 2 (some .int) ws RrmMin #[(.int x), (.int y)] h0 n0 (QrmMin Z x y n0 h0) := by
  refine body (y := (⟨"java/lang/Math", "min", "(II)I"⟩ : MethodName)) (Ls := #[.val (.int x), .val (.int y)]) (by first | exact Jvm.Free.JP.mathPlain rfl (by decide) | decide +kernel) hn (fun m => ef_rmMin m x y) ?_
  intro p e s m below meth c T0 hx hby hml hown hnm hret hlk hZ X0
  refine i_iloadN (v := x) (pc' := 1) X0 hx (hb hby d5_0) rfl rfl ?_
  refine i_iloadN (v := y) (pc' := 2) X0 hx (hb hby d5_1) rfl rfl ?_
  by_cases hc1 : y < x
  · skip
    refine i_icT (pc' := 9) X0 hx (hb hby d5_2) (XT.ii_gt_t hc1) (by decide) (by decide) ?_
    refine i_iloadN (v := y) (pc' := 10) X0 hx (hb hby d5_9) rfl rfl ?_
    refine rI X0 hx hlk hret (hb hby d5_10) (by decide) (by decide) ?_
    exact ⟨(by simp [own_min, hc1]), rfl⟩
  · skip
    refine i_icF (pc' := 5) X0 hx (hb hby d5_2) rfl (XT.ii_gt_f hc1) ?_
    refine i_iloadN (v := x) (pc' := 6) X0 hx (hb hby d5_5) rfl rfl ?_
    refine i_goto (pc' := 10) X0 hx (hb hby d5_6) (by decide) (by decide) ?_
    refine rI X0 hx hlk hret (hb hby d5_10) (by decide) (by decide) ?_
    exact ⟨(by simp [own_min, hc1]), rfl⟩
theorem d7_0 : decode jdk_29_method_65_code 0 = .ok (.iload_n 0, 1) := by decide +kernel
theorem d7_1 : decode jdk_29_method_65_code 1 = .ok (.iload_n 1, 1) := by decide +kernel
theorem d7_2 : decode jdk_29_method_65_code 2 = .ok (.if_icmp .lt 7, 3) := by decide +kernel
theorem d7_5 : decode jdk_29_method_65_code 5 = .ok (.iload_n 0, 1) := by decide +kernel
theorem d7_6 : decode jdk_29_method_65_code 6 = .ok (.goto 4, 3) := by decide +kernel
theorem d7_9 : decode jdk_29_method_65_code 9 = .ok (.iload_n 1, 1) := by decide +kernel
theorem d7_10 : decode jdk_29_method_65_code 10 = .ok (.ireturn, 1) := by decide +kernel
theorem ef_rmMax (m : MethodId) (x : Int32) (y : Int32) : entryFrame m #[(.int x), (.int y)] 2 = mkF m 0 #[.val (.int x), .val (.int y)] [] := by first | rfl | (simp [entryFrame, mkF, argsToLocals, Value.category, maxLocals]; done)
def QrmMax (Z : State) (x : Int32) (y : Int32) (n0 : Nat) (h0 : Heap) (v : Option Value) (h : Heap) : Prop := v = some (.int (own_max x y)) ∧ h0 = h
abbrev RrmMax : Room := { frames := 0, cells := 0, slots := 0, locals := 0 }
set_option maxRecDepth 65536 in
set_option maxHeartbeats 40000000 in
theorem rmMax (l : Launch) (Z : State) (a0 : Array Value) (hw : ∀ d ∈ tables_1, d.before a0 Z = true) (ws : List Jvm.Cond) (x : Int32) (y : Int32) (n0 : Nat) (h0 : Heap) (hn : n0 ≤ h0.size)   :
    Con l Z (⟨"java/lang/Math", "max", "(II)I"⟩ : MethodName) jdk_29_method_65_code 2 (some .int) ws RrmMax #[(.int x), (.int y)] h0 n0 (QrmMax Z x y n0 h0) := by
  refine body (y := (⟨"java/lang/Math", "max", "(II)I"⟩ : MethodName)) (Ls := #[.val (.int x), .val (.int y)]) (by first | exact Jvm.Free.JP.mathPlain rfl (by decide) | decide +kernel) hn (fun m => ef_rmMax m x y) ?_
  intro p e s m below meth c T0 hx hby hml hown hnm hret hlk hZ X0
  refine i_iloadN (v := x) (pc' := 1) X0 hx (hb hby d7_0) rfl rfl ?_
  refine i_iloadN (v := y) (pc' := 2) X0 hx (hb hby d7_1) rfl rfl ?_
  by_cases hc1 : x < y
  · skip
    refine i_icT (pc' := 9) X0 hx (hb hby d7_2) (XT.ii_lt_t hc1) (by decide) (by decide) ?_
    refine i_iloadN (v := y) (pc' := 10) X0 hx (hb hby d7_9) rfl rfl ?_
    refine rI X0 hx hlk hret (hb hby d7_10) (by decide) (by decide) ?_
    exact ⟨(by simp [own_max, hc1]), rfl⟩
  · skip
    refine i_icF (pc' := 5) X0 hx (hb hby d7_2) rfl (XT.ii_lt_f hc1) ?_
    refine i_iloadN (v := x) (pc' := 6) X0 hx (hb hby d7_5) rfl rfl ?_
    refine i_goto (pc' := 10) X0 hx (hb hby d7_6) (by decide) (by decide) ?_
    refine rI X0 hx hlk hret (hb hby d7_10) (by decide) (by decide) ?_
    exact ⟨(by simp [own_max, hc1]), rfl⟩
theorem d1_0 : decode prog_5_method_1_code 0 = .ok (.aload_n 0, 1) := by decide +kernel
theorem d1_1 : decode prog_5_method_1_code 1 = .ok (.invokespecial 1, 3) := by decide +kernel
theorem d1_4 : decode prog_5_method_1_code 4 = .ok (.aload_n 0, 1) := by decide +kernel
theorem d1_5 : decode prog_5_method_1_code 5 = .ok (.sipush 1000, 3) := by decide +kernel
theorem d1_8 : decode prog_5_method_1_code 8 = .ok (.putfield 9, 3) := by decide +kernel
theorem d1_11 : decode prog_5_method_1_code 11 = .ok (.return_, 1) := by decide +kernel
theorem pn0 : plainName "com/example/forefetch/forefetch/BatchWindow" = true := by first | (simp [plainName, overriddenIn]; done) | decide +kernel
theorem ef_rm1 (m : MethodId) (o : Addr) : entryFrame m #[(.ref o)] 1 = mkF m 0 #[.val (.ref o)] [] := by first | rfl | (simp [entryFrame, mkF, argsToLocals, Value.category, maxLocals]; done)
def Qrm1 (Z : State) (o : Addr) (n0 : Nat) (h0 : Heap) (v : Option Value) (h : Heap) : Prop := v = none ∧ Keep h0 h [o] ∧ Fld Z h o "com/example/forefetch/forefetch/BatchWindow" "rows" "I" (.int (1000 : Int32)) ∧ Fld Z h o "com/example/forefetch/forefetch/BatchWindow" "staleAfterFirst" "Z" (.int (0 : Int32))
abbrev Rrm1 : Room := { frames := 1, cells := 0, slots := 0, locals := 12 }
set_option maxRecDepth 65536 in
set_option maxHeartbeats 40000000 in
theorem rm1 (l : Launch) (Z : State) (a0 : Array Value) (hw : ∀ d ∈ tables_1, d.before a0 Z = true) (ws : List Jvm.Cond) (o : Addr) (n0 : Nat) (h0 : Heap) (hn : n0 ≤ h0.size) (H0 : Exa Z h0 o "com/example/forefetch/forefetch/BatchWindow") (H1 : Fld Z h0 o "com/example/forefetch/forefetch/BatchWindow" "rows" "I" (.int (0 : Int32))) (H2 : Fld Z h0 o "com/example/forefetch/forefetch/BatchWindow" "staleAfterFirst" "Z" (.int (0 : Int32))) (H3 : n0 ≤ o)  :
    Con l Z (⟨"com/example/forefetch/forefetch/BatchWindow", "<init>", "()V"⟩ : MethodName) prog_5_method_1_code 1 none ws Rrm1 #[(.ref o)] h0 n0 (Qrm1 Z o n0 h0) := by
  refine body (y := (⟨"com/example/forefetch/forefetch/BatchWindow", "<init>", "()V"⟩ : MethodName)) (Ls := #[.val (.ref o)]) (plainFor_of_name pn0) hn (fun m => ef_rm1 m o) ?_
  intro p e s m below meth c T0 hx hby hml hown hnm hret hlk hZ X0
  refine i_aloadN (v := (.ref o)) (pc' := 1) X0 hx (hb hby d1_0) rfl rfl rfl ?_
  refine oi (pc' := 4) (W := 0) X0 hx hZ hown (hw _ (List.mem_of_getElem? (i := 7) rfl)) (hw _ (List.mem_of_getElem? (i := 8) rfl)) (hw _ (List.mem_of_getElem? (i := 9) rfl)) (by rw [hml]; rfl) (hb hby d1_1) rfl (by decide) (Nat.le_of_eq rfl) (by decide) fun T1 X1 => ?_
  refine i_aloadN (v := (.ref o)) (pc' := 5) X1 hx (hb hby d1_4) rfl rfl rfl ?_
  refine i_sipush (pc' := 8) (1000 : Int32) X1 hx (hb hby d1_5) rfl (by decide) ?_
  refine pf (pc' := 11) (host := "") (ty := .int) X1 hx hZ hown (Or.inl (hw _ (List.mem_of_getElem? (i := 10) rfl))) Via.refl H1 H0 (Or.inl (hw _ (List.mem_of_getElem? (i := 11) rfl))) (hw _ (List.mem_of_getElem? (i := 2) rfl)) (by decide) rfl rfl H3 (hb hby d1_8) rfl fun T2 h2 X2 W2 => ?_
  refine rV X2 hx hlk hret (hb hby d1_11) (by decide) (by decide) ?_
  have F3 : Fld Z h2 o "com/example/forefetch/forefetch/BatchWindow" "rows" "I" (.int (1000 : Int32)) := (Jvm.RoadKit.Fld.same W2 H1)
  have F4 : Fld Z h2 o "com/example/forefetch/forefetch/BatchWindow" "staleAfterFirst" "Z" (.int (0 : Int32)) := (Jvm.RoadKit.Fld.other W2 H2 (Or.inr (slot_ne (a0 := a0) (Or.inl (hw _ (List.mem_of_getElem? (i := 23) rfl))) (Or.inl (hw _ (List.mem_of_getElem? (i := 11) rfl))) (by decide) (t := .boolean) (t' := .int) (by decide) (by decide))))
  exact ⟨rfl, ((Keep.refl h0 _).wr W2 (Or.inl (List.mem_of_getElem? (i := 0) rfl))), F3, F4⟩
theorem d3_0 : decode prog_5_method_2_code 0 = .ok (.aload_n 0, 1) := by decide +kernel
theorem d3_1 : decode prog_5_method_2_code 1 = .ok (.getfield 9, 3) := by decide +kernel
theorem d3_4 : decode prog_5_method_2_code 4 = .ok (.ireturn, 1) := by decide +kernel
theorem ef_rm3 (m : MethodId) (o : Addr) : entryFrame m #[(.ref o)] 1 = mkF m 0 #[.val (.ref o)] [] := by first | rfl | (simp [entryFrame, mkF, argsToLocals, Value.category, maxLocals]; done)
def Qrm3 (Z : State) (o : Addr) (r : Int32) (n0 : Nat) (h0 : Heap) (v : Option Value) (h : Heap) : Prop := v = some (.int r) ∧ h0 = h
abbrev Rrm3 : Room := { frames := 0, cells := 0, slots := 0, locals := 0 }
set_option maxRecDepth 65536 in
set_option maxHeartbeats 40000000 in
theorem rm3 (l : Launch) (Z : State) (a0 : Array Value) (hw : ∀ d ∈ tables_1, d.before a0 Z = true) (ws : List Jvm.Cond) (o : Addr) (r : Int32) (n0 : Nat) (h0 : Heap) (hn : n0 ≤ h0.size) (H0 : Fld Z h0 o "com/example/forefetch/forefetch/BatchWindow" "rows" "I" (.int r))  :
    Con l Z (⟨"com/example/forefetch/forefetch/BatchWindow", "rows", "()I"⟩ : MethodName) prog_5_method_2_code 1 (some .int) ws Rrm3 #[(.ref o)] h0 n0 (Qrm3 Z o r n0 h0) := by
  refine body (y := (⟨"com/example/forefetch/forefetch/BatchWindow", "rows", "()I"⟩ : MethodName)) (Ls := #[.val (.ref o)]) (plainFor_of_name pn0) hn (fun m => ef_rm3 m o) ?_
  intro p e s m below meth c T0 hx hby hml hown hnm hret hlk hZ X0
  refine i_aloadN (v := (.ref o)) (pc' := 1) X0 hx (hb hby d3_0) rfl rfl rfl ?_
  refine gf (pc' := 4) (host := "") X0 hx hZ hown (Or.inl (hw _ (List.mem_of_getElem? (i := 10) rfl))) Via.refl H0 (hb hby d3_1) rfl fun T1 X1 => ?_
  refine rI X1 hx hlk hret (hb hby d3_4) (by decide) (by decide) ?_
  exact ⟨rfl, rfl⟩
theorem d4_0 : decode prog_5_method_4_code 0 = .ok (.aload_n 0, 1) := by decide +kernel
theorem d4_1 : decode prog_5_method_4_code 1 = .ok (.iconst 0, 1) := by decide +kernel
theorem d4_2 : decode prog_5_method_4_code 2 = .ok (.putfield 15, 3) := by decide +kernel
theorem d4_5 : decode prog_5_method_4_code 5 = .ok (.aload_n 0, 1) := by decide +kernel
theorem d4_6 : decode prog_5_method_4_code 6 = .ok (.sipush 1000, 3) := by decide +kernel
theorem d4_9 : decode prog_5_method_4_code 9 = .ok (.iconst 2, 1) := by decide +kernel
theorem d4_10 : decode prog_5_method_4_code 10 = .ok (.aload_n 0, 1) := by decide +kernel
theorem d4_11 : decode prog_5_method_4_code 11 = .ok (.getfield 9, 3) := by decide +kernel
theorem d4_14 : decode prog_5_method_4_code 14 = .ok (.imul, 1) := by decide +kernel
theorem d4_15 : decode prog_5_method_4_code 15 = .ok (.invokestatic 25, 3) := by decide +kernel
theorem d4_18 : decode prog_5_method_4_code 18 = .ok (.putfield 9, 3) := by decide +kernel
theorem d4_21 : decode prog_5_method_4_code 21 = .ok (.return_, 1) := by decide +kernel
theorem ef_rm4 (m : MethodId) (o : Addr) : entryFrame m #[(.ref o)] 1 = mkF m 0 #[.val (.ref o)] [] := by first | rfl | (simp [entryFrame, mkF, argsToLocals, Value.category, maxLocals]; done)
def Qrm4 (Z : State) (o : Addr) (r : Int32) (b : Int32) (n0 : Nat) (h0 : Heap) (v : Option Value) (h : Heap) : Prop := v = none ∧ Keep h0 h [o] ∧ Fld Z h o "com/example/forefetch/forefetch/BatchWindow" "rows" "I" (.int (own_min (1000 : Int32) ((2 : Int32) * r))) ∧ Fld Z h o "com/example/forefetch/forefetch/BatchWindow" "staleAfterFirst" "Z" (.int (0 : Int32))
theorem pd0 : parseMethodDescriptor "(II)I" = some ⟨[.int, .int], some .int⟩ := by decide +kernel
abbrev Rrm4 : Room := { frames := 1, cells := 0, slots := 0, locals := 14 }
set_option maxRecDepth 65536 in
set_option maxHeartbeats 40000000 in
theorem rm4 (l : Launch) (Z : State) (a0 : Array Value) (hw : ∀ d ∈ tables_1, d.before a0 Z = true) (ws : List Jvm.Cond) (o : Addr) (r : Int32) (b : Int32) (n0 : Nat) (h0 : Heap) (hn : n0 ≤ h0.size) (H0 : Exa Z h0 o "com/example/forefetch/forefetch/BatchWindow") (H1 : Fld Z h0 o "com/example/forefetch/forefetch/BatchWindow" "rows" "I" (.int r)) (H2 : Fld Z h0 o "com/example/forefetch/forefetch/BatchWindow" "staleAfterFirst" "Z" (.int b)) (H3 : n0 ≤ o)  :
    Con l Z (⟨"com/example/forefetch/forefetch/BatchWindow", "passed", "()V"⟩ : MethodName) prog_5_method_4_code 1 none ws Rrm4 #[(.ref o)] h0 n0 (Qrm4 Z o r b n0 h0) := by
  refine body (y := (⟨"com/example/forefetch/forefetch/BatchWindow", "passed", "()V"⟩ : MethodName)) (Ls := #[.val (.ref o)]) (plainFor_of_name pn0) hn (fun m => ef_rm4 m o) ?_
  intro p e s m below meth c T0 hx hby hml hown hnm hret hlk hZ X0
  refine i_aloadN (v := (.ref o)) (pc' := 1) X0 hx (hb hby d4_0) rfl rfl rfl ?_
  refine i_iconst (pc' := 2) (0 : Int32) X0 hx (hb hby d4_1) rfl (by decide) ?_
  refine pf (pc' := 5) (host := "") (ty := .boolean) X0 hx hZ hown (Or.inl (hw _ (List.mem_of_getElem? (i := 22) rfl))) Via.refl H2 H0 (Or.inl (hw _ (List.mem_of_getElem? (i := 23) rfl))) (hw _ (List.mem_of_getElem? (i := 2) rfl)) (by decide) (by decide) (by decide) H3 (hb hby d4_2) rfl fun T1 h1 X1 W1 => ?_
  refine i_aloadN (v := (.ref o)) (pc' := 6) X1 hx (hb hby d4_5) rfl rfl rfl ?_
  refine i_sipush (pc' := 9) (1000 : Int32) X1 hx (hb hby d4_6) rfl (by decide) ?_
  refine i_iconst (pc' := 10) (2 : Int32) X1 hx (hb hby d4_9) rfl (by decide) ?_
  refine i_aloadN (v := (.ref o)) (pc' := 11) X1 hx (hb hby d4_10) rfl rfl rfl ?_
  have F2 : Fld Z h1 o "com/example/forefetch/forefetch/BatchWindow" "rows" "I" (.int r) := (Jvm.RoadKit.Fld.other W1 H1 (Or.inr (slot_ne (a0 := a0) (Or.inl (hw _ (List.mem_of_getElem? (i := 11) rfl))) (Or.inl (hw _ (List.mem_of_getElem? (i := 23) rfl))) (by decide) (t := .int) (t' := .boolean) (by decide) (by decide))))
  refine gf (pc' := 14) (host := "") X1 hx hZ hown (Or.inl (hw _ (List.mem_of_getElem? (i := 10) rfl))) Via.refl F2 (hb hby d4_11) rfl fun T3 X3 => ?_
  refine i_imul (pc' := 15) X3 hx (hb hby d4_14) rfl ?_
  refine cS (y := (⟨"java/lang/Math", "min", "(II)I"⟩ : MethodName)) (rest := [(.ref o)]) (pc' := 18) 1 [(.int (1000 : Int32)), (.int ((2 : Int32) * r))] X3 hx hZ hown (hw _ (List.mem_of_getElem? (i := 24) rfl)) (hw _ (List.mem_of_getElem? (i := 25) rfl)) (hw _ (List.mem_of_getElem? (i := 26) rfl)) (hw _ (List.mem_of_getElem? (i := 27) rfl)) (by decide) (rmMin l Z a0 hw [] (1000 : Int32) ((2 : Int32) * r) n0 h1 X3.le ) (by decide) (by decide) (by rw [hml]; rfl) rfl (lenOf pd0 rfl) rfl (Nat.le_of_eq rfl) (hb hby d4_15) rfl (by decide) (by decide) ?_
  intro r4 T4 h4 X4 q4
  obtain ⟨rfl, eh4⟩ := q4
  subst eh4
  show Go _ _ _ _ _ _ _ T4 (mkF m 18 #[.val (.ref o)] [(.int (own_min (1000 : Int32) ((2 : Int32) * r))), (.ref o)])
  have F5 : Exa Z h1 o "com/example/forefetch/forefetch/BatchWindow" := (Jvm.RoadKit.Exa.wr W1 H0)
  refine pf (pc' := 21) (host := "") (ty := .int) X4 hx hZ hown (Or.inl (hw _ (List.mem_of_getElem? (i := 10) rfl))) Via.refl F2 F5 (Or.inl (hw _ (List.mem_of_getElem? (i := 11) rfl))) (hw _ (List.mem_of_getElem? (i := 2) rfl)) (by decide) rfl rfl H3 (hb hby d4_18) rfl fun T6 h6 X6 W6 => ?_
  refine rV X6 hx hlk hret (hb hby d4_21) (by decide) (by decide) ?_
  have F7 : Fld Z h6 o "com/example/forefetch/forefetch/BatchWindow" "rows" "I" (.int (own_min (1000 : Int32) ((2 : Int32) * r))) := (Jvm.RoadKit.Fld.same W6 F2)
  have F8 : Fld Z h6 o "com/example/forefetch/forefetch/BatchWindow" "staleAfterFirst" "Z" (.int (0 : Int32)) := (Jvm.RoadKit.Fld.other W6 (Jvm.RoadKit.Fld.same W1 H2) (Or.inr (slot_ne (a0 := a0) (Or.inl (hw _ (List.mem_of_getElem? (i := 23) rfl))) (Or.inl (hw _ (List.mem_of_getElem? (i := 11) rfl))) (by decide) (t := .boolean) (t' := .int) (by decide) (by decide))))
  exact ⟨rfl, (((Keep.refl h0 _).wr W1 (Or.inl (List.mem_of_getElem? (i := 0) rfl))).wr W6 (Or.inl (List.mem_of_getElem? (i := 0) rfl))), F7, F8⟩
theorem d6_0 : decode prog_5_method_3_code 0 = .ok (.iload_n 1, 1) := by decide +kernel
theorem d6_1 : decode prog_5_method_3_code 1 = .ok (.iconst 1, 1) := by decide +kernel
theorem d6_2 : decode prog_5_method_3_code 2 = .ok (.if_icmp .gt 10, 3) := by decide +kernel
theorem d6_5 : decode prog_5_method_3_code 5 = .ok (.aload_n 0, 1) := by decide +kernel
theorem d6_6 : decode prog_5_method_3_code 6 = .ok (.getfield 15, 3) := by decide +kernel
theorem d6_9 : decode prog_5_method_3_code 9 = .ok (.ifCond .ne 7, 3) := by decide +kernel
theorem d6_12 : decode prog_5_method_3_code 12 = .ok (.iconst 1, 1) := by decide +kernel
theorem d6_13 : decode prog_5_method_3_code 13 = .ok (.goto 4, 3) := by decide +kernel
theorem d6_16 : decode prog_5_method_3_code 16 = .ok (.iconst 0, 1) := by decide +kernel
theorem d6_17 : decode prog_5_method_3_code 17 = .ok (.istore_n 2, 1) := by decide +kernel
theorem d6_18 : decode prog_5_method_3_code 18 = .ok (.aload_n 0, 1) := by decide +kernel
theorem d6_19 : decode prog_5_method_3_code 19 = .ok (.iload_n 1, 1) := by decide +kernel
theorem d6_20 : decode prog_5_method_3_code 20 = .ok (.iconst 1, 1) := by decide +kernel
theorem d6_21 : decode prog_5_method_3_code 21 = .ok (.if_icmp .ne 7, 3) := by decide +kernel
theorem d6_24 : decode prog_5_method_3_code 24 = .ok (.iconst 1, 1) := by decide +kernel
theorem d6_25 : decode prog_5_method_3_code 25 = .ok (.goto 4, 3) := by decide +kernel
theorem d6_28 : decode prog_5_method_3_code 28 = .ok (.iconst 0, 1) := by decide +kernel
theorem d6_29 : decode prog_5_method_3_code 29 = .ok (.putfield 15, 3) := by decide +kernel
theorem d6_32 : decode prog_5_method_3_code 32 = .ok (.aload_n 0, 1) := by decide +kernel
theorem d6_33 : decode prog_5_method_3_code 33 = .ok (.sipush 1000, 3) := by decide +kernel
theorem d6_36 : decode prog_5_method_3_code 36 = .ok (.iconst 2, 1) := by decide +kernel
theorem d6_37 : decode prog_5_method_3_code 37 = .ok (.iload_n 1, 1) := by decide +kernel
theorem d6_38 : decode prog_5_method_3_code 38 = .ok (.imul, 1) := by decide +kernel
theorem d6_39 : decode prog_5_method_3_code 39 = .ok (.aload_n 0, 1) := by decide +kernel
theorem d6_40 : decode prog_5_method_3_code 40 = .ok (.getfield 9, 3) := by decide +kernel
theorem d6_43 : decode prog_5_method_3_code 43 = .ok (.iconst 2, 1) := by decide +kernel
theorem d6_44 : decode prog_5_method_3_code 44 = .ok (.idiv, 1) := by decide +kernel
theorem d6_45 : decode prog_5_method_3_code 45 = .ok (.invokestatic 19, 3) := by decide +kernel
theorem d6_48 : decode prog_5_method_3_code 48 = .ok (.invokestatic 25, 3) := by decide +kernel
theorem d6_51 : decode prog_5_method_3_code 51 = .ok (.putfield 9, 3) := by decide +kernel
theorem d6_54 : decode prog_5_method_3_code 54 = .ok (.iload_n 2, 1) := by decide +kernel
theorem d6_55 : decode prog_5_method_3_code 55 = .ok (.ireturn, 1) := by decide +kernel
theorem ef_rm6 (m : MethodId) (o : Addr) (n : Int32) : entryFrame m #[(.ref o), (.int n)] 3 = mkF m 0 #[.val (.ref o), .val (.int n), .unset] [] := by first | rfl | (simp [entryFrame, mkF, argsToLocals, Value.category, maxLocals]; done)
def Qrm6 (Z : State) (o : Addr) (n : Int32) (r : Int32) (b : Int32) (n0 : Nat) (h0 : Heap) (v : Option Value) (h : Heap) : Prop := v = some (.int (if (1 : Int32) < n then (1 : Int32) else if b = 0 then (1 : Int32) else (0 : Int32))) ∧ Keep h0 h [o] ∧ Fld Z h o "com/example/forefetch/forefetch/BatchWindow" "rows" "I" (.int (own_min (1000 : Int32) (own_max ((2 : Int32) * n) (r / (2 : Int32))))) ∧ Fld Z h o "com/example/forefetch/forefetch/BatchWindow" "staleAfterFirst" "Z" (.int (if n = (1 : Int32) then (1 : Int32) else (0 : Int32)))
abbrev Rrm6 : Room := { frames := 1, cells := 0, slots := 0, locals := 15 }
set_option maxRecDepth 65536 in
set_option maxHeartbeats 40000000 in
theorem rm6 (l : Launch) (Z : State) (a0 : Array Value) (hw : ∀ d ∈ tables_1, d.before a0 Z = true) (ws : List Jvm.Cond) (o : Addr) (n : Int32) (r : Int32) (b : Int32) (n0 : Nat) (h0 : Heap) (hn : n0 ≤ h0.size) (H0 : Exa Z h0 o "com/example/forefetch/forefetch/BatchWindow") (H1 : Fld Z h0 o "com/example/forefetch/forefetch/BatchWindow" "rows" "I" (.int r)) (H2 : Fld Z h0 o "com/example/forefetch/forefetch/BatchWindow" "staleAfterFirst" "Z" (.int b)) (H3 : n0 ≤ o)  :
    Con l Z (⟨"com/example/forefetch/forefetch/BatchWindow", "stale", "(I)Z"⟩ : MethodName) prog_5_method_3_code 3 (some .boolean) ws Rrm6 #[(.ref o), (.int n)] h0 n0 (Qrm6 Z o n r b n0 h0) := by
  refine body (y := (⟨"com/example/forefetch/forefetch/BatchWindow", "stale", "(I)Z"⟩ : MethodName)) (Ls := #[.val (.ref o), .val (.int n), .unset]) (plainFor_of_name pn0) hn (fun m => ef_rm6 m o n) ?_
  intro p e s m below meth c T0 hx hby hml hown hnm hret hlk hZ X0
  refine i_iloadN (v := n) (pc' := 1) X0 hx (hb hby d6_0) rfl rfl ?_
  refine i_iconst (pc' := 2) (1 : Int32) X0 hx (hb hby d6_1) rfl (by decide) ?_
  by_cases hc1 : (1 : Int32) < n
  · skip
    refine i_icT (pc' := 12) X0 hx (hb hby d6_2) (XT.ii_gt_t hc1) (by decide) (by decide) ?_
    refine i_iconst (pc' := 13) (1 : Int32) X0 hx (hb hby d6_12) rfl (by decide) ?_
    refine i_goto (pc' := 17) X0 hx (hb hby d6_13) (by decide) (by decide) ?_
    refine i_istoreN (L' := #[.val (.ref o), .val (.int n), .val (.int (1 : Int32))]) (pc' := 18) X0 hx (hb hby d6_17) rfl rfl ?_
    refine i_aloadN (v := (.ref o)) (pc' := 19) X0 hx (hb hby d6_18) rfl rfl rfl ?_
    refine i_iloadN (v := n) (pc' := 20) X0 hx (hb hby d6_19) rfl rfl ?_
    refine i_iconst (pc' := 21) (1 : Int32) X0 hx (hb hby d6_20) rfl (by decide) ?_
    by_cases hc2 : n = (1 : Int32)
    · skip
      refine i_icF (pc' := 24) X0 hx (hb hby d6_21) rfl (XT.ii_ne_f hc2) ?_
      refine i_iconst (pc' := 25) (1 : Int32) X0 hx (hb hby d6_24) rfl (by decide) ?_
      refine i_goto (pc' := 29) X0 hx (hb hby d6_25) (by decide) (by decide) ?_
      refine pf (pc' := 32) (host := "") (ty := .boolean) X0 hx hZ hown (Or.inl (hw _ (List.mem_of_getElem? (i := 22) rfl))) Via.refl H2 H0 (Or.inl (hw _ (List.mem_of_getElem? (i := 23) rfl))) (hw _ (List.mem_of_getElem? (i := 2) rfl)) (by decide) (by decide) (by decide) H3 (hb hby d6_29) rfl fun T3 h3 X3 W3 => ?_
      refine i_aloadN (v := (.ref o)) (pc' := 33) X3 hx (hb hby d6_32) rfl rfl rfl ?_
      refine i_sipush (pc' := 36) (1000 : Int32) X3 hx (hb hby d6_33) rfl (by decide) ?_
      refine i_iconst (pc' := 37) (2 : Int32) X3 hx (hb hby d6_36) rfl (by decide) ?_
      refine i_iloadN (v := n) (pc' := 38) X3 hx (hb hby d6_37) rfl rfl ?_
      refine i_imul (pc' := 39) X3 hx (hb hby d6_38) rfl ?_
      refine i_aloadN (v := (.ref o)) (pc' := 40) X3 hx (hb hby d6_39) rfl rfl rfl ?_
      have F4 : Fld Z h3 o "com/example/forefetch/forefetch/BatchWindow" "rows" "I" (.int r) := (Jvm.RoadKit.Fld.other W3 H1 (Or.inr (slot_ne (a0 := a0) (Or.inl (hw _ (List.mem_of_getElem? (i := 11) rfl))) (Or.inl (hw _ (List.mem_of_getElem? (i := 23) rfl))) (by decide) (t := .int) (t' := .boolean) (by decide) (by decide))))
      refine gf (pc' := 43) (host := "") X3 hx hZ hown (Or.inl (hw _ (List.mem_of_getElem? (i := 10) rfl))) Via.refl F4 (hb hby d6_40) rfl fun T5 X5 => ?_
      refine i_iconst (pc' := 44) (2 : Int32) X5 hx (hb hby d6_43) rfl (by decide) ?_
      refine i_idiv (pc' := 45) X5 hx (hb hby d6_44) rfl (by decide) ?_
      refine cS (y := (⟨"java/lang/Math", "max", "(II)I"⟩ : MethodName)) (rest := [(.int (1000 : Int32)), (.ref o)]) (pc' := 48) 2 [(.int ((2 : Int32) * n)), (.int (r / (2 : Int32)))] X5 hx hZ hown (hw _ (List.mem_of_getElem? (i := 33) rfl)) (hw _ (List.mem_of_getElem? (i := 34) rfl)) (hw _ (List.mem_of_getElem? (i := 26) rfl)) (hw _ (List.mem_of_getElem? (i := 35) rfl)) (by decide) (rmMax l Z a0 hw [] ((2 : Int32) * n) (r / (2 : Int32)) n0 h3 X5.le ) (by decide) (by decide) (by rw [hml]; rfl) rfl (lenOf pd0 rfl) rfl (Nat.le_of_eq rfl) (hb hby d6_45) rfl (by decide) (by decide) ?_
      intro r6 T6 h6 X6 q6
      obtain ⟨rfl, eh6⟩ := q6
      subst eh6
      show Go _ _ _ _ _ _ _ T6 (mkF m 48 #[.val (.ref o), .val (.int n), .val (.int (1 : Int32))] [(.int (own_max ((2 : Int32) * n) (r / (2 : Int32)))), (.int (1000 : Int32)), (.ref o)])
      refine cS (y := (⟨"java/lang/Math", "min", "(II)I"⟩ : MethodName)) (rest := [(.ref o)]) (pc' := 51) 1 [(.int (1000 : Int32)), (.int (own_max ((2 : Int32) * n) (r / (2 : Int32))))] X6 hx hZ hown (hw _ (List.mem_of_getElem? (i := 24) rfl)) (hw _ (List.mem_of_getElem? (i := 25) rfl)) (hw _ (List.mem_of_getElem? (i := 26) rfl)) (hw _ (List.mem_of_getElem? (i := 27) rfl)) (by decide) (rmMin l Z a0 hw [] (1000 : Int32) (own_max ((2 : Int32) * n) (r / (2 : Int32))) n0 h3 X6.le ) (by decide) (by decide) (by rw [hml]; rfl) rfl (lenOf pd0 rfl) rfl (Nat.le_of_eq rfl) (hb hby d6_48) rfl (by decide) (by decide) ?_
      intro r7 T7 h7 X7 q7
      obtain ⟨rfl, eh7⟩ := q7
      subst eh7
      show Go _ _ _ _ _ _ _ T7 (mkF m 51 #[.val (.ref o), .val (.int n), .val (.int (1 : Int32))] [(.int (own_min (1000 : Int32) (own_max ((2 : Int32) * n) (r / (2 : Int32))))), (.ref o)])
      have F8 : Exa Z h3 o "com/example/forefetch/forefetch/BatchWindow" := (Jvm.RoadKit.Exa.wr W3 H0)
      refine pf (pc' := 54) (host := "") (ty := .int) X7 hx hZ hown (Or.inl (hw _ (List.mem_of_getElem? (i := 10) rfl))) Via.refl F4 F8 (Or.inl (hw _ (List.mem_of_getElem? (i := 11) rfl))) (hw _ (List.mem_of_getElem? (i := 2) rfl)) (by decide) rfl rfl H3 (hb hby d6_51) rfl fun T9 h9 X9 W9 => ?_
      refine i_iloadN (v := (1 : Int32)) (pc' := 55) X9 hx (hb hby d6_54) rfl rfl ?_
      refine rN X9 hx hlk hret (by simp) (hb hby d6_55) (by decide) (by decide) ?_
      have F10 : Fld Z h9 o "com/example/forefetch/forefetch/BatchWindow" "rows" "I" (.int (own_min (1000 : Int32) (own_max ((2 : Int32) * n) (r / (2 : Int32))))) := (Jvm.RoadKit.Fld.same W9 F4)
      have F11 : Fld Z h9 o "com/example/forefetch/forefetch/BatchWindow" "staleAfterFirst" "Z" (.int (1 : Int32)) := (Jvm.RoadKit.Fld.other W9 (Jvm.RoadKit.Fld.same W3 H2) (Or.inr (slot_ne (a0 := a0) (Or.inl (hw _ (List.mem_of_getElem? (i := 23) rfl))) (Or.inl (hw _ (List.mem_of_getElem? (i := 11) rfl))) (by decide) (t := .boolean) (t' := .int) (by decide) (by decide))))
      exact ⟨(by first | (simp [own_nar1, own_nar0, hc1, hc2]; done) | (exfalso; rw [hc2] at hc1; exact absurd hc1 (by decide))), (((Keep.refl h0 _).wr W3 (Or.inl (List.mem_of_getElem? (i := 0) rfl))).wr W9 (Or.inl (List.mem_of_getElem? (i := 0) rfl))), F10, (by first | exact F11 | simpa [hc1, hc2] using F11)⟩
    · skip
      refine i_icT (pc' := 28) X0 hx (hb hby d6_21) (XT.ii_ne_t hc2) (by decide) (by decide) ?_
      refine i_iconst (pc' := 29) (0 : Int32) X0 hx (hb hby d6_28) rfl (by decide) ?_
      refine pf (pc' := 32) (host := "") (ty := .boolean) X0 hx hZ hown (Or.inl (hw _ (List.mem_of_getElem? (i := 22) rfl))) Via.refl H2 H0 (Or.inl (hw _ (List.mem_of_getElem? (i := 23) rfl))) (hw _ (List.mem_of_getElem? (i := 2) rfl)) (by decide) (by decide) (by decide) H3 (hb hby d6_29) rfl fun T12 h12 X12 W12 => ?_
      refine i_aloadN (v := (.ref o)) (pc' := 33) X12 hx (hb hby d6_32) rfl rfl rfl ?_
      refine i_sipush (pc' := 36) (1000 : Int32) X12 hx (hb hby d6_33) rfl (by decide) ?_
      refine i_iconst (pc' := 37) (2 : Int32) X12 hx (hb hby d6_36) rfl (by decide) ?_
      refine i_iloadN (v := n) (pc' := 38) X12 hx (hb hby d6_37) rfl rfl ?_
      refine i_imul (pc' := 39) X12 hx (hb hby d6_38) rfl ?_
      refine i_aloadN (v := (.ref o)) (pc' := 40) X12 hx (hb hby d6_39) rfl rfl rfl ?_
      have F13 : Fld Z h12 o "com/example/forefetch/forefetch/BatchWindow" "rows" "I" (.int r) := (Jvm.RoadKit.Fld.other W12 H1 (Or.inr (slot_ne (a0 := a0) (Or.inl (hw _ (List.mem_of_getElem? (i := 11) rfl))) (Or.inl (hw _ (List.mem_of_getElem? (i := 23) rfl))) (by decide) (t := .int) (t' := .boolean) (by decide) (by decide))))
      refine gf (pc' := 43) (host := "") X12 hx hZ hown (Or.inl (hw _ (List.mem_of_getElem? (i := 10) rfl))) Via.refl F13 (hb hby d6_40) rfl fun T14 X14 => ?_
      refine i_iconst (pc' := 44) (2 : Int32) X14 hx (hb hby d6_43) rfl (by decide) ?_
      refine i_idiv (pc' := 45) X14 hx (hb hby d6_44) rfl (by decide) ?_
      refine cS (y := (⟨"java/lang/Math", "max", "(II)I"⟩ : MethodName)) (rest := [(.int (1000 : Int32)), (.ref o)]) (pc' := 48) 2 [(.int ((2 : Int32) * n)), (.int (r / (2 : Int32)))] X14 hx hZ hown (hw _ (List.mem_of_getElem? (i := 33) rfl)) (hw _ (List.mem_of_getElem? (i := 34) rfl)) (hw _ (List.mem_of_getElem? (i := 26) rfl)) (hw _ (List.mem_of_getElem? (i := 35) rfl)) (by decide) (rmMax l Z a0 hw [] ((2 : Int32) * n) (r / (2 : Int32)) n0 h12 X14.le ) (by decide) (by decide) (by rw [hml]; rfl) rfl (lenOf pd0 rfl) rfl (Nat.le_of_eq rfl) (hb hby d6_45) rfl (by decide) (by decide) ?_
      intro r15 T15 h15 X15 q15
      obtain ⟨rfl, eh15⟩ := q15
      subst eh15
      show Go _ _ _ _ _ _ _ T15 (mkF m 48 #[.val (.ref o), .val (.int n), .val (.int (1 : Int32))] [(.int (own_max ((2 : Int32) * n) (r / (2 : Int32)))), (.int (1000 : Int32)), (.ref o)])
      refine cS (y := (⟨"java/lang/Math", "min", "(II)I"⟩ : MethodName)) (rest := [(.ref o)]) (pc' := 51) 1 [(.int (1000 : Int32)), (.int (own_max ((2 : Int32) * n) (r / (2 : Int32))))] X15 hx hZ hown (hw _ (List.mem_of_getElem? (i := 24) rfl)) (hw _ (List.mem_of_getElem? (i := 25) rfl)) (hw _ (List.mem_of_getElem? (i := 26) rfl)) (hw _ (List.mem_of_getElem? (i := 27) rfl)) (by decide) (rmMin l Z a0 hw [] (1000 : Int32) (own_max ((2 : Int32) * n) (r / (2 : Int32))) n0 h12 X15.le ) (by decide) (by decide) (by rw [hml]; rfl) rfl (lenOf pd0 rfl) rfl (Nat.le_of_eq rfl) (hb hby d6_48) rfl (by decide) (by decide) ?_
      intro r16 T16 h16 X16 q16
      obtain ⟨rfl, eh16⟩ := q16
      subst eh16
      show Go _ _ _ _ _ _ _ T16 (mkF m 51 #[.val (.ref o), .val (.int n), .val (.int (1 : Int32))] [(.int (own_min (1000 : Int32) (own_max ((2 : Int32) * n) (r / (2 : Int32))))), (.ref o)])
      have F17 : Exa Z h12 o "com/example/forefetch/forefetch/BatchWindow" := (Jvm.RoadKit.Exa.wr W12 H0)
      refine pf (pc' := 54) (host := "") (ty := .int) X16 hx hZ hown (Or.inl (hw _ (List.mem_of_getElem? (i := 10) rfl))) Via.refl F13 F17 (Or.inl (hw _ (List.mem_of_getElem? (i := 11) rfl))) (hw _ (List.mem_of_getElem? (i := 2) rfl)) (by decide) rfl rfl H3 (hb hby d6_51) rfl fun T18 h18 X18 W18 => ?_
      refine i_iloadN (v := (1 : Int32)) (pc' := 55) X18 hx (hb hby d6_54) rfl rfl ?_
      refine rN X18 hx hlk hret (by simp) (hb hby d6_55) (by decide) (by decide) ?_
      have F19 : Fld Z h18 o "com/example/forefetch/forefetch/BatchWindow" "rows" "I" (.int (own_min (1000 : Int32) (own_max ((2 : Int32) * n) (r / (2 : Int32))))) := (Jvm.RoadKit.Fld.same W18 F13)
      have F20 : Fld Z h18 o "com/example/forefetch/forefetch/BatchWindow" "staleAfterFirst" "Z" (.int (0 : Int32)) := (Jvm.RoadKit.Fld.other W18 (Jvm.RoadKit.Fld.same W12 H2) (Or.inr (slot_ne (a0 := a0) (Or.inl (hw _ (List.mem_of_getElem? (i := 23) rfl))) (Or.inl (hw _ (List.mem_of_getElem? (i := 11) rfl))) (by decide) (t := .boolean) (t' := .int) (by decide) (by decide))))
      exact ⟨(by first | (simp [own_nar1, own_nar0, hc1, hc2]; done) | (exfalso; rw [hc2] at hc1; exact absurd hc1 (by decide))), (((Keep.refl h0 _).wr W12 (Or.inl (List.mem_of_getElem? (i := 0) rfl))).wr W18 (Or.inl (List.mem_of_getElem? (i := 0) rfl))), F19, (by first | exact F20 | simpa [hc1, hc2] using F20)⟩
  · skip
    refine i_icF (pc' := 5) X0 hx (hb hby d6_2) rfl (XT.ii_gt_f hc1) ?_
    refine i_aloadN (v := (.ref o)) (pc' := 6) X0 hx (hb hby d6_5) rfl rfl rfl ?_
    refine gf (pc' := 9) (host := "") X0 hx hZ hown (Or.inl (hw _ (List.mem_of_getElem? (i := 22) rfl))) Via.refl H2 (hb hby d6_6) rfl fun T21 X21 => ?_
    by_cases hc22 : b = 0
    · skip
      refine i_ifF (pc' := 12) X21 hx (hb hby d6_9) rfl (XT.i0_ne_f hc22) ?_
      refine i_iconst (pc' := 13) (1 : Int32) X21 hx (hb hby d6_12) rfl (by decide) ?_
      refine i_goto (pc' := 17) X21 hx (hb hby d6_13) (by decide) (by decide) ?_
      refine i_istoreN (L' := #[.val (.ref o), .val (.int n), .val (.int (1 : Int32))]) (pc' := 18) X21 hx (hb hby d6_17) rfl rfl ?_
      refine i_aloadN (v := (.ref o)) (pc' := 19) X21 hx (hb hby d6_18) rfl rfl rfl ?_
      refine i_iloadN (v := n) (pc' := 20) X21 hx (hb hby d6_19) rfl rfl ?_
      refine i_iconst (pc' := 21) (1 : Int32) X21 hx (hb hby d6_20) rfl (by decide) ?_
      by_cases hc23 : n = (1 : Int32)
      · skip
        refine i_icF (pc' := 24) X21 hx (hb hby d6_21) rfl (XT.ii_ne_f hc23) ?_
        refine i_iconst (pc' := 25) (1 : Int32) X21 hx (hb hby d6_24) rfl (by decide) ?_
        refine i_goto (pc' := 29) X21 hx (hb hby d6_25) (by decide) (by decide) ?_
        refine pf (pc' := 32) (host := "") (ty := .boolean) X21 hx hZ hown (Or.inl (hw _ (List.mem_of_getElem? (i := 22) rfl))) Via.refl H2 H0 (Or.inl (hw _ (List.mem_of_getElem? (i := 23) rfl))) (hw _ (List.mem_of_getElem? (i := 2) rfl)) (by decide) (by decide) (by decide) H3 (hb hby d6_29) rfl fun T24 h24 X24 W24 => ?_
        refine i_aloadN (v := (.ref o)) (pc' := 33) X24 hx (hb hby d6_32) rfl rfl rfl ?_
        refine i_sipush (pc' := 36) (1000 : Int32) X24 hx (hb hby d6_33) rfl (by decide) ?_
        refine i_iconst (pc' := 37) (2 : Int32) X24 hx (hb hby d6_36) rfl (by decide) ?_
        refine i_iloadN (v := n) (pc' := 38) X24 hx (hb hby d6_37) rfl rfl ?_
        refine i_imul (pc' := 39) X24 hx (hb hby d6_38) rfl ?_
        refine i_aloadN (v := (.ref o)) (pc' := 40) X24 hx (hb hby d6_39) rfl rfl rfl ?_
        have F25 : Fld Z h24 o "com/example/forefetch/forefetch/BatchWindow" "rows" "I" (.int r) := (Jvm.RoadKit.Fld.other W24 H1 (Or.inr (slot_ne (a0 := a0) (Or.inl (hw _ (List.mem_of_getElem? (i := 11) rfl))) (Or.inl (hw _ (List.mem_of_getElem? (i := 23) rfl))) (by decide) (t := .int) (t' := .boolean) (by decide) (by decide))))
        refine gf (pc' := 43) (host := "") X24 hx hZ hown (Or.inl (hw _ (List.mem_of_getElem? (i := 10) rfl))) Via.refl F25 (hb hby d6_40) rfl fun T26 X26 => ?_
        refine i_iconst (pc' := 44) (2 : Int32) X26 hx (hb hby d6_43) rfl (by decide) ?_
        refine i_idiv (pc' := 45) X26 hx (hb hby d6_44) rfl (by decide) ?_
        refine cS (y := (⟨"java/lang/Math", "max", "(II)I"⟩ : MethodName)) (rest := [(.int (1000 : Int32)), (.ref o)]) (pc' := 48) 2 [(.int ((2 : Int32) * n)), (.int (r / (2 : Int32)))] X26 hx hZ hown (hw _ (List.mem_of_getElem? (i := 33) rfl)) (hw _ (List.mem_of_getElem? (i := 34) rfl)) (hw _ (List.mem_of_getElem? (i := 26) rfl)) (hw _ (List.mem_of_getElem? (i := 35) rfl)) (by decide) (rmMax l Z a0 hw [] ((2 : Int32) * n) (r / (2 : Int32)) n0 h24 X26.le ) (by decide) (by decide) (by rw [hml]; rfl) rfl (lenOf pd0 rfl) rfl (Nat.le_of_eq rfl) (hb hby d6_45) rfl (by decide) (by decide) ?_
        intro r27 T27 h27 X27 q27
        obtain ⟨rfl, eh27⟩ := q27
        subst eh27
        show Go _ _ _ _ _ _ _ T27 (mkF m 48 #[.val (.ref o), .val (.int n), .val (.int (1 : Int32))] [(.int (own_max ((2 : Int32) * n) (r / (2 : Int32)))), (.int (1000 : Int32)), (.ref o)])
        refine cS (y := (⟨"java/lang/Math", "min", "(II)I"⟩ : MethodName)) (rest := [(.ref o)]) (pc' := 51) 1 [(.int (1000 : Int32)), (.int (own_max ((2 : Int32) * n) (r / (2 : Int32))))] X27 hx hZ hown (hw _ (List.mem_of_getElem? (i := 24) rfl)) (hw _ (List.mem_of_getElem? (i := 25) rfl)) (hw _ (List.mem_of_getElem? (i := 26) rfl)) (hw _ (List.mem_of_getElem? (i := 27) rfl)) (by decide) (rmMin l Z a0 hw [] (1000 : Int32) (own_max ((2 : Int32) * n) (r / (2 : Int32))) n0 h24 X27.le ) (by decide) (by decide) (by rw [hml]; rfl) rfl (lenOf pd0 rfl) rfl (Nat.le_of_eq rfl) (hb hby d6_48) rfl (by decide) (by decide) ?_
        intro r28 T28 h28 X28 q28
        obtain ⟨rfl, eh28⟩ := q28
        subst eh28
        show Go _ _ _ _ _ _ _ T28 (mkF m 51 #[.val (.ref o), .val (.int n), .val (.int (1 : Int32))] [(.int (own_min (1000 : Int32) (own_max ((2 : Int32) * n) (r / (2 : Int32))))), (.ref o)])
        have F29 : Exa Z h24 o "com/example/forefetch/forefetch/BatchWindow" := (Jvm.RoadKit.Exa.wr W24 H0)
        refine pf (pc' := 54) (host := "") (ty := .int) X28 hx hZ hown (Or.inl (hw _ (List.mem_of_getElem? (i := 10) rfl))) Via.refl F25 F29 (Or.inl (hw _ (List.mem_of_getElem? (i := 11) rfl))) (hw _ (List.mem_of_getElem? (i := 2) rfl)) (by decide) rfl rfl H3 (hb hby d6_51) rfl fun T30 h30 X30 W30 => ?_
        refine i_iloadN (v := (1 : Int32)) (pc' := 55) X30 hx (hb hby d6_54) rfl rfl ?_
        refine rN X30 hx hlk hret (by simp) (hb hby d6_55) (by decide) (by decide) ?_
        have F31 : Fld Z h30 o "com/example/forefetch/forefetch/BatchWindow" "rows" "I" (.int (own_min (1000 : Int32) (own_max ((2 : Int32) * n) (r / (2 : Int32))))) := (Jvm.RoadKit.Fld.same W30 F25)
        have F32 : Fld Z h30 o "com/example/forefetch/forefetch/BatchWindow" "staleAfterFirst" "Z" (.int (1 : Int32)) := (Jvm.RoadKit.Fld.other W30 (Jvm.RoadKit.Fld.same W24 H2) (Or.inr (slot_ne (a0 := a0) (Or.inl (hw _ (List.mem_of_getElem? (i := 23) rfl))) (Or.inl (hw _ (List.mem_of_getElem? (i := 11) rfl))) (by decide) (t := .boolean) (t' := .int) (by decide) (by decide))))
        exact ⟨(by first | (simp [own_nar1, own_nar0, hc1, hc22, hc23]; done) | (exfalso; rw [hc2] at hc1; exact absurd hc1 (by decide))), (((Keep.refl h0 _).wr W24 (Or.inl (List.mem_of_getElem? (i := 0) rfl))).wr W30 (Or.inl (List.mem_of_getElem? (i := 0) rfl))), F31, (by first | exact F32 | simpa [hc1, hc22, hc23] using F32)⟩
      · skip
        refine i_icT (pc' := 28) X21 hx (hb hby d6_21) (XT.ii_ne_t hc23) (by decide) (by decide) ?_
        refine i_iconst (pc' := 29) (0 : Int32) X21 hx (hb hby d6_28) rfl (by decide) ?_
        refine pf (pc' := 32) (host := "") (ty := .boolean) X21 hx hZ hown (Or.inl (hw _ (List.mem_of_getElem? (i := 22) rfl))) Via.refl H2 H0 (Or.inl (hw _ (List.mem_of_getElem? (i := 23) rfl))) (hw _ (List.mem_of_getElem? (i := 2) rfl)) (by decide) (by decide) (by decide) H3 (hb hby d6_29) rfl fun T33 h33 X33 W33 => ?_
        refine i_aloadN (v := (.ref o)) (pc' := 33) X33 hx (hb hby d6_32) rfl rfl rfl ?_
        refine i_sipush (pc' := 36) (1000 : Int32) X33 hx (hb hby d6_33) rfl (by decide) ?_
        refine i_iconst (pc' := 37) (2 : Int32) X33 hx (hb hby d6_36) rfl (by decide) ?_
        refine i_iloadN (v := n) (pc' := 38) X33 hx (hb hby d6_37) rfl rfl ?_
        refine i_imul (pc' := 39) X33 hx (hb hby d6_38) rfl ?_
        refine i_aloadN (v := (.ref o)) (pc' := 40) X33 hx (hb hby d6_39) rfl rfl rfl ?_
        have F34 : Fld Z h33 o "com/example/forefetch/forefetch/BatchWindow" "rows" "I" (.int r) := (Jvm.RoadKit.Fld.other W33 H1 (Or.inr (slot_ne (a0 := a0) (Or.inl (hw _ (List.mem_of_getElem? (i := 11) rfl))) (Or.inl (hw _ (List.mem_of_getElem? (i := 23) rfl))) (by decide) (t := .int) (t' := .boolean) (by decide) (by decide))))
        refine gf (pc' := 43) (host := "") X33 hx hZ hown (Or.inl (hw _ (List.mem_of_getElem? (i := 10) rfl))) Via.refl F34 (hb hby d6_40) rfl fun T35 X35 => ?_
        refine i_iconst (pc' := 44) (2 : Int32) X35 hx (hb hby d6_43) rfl (by decide) ?_
        refine i_idiv (pc' := 45) X35 hx (hb hby d6_44) rfl (by decide) ?_
        refine cS (y := (⟨"java/lang/Math", "max", "(II)I"⟩ : MethodName)) (rest := [(.int (1000 : Int32)), (.ref o)]) (pc' := 48) 2 [(.int ((2 : Int32) * n)), (.int (r / (2 : Int32)))] X35 hx hZ hown (hw _ (List.mem_of_getElem? (i := 33) rfl)) (hw _ (List.mem_of_getElem? (i := 34) rfl)) (hw _ (List.mem_of_getElem? (i := 26) rfl)) (hw _ (List.mem_of_getElem? (i := 35) rfl)) (by decide) (rmMax l Z a0 hw [] ((2 : Int32) * n) (r / (2 : Int32)) n0 h33 X35.le ) (by decide) (by decide) (by rw [hml]; rfl) rfl (lenOf pd0 rfl) rfl (Nat.le_of_eq rfl) (hb hby d6_45) rfl (by decide) (by decide) ?_
        intro r36 T36 h36 X36 q36
        obtain ⟨rfl, eh36⟩ := q36
        subst eh36
        show Go _ _ _ _ _ _ _ T36 (mkF m 48 #[.val (.ref o), .val (.int n), .val (.int (1 : Int32))] [(.int (own_max ((2 : Int32) * n) (r / (2 : Int32)))), (.int (1000 : Int32)), (.ref o)])
        refine cS (y := (⟨"java/lang/Math", "min", "(II)I"⟩ : MethodName)) (rest := [(.ref o)]) (pc' := 51) 1 [(.int (1000 : Int32)), (.int (own_max ((2 : Int32) * n) (r / (2 : Int32))))] X36 hx hZ hown (hw _ (List.mem_of_getElem? (i := 24) rfl)) (hw _ (List.mem_of_getElem? (i := 25) rfl)) (hw _ (List.mem_of_getElem? (i := 26) rfl)) (hw _ (List.mem_of_getElem? (i := 27) rfl)) (by decide) (rmMin l Z a0 hw [] (1000 : Int32) (own_max ((2 : Int32) * n) (r / (2 : Int32))) n0 h33 X36.le ) (by decide) (by decide) (by rw [hml]; rfl) rfl (lenOf pd0 rfl) rfl (Nat.le_of_eq rfl) (hb hby d6_48) rfl (by decide) (by decide) ?_
        intro r37 T37 h37 X37 q37
        obtain ⟨rfl, eh37⟩ := q37
        subst eh37
        show Go _ _ _ _ _ _ _ T37 (mkF m 51 #[.val (.ref o), .val (.int n), .val (.int (1 : Int32))] [(.int (own_min (1000 : Int32) (own_max ((2 : Int32) * n) (r / (2 : Int32))))), (.ref o)])
        have F38 : Exa Z h33 o "com/example/forefetch/forefetch/BatchWindow" := (Jvm.RoadKit.Exa.wr W33 H0)
        refine pf (pc' := 54) (host := "") (ty := .int) X37 hx hZ hown (Or.inl (hw _ (List.mem_of_getElem? (i := 10) rfl))) Via.refl F34 F38 (Or.inl (hw _ (List.mem_of_getElem? (i := 11) rfl))) (hw _ (List.mem_of_getElem? (i := 2) rfl)) (by decide) rfl rfl H3 (hb hby d6_51) rfl fun T39 h39 X39 W39 => ?_
        refine i_iloadN (v := (1 : Int32)) (pc' := 55) X39 hx (hb hby d6_54) rfl rfl ?_
        refine rN X39 hx hlk hret (by simp) (hb hby d6_55) (by decide) (by decide) ?_
        have F40 : Fld Z h39 o "com/example/forefetch/forefetch/BatchWindow" "rows" "I" (.int (own_min (1000 : Int32) (own_max ((2 : Int32) * n) (r / (2 : Int32))))) := (Jvm.RoadKit.Fld.same W39 F34)
        have F41 : Fld Z h39 o "com/example/forefetch/forefetch/BatchWindow" "staleAfterFirst" "Z" (.int (0 : Int32)) := (Jvm.RoadKit.Fld.other W39 (Jvm.RoadKit.Fld.same W33 H2) (Or.inr (slot_ne (a0 := a0) (Or.inl (hw _ (List.mem_of_getElem? (i := 23) rfl))) (Or.inl (hw _ (List.mem_of_getElem? (i := 11) rfl))) (by decide) (t := .boolean) (t' := .int) (by decide) (by decide))))
        exact ⟨(by first | (simp [own_nar1, own_nar0, hc1, hc22, hc23]; done) | (exfalso; rw [hc2] at hc1; exact absurd hc1 (by decide))), (((Keep.refl h0 _).wr W33 (Or.inl (List.mem_of_getElem? (i := 0) rfl))).wr W39 (Or.inl (List.mem_of_getElem? (i := 0) rfl))), F40, (by first | exact F41 | simpa [hc1, hc22, hc23] using F41)⟩
    · skip
      refine i_ifT (pc' := 16) X21 hx (hb hby d6_9) (XT.i0_ne_t hc22) (by decide) (by decide) ?_
      refine i_iconst (pc' := 17) (0 : Int32) X21 hx (hb hby d6_16) rfl (by decide) ?_
      refine i_istoreN (L' := #[.val (.ref o), .val (.int n), .val (.int (0 : Int32))]) (pc' := 18) X21 hx (hb hby d6_17) rfl rfl ?_
      refine i_aloadN (v := (.ref o)) (pc' := 19) X21 hx (hb hby d6_18) rfl rfl rfl ?_
      refine i_iloadN (v := n) (pc' := 20) X21 hx (hb hby d6_19) rfl rfl ?_
      refine i_iconst (pc' := 21) (1 : Int32) X21 hx (hb hby d6_20) rfl (by decide) ?_
      by_cases hc42 : n = (1 : Int32)
      · skip
        refine i_icF (pc' := 24) X21 hx (hb hby d6_21) rfl (XT.ii_ne_f hc42) ?_
        refine i_iconst (pc' := 25) (1 : Int32) X21 hx (hb hby d6_24) rfl (by decide) ?_
        refine i_goto (pc' := 29) X21 hx (hb hby d6_25) (by decide) (by decide) ?_
        refine pf (pc' := 32) (host := "") (ty := .boolean) X21 hx hZ hown (Or.inl (hw _ (List.mem_of_getElem? (i := 22) rfl))) Via.refl H2 H0 (Or.inl (hw _ (List.mem_of_getElem? (i := 23) rfl))) (hw _ (List.mem_of_getElem? (i := 2) rfl)) (by decide) (by decide) (by decide) H3 (hb hby d6_29) rfl fun T43 h43 X43 W43 => ?_
        refine i_aloadN (v := (.ref o)) (pc' := 33) X43 hx (hb hby d6_32) rfl rfl rfl ?_
        refine i_sipush (pc' := 36) (1000 : Int32) X43 hx (hb hby d6_33) rfl (by decide) ?_
        refine i_iconst (pc' := 37) (2 : Int32) X43 hx (hb hby d6_36) rfl (by decide) ?_
        refine i_iloadN (v := n) (pc' := 38) X43 hx (hb hby d6_37) rfl rfl ?_
        refine i_imul (pc' := 39) X43 hx (hb hby d6_38) rfl ?_
        refine i_aloadN (v := (.ref o)) (pc' := 40) X43 hx (hb hby d6_39) rfl rfl rfl ?_
        have F44 : Fld Z h43 o "com/example/forefetch/forefetch/BatchWindow" "rows" "I" (.int r) := (Jvm.RoadKit.Fld.other W43 H1 (Or.inr (slot_ne (a0 := a0) (Or.inl (hw _ (List.mem_of_getElem? (i := 11) rfl))) (Or.inl (hw _ (List.mem_of_getElem? (i := 23) rfl))) (by decide) (t := .int) (t' := .boolean) (by decide) (by decide))))
        refine gf (pc' := 43) (host := "") X43 hx hZ hown (Or.inl (hw _ (List.mem_of_getElem? (i := 10) rfl))) Via.refl F44 (hb hby d6_40) rfl fun T45 X45 => ?_
        refine i_iconst (pc' := 44) (2 : Int32) X45 hx (hb hby d6_43) rfl (by decide) ?_
        refine i_idiv (pc' := 45) X45 hx (hb hby d6_44) rfl (by decide) ?_
        refine cS (y := (⟨"java/lang/Math", "max", "(II)I"⟩ : MethodName)) (rest := [(.int (1000 : Int32)), (.ref o)]) (pc' := 48) 2 [(.int ((2 : Int32) * n)), (.int (r / (2 : Int32)))] X45 hx hZ hown (hw _ (List.mem_of_getElem? (i := 33) rfl)) (hw _ (List.mem_of_getElem? (i := 34) rfl)) (hw _ (List.mem_of_getElem? (i := 26) rfl)) (hw _ (List.mem_of_getElem? (i := 35) rfl)) (by decide) (rmMax l Z a0 hw [] ((2 : Int32) * n) (r / (2 : Int32)) n0 h43 X45.le ) (by decide) (by decide) (by rw [hml]; rfl) rfl (lenOf pd0 rfl) rfl (Nat.le_of_eq rfl) (hb hby d6_45) rfl (by decide) (by decide) ?_
        intro r46 T46 h46 X46 q46
        obtain ⟨rfl, eh46⟩ := q46
        subst eh46
        show Go _ _ _ _ _ _ _ T46 (mkF m 48 #[.val (.ref o), .val (.int n), .val (.int (0 : Int32))] [(.int (own_max ((2 : Int32) * n) (r / (2 : Int32)))), (.int (1000 : Int32)), (.ref o)])
        refine cS (y := (⟨"java/lang/Math", "min", "(II)I"⟩ : MethodName)) (rest := [(.ref o)]) (pc' := 51) 1 [(.int (1000 : Int32)), (.int (own_max ((2 : Int32) * n) (r / (2 : Int32))))] X46 hx hZ hown (hw _ (List.mem_of_getElem? (i := 24) rfl)) (hw _ (List.mem_of_getElem? (i := 25) rfl)) (hw _ (List.mem_of_getElem? (i := 26) rfl)) (hw _ (List.mem_of_getElem? (i := 27) rfl)) (by decide) (rmMin l Z a0 hw [] (1000 : Int32) (own_max ((2 : Int32) * n) (r / (2 : Int32))) n0 h43 X46.le ) (by decide) (by decide) (by rw [hml]; rfl) rfl (lenOf pd0 rfl) rfl (Nat.le_of_eq rfl) (hb hby d6_48) rfl (by decide) (by decide) ?_
        intro r47 T47 h47 X47 q47
        obtain ⟨rfl, eh47⟩ := q47
        subst eh47
        show Go _ _ _ _ _ _ _ T47 (mkF m 51 #[.val (.ref o), .val (.int n), .val (.int (0 : Int32))] [(.int (own_min (1000 : Int32) (own_max ((2 : Int32) * n) (r / (2 : Int32))))), (.ref o)])
        have F48 : Exa Z h43 o "com/example/forefetch/forefetch/BatchWindow" := (Jvm.RoadKit.Exa.wr W43 H0)
        refine pf (pc' := 54) (host := "") (ty := .int) X47 hx hZ hown (Or.inl (hw _ (List.mem_of_getElem? (i := 10) rfl))) Via.refl F44 F48 (Or.inl (hw _ (List.mem_of_getElem? (i := 11) rfl))) (hw _ (List.mem_of_getElem? (i := 2) rfl)) (by decide) rfl rfl H3 (hb hby d6_51) rfl fun T49 h49 X49 W49 => ?_
        refine i_iloadN (v := (0 : Int32)) (pc' := 55) X49 hx (hb hby d6_54) rfl rfl ?_
        refine rN X49 hx hlk hret (by simp) (hb hby d6_55) (by decide) (by decide) ?_
        have F50 : Fld Z h49 o "com/example/forefetch/forefetch/BatchWindow" "rows" "I" (.int (own_min (1000 : Int32) (own_max ((2 : Int32) * n) (r / (2 : Int32))))) := (Jvm.RoadKit.Fld.same W49 F44)
        have F51 : Fld Z h49 o "com/example/forefetch/forefetch/BatchWindow" "staleAfterFirst" "Z" (.int (1 : Int32)) := (Jvm.RoadKit.Fld.other W49 (Jvm.RoadKit.Fld.same W43 H2) (Or.inr (slot_ne (a0 := a0) (Or.inl (hw _ (List.mem_of_getElem? (i := 23) rfl))) (Or.inl (hw _ (List.mem_of_getElem? (i := 11) rfl))) (by decide) (t := .boolean) (t' := .int) (by decide) (by decide))))
        exact ⟨(by first | (simp [own_nar1, own_nar0, hc1, hc22, hc42]; done) | (exfalso; rw [hc2] at hc1; exact absurd hc1 (by decide))), (((Keep.refl h0 _).wr W43 (Or.inl (List.mem_of_getElem? (i := 0) rfl))).wr W49 (Or.inl (List.mem_of_getElem? (i := 0) rfl))), F50, (by first | exact F51 | simpa [hc1, hc22, hc42] using F51)⟩
      · skip
        refine i_icT (pc' := 28) X21 hx (hb hby d6_21) (XT.ii_ne_t hc42) (by decide) (by decide) ?_
        refine i_iconst (pc' := 29) (0 : Int32) X21 hx (hb hby d6_28) rfl (by decide) ?_
        refine pf (pc' := 32) (host := "") (ty := .boolean) X21 hx hZ hown (Or.inl (hw _ (List.mem_of_getElem? (i := 22) rfl))) Via.refl H2 H0 (Or.inl (hw _ (List.mem_of_getElem? (i := 23) rfl))) (hw _ (List.mem_of_getElem? (i := 2) rfl)) (by decide) (by decide) (by decide) H3 (hb hby d6_29) rfl fun T52 h52 X52 W52 => ?_
        refine i_aloadN (v := (.ref o)) (pc' := 33) X52 hx (hb hby d6_32) rfl rfl rfl ?_
        refine i_sipush (pc' := 36) (1000 : Int32) X52 hx (hb hby d6_33) rfl (by decide) ?_
        refine i_iconst (pc' := 37) (2 : Int32) X52 hx (hb hby d6_36) rfl (by decide) ?_
        refine i_iloadN (v := n) (pc' := 38) X52 hx (hb hby d6_37) rfl rfl ?_
        refine i_imul (pc' := 39) X52 hx (hb hby d6_38) rfl ?_
        refine i_aloadN (v := (.ref o)) (pc' := 40) X52 hx (hb hby d6_39) rfl rfl rfl ?_
        have F53 : Fld Z h52 o "com/example/forefetch/forefetch/BatchWindow" "rows" "I" (.int r) := (Jvm.RoadKit.Fld.other W52 H1 (Or.inr (slot_ne (a0 := a0) (Or.inl (hw _ (List.mem_of_getElem? (i := 11) rfl))) (Or.inl (hw _ (List.mem_of_getElem? (i := 23) rfl))) (by decide) (t := .int) (t' := .boolean) (by decide) (by decide))))
        refine gf (pc' := 43) (host := "") X52 hx hZ hown (Or.inl (hw _ (List.mem_of_getElem? (i := 10) rfl))) Via.refl F53 (hb hby d6_40) rfl fun T54 X54 => ?_
        refine i_iconst (pc' := 44) (2 : Int32) X54 hx (hb hby d6_43) rfl (by decide) ?_
        refine i_idiv (pc' := 45) X54 hx (hb hby d6_44) rfl (by decide) ?_
        refine cS (y := (⟨"java/lang/Math", "max", "(II)I"⟩ : MethodName)) (rest := [(.int (1000 : Int32)), (.ref o)]) (pc' := 48) 2 [(.int ((2 : Int32) * n)), (.int (r / (2 : Int32)))] X54 hx hZ hown (hw _ (List.mem_of_getElem? (i := 33) rfl)) (hw _ (List.mem_of_getElem? (i := 34) rfl)) (hw _ (List.mem_of_getElem? (i := 26) rfl)) (hw _ (List.mem_of_getElem? (i := 35) rfl)) (by decide) (rmMax l Z a0 hw [] ((2 : Int32) * n) (r / (2 : Int32)) n0 h52 X54.le ) (by decide) (by decide) (by rw [hml]; rfl) rfl (lenOf pd0 rfl) rfl (Nat.le_of_eq rfl) (hb hby d6_45) rfl (by decide) (by decide) ?_
        intro r55 T55 h55 X55 q55
        obtain ⟨rfl, eh55⟩ := q55
        subst eh55
        show Go _ _ _ _ _ _ _ T55 (mkF m 48 #[.val (.ref o), .val (.int n), .val (.int (0 : Int32))] [(.int (own_max ((2 : Int32) * n) (r / (2 : Int32)))), (.int (1000 : Int32)), (.ref o)])
        refine cS (y := (⟨"java/lang/Math", "min", "(II)I"⟩ : MethodName)) (rest := [(.ref o)]) (pc' := 51) 1 [(.int (1000 : Int32)), (.int (own_max ((2 : Int32) * n) (r / (2 : Int32))))] X55 hx hZ hown (hw _ (List.mem_of_getElem? (i := 24) rfl)) (hw _ (List.mem_of_getElem? (i := 25) rfl)) (hw _ (List.mem_of_getElem? (i := 26) rfl)) (hw _ (List.mem_of_getElem? (i := 27) rfl)) (by decide) (rmMin l Z a0 hw [] (1000 : Int32) (own_max ((2 : Int32) * n) (r / (2 : Int32))) n0 h52 X55.le ) (by decide) (by decide) (by rw [hml]; rfl) rfl (lenOf pd0 rfl) rfl (Nat.le_of_eq rfl) (hb hby d6_48) rfl (by decide) (by decide) ?_
        intro r56 T56 h56 X56 q56
        obtain ⟨rfl, eh56⟩ := q56
        subst eh56
        show Go _ _ _ _ _ _ _ T56 (mkF m 51 #[.val (.ref o), .val (.int n), .val (.int (0 : Int32))] [(.int (own_min (1000 : Int32) (own_max ((2 : Int32) * n) (r / (2 : Int32))))), (.ref o)])
        have F57 : Exa Z h52 o "com/example/forefetch/forefetch/BatchWindow" := (Jvm.RoadKit.Exa.wr W52 H0)
        refine pf (pc' := 54) (host := "") (ty := .int) X56 hx hZ hown (Or.inl (hw _ (List.mem_of_getElem? (i := 10) rfl))) Via.refl F53 F57 (Or.inl (hw _ (List.mem_of_getElem? (i := 11) rfl))) (hw _ (List.mem_of_getElem? (i := 2) rfl)) (by decide) rfl rfl H3 (hb hby d6_51) rfl fun T58 h58 X58 W58 => ?_
        refine i_iloadN (v := (0 : Int32)) (pc' := 55) X58 hx (hb hby d6_54) rfl rfl ?_
        refine rN X58 hx hlk hret (by simp) (hb hby d6_55) (by decide) (by decide) ?_
        have F59 : Fld Z h58 o "com/example/forefetch/forefetch/BatchWindow" "rows" "I" (.int (own_min (1000 : Int32) (own_max ((2 : Int32) * n) (r / (2 : Int32))))) := (Jvm.RoadKit.Fld.same W58 F53)
        have F60 : Fld Z h58 o "com/example/forefetch/forefetch/BatchWindow" "staleAfterFirst" "Z" (.int (0 : Int32)) := (Jvm.RoadKit.Fld.other W58 (Jvm.RoadKit.Fld.same W52 H2) (Or.inr (slot_ne (a0 := a0) (Or.inl (hw _ (List.mem_of_getElem? (i := 23) rfl))) (Or.inl (hw _ (List.mem_of_getElem? (i := 11) rfl))) (by decide) (t := .boolean) (t' := .int) (by decide) (by decide))))
        exact ⟨(by first | (simp [own_nar1, own_nar0, hc1, hc22, hc42]; done) | (exfalso; rw [hc2] at hc1; exact absurd hc1 (by decide))), (((Keep.refl h0 _).wr W52 (Or.inl (List.mem_of_getElem? (i := 0) rfl))).wr W58 (Or.inl (List.mem_of_getElem? (i := 0) rfl))), F59, (by first | exact F60 | simpa [hc1, hc22, hc42] using F60)⟩
theorem pn1 : plainName "com/example/forefetch/forefetch/BatchWindowPassedPinLaw" = true := by first | (simp [plainName, overriddenIn]; done) | decide +kernel
theorem ef_rm0 (m : MethodId) (p1 : Int32) (p2 : Int64) : entryFrame m #[(.int p1), (.long p2)] maxLocals = mkF m 0 #[.val (.int p1), .val (.long p2), .second, .unset, .unset, .unset, .unset, .unset, .unset, .unset, .unset, .unset, .unset, .unset] [] := by first | rfl | (simp [entryFrame, mkF, argsToLocals, Value.category, maxLocals]; done)
abbrev Q0 : Option Value → Heap → Prop := fun v _ => v = some (.int 1)
theorem pd1 : parseMethodDescriptor "()V" = some ⟨[], none⟩ := by decide +kernel
theorem pd2 : parseMethodDescriptor "()I" = some ⟨[], some .int⟩ := by decide +kernel
theorem pd3 : parseMethodDescriptor "(I)Z" = some ⟨[.int], some .boolean⟩ := by decide +kernel
set_option maxRecDepth 65536 in
set_option maxHeartbeats 40000000 in
theorem rm0 (l : Launch) (Z : State) (a0 : Array Value) (hw : ∀ d ∈ tables_1, d.before a0 Z = true) (ws : List Jvm.Cond) (p1 : Int32) (p2 : Int64) (n0 : Nat) (h0 : Heap) (hn : n0 ≤ h0.size)   :
    Con l Z x code maxLocals ret ws room_1 #[(.int p1), (.long p2)] h0 n0 Q0 := by
  refine body (y := x) (Ls := #[.val (.int p1), .val (.long p2), .second, .unset, .unset, .unset, .unset, .unset, .unset, .unset, .unset, .unset, .unset, .unset]) (plainFor_of_name pn1) hn (fun m => ef_rm0 m p1 p2) ?_
  intro p e s m below meth c T0 hx hby hml hown hnm hret hlk hZ X0
  replace hown : s.vm.findClass "com/example/forefetch/forefetch/BatchWindowPassedPinLaw" = some m.cls := hown
  replace hml : c.maxLocals = 14 := hml
  replace hret : meth.sig.returnType = (some .boolean) := hret
  refine i_iloadN (v := p1) (pc' := 1) X0 hx (hb hby at_0) rfl rfl ?_
  refine i_bipush (pc' := 3) (7 : Int32) X0 hx (hb hby at_1) rfl (by decide) ?_
  refine i_iand (pc' := 4) X0 hx (hb hby at_3) rfl ?_
  obtain ⟨v1, hv1⟩ : ∃ zz : Int32, zz = (p1 &&& (7 : Int32)) := ⟨_, rfl⟩
  rw [← hv1]
  refine i_istoreN (L' := #[.val (.int p1), .val (.long p2), .second, .val (.int v1), .unset, .unset, .unset, .unset, .unset, .unset, .unset, .unset, .unset, .unset]) (pc' := 5) X0 hx (hb hby at_4) rfl rfl ?_
  refine i_lloadN (v := p2) (pc' := 6) X0 hx (hb hby at_5) rfl rfl ?_
  refine i_ldc2 (pc' := 9) (1023 : Int64) X0 hx hZ hown (hw _ (List.mem_of_getElem? (i := 0) rfl)) (hb hby at_6) rfl ?_
  refine i_land (pc' := 10) X0 hx (hb hby at_9) rfl ?_
  refine i_l2i (pc' := 11) X0 hx (hb hby at_10) rfl ?_
  refine i_iconst (pc' := 12) (1 : Int32) X0 hx (hb hby at_11) rfl (by decide) ?_
  refine i_iadd (pc' := 13) X0 hx (hb hby at_12) rfl ?_
  obtain ⟨v2, hv2⟩ : ∃ zz : Int32, zz = (((p2 &&& (1023 : Int64)).toInt32) + (1 : Int32)) := ⟨_, rfl⟩
  rw [← hv2]
  refine i_istore (L' := #[.val (.int p1), .val (.long p2), .second, .val (.int v1), .val (.int v2), .unset, .unset, .unset, .unset, .unset, .unset, .unset, .unset, .unset]) (pc' := 15) X0 hx (hb hby at_13) rfl rfl ?_
  refine i_lloadN (v := p2) (pc' := 16) X0 hx (hb hby at_15) rfl rfl ?_
  refine i_bipush (pc' := 18) (16 : Int32) X0 hx (hb hby at_16) rfl (by decide) ?_
  refine i_lushr (pc' := 19) X0 hx (hb hby at_18) rfl ?_
  refine i_ldc2 (pc' := 22) (1023 : Int64) X0 hx hZ hown (hw _ (List.mem_of_getElem? (i := 0) rfl)) (hb hby at_19) rfl ?_
  refine i_land (pc' := 23) X0 hx (hb hby at_22) rfl ?_
  refine i_l2i (pc' := 24) X0 hx (hb hby at_23) rfl ?_
  refine i_iconst (pc' := 25) (1 : Int32) X0 hx (hb hby at_24) rfl (by decide) ?_
  refine i_iadd (pc' := 26) X0 hx (hb hby at_25) rfl ?_
  obtain ⟨v3, hv3⟩ : ∃ zz : Int32, zz = ((((XT.ushrL p2 (16 : Int32)) &&& (1023 : Int64)).toInt32) + (1 : Int32)) := ⟨_, rfl⟩
  rw [← hv3]
  refine i_istore (L' := #[.val (.int p1), .val (.long p2), .second, .val (.int v1), .val (.int v2), .val (.int v3), .unset, .unset, .unset, .unset, .unset, .unset, .unset, .unset]) (pc' := 28) X0 hx (hb hby at_26) rfl rfl ?_
  refine i_lloadN (v := p2) (pc' := 29) X0 hx (hb hby at_28) rfl rfl ?_
  refine i_bipush (pc' := 31) (32 : Int32) X0 hx (hb hby at_29) rfl (by decide) ?_
  refine i_lushr (pc' := 32) X0 hx (hb hby at_31) rfl ?_
  refine i_ldc2 (pc' := 35) (1023 : Int64) X0 hx hZ hown (hw _ (List.mem_of_getElem? (i := 0) rfl)) (hb hby at_32) rfl ?_
  refine i_land (pc' := 36) X0 hx (hb hby at_35) rfl ?_
  refine i_l2i (pc' := 37) X0 hx (hb hby at_36) rfl ?_
  refine i_iconst (pc' := 38) (1 : Int32) X0 hx (hb hby at_37) rfl (by decide) ?_
  refine i_iadd (pc' := 39) X0 hx (hb hby at_38) rfl ?_
  obtain ⟨v4, hv4⟩ : ∃ zz : Int32, zz = ((((XT.ushrL p2 (32 : Int32)) &&& (1023 : Int64)).toInt32) + (1 : Int32)) := ⟨_, rfl⟩
  rw [← hv4]
  refine i_istore (L' := #[.val (.int p1), .val (.long p2), .second, .val (.int v1), .val (.int v2), .val (.int v3), .val (.int v4), .unset, .unset, .unset, .unset, .unset, .unset, .unset]) (pc' := 41) X0 hx (hb hby at_39) rfl rfl ?_
  refine i_lloadN (v := p2) (pc' := 42) X0 hx (hb hby at_41) rfl rfl ?_
  refine i_bipush (pc' := 44) (48 : Int32) X0 hx (hb hby at_42) rfl (by decide) ?_
  refine i_lushr (pc' := 45) X0 hx (hb hby at_44) rfl ?_
  refine i_ldc2 (pc' := 48) (1023 : Int64) X0 hx hZ hown (hw _ (List.mem_of_getElem? (i := 0) rfl)) (hb hby at_45) rfl ?_
  refine i_land (pc' := 49) X0 hx (hb hby at_48) rfl ?_
  refine i_l2i (pc' := 50) X0 hx (hb hby at_49) rfl ?_
  refine i_iconst (pc' := 51) (1 : Int32) X0 hx (hb hby at_50) rfl (by decide) ?_
  refine i_iadd (pc' := 52) X0 hx (hb hby at_51) rfl ?_
  obtain ⟨v5, hv5⟩ : ∃ zz : Int32, zz = ((((XT.ushrL p2 (48 : Int32)) &&& (1023 : Int64)).toInt32) + (1 : Int32)) := ⟨_, rfl⟩
  rw [← hv5]
  refine i_istore (L' := #[.val (.int p1), .val (.long p2), .second, .val (.int v1), .val (.int v2), .val (.int v3), .val (.int v4), .val (.int v5), .unset, .unset, .unset, .unset, .unset, .unset]) (pc' := 54) X0 hx (hb hby at_52) rfl rfl ?_
  refine nw (pc' := 57) X0 hx hZ hown (hw _ (List.mem_of_getElem? (i := 1) rfl)) (hw _ (List.mem_of_getElem? (i := 2) rfl)) (hw _ (List.mem_of_getElem? (i := 3) rfl)) (hb hby at_54) rfl (by decide) (by decide) fun T6 h6 b6 X6 g6 ge6 E6 A6 D6 => ?_
  have sz_b6 : h0.size ≤ b6 := Nat.le_trans ((Keep.refl h0 _) : Keep h0 h0 []).1 (Nat.le_of_eq g6.symm)
  have K6 : Keep h0 h6 [] := ((Keep.refl h0 _) : Keep h0 h0 []).ext E6
  refine i_dup (pc' := 58) X6 hx (hb hby at_57) rfl rfl ?_
  have F7 : Fld Z h6 b6 "com/example/forefetch/forefetch/BatchWindow" "rows" "I" (.int (0 : Int32)) := (D6 (Or.inl (hw _ (List.mem_of_getElem? (i := 11) rfl))) (ty := .int) (by decide))
  have F8 : Fld Z h6 b6 "com/example/forefetch/forefetch/BatchWindow" "staleAfterFirst" "Z" (.int (0 : Int32)) := (D6 (Or.inl (hw _ (List.mem_of_getElem? (i := 23) rfl))) (ty := .boolean) (by decide))
  refine cI (y := (⟨"com/example/forefetch/forefetch/BatchWindow", "<init>", "()V"⟩ : MethodName)) (rest := [(.ref b6)]) (pc' := 61) (a := b6) 1 [] X6 hx hZ hown rfl (hw _ (List.mem_of_getElem? (i := 4) rfl)) (hw _ (List.mem_of_getElem? (i := 5) rfl)) (hw _ (List.mem_of_getElem? (i := 3) rfl)) (hw _ (List.mem_of_getElem? (i := 6) rfl)) (by decide) (rm1 l Z a0 hw [] b6 n0 h6 X6.le A6 F7 F8 ge6) (by decide) (by decide) (by rw [hml]; rfl) rfl (lenOf pd1 rfl) rfl (Nat.le_of_eq rfl) (hb hby at_58) rfl (by decide) (by decide) ?_
  intro r9 T9 h9 X9 q9
  obtain ⟨rfl, K9c, P9_0, P9_1⟩ := q9
  show Go _ _ _ _ _ _ _ T9 (mkF m 61 #[.val (.int p1), .val (.long p2), .second, .val (.int v1), .val (.int v2), .val (.int v3), .val (.int v4), .val (.int v5), .unset, .unset, .unset, .unset, .unset, .unset] [(.ref b6)])
  refine i_astore (L' := #[.val (.int p1), .val (.long p2), .second, .val (.int v1), .val (.int v2), .val (.int v3), .val (.int v4), .val (.int v5), .val (.ref b6), .unset, .unset, .unset, .unset, .unset]) (pc' := 63) X9 hx (hb hby at_61) rfl rfl rfl ?_
  have J10 : ∀ (T10 : State) (h10 : Heap) (r : Int32) (b : Int32), Pn p l e room_1 s m #[(.int p1), (.long p2)] below meth c T10 h10 n0 1 2 → Keep h0 h10 [] → Exa Z h10 b6 "com/example/forefetch/forefetch/BatchWindow" → Fld Z h10 b6 "com/example/forefetch/forefetch/BatchWindow" "rows" "I" (.int r) → Fld Z h10 b6 "com/example/forefetch/forefetch/BatchWindow" "staleAfterFirst" "Z" (.int b) → Go p e s below n0 Q0 room_1 T10 (mkF m 115 #[.val (.int p1), .val (.long p2), .second, .val (.int v1), .val (.int v2), .val (.int v3), .val (.int v4), .val (.int v5), .val (.ref b6), .unset, .unset, .unset, .unset, .unset] []) := by
    intro T10 h10 r b  X10 K10 G10_0 G10_1 G10_2 
    refine i_aload (v := (.ref b6)) (pc' := 117) X10 hx (hb hby at_115) rfl rfl rfl ?_
    refine cV (y := (⟨"com/example/forefetch/forefetch/BatchWindow", "rows", "()I"⟩ : MethodName)) (C := "com/example/forefetch/forefetch/BatchWindow") (rest := []) (pc' := 120) 0 [] X10 hx hZ hown (hw _ (List.mem_of_getElem? (i := 12) rfl)) (hw _ (List.mem_of_getElem? (i := 13) rfl)) (hw _ (List.mem_of_getElem? (i := 15) rfl)) (hw _ (List.mem_of_getElem? (i := 14) rfl)) (hw _ (List.mem_of_getElem? (i := 3) rfl)) (hw _ (List.mem_of_getElem? (i := 16) rfl)) (by decide) G10_0 (rm3 l Z a0 hw [] b6 r n0 h10 X10.le G10_1) (by decide) (by decide) (by rw [hml]; rfl) rfl (lenOf pd2 rfl) rfl (Nat.le_of_eq rfl) (hb hby at_117) rfl (by decide) (by decide) ?_
    intro r11 T11 h11 X11 q11
    obtain ⟨rfl, eh11⟩ := q11
    subst eh11
    show Go _ _ _ _ _ _ _ T11 (mkF m 120 #[.val (.int p1), .val (.long p2), .second, .val (.int v1), .val (.int v2), .val (.int v3), .val (.int v4), .val (.int v5), .val (.ref b6), .unset, .unset, .unset, .unset, .unset] [(.int r)])
    refine i_istore (L' := #[.val (.int p1), .val (.long p2), .second, .val (.int v1), .val (.int v2), .val (.int v3), .val (.int v4), .val (.int v5), .val (.ref b6), .val (.int r), .unset, .unset, .unset, .unset]) (pc' := 122) X11 hx (hb hby at_120) rfl rfl ?_
    refine i_aload (v := (.ref b6)) (pc' := 124) X11 hx (hb hby at_122) rfl rfl rfl ?_
    refine cV (y := (⟨"com/example/forefetch/forefetch/BatchWindow", "passed", "()V"⟩ : MethodName)) (C := "com/example/forefetch/forefetch/BatchWindow") (rest := []) (pc' := 127) 0 [] X11 hx hZ hown (hw _ (List.mem_of_getElem? (i := 17) rfl)) (hw _ (List.mem_of_getElem? (i := 18) rfl)) (hw _ (List.mem_of_getElem? (i := 20) rfl)) (hw _ (List.mem_of_getElem? (i := 19) rfl)) (hw _ (List.mem_of_getElem? (i := 3) rfl)) (hw _ (List.mem_of_getElem? (i := 21) rfl)) (by decide) G10_0 (rm4 l Z a0 hw [] b6 r b n0 h10 X11.le G10_0 G10_1 G10_2 ge6) (by decide) (by decide) (by rw [hml]; rfl) rfl (lenOf pd1 rfl) rfl (Nat.le_of_eq rfl) (hb hby at_124) rfl (by decide) (by decide) ?_
    intro r12 T12 h12 X12 q12
    obtain ⟨rfl, K12c, P12_0, P12_1⟩ := q12
    show Go _ _ _ _ _ _ _ T12 (mkF m 127 #[.val (.int p1), .val (.long p2), .second, .val (.int v1), .val (.int v2), .val (.int v3), .val (.int v4), .val (.int v5), .val (.ref b6), .val (.int r), .unset, .unset, .unset, .unset] [])
    refine i_aload (v := (.ref b6)) (pc' := 129) X12 hx (hb hby at_127) rfl rfl rfl ?_
    have F14 : Exa Z h12 b6 "com/example/forefetch/forefetch/BatchWindow" := (G10_0.keep K12c)
    refine cV (y := (⟨"com/example/forefetch/forefetch/BatchWindow", "rows", "()I"⟩ : MethodName)) (C := "com/example/forefetch/forefetch/BatchWindow") (rest := []) (pc' := 132) 0 [] X12 hx hZ hown (hw _ (List.mem_of_getElem? (i := 12) rfl)) (hw _ (List.mem_of_getElem? (i := 13) rfl)) (hw _ (List.mem_of_getElem? (i := 15) rfl)) (hw _ (List.mem_of_getElem? (i := 14) rfl)) (hw _ (List.mem_of_getElem? (i := 3) rfl)) (hw _ (List.mem_of_getElem? (i := 16) rfl)) (by decide) F14 (rm3 l Z a0 hw [] b6 (own_min (1000 : Int32) ((2 : Int32) * r)) n0 h12 X12.le P12_0) (by decide) (by decide) (by rw [hml]; rfl) rfl (lenOf pd2 rfl) rfl (Nat.le_of_eq rfl) (hb hby at_129) rfl (by decide) (by decide) ?_
    intro r13 T13 h13 X13 q13
    obtain ⟨rfl, eh13⟩ := q13
    subst eh13
    show Go _ _ _ _ _ _ _ T13 (mkF m 132 #[.val (.int p1), .val (.long p2), .second, .val (.int v1), .val (.int v2), .val (.int v3), .val (.int v4), .val (.int v5), .val (.ref b6), .val (.int r), .unset, .unset, .unset, .unset] [(.int (own_min (1000 : Int32) ((2 : Int32) * r)))])
    obtain ⟨v15, hv15⟩ : ∃ zz : Int32, zz = (own_min (1000 : Int32) ((2 : Int32) * r)) := ⟨_, rfl⟩
    rw [← hv15]
    refine i_istore (L' := #[.val (.int p1), .val (.long p2), .second, .val (.int v1), .val (.int v2), .val (.int v3), .val (.int v4), .val (.int v5), .val (.ref b6), .val (.int r), .val (.int v15), .unset, .unset, .unset]) (pc' := 134) X13 hx (hb hby at_132) rfl rfl ?_
    refine i_sipush (pc' := 137) (1000 : Int32) X13 hx (hb hby at_134) rfl (by decide) ?_
    refine i_istore (L' := #[.val (.int p1), .val (.long p2), .second, .val (.int v1), .val (.int v2), .val (.int v3), .val (.int v4), .val (.int v5), .val (.ref b6), .val (.int r), .val (.int v15), .val (.int (1000 : Int32)), .unset, .unset]) (pc' := 139) X13 hx (hb hby at_137) rfl rfl ?_
    refine i_iload (v := r) (pc' := 141) X13 hx (hb hby at_139) rfl rfl ?_
    refine i_iload (v := r) (pc' := 143) X13 hx (hb hby at_141) rfl rfl ?_
    refine i_iadd (pc' := 144) X13 hx (hb hby at_143) rfl ?_
    refine i_iload (v := (1000 : Int32)) (pc' := 146) X13 hx (hb hby at_144) rfl rfl ?_
    by_cases hc16 : (r + r) < (1000 : Int32)
    · skip
      refine i_icT (pc' := 156) X13 hx (hb hby at_146) (XT.ii_lt_t hc16) (by decide) (by decide) ?_
      refine i_iload (v := r) (pc' := 158) X13 hx (hb hby at_156) rfl rfl ?_
      refine i_iload (v := r) (pc' := 160) X13 hx (hb hby at_158) rfl rfl ?_
      refine i_iadd (pc' := 161) X13 hx (hb hby at_160) rfl ?_
      obtain ⟨v17, hv17⟩ : ∃ zz : Int32, zz = (r + r) := ⟨_, rfl⟩
      rw [← hv17]
      refine i_istore (L' := #[.val (.int p1), .val (.long p2), .second, .val (.int v1), .val (.int v2), .val (.int v3), .val (.int v4), .val (.int v5), .val (.ref b6), .val (.int r), .val (.int v15), .val (.int (1000 : Int32)), .val (.int v17), .unset]) (pc' := 163) X13 hx (hb hby at_161) rfl rfl ?_
      refine i_aload (v := (.ref b6)) (pc' := 165) X13 hx (hb hby at_163) rfl rfl rfl ?_
      refine i_iconst (pc' := 166) (1 : Int32) X13 hx (hb hby at_165) rfl (by decide) ?_
      refine cV (y := (⟨"com/example/forefetch/forefetch/BatchWindow", "stale", "(I)Z"⟩ : MethodName)) (C := "com/example/forefetch/forefetch/BatchWindow") (rest := []) (pc' := 169) 0 [(.int (1 : Int32))] X13 hx hZ hown (hw _ (List.mem_of_getElem? (i := 28) rfl)) (hw _ (List.mem_of_getElem? (i := 29) rfl)) (hw _ (List.mem_of_getElem? (i := 31) rfl)) (hw _ (List.mem_of_getElem? (i := 30) rfl)) (hw _ (List.mem_of_getElem? (i := 3) rfl)) (hw _ (List.mem_of_getElem? (i := 32) rfl)) (by decide) F14 (rm6 l Z a0 hw [] b6 (1 : Int32) (own_min (1000 : Int32) ((2 : Int32) * r)) (0 : Int32) n0 h12 X13.le F14 P12_0 P12_1 ge6) (by decide) (by decide) (by rw [hml]; rfl) rfl (lenOf pd3 rfl) rfl (Nat.le_of_eq rfl) (hb hby at_166) rfl (by decide) (by decide) ?_
      intro r18 T18 h18 X18 q18
      obtain ⟨rfl, K18c, P18_0, P18_1⟩ := q18
      show Go _ _ _ _ _ _ _ T18 (mkF m 169 #[.val (.int p1), .val (.long p2), .second, .val (.int v1), .val (.int v2), .val (.int v3), .val (.int v4), .val (.int v5), .val (.ref b6), .val (.int r), .val (.int v15), .val (.int (1000 : Int32)), .val (.int v17), .unset] [(.int (if (1 : Int32) < (1 : Int32) then (1 : Int32) else if (0 : Int32) = 0 then (1 : Int32) else (0 : Int32)))])
      obtain ⟨v19, hv19⟩ : ∃ zz : Int32, zz = (if (1 : Int32) < (1 : Int32) then (1 : Int32) else if (0 : Int32) = 0 then (1 : Int32) else (0 : Int32)) := ⟨_, rfl⟩
      rw [← hv19]
      refine i_istore (L' := #[.val (.int p1), .val (.long p2), .second, .val (.int v1), .val (.int v2), .val (.int v3), .val (.int v4), .val (.int v5), .val (.ref b6), .val (.int r), .val (.int v15), .val (.int (1000 : Int32)), .val (.int v17), .val (.int v19)]) (pc' := 171) X18 hx (hb hby at_169) rfl rfl ?_
      refine i_iload (v := v15) (pc' := 173) X18 hx (hb hby at_171) rfl rfl ?_
      refine i_iload (v := v17) (pc' := 175) X18 hx (hb hby at_173) rfl rfl ?_
      refine i_icF (pc' := 178) X18 hx (hb hby at_175) rfl (XT.ii_ne_f (by subst_vars; have e : (2 : Int32) * r = r + r := own_two r; simp [own_min, e, hc16] <;> simp_all)) ?_
      refine i_iload (v := v19) (pc' := 180) X18 hx (hb hby at_178) rfl rfl ?_
      refine i_ifF (pc' := 183) X18 hx (hb hby at_180) rfl (XT.i0_eq_f (by simp_all)) ?_
      refine i_iconst (pc' := 184) (1 : Int32) X18 hx (hb hby at_183) rfl (by decide) ?_
      refine i_goto (pc' := 188) X18 hx (hb hby at_184) (by decide) (by decide) ?_
      refine rN X18 hx hlk hret (by simp) (hb hby at_188) (by decide) (by decide) ?_
      exact rfl
    · skip
      refine i_icF (pc' := 149) X13 hx (hb hby at_146) rfl (XT.ii_lt_f hc16) ?_
      refine i_iload (v := (1000 : Int32)) (pc' := 151) X13 hx (hb hby at_149) rfl rfl ?_
      refine i_istore (L' := #[.val (.int p1), .val (.long p2), .second, .val (.int v1), .val (.int v2), .val (.int v3), .val (.int v4), .val (.int v5), .val (.ref b6), .val (.int r), .val (.int v15), .val (.int (1000 : Int32)), .val (.int (1000 : Int32)), .unset]) (pc' := 153) X13 hx (hb hby at_151) rfl rfl ?_
      refine i_goto (pc' := 163) X13 hx (hb hby at_153) (by decide) (by decide) ?_
      refine i_aload (v := (.ref b6)) (pc' := 165) X13 hx (hb hby at_163) rfl rfl rfl ?_
      refine i_iconst (pc' := 166) (1 : Int32) X13 hx (hb hby at_165) rfl (by decide) ?_
      refine cV (y := (⟨"com/example/forefetch/forefetch/BatchWindow", "stale", "(I)Z"⟩ : MethodName)) (C := "com/example/forefetch/forefetch/BatchWindow") (rest := []) (pc' := 169) 0 [(.int (1 : Int32))] X13 hx hZ hown (hw _ (List.mem_of_getElem? (i := 28) rfl)) (hw _ (List.mem_of_getElem? (i := 29) rfl)) (hw _ (List.mem_of_getElem? (i := 31) rfl)) (hw _ (List.mem_of_getElem? (i := 30) rfl)) (hw _ (List.mem_of_getElem? (i := 3) rfl)) (hw _ (List.mem_of_getElem? (i := 32) rfl)) (by decide) F14 (rm6 l Z a0 hw [] b6 (1 : Int32) (own_min (1000 : Int32) ((2 : Int32) * r)) (0 : Int32) n0 h12 X13.le F14 P12_0 P12_1 ge6) (by decide) (by decide) (by rw [hml]; rfl) rfl (lenOf pd3 rfl) rfl (Nat.le_of_eq rfl) (hb hby at_166) rfl (by decide) (by decide) ?_
      intro r20 T20 h20 X20 q20
      obtain ⟨rfl, K20c, P20_0, P20_1⟩ := q20
      show Go _ _ _ _ _ _ _ T20 (mkF m 169 #[.val (.int p1), .val (.long p2), .second, .val (.int v1), .val (.int v2), .val (.int v3), .val (.int v4), .val (.int v5), .val (.ref b6), .val (.int r), .val (.int v15), .val (.int (1000 : Int32)), .val (.int (1000 : Int32)), .unset] [(.int (if (1 : Int32) < (1 : Int32) then (1 : Int32) else if (0 : Int32) = 0 then (1 : Int32) else (0 : Int32)))])
      obtain ⟨v21, hv21⟩ : ∃ zz : Int32, zz = (if (1 : Int32) < (1 : Int32) then (1 : Int32) else if (0 : Int32) = 0 then (1 : Int32) else (0 : Int32)) := ⟨_, rfl⟩
      rw [← hv21]
      refine i_istore (L' := #[.val (.int p1), .val (.long p2), .second, .val (.int v1), .val (.int v2), .val (.int v3), .val (.int v4), .val (.int v5), .val (.ref b6), .val (.int r), .val (.int v15), .val (.int (1000 : Int32)), .val (.int (1000 : Int32)), .val (.int v21)]) (pc' := 171) X20 hx (hb hby at_169) rfl rfl ?_
      refine i_iload (v := v15) (pc' := 173) X20 hx (hb hby at_171) rfl rfl ?_
      refine i_iload (v := (1000 : Int32)) (pc' := 175) X20 hx (hb hby at_173) rfl rfl ?_
      refine i_icF (pc' := 178) X20 hx (hb hby at_175) rfl (XT.ii_ne_f (by subst_vars; have e : (2 : Int32) * r = r + r := own_two r; simp [own_min, e, hc16] <;> simp_all)) ?_
      refine i_iload (v := v21) (pc' := 180) X20 hx (hb hby at_178) rfl rfl ?_
      refine i_ifF (pc' := 183) X20 hx (hb hby at_180) rfl (XT.i0_eq_f (by simp_all)) ?_
      refine i_iconst (pc' := 184) (1 : Int32) X20 hx (hb hby at_183) rfl (by decide) ?_
      refine i_goto (pc' := 188) X20 hx (hb hby at_184) (by decide) (by decide) ?_
      refine rN X20 hx hlk hret (by simp) (hb hby at_188) (by decide) (by decide) ?_
      exact rfl
  have J22 : ∀ (T22 : State) (h22 : Heap) (r : Int32) (b : Int32), Pn p l e room_1 s m #[(.int p1), (.long p2)] below meth c T22 h22 n0 1 2 → Keep h0 h22 [] → Exa Z h22 b6 "com/example/forefetch/forefetch/BatchWindow" → Fld Z h22 b6 "com/example/forefetch/forefetch/BatchWindow" "rows" "I" (.int r) → Fld Z h22 b6 "com/example/forefetch/forefetch/BatchWindow" "staleAfterFirst" "Z" (.int b) → Go p e s below n0 Q0 room_1 T22 (mkF m 102 #[.val (.int p1), .val (.long p2), .second, .val (.int v1), .val (.int v2), .val (.int v3), .val (.int v4), .val (.int v5), .val (.ref b6), .unset, .unset, .unset, .unset, .unset] []) := by
    intro T22 h22 r b  X22 K22 G22_0 G22_1 G22_2 
    refine i_iloadN (v := v1) (pc' := 103) X22 hx (hb hby at_102) rfl rfl ?_
    refine i_iconst (pc' := 104) (4 : Int32) X22 hx (hb hby at_103) rfl (by decide) ?_
    by_cases hc23 : v1 < (4 : Int32)
    · skip
      refine i_icT (pc' := 115) X22 hx (hb hby at_104) (XT.ii_lt_t hc23) (by decide) (by decide) ?_
      exact J10 _ _ r b (X22.mono (by decide) (by decide)) K22 G22_0 G22_1 G22_2 
    · skip
      refine i_icF (pc' := 107) X22 hx (hb hby at_104) rfl (XT.ii_lt_f hc23) ?_
      refine i_aload (v := (.ref b6)) (pc' := 109) X22 hx (hb hby at_107) rfl rfl rfl ?_
      refine i_iload (v := v5) (pc' := 111) X22 hx (hb hby at_109) rfl rfl ?_
      refine cV (y := (⟨"com/example/forefetch/forefetch/BatchWindow", "stale", "(I)Z"⟩ : MethodName)) (C := "com/example/forefetch/forefetch/BatchWindow") (rest := []) (pc' := 114) 0 [(.int v5)] X22 hx hZ hown (hw _ (List.mem_of_getElem? (i := 28) rfl)) (hw _ (List.mem_of_getElem? (i := 29) rfl)) (hw _ (List.mem_of_getElem? (i := 31) rfl)) (hw _ (List.mem_of_getElem? (i := 30) rfl)) (hw _ (List.mem_of_getElem? (i := 3) rfl)) (hw _ (List.mem_of_getElem? (i := 32) rfl)) (by decide) G22_0 (rm6 l Z a0 hw [] b6 v5 r b n0 h22 X22.le G22_0 G22_1 G22_2 ge6) (by decide) (by decide) (by rw [hml]; rfl) rfl (lenOf pd3 rfl) rfl (Nat.le_of_eq rfl) (hb hby at_111) rfl (by decide) (by decide) ?_
      intro r24 T24 h24 X24 q24
      obtain ⟨rfl, K24c, P24_0, P24_1⟩ := q24
      show Go _ _ _ _ _ _ _ T24 (mkF m 114 #[.val (.int p1), .val (.long p2), .second, .val (.int v1), .val (.int v2), .val (.int v3), .val (.int v4), .val (.int v5), .val (.ref b6), .unset, .unset, .unset, .unset, .unset] [(.int (if (1 : Int32) < v5 then (1 : Int32) else if b = 0 then (1 : Int32) else (0 : Int32)))])
      refine i_pop (pc' := 115) X24 hx (hb hby at_114) rfl rfl ?_
      have F25 : Exa Z h24 b6 "com/example/forefetch/forefetch/BatchWindow" := (G22_0.keep K24c)
      exact J10 _ _ (own_min (1000 : Int32) (own_max ((2 : Int32) * v5) (r / (2 : Int32)))) (if v5 = (1 : Int32) then (1 : Int32) else (0 : Int32)) (X24.mono (by decide) (by decide)) ((K22 : Keep h0 h22 []).trans K24c (allS (Or.inr sz_b6) all0)) F25 P24_0 P24_1 
  have J26 : ∀ (T26 : State) (h26 : Heap) (r : Int32) (b : Int32), Pn p l e room_1 s m #[(.int p1), (.long p2)] below meth c T26 h26 n0 1 2 → Keep h0 h26 [] → Exa Z h26 b6 "com/example/forefetch/forefetch/BatchWindow" → Fld Z h26 b6 "com/example/forefetch/forefetch/BatchWindow" "rows" "I" (.int r) → Fld Z h26 b6 "com/example/forefetch/forefetch/BatchWindow" "staleAfterFirst" "Z" (.int b) → Go p e s below n0 Q0 room_1 T26 (mkF m 89 #[.val (.int p1), .val (.long p2), .second, .val (.int v1), .val (.int v2), .val (.int v3), .val (.int v4), .val (.int v5), .val (.ref b6), .unset, .unset, .unset, .unset, .unset] []) := by
    intro T26 h26 r b  X26 K26 G26_0 G26_1 G26_2 
    refine i_iloadN (v := v1) (pc' := 90) X26 hx (hb hby at_89) rfl rfl ?_
    refine i_iconst (pc' := 91) (3 : Int32) X26 hx (hb hby at_90) rfl (by decide) ?_
    by_cases hc27 : v1 < (3 : Int32)
    · skip
      refine i_icT (pc' := 102) X26 hx (hb hby at_91) (XT.ii_lt_t hc27) (by decide) (by decide) ?_
      exact J22 _ _ r b (X26.mono (by decide) (by decide)) K26 G26_0 G26_1 G26_2 
    · skip
      refine i_icF (pc' := 94) X26 hx (hb hby at_91) rfl (XT.ii_lt_f hc27) ?_
      refine i_aload (v := (.ref b6)) (pc' := 96) X26 hx (hb hby at_94) rfl rfl rfl ?_
      refine i_iload (v := v4) (pc' := 98) X26 hx (hb hby at_96) rfl rfl ?_
      refine cV (y := (⟨"com/example/forefetch/forefetch/BatchWindow", "stale", "(I)Z"⟩ : MethodName)) (C := "com/example/forefetch/forefetch/BatchWindow") (rest := []) (pc' := 101) 0 [(.int v4)] X26 hx hZ hown (hw _ (List.mem_of_getElem? (i := 28) rfl)) (hw _ (List.mem_of_getElem? (i := 29) rfl)) (hw _ (List.mem_of_getElem? (i := 31) rfl)) (hw _ (List.mem_of_getElem? (i := 30) rfl)) (hw _ (List.mem_of_getElem? (i := 3) rfl)) (hw _ (List.mem_of_getElem? (i := 32) rfl)) (by decide) G26_0 (rm6 l Z a0 hw [] b6 v4 r b n0 h26 X26.le G26_0 G26_1 G26_2 ge6) (by decide) (by decide) (by rw [hml]; rfl) rfl (lenOf pd3 rfl) rfl (Nat.le_of_eq rfl) (hb hby at_98) rfl (by decide) (by decide) ?_
      intro r28 T28 h28 X28 q28
      obtain ⟨rfl, K28c, P28_0, P28_1⟩ := q28
      show Go _ _ _ _ _ _ _ T28 (mkF m 101 #[.val (.int p1), .val (.long p2), .second, .val (.int v1), .val (.int v2), .val (.int v3), .val (.int v4), .val (.int v5), .val (.ref b6), .unset, .unset, .unset, .unset, .unset] [(.int (if (1 : Int32) < v4 then (1 : Int32) else if b = 0 then (1 : Int32) else (0 : Int32)))])
      refine i_pop (pc' := 102) X28 hx (hb hby at_101) rfl rfl ?_
      have F29 : Exa Z h28 b6 "com/example/forefetch/forefetch/BatchWindow" := (G26_0.keep K28c)
      exact J22 _ _ (own_min (1000 : Int32) (own_max ((2 : Int32) * v4) (r / (2 : Int32)))) (if v4 = (1 : Int32) then (1 : Int32) else (0 : Int32)) (X28.mono (by decide) (by decide)) ((K26 : Keep h0 h26 []).trans K28c (allS (Or.inr sz_b6) all0)) F29 P28_0 P28_1 
  have J30 : ∀ (T30 : State) (h30 : Heap) (r : Int32) (b : Int32), Pn p l e room_1 s m #[(.int p1), (.long p2)] below meth c T30 h30 n0 1 2 → Keep h0 h30 [] → Exa Z h30 b6 "com/example/forefetch/forefetch/BatchWindow" → Fld Z h30 b6 "com/example/forefetch/forefetch/BatchWindow" "rows" "I" (.int r) → Fld Z h30 b6 "com/example/forefetch/forefetch/BatchWindow" "staleAfterFirst" "Z" (.int b) → Go p e s below n0 Q0 room_1 T30 (mkF m 76 #[.val (.int p1), .val (.long p2), .second, .val (.int v1), .val (.int v2), .val (.int v3), .val (.int v4), .val (.int v5), .val (.ref b6), .unset, .unset, .unset, .unset, .unset] []) := by
    intro T30 h30 r b  X30 K30 G30_0 G30_1 G30_2 
    refine i_iloadN (v := v1) (pc' := 77) X30 hx (hb hby at_76) rfl rfl ?_
    refine i_iconst (pc' := 78) (2 : Int32) X30 hx (hb hby at_77) rfl (by decide) ?_
    by_cases hc31 : v1 < (2 : Int32)
    · skip
      refine i_icT (pc' := 89) X30 hx (hb hby at_78) (XT.ii_lt_t hc31) (by decide) (by decide) ?_
      exact J26 _ _ r b (X30.mono (by decide) (by decide)) K30 G30_0 G30_1 G30_2 
    · skip
      refine i_icF (pc' := 81) X30 hx (hb hby at_78) rfl (XT.ii_lt_f hc31) ?_
      refine i_aload (v := (.ref b6)) (pc' := 83) X30 hx (hb hby at_81) rfl rfl rfl ?_
      refine i_iload (v := v3) (pc' := 85) X30 hx (hb hby at_83) rfl rfl ?_
      refine cV (y := (⟨"com/example/forefetch/forefetch/BatchWindow", "stale", "(I)Z"⟩ : MethodName)) (C := "com/example/forefetch/forefetch/BatchWindow") (rest := []) (pc' := 88) 0 [(.int v3)] X30 hx hZ hown (hw _ (List.mem_of_getElem? (i := 28) rfl)) (hw _ (List.mem_of_getElem? (i := 29) rfl)) (hw _ (List.mem_of_getElem? (i := 31) rfl)) (hw _ (List.mem_of_getElem? (i := 30) rfl)) (hw _ (List.mem_of_getElem? (i := 3) rfl)) (hw _ (List.mem_of_getElem? (i := 32) rfl)) (by decide) G30_0 (rm6 l Z a0 hw [] b6 v3 r b n0 h30 X30.le G30_0 G30_1 G30_2 ge6) (by decide) (by decide) (by rw [hml]; rfl) rfl (lenOf pd3 rfl) rfl (Nat.le_of_eq rfl) (hb hby at_85) rfl (by decide) (by decide) ?_
      intro r32 T32 h32 X32 q32
      obtain ⟨rfl, K32c, P32_0, P32_1⟩ := q32
      show Go _ _ _ _ _ _ _ T32 (mkF m 88 #[.val (.int p1), .val (.long p2), .second, .val (.int v1), .val (.int v2), .val (.int v3), .val (.int v4), .val (.int v5), .val (.ref b6), .unset, .unset, .unset, .unset, .unset] [(.int (if (1 : Int32) < v3 then (1 : Int32) else if b = 0 then (1 : Int32) else (0 : Int32)))])
      refine i_pop (pc' := 89) X32 hx (hb hby at_88) rfl rfl ?_
      have F33 : Exa Z h32 b6 "com/example/forefetch/forefetch/BatchWindow" := (G30_0.keep K32c)
      exact J26 _ _ (own_min (1000 : Int32) (own_max ((2 : Int32) * v3) (r / (2 : Int32)))) (if v3 = (1 : Int32) then (1 : Int32) else (0 : Int32)) (X32.mono (by decide) (by decide)) ((K30 : Keep h0 h30 []).trans K32c (allS (Or.inr sz_b6) all0)) F33 P32_0 P32_1 
  refine i_iloadN (v := v1) (pc' := 64) X9 hx (hb hby at_63) rfl rfl ?_
  refine i_iconst (pc' := 65) (1 : Int32) X9 hx (hb hby at_64) rfl (by decide) ?_
  by_cases hc34 : v1 < (1 : Int32)
  · skip
    refine i_icT (pc' := 76) X9 hx (hb hby at_65) (XT.ii_lt_t hc34) (by decide) (by decide) ?_
    have F35 : Exa Z h9 b6 "com/example/forefetch/forefetch/BatchWindow" := (A6.keep K9c)
    exact J30 _ _ (1000 : Int32) (0 : Int32) (X9.mono (by decide) (by decide)) ((K6 : Keep h0 h6 []).trans K9c (allS (Or.inr sz_b6) all0)) F35 P9_0 P9_1 
  · skip
    refine i_icF (pc' := 68) X9 hx (hb hby at_65) rfl (XT.ii_lt_f hc34) ?_
    refine i_aload (v := (.ref b6)) (pc' := 70) X9 hx (hb hby at_68) rfl rfl rfl ?_
    refine i_iload (v := v2) (pc' := 72) X9 hx (hb hby at_70) rfl rfl ?_
    have F36 : Exa Z h9 b6 "com/example/forefetch/forefetch/BatchWindow" := (A6.keep K9c)
    refine cV (y := (⟨"com/example/forefetch/forefetch/BatchWindow", "stale", "(I)Z"⟩ : MethodName)) (C := "com/example/forefetch/forefetch/BatchWindow") (rest := []) (pc' := 75) 0 [(.int v2)] X9 hx hZ hown (hw _ (List.mem_of_getElem? (i := 28) rfl)) (hw _ (List.mem_of_getElem? (i := 29) rfl)) (hw _ (List.mem_of_getElem? (i := 31) rfl)) (hw _ (List.mem_of_getElem? (i := 30) rfl)) (hw _ (List.mem_of_getElem? (i := 3) rfl)) (hw _ (List.mem_of_getElem? (i := 32) rfl)) (by decide) F36 (rm6 l Z a0 hw [] b6 v2 (1000 : Int32) (0 : Int32) n0 h9 X9.le F36 P9_0 P9_1 ge6) (by decide) (by decide) (by rw [hml]; rfl) rfl (lenOf pd3 rfl) rfl (Nat.le_of_eq rfl) (hb hby at_72) rfl (by decide) (by decide) ?_
    intro r37 T37 h37 X37 q37
    obtain ⟨rfl, K37c, P37_0, P37_1⟩ := q37
    show Go _ _ _ _ _ _ _ T37 (mkF m 75 #[.val (.int p1), .val (.long p2), .second, .val (.int v1), .val (.int v2), .val (.int v3), .val (.int v4), .val (.int v5), .val (.ref b6), .unset, .unset, .unset, .unset, .unset] [(.int (if (1 : Int32) < v2 then (1 : Int32) else if (0 : Int32) = 0 then (1 : Int32) else (0 : Int32)))])
    refine i_pop (pc' := 76) X37 hx (hb hby at_75) rfl rfl ?_
    have F38 : Exa Z h37 b6 "com/example/forefetch/forefetch/BatchWindow" := (F36.keep K37c)
    exact J30 _ _ (own_min (1000 : Int32) (own_max ((2 : Int32) * v2) ((1000 : Int32) / (2 : Int32)))) (if v2 = (1 : Int32) then (1 : Int32) else (0 : Int32)) (X37.mono (by decide) (by decide)) ((((K6 : Keep h0 h6 []).trans K9c (allS (Or.inr sz_b6) all0)) : Keep h0 h9 []).trans K37c (allS (Or.inr sz_b6) all0)) F38 P37_0 P37_1 
set_option maxRecDepth 65536 in
set_option maxHeartbeats 40000000 in
theorem comes_1 {Post : Tables → Env → Array Value → State → Outcome → State → Prop} (hpost : ∀ tb e args s v u, (limb_1_1.after args s (.returned v) u = true ∧ limb_1_2.after args s (.returned v) u = true ∧ True) → FrameEnd s (.returned v) u (Jvm.fieldLocs frame_1_writes args s ++ Jvm.arrayLocs frame_1_arrays args s ++ Jvm.staticLocs frame_1_statics s) 16 128 → Post tb e args s (.returned v) u) :
    ArmFor flags0 classFile x code maxLocals ret World_1 tables_1 room_1 Calls_1 rest_1 Pre_1 Post := by
  intro l hfl _ _ p e ha hc hk s m args below hf hA hF happ hP
  obtain ⟨hcalls, hrest, hpre⟩ := hP
  obtain ⟨-, -, -, hnamed, -, -, -, hat⟩ := (Spec.applies_iff hf).mp happ
  obtain ⟨hg, hn⟩ := and_e (Cond.before_iff.mp (show (Jvm.Cond.and given_1 narrow_1).before args s = true from hpre))
  obtain ⟨g0, k0⟩ := and_e hg
  obtain ⟨g1, k1⟩ := and_e k0
  obtain ⟨w0, w1, rfl⟩ : ∃ w0 w1 : Value, args = #[w0, w1] := by
    have hs : args.size = 2 := by simpa [Cond.value, given_1] using g0
    obtain ⟨L⟩ := args
    match L, hs with
    | [w0, w1], _ => exact ⟨w0, w1, rfl⟩
  have hw := fun d (hd : d ∈ tables_1) => atoms_spec (ws := Jvm.Cond.code x code maxLocals ret :: tables_1) hat d (List.mem_cons_of_mem _ hd)
  have hfit : Fit s := fun {y c} hc i hi => by
    obtain ⟨ha, rfl⟩ := Array.getElem?_eq_some_iff.mp hc
    have q := List.all_eq_true.mp ((Array.all_eq_true_iff_forall_mem.mp hF) _ (Array.getElem_mem ha)) i (List.mem_range.mpr hi)
    simpa [Array.getElem?_eq_getElem hi] using q
  obtain ⟨i0, ei0⟩ := is_v g1
  obtain rfl : w0 = (.int i0) := Option.some.inj ei0
  obtain ⟨i1, ei1⟩ := isL_v k1
  obtain rfl : w1 = (.long i1) := Option.some.inj ei1
  obtain ⟨n, o, h1, h2, h3, _, L, rfl, ⟨rfl, N⟩, hq⟩ := rm0 l s _ hw tables_1 i0 i1 s.heap.size s.heap (Nat.le_refl _)  p e ha hc hk s m _ below hf ((Spec.applies_iff_loose hf).mp happ).1 ⟨rfl, State.Warmed39.refl s, rfl⟩ trivial
  refine ⟨n, _, h1, h2, h3, hpost _ _ _ _ _ _ ⟨Cond.after_iff.mpr rfl, Cond.after_iff.mpr (eq_i res_at (Term.int_eval (1)) rfl), trivial⟩ ⟨hq.1, hq.2.1, (hq.2.2.sift fun y hy => Or.inr (N y hy)).mono (by decide) (by decide)⟩⟩
theorem main_1_1 : Claimed_1_1 := comes_1 fun _ _ _ _ _ _ h hF => ⟨h.1, hF⟩
theorem main_1_2 : Claimed_1_2 := comes_1 fun _ _ _ _ _ _ h hF => ⟨h.2.1, hF⟩
end Jvm.Pilot.@@N@@
namespace Jvm.Pilot.@@N@@
open Jvm Jvm.ClassFile Sem Op Lib Jvm.Free Jvm.Stand Jvm.Pilot.@@N@@.Jvm.D
/-! MADE BY PROGRAM (witnessworld.py) out of the Statement's table words and the real class files: 10 classes; the members and pool entries that the words name. The judged class is class 1, her method 1. -/
namespace start1
open Jvm.ClassFile
def u (s : String) : CpInfo := .utf8 (stringToUtf16 s)
/-- a pool by its gaps: so many unusable entries, then the entry; so many at the end -/
def gap : Nat → List CpInfo → List CpInfo
  | 0, r => r
  | n + 1, r => .unusable :: gap n r
def poolList (es : List (Nat × CpInfo)) (last : Nat) : List CpInfo := es.foldr (fun e r => gap e.1 (e.2 :: r)) (gap last [])
def pool (es : List (Nat × CpInfo)) (last : Nat) : Array CpInfo := ⟨poolList es last⟩
def fileOf (pool : Array CpInfo) (this : Nat) (attrs : Array Attribute := #[]) (ms : Array MethodInfo := #[]) (fl : Nat := 33) (sup : Nat := 0) (ifs : Array Nat := #[]) (fds : Array FieldInfo := #[]) : ClassFile where
  minorVersion := 0
  majorVersion := 65
  constantPool := pool
  accessFlags := fl
  thisClass := this
  superClass := sup
  interfaces := ifs
  fields := fds
  methods := ms
  attributes := attrs
def plain (name : String) (sup : Option ClassId) : Class where
  name := name
  kind := .ordinary
  loader := none
  accessFlags := 33
  super := sup
  interfaces := #[]
  cf := none
  fields := #[]
  methods := #[]
  instanceTypes := #[]
  staticTypes := #[]
  resolved := #[]
  callSites := []
  init := .initialized
  statics := none
  mirror := none

def pool0 : Array CpInfo := pool [(5, u "<init>"), (0, u "()V"), (1, .class_ 10), (1, u "java/lang/Object")] 113

def k0c0 : Code := { maxStack := 0, maxLocals := 1, code := object_method_1_code, exceptionTable := #[], attributes := #[] }
def k0m0 : Method := { name := "<init>", desc := "()V", sig := { parameters := [], returnType := none }, accessFlags := 1, code := some k0c0 }
/-- java/lang/Object -/
def k0 : Class := { plain "java/lang/Object" none with
  accessFlags := 33
  interfaces := #[]
  cf := some (fileOf pool0 8 #[] #[{ accessFlags := 1, nameIndex := 5, descriptorIndex := 6, attributes := #[] }] 33 0 #[] #[])
  fields := #[]
  methods := #[k0m0]
  instanceTypes := #[]
  staticTypes := #[]
  resolved := Array.replicate 124 none
  statics := none }

def pool1 : Array CpInfo := pool [(2, .class_ 4), (0, .nameAndType 5 6), (0, u "java/lang/Object"), (0, u "<init>"), (0, u "()V"), (0, .long 1023), (1, .class_ 10), (0, u "com/example/forefetch/forefetch/BatchWindow"), (0, .methodref 9 3), (0, .methodref 9 13), (0, .nameAndType 14 15), (0, u "stale"), (0, u "(I)Z"), (0, .methodref 9 17), (0, .nameAndType 18 19), (0, u "rows"), (0, u "()I"), (0, .methodref 9 21), (0, .nameAndType 22 6), (0, u "passed"), (2, .class_ 26), (0, u "com/example/forefetch/forefetch/BatchWindowPassedPinLaw"), (2, u "law"), (0, u "(IJ)Z")] 3

def k1m0 : Method := { name := "<init>", desc := "()V", sig := { parameters := [], returnType := none }, accessFlags := 1, code := none }
def k1c1 : Code := { maxStack := 4, maxLocals := 14, code := code, exceptionTable := #[], attributes := #[] }
def k1m1 : Method := { name := "law", desc := "(IJ)Z", sig := { parameters := [.int, .long], returnType := some .boolean }, accessFlags := 9, code := some k1c1 }
/-- com/example/forefetch/forefetch/BatchWindowPassedPinLaw -/
def k1 : Class := { plain "com/example/forefetch/forefetch/BatchWindowPassedPinLaw" (some 0) with
  accessFlags := 49
  interfaces := #[]
  cf := some (fileOf pool1 25 #[] #[{ accessFlags := 1, nameIndex := 5, descriptorIndex := 6, attributes := #[] }, { accessFlags := 9, nameIndex := 29, descriptorIndex := 30, attributes := #[] }] 49 2 #[] #[])
  fields := #[]
  methods := #[k1m0, k1m1]
  instanceTypes := #[]
  staticTypes := #[]
  resolved := Array.replicate 34 none
  statics := none }

def pool2 : Array CpInfo := pool [(1, .methodref 2 3), (0, .class_ 4), (0, .nameAndType 5 6), (0, u "java/lang/Object"), (0, u "<init>"), (0, u "()V"), (2, .fieldref 10 11), (0, .class_ 12), (0, .nameAndType 13 14), (0, u "com/example/forefetch/forefetch/BatchWindow"), (0, u "rows"), (0, u "I"), (0, .fieldref 10 16), (0, .nameAndType 17 18), (0, u "staleAfterFirst"), (0, u "Z"), (0, .methodref 20 21), (0, .class_ 22), (0, .nameAndType 23 24), (0, u "java/lang/Math"), (0, u "max"), (0, u "(II)I"), (0, .methodref 20 26), (0, .nameAndType 27 24), (0, u "min"), (2, u "()I"), (0, u "stale"), (0, u "(I)Z"), (1, u "passed")] 2

def k2c0 : Code := { maxStack := 2, maxLocals := 1, code := prog_5_method_1_code, exceptionTable := #[], attributes := #[] }
def k2m0 : Method := { name := "<init>", desc := "()V", sig := { parameters := [], returnType := none }, accessFlags := 0, code := some k2c0 }
def k2c1 : Code := { maxStack := 1, maxLocals := 1, code := prog_5_method_2_code, exceptionTable := #[], attributes := #[] }
def k2m1 : Method := { name := "rows", desc := "()I", sig := { parameters := [], returnType := some .int }, accessFlags := 0, code := some k2c1 }
def k2c2 : Code := { maxStack := 5, maxLocals := 3, code := prog_5_method_3_code, exceptionTable := #[], attributes := #[] }
def k2m2 : Method := { name := "stale", desc := "(I)Z", sig := { parameters := [.int], returnType := some .boolean }, accessFlags := 0, code := some k2c2 }
def k2c3 : Code := { maxStack := 4, maxLocals := 1, code := prog_5_method_4_code, exceptionTable := #[], attributes := #[] }
def k2m3 : Method := { name := "passed", desc := "()V", sig := { parameters := [], returnType := none }, accessFlags := 0, code := some k2c3 }
/-- com/example/forefetch/forefetch/BatchWindow -/
def k2 : Class := { plain "com/example/forefetch/forefetch/BatchWindow" (some 0) with
  accessFlags := 32
  interfaces := #[]
  cf := some (fileOf pool2 10 #[] #[{ accessFlags := 0, nameIndex := 5, descriptorIndex := 6, attributes := #[] }, { accessFlags := 0, nameIndex := 13, descriptorIndex := 30, attributes := #[] }, { accessFlags := 0, nameIndex := 31, descriptorIndex := 32, attributes := #[] }, { accessFlags := 0, nameIndex := 34, descriptorIndex := 6, attributes := #[] }] 32 2 #[] #[{ accessFlags := 2, nameIndex := 13, descriptorIndex := 14, attributes := #[] }, { accessFlags := 2, nameIndex := 17, descriptorIndex := 18, attributes := #[] }])
  fields := #[{ name := "rows", type := .int, accessFlags := 2, slot := 0, constantValue := 0 }, { name := "staleAfterFirst", type := .boolean, accessFlags := 2, slot := 1, constantValue := 0 }]
  methods := #[k2m0, k2m1, k2m2, k2m3]
  instanceTypes := #[.int, .boolean]
  staticTypes := #[]
  resolved := Array.replicate 37 none
  statics := none }

def pool3 : Array CpInfo := pool [(1, .class_ 2), (0, u "java/lang/Math"), (1, .class_ 6), (1, u "java/lang/Object"), (0, u "<init>"), (0, u "()V"), (89, .class_ 100), (1, u "java/lang/Math$RandomNumberGeneratorHolder"), (71, u "negativeZeroFloatBits"), (0, u "J"), (2, u "negativeZeroDoubleBits"), (21, u "max"), (2, u "min"), (43, u "$assertionsDisabled"), (0, u "Z"), (88, u "(II)I"), (2, u "twoToTheDoubleScaleDown"), (0, u "D"), (4, u "twoToTheDoubleScaleUp"), (9, u "E"), (3, u "PI"), (2, u "TAU"), (2, u "DEGREES_TO_RADIANS"), (0, u "RADIANS_TO_DEGREES")] 94

def k3m0 : Method := { name := "<init>", desc := "()V", sig := { parameters := [], returnType := none }, accessFlags := 2, code := none }
def k3c1 : Code := { maxStack := 2, maxLocals := 2, code := jdk_29_method_65_code, exceptionTable := #[], attributes := #[] }
def k3m1 : Method := { name := "max", desc := "(II)I", sig := { parameters := [.int, .int], returnType := some .int }, accessFlags := 9, code := some k3c1 }
def k3c2 : Code := { maxStack := 2, maxLocals := 2, code := jdk_29_method_69_code, exceptionTable := #[], attributes := #[] }
def k3m2 : Method := { name := "min", desc := "(II)I", sig := { parameters := [.int, .int], returnType := some .int }, accessFlags := 9, code := some k3c2 }
/-- java/lang/Math -/
def k3 : Class := { plain "java/lang/Math" (some 0) with
  accessFlags := 49
  interfaces := #[]
  cf := some (fileOf pool3 1 #[.nestMembers #[98]] #[{ accessFlags := 2, nameIndex := 7, descriptorIndex := 8, attributes := #[] }, { accessFlags := 9, nameIndex := 198, descriptorIndex := 335, attributes := #[] }, { accessFlags := 9, nameIndex := 201, descriptorIndex := 335, attributes := #[] }] 49 4 #[] #[{ accessFlags := 25, nameIndex := 354, descriptorIndex := 339, attributes := #[] }, { accessFlags := 25, nameIndex := 358, descriptorIndex := 339, attributes := #[] }, { accessFlags := 25, nameIndex := 361, descriptorIndex := 339, attributes := #[] }, { accessFlags := 26, nameIndex := 364, descriptorIndex := 339, attributes := #[] }, { accessFlags := 26, nameIndex := 365, descriptorIndex := 339, attributes := #[] }, { accessFlags := 26, nameIndex := 172, descriptorIndex := 173, attributes := #[] }, { accessFlags := 26, nameIndex := 176, descriptorIndex := 173, attributes := #[] }, { accessFlags := 8, nameIndex := 344, descriptorIndex := 339, attributes := #[] }, { accessFlags := 8, nameIndex := 338, descriptorIndex := 339, attributes := #[] }, { accessFlags := 4120, nameIndex := 245, descriptorIndex := 246, attributes := #[] }])
  fields := #[{ name := "E", type := .double, accessFlags := 25, slot := 0, constantValue := 0 }, { name := "PI", type := .double, accessFlags := 25, slot := 1, constantValue := 0 }, { name := "TAU", type := .double, accessFlags := 25, slot := 2, constantValue := 0 }, { name := "DEGREES_TO_RADIANS", type := .double, accessFlags := 26, slot := 3, constantValue := 0 }, { name := "RADIANS_TO_DEGREES", type := .double, accessFlags := 26, slot := 4, constantValue := 0 }, { name := "negativeZeroFloatBits", type := .long, accessFlags := 26, slot := 5, constantValue := 0 }, { name := "negativeZeroDoubleBits", type := .long, accessFlags := 26, slot := 6, constantValue := 0 }, { name := "twoToTheDoubleScaleUp", type := .double, accessFlags := 8, slot := 7, constantValue := 0 }, { name := "twoToTheDoubleScaleDown", type := .double, accessFlags := 8, slot := 8, constantValue := 0 }, { name := "$assertionsDisabled", type := .boolean, accessFlags := 4120, slot := 9, constantValue := 0 }]
  methods := #[k3m0, k3m1, k3m2]
  instanceTypes := #[]
  staticTypes := #[.double, .double, .double, .double, .double, .long, .long, .double, .double, .boolean]
  resolved := Array.replicate 460 none
  statics := none }

def pool4 : Array CpInfo := pool [(1, u "java/lang/Cloneable"), (0, .class_ 1), (0, u "java/lang/Object"), (0, .class_ 3)] 3

/-- java/lang/Cloneable -/
def k4 : Class := { plain "java/lang/Cloneable" (some 0) with
  accessFlags := 1537
  interfaces := #[]
  cf := some (fileOf pool4 2 #[] #[] 1537 4 #[] #[])
  fields := #[]
  methods := #[]
  instanceTypes := #[]
  staticTypes := #[]
  resolved := Array.replicate 8 none
  statics := none }

def pool5 : Array CpInfo := pool [(1, u "java/io/Serializable"), (0, .class_ 1), (0, u "java/lang/Object"), (0, .class_ 3)] 3

/-- java/io/Serializable -/
def k5 : Class := { plain "java/io/Serializable" (some 0) with
  accessFlags := 1537
  interfaces := #[]
  cf := some (fileOf pool5 2 #[] #[] 1537 4 #[] #[])
  fields := #[]
  methods := #[]
  instanceTypes := #[]
  staticTypes := #[]
  resolved := Array.replicate 8 none
  statics := none }

/-- the primitive byte -/
def k6 : Class := { plain "byte" none with kind := .primitive 'B', accessFlags := 0x411 }
/-- [B -/
def k7 : Class := { plain "[B" (some 0) with kind := .array 6 .byte, interfaces := #[4, 5], accessFlags := 1041 }

/-- the primitive int -/
def k8 : Class := { plain "int" none with kind := .primitive 'I', accessFlags := 0x411 }
/-- [I -/
def k9 : Class := { plain "[I" (some 0) with kind := .array 8 .int, interfaces := #[4, 5], accessFlags := 1041 }

def heap : Heap := #[]
def classes : Array Class := #[k0, k1, k2, k3, k4, k5, k6, k7, k8, k9]
def interned : List (Array UInt16 × Addr) := []
def slotsUsed : Nat := 0
def theMethod : MethodId := ⟨1, 1⟩
def args0 : Array Value := #[.int 3, .long 77]
def aboutOver (below : List Frame) : State where
  vm := { classes := classes, interned := interned.toArray }
  heap := heap
  slotsUsed := slotsUsed
  threads := #[{ frames := .invoking theMethod args0 :: below }]
def below0 : List Frame := [.native { method := ⟨0, 0⟩, args := #[] }]
def about1 : State := aboutOver below0
def p0 : Program := .bare "" "" ""
def e0 : Env := launch0.env 0 0 0
theorem w_frames : about1.frames = Frame.invoking theMethod args0 :: below0 := rfl
set_option maxRecDepth 65536 in
theorem w_args : argsFit about1.vm theMethod args0 = true := by decide +kernel
set_option maxRecDepth 65536 in
theorem w_heap : heapFits about1 = true := by decide +kernel
set_option maxRecDepth 65536 in
theorem w_runnable : about1.curStatus? = some .runnable := by decide +kernel
set_option maxRecDepth 65536 in
theorem w_alone : about1.alone = true := by decide +kernel
set_option maxRecDepth 65536 in
theorem w_named : about1.methodNamed? x = some theMethod := by decide +kernel
set_option maxRecDepth 65536 in
theorem w_hears : about1.hears theMethod below0 = true := by decide +kernel
set_option maxRecDepth 65536 in
theorem w_ripe : about1.ripe theMethod args0 below0 = true := by decide +kernel
theorem w_running : about1.status = .running := rfl
set_option maxRecDepth 65536 in
theorem w_room : about1.hasRoom e0.platform room_1 = true :=
  launch0.hasRoom_least _ room_1 (by decide +kernel) (by decide +kernel) (by decide +kernel) (by decide +kernel) (by decide +kernel) (by decide +kernel)
theorem allAtoms_all (ts : List Jvm.Cond) (a : Array Jvm.Value) (st : Jvm.State) : (allAtoms ts).before a st = ts.all (fun c => c.before a st) := by
  induction ts with
  | nil => rfl
  | cons c t ih =>
    show (Jvm.Cond.and c (allAtoms t)).before a st = _
    rw [Jvm.Cond.before_and, ih, List.all_cons]
def words1 : List Jvm.Cond := Jvm.Cond.code x code maxLocals ret :: tables_1
/-- a 'code' word, met by the world's own term for the bytes: nothing is compared byte by byte -/
theorem code_word {y : MethodName} {bytes : ByteArray} {mx : Nat} {rt : Option FieldType} {a : Array Value} {s : State} {m : MethodId} {meth : Method} {c : Code} (h1 : s.methodNamed? y = some m) (h2 : s.vm.method? m = some meth) (h3 : meth.code = some c) (h4 : c.code = bytes)
    (h5 : (c.maxLocals == mx && c.exceptionTable.isEmpty && decide (c.maxStack ≤ mostOperands) && decide (meth.sig.returnType = rt) && !meth.locks && decide (parseMethodDescriptor y.desc = some meth.sig)) = true) : (Jvm.Cond.code y bytes mx rt).before a s = true := by
  simp only [Bool.and_eq_true, beq_iff_eq, Bool.not_eq_true', decide_eq_true_eq] at h5
  obtain ⟨⟨⟨⟨⟨g1, g2⟩, g3⟩, g4⟩, g5⟩, g6⟩ := h5
  simp [Cond.before, Cond.holds, Cond.value, h1, h2, h3, h4, g1, g2, g3, g4, g5, g6]
def isCode : Jvm.Cond → Bool
  | .code _ _ _ _ => true
  | _ => false
theorem all_split {L : List Jvm.Cond} {P : Jvm.Cond → Bool} (h1 : L.all (fun c => isCode c || P c) = true) (h2 : ∀ c ∈ L.filter isCode, P c = true) : L.all P = true := by
  refine List.all_eq_true.mpr fun c hc => ?_
  have h := List.all_eq_true.mp h1 c hc
  rcases Bool.eq_false_or_eq_true (isCode c) with hi | hi
  · exact h2 c (List.mem_filter.mpr ⟨hc, hi⟩)
  · simpa [hi] using h
set_option maxRecDepth 65536 in
theorem w_c0 : (Jvm.Cond.code x code maxLocals ret).before args0 about1 = true := code_word (m := ⟨1, 1⟩) (meth := k1m1) (c := k1c1) (by decide +kernel) rfl rfl rfl (by decide +kernel)
set_option maxRecDepth 65536 in
theorem w_c1 : (Jvm.Cond.code ({ cls := "com/example/forefetch/forefetch/BatchWindow", name := "<init>", desc := "()V" } : Jvm.MethodName) prog_5_method_1_code (1 : Nat) (Option.none : Option Jvm.ClassFile.FieldType)).before args0 about1 = true := code_word (m := ⟨2, 0⟩) (meth := k2m0) (c := k2c0) (by decide +kernel) rfl rfl rfl (by decide +kernel)
set_option maxRecDepth 65536 in
theorem w_c2 : (Jvm.Cond.code ({ cls := "java/lang/Object", name := "<init>", desc := "()V" } : Jvm.MethodName) object_method_1_code (1 : Nat) (Option.none : Option Jvm.ClassFile.FieldType)).before args0 about1 = true := code_word (m := ⟨0, 0⟩) (meth := k0m0) (c := k0c0) (by decide +kernel) rfl rfl rfl (by decide +kernel)
set_option maxRecDepth 65536 in
theorem w_c3 : (Jvm.Cond.code ({ cls := "com/example/forefetch/forefetch/BatchWindow", name := "rows", desc := "()I" } : Jvm.MethodName) prog_5_method_2_code (1 : Nat) (Option.some Jvm.ClassFile.FieldType.int)).before args0 about1 = true := code_word (m := ⟨2, 1⟩) (meth := k2m1) (c := k2c1) (by decide +kernel) rfl rfl rfl (by decide +kernel)
set_option maxRecDepth 65536 in
theorem w_c4 : (Jvm.Cond.code ({ cls := "com/example/forefetch/forefetch/BatchWindow", name := "passed", desc := "()V" } : Jvm.MethodName) prog_5_method_4_code (1 : Nat) (Option.none : Option Jvm.ClassFile.FieldType)).before args0 about1 = true := code_word (m := ⟨2, 3⟩) (meth := k2m3) (c := k2c3) (by decide +kernel) rfl rfl rfl (by decide +kernel)
set_option maxRecDepth 65536 in
theorem w_c5 : (Jvm.Cond.code ({ cls := "java/lang/Math", name := "min", desc := "(II)I" } : Jvm.MethodName) jdk_29_method_69_code (2 : Nat) (Option.some Jvm.ClassFile.FieldType.int)).before args0 about1 = true := code_word (m := ⟨3, 2⟩) (meth := k3m2) (c := k3c2) (by decide +kernel) rfl rfl rfl (by decide +kernel)
set_option maxRecDepth 65536 in
theorem w_c6 : (Jvm.Cond.code ({ cls := "com/example/forefetch/forefetch/BatchWindow", name := "stale", desc := "(I)Z" } : Jvm.MethodName) prog_5_method_3_code (3 : Nat) (Option.some Jvm.ClassFile.FieldType.boolean)).before args0 about1 = true := code_word (m := ⟨2, 2⟩) (meth := k2m2) (c := k2c2) (by decide +kernel) rfl rfl rfl (by decide +kernel)
set_option maxRecDepth 65536 in
theorem w_c7 : (Jvm.Cond.code ({ cls := "java/lang/Math", name := "max", desc := "(II)I" } : Jvm.MethodName) jdk_29_method_65_code (2 : Nat) (Option.some Jvm.ClassFile.FieldType.int)).before args0 about1 = true := code_word (m := ⟨3, 1⟩) (meth := k3m1) (c := k3c1) (by decide +kernel) rfl rfl rfl (by decide +kernel)
def codes1 : List Jvm.Cond := [Jvm.Cond.code x code maxLocals ret, Jvm.Cond.code ({ cls := "com/example/forefetch/forefetch/BatchWindow", name := "<init>", desc := "()V" } : Jvm.MethodName) prog_5_method_1_code (1 : Nat) (Option.none : Option Jvm.ClassFile.FieldType), Jvm.Cond.code ({ cls := "java/lang/Object", name := "<init>", desc := "()V" } : Jvm.MethodName) object_method_1_code (1 : Nat) (Option.none : Option Jvm.ClassFile.FieldType), Jvm.Cond.code ({ cls := "com/example/forefetch/forefetch/BatchWindow", name := "rows", desc := "()I" } : Jvm.MethodName) prog_5_method_2_code (1 : Nat) (Option.some Jvm.ClassFile.FieldType.int), Jvm.Cond.code ({ cls := "com/example/forefetch/forefetch/BatchWindow", name := "passed", desc := "()V" } : Jvm.MethodName) prog_5_method_4_code (1 : Nat) (Option.none : Option Jvm.ClassFile.FieldType), Jvm.Cond.code ({ cls := "java/lang/Math", name := "min", desc := "(II)I" } : Jvm.MethodName) jdk_29_method_69_code (2 : Nat) (Option.some Jvm.ClassFile.FieldType.int), Jvm.Cond.code ({ cls := "com/example/forefetch/forefetch/BatchWindow", name := "stale", desc := "(I)Z" } : Jvm.MethodName) prog_5_method_3_code (3 : Nat) (Option.some Jvm.ClassFile.FieldType.boolean), Jvm.Cond.code ({ cls := "java/lang/Math", name := "max", desc := "(II)I" } : Jvm.MethodName) jdk_29_method_65_code (2 : Nat) (Option.some Jvm.ClassFile.FieldType.int)]
set_option maxRecDepth 65536 in
theorem codes_eq : words1.filter isCode = codes1 := rfl
theorem w_codes : ∀ c ∈ words1.filter isCode, c.before args0 about1 = true := by
  rw [codes_eq]
  intro c hc
  simp only [codes1, List.mem_cons, List.not_mem_nil, or_false] at hc
  rcases hc with rfl | rfl | rfl | rfl | rfl | rfl | rfl | rfl
  · exact w_c0
  · exact w_c1
  · exact w_c2
  · exact w_c3
  · exact w_c4
  · exact w_c5
  · exact w_c6
  · exact w_c7
set_option maxRecDepth 65536 in
theorem w_t1 : (words1.take 24).all (fun c => isCode c || c.before args0 about1) = true := by decide +kernel
set_option maxRecDepth 65536 in
theorem w_t2 : (words1.drop 24).all (fun c => isCode c || c.before args0 about1) = true := by decide +kernel
theorem w_tables : (allAtoms (Jvm.Cond.code x code maxLocals ret :: tables_1)).before args0 about1 = true := by
  rw [allAtoms_all]
  show words1.all (fun c => c.before args0 about1) = true
  refine all_split ?_ w_codes
  rw [← List.take_append_drop 24 words1, List.all_append, w_t1, w_t2]
  rfl
set_option maxRecDepth 65536 in
theorem w_case : (Jvm.Cond.and given_1 narrow_1).before args0 about1 = true := by decide +kernel
theorem w_applies : (headSpec (Jvm.Cond.code x code maxLocals ret :: tables_1) room_1).applies x e0.platform about1 = true :=
  (Spec.applies_iff w_frames).mpr ⟨w_running, w_runnable, w_alone, w_named, w_hears, w_ripe, w_room, w_tables⟩
theorem atStart : AtStart classFile x code maxLocals ret World_1 tables_1 room_1 Calls_1 rest_1 Pre_1 launch0 p0 e0 about1 theMethod args0 below0 :=
  ⟨lists_1, trivial, launch0.admits_env _ _ _, launch0.least_env, fairChoices_fair.cas, fairChoices_fair.clock, w_frames, w_args, w_heap, w_applies, trivial, trivial, w_case⟩
end start1
theorem witness_1 : WitnessClaimed_1 := ⟨start1.p0, start1.e0, start1.about1, start1.theMethod, start1.args0, start1.below0, start1.atStart⟩
end Jvm.Pilot.@@N@@
