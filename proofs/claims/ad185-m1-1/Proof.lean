import JvmDerived
import JvmDerived.Pilot.@@N@@Statement
import JvmDerived.Pilot.@@N@@Code
set_option linter.unusedVariables false
set_option linter.unusedSimpArgs false
namespace Jvm.OwnKit
open Sem ClassFile Op Lib Jvm.Stand Jvm.Free Jvm.LawKit Jvm.RoadKit
section Own
variable {p : Program} {l : Launch} {e : Env} {R : Room} {s : State} {m : MethodId} {args : Array Value} {below : List Frame} {meth : Method} {c : Code} {T : State} {h : Heap} {n0 cells slots : Nat} {Z : State} {a0 : Array Value} {Q : Option Value → Heap → Prop} {pc pc' : Nat} {Ls : Array Slot} {S rest : List Value}
/-- where the walk stands: over T, whose heap is h; nothing older than n0 was written -/
def Pn (p : Program) (l : Launch) (e : Env) (R : Room) (s : State) (m : MethodId) (args : Array Value) (below : List Frame) (meth : Method) (c : Code) (T : State) (h : Heap) (n0 cells slots : Nat) : Prop :=
  T.heap = h ∧ n0 ≤ s.heap.size ∧ ∃ locs, Stand p l e R s m args below meth c T locs cells slots ∧ Fr n0 locs
theorem Pn.here (X : Pn p l e R s m args below meth c T h n0 cells slots) : At T m c below := by obtain ⟨_, _, _, X, _⟩ := X; exact X.here
theorem Pn.le (X : Pn p l e R s m args below meth c T h n0 cells slots) : n0 ≤ h.size := by
  obtain ⟨e0, hn, _, X, _⟩ := X
  have q : s.heap.size ≤ T.heap.size := X.same.2.1
  rw [← e0]; exact Nat.le_trans hn q
theorem Pn.mono (X : Pn p l e R s m args below meth c T h n0 cells slots) {cells' slots' : Nat} (hc : cells ≤ cells') (hs : slots ≤ slots') : Pn p l e R s m args below meth c T h n0 cells' slots' := by
  obtain ⟨e0, hn, L, X, N⟩ := X
  exact ⟨e0, hn, L, ⟨X.admits, X.cas, X.clock, X.frames, X.room, X.hears, X.method, X.code, X.here, X.tail, X.warmed, X.limits, X.bytes, X.same.mono hc hs⟩, N⟩
/-- from here the run comes to a return that Q speaks of -/
def Go (p : Program) (e : Env) (s : State) (below : List Frame) (n0 : Nat) (Q : Option Value → Heap → Prop) (R : Room) (T : State) (f : JFrame) : Prop :=
  ∃ V, Steps p.tables e below (T.setTop f) V ∧ V.status = .running ∧ ∃ v L, Ended V below (.returned v) ∧ Q v V.heap ∧ Fr n0 L ∧ FrameEnd s (.returned v) V L R.cells R.slots
theorem stp {T' : State} {f f' : JFrame} (k : ∀ t, Steps p.tables e below (T'.setTop f') t → Steps p.tables e below (T.setTop f) t) (g : Go p e s below n0 Q R T' f') : Go p e s below n0 Q R T f := by
  obtain ⟨V, h1, h2⟩ := g; exact ⟨V, k V h1, h2⟩
def Con (l : Launch) (Z : State) (y : MethodName) (bytes : ByteArray) (maxL : Nat) (ret : Option FieldType) (ws : List Jvm.Cond) (rm : Room) (as : Array Value) (h0 : Heap) (n0 : Nat) (Q : Option Value → Heap → Prop) : Prop :=
  MetFree l y (head1 (Jvm.Cond.code y bytes maxL ret :: ws) rm) (fun a U => a = as ∧ Z.Warmed39 U.vm ∧ U.heap = h0) (fun _ _ _ _ _ => True) (fun _ U o U' => ∃ v L, o = .returned v ∧ (Q v U'.heap ∧ Fr n0 L) ∧ FrameEnd U o U' L rm.cells rm.slots)
theorem body {y : MethodName} {bytes : ByteArray} {maxL : Nat} {ret : Option FieldType} {ws : List Jvm.Cond} {rm : Room} {as : Array Value} {h0 : Heap} (hp : plainFor y = true) (hn : n0 ≤ h0.size) (ent : ∀ m, entryFrame m as maxL = mkF m 0 Ls [])
    (walk : ∀ (p : Program) (e : Env) (s : State) (m : MethodId) (below : List Frame) (meth : Method) (c : Code) (T : State), p.tables.exec = Jvm.exec → c.code = bytes → c.maxLocals = maxL → s.vm.findClass y.cls = some m.cls → meth.name = y.name → meth.sig.returnType = ret → meth.locks = false → Z.Warmed39 s.vm →
      Pn p l e rm s m as below meth c T h0 n0 0 0 → Go p e s below n0 Q rm T (mkF m 0 Ls [])) : Con l Z y bytes maxL ret ws rm as h0 n0 Q := by
  refine MetFree.of_bodySF hp hisR ?_
  intro p e s m args below meth c s₁ Bd hml0 hP hK
  obtain ⟨rfl, hZ, hh⟩ := hP
  have hown : s.vm.findClass y.cls = some m.cls := findClass_of_methodNamed Bd.named
  have hnm := (name_of_methodNamed Bd.named Bd.method).1
  have X0 : Stand p l e rm s m _ below meth c s₁ [] 0 0 := Stand.of_body Bd
  have e0 : s₁.heap = h0 := by rw [← hh, Bd.state]; rfl
  obtain ⟨V, h1, h2, v, L, h3, h4, h5, h6⟩ := walk p e s m below meth c s₁ Bd.exec Bd.bytes hml0 hown hnm Bd.returns Bd.notSynchronized hZ ⟨e0, by rw [hh]; exact hn, [], X0, Fr.nil n0⟩
  exact ⟨V, _, castTop (ent m) h1, h2, h3, v, L, rfl, ⟨h4, h5⟩, h6⟩
/-! the ends -/
theorem fin (X : Pn p l e R s m args below meth c T h n0 cells slots) (hlk : meth.locks = false) {v : Option Value} (hv : meth.sig.returnType = none → v = none) (hc : cells ≤ R.cells) (hs : slots ≤ R.slots) (hq : Q v h) {f : JFrame}
    (k : ∀ locs, Stand p l e R s m args below meth c T locs cells slots → ∀ fs, (∀ (f : JFrame) (acts : List Action), f.method = m → f.locked = none → f.entered = [] → (doReturn e (T.setTop f) acts v).1 = T.setFrames fs) → Steps p.tables e below (T.setTop f) (T.setFrames fs)) : Go p e s below n0 Q R T f := by
  obtain ⟨e0, hn, locs, Y, N⟩ := X
  obtain ⟨fs, hr, hrun, hended, hW, hsame⟩ := Y.leave hv hlk
  refine ⟨_, k locs Y fs hr, hrun, v, locs, hended, ?_, N, ⟨_, rfl⟩, hW, hsame.mono hc hs⟩
  show Q v T.heap
  rw [e0]; exact hq
theorem rI {z : Int32} (X : Pn p l e R s m args below meth c T h n0 cells slots) (hx : p.tables.exec = Jvm.exec) (hlk : meth.locks = false) (hret : meth.sig.returnType = some .int) (hd : decode c.code pc = .ok (.ireturn, 1)) (hc : cells ≤ R.cells) (hs : slots ≤ R.slots) (hq : Q (some (.int z)) h) :
    Go p e s below n0 Q R T (mkF m pc Ls (.int z :: S)) :=
  fin X hlk (fun q => by rw [hret] at q; cases q) hc hs hq fun _ Y fs hr => retOut Y hx hret rfl (Or.inl ⟨rfl, Or.inl rfl, z, rfl⟩) hd hr
theorem rN {z : Int32} {t : FieldType} (X : Pn p l e R s m args below meth c T h n0 cells slots) (hx : p.tables.exec = Jvm.exec) (hlk : meth.locks = false) (hret : meth.sig.returnType = some t) (ht : t = .boolean ∨ t = .byte ∨ t = .char ∨ t = .short) (hd : decode c.code pc = .ok (.ireturn, 1)) (hc : cells ≤ R.cells) (hs : slots ≤ R.slots) (hq : Q (some (.int (nar t z))) h) :
    Go p e s below n0 Q R T (mkF m pc Ls (.int z :: S)) :=
  fin X hlk (fun q => by rw [hret] at q; cases q) hc hs hq fun _ Y fs hr => retN Y hx hret ht hd hr
theorem rL {z : Int64} (X : Pn p l e R s m args below meth c T h n0 cells slots) (hx : p.tables.exec = Jvm.exec) (hlk : meth.locks = false) (hret : meth.sig.returnType = some .long) (hd : decode c.code pc = .ok (.lreturn, 1)) (hc : cells ≤ R.cells) (hs : slots ≤ R.slots) (hq : Q (some (.long z)) h) :
    Go p e s below n0 Q R T (mkF m pc Ls (.long z :: S)) :=
  fin X hlk (fun q => by rw [hret] at q; cases q) hc hs hq fun _ Y fs hr => retOut Y hx hret rfl (Or.inr (Or.inl ⟨rfl, rfl, z, rfl⟩)) hd hr
theorem rA {w : Value} {t : FieldType} (X : Pn p l e R s m args below meth c T h n0 cells slots) (hx : p.tables.exec = Jvm.exec) (hlk : meth.locks = false) (hret : meth.sig.returnType = some t) (ht : t.isReference = true) (hw : w.isRef = true) (hn : narrow t w = w) (hd : decode c.code pc = .ok (.areturn, 1)) (hc : cells ≤ R.cells) (hs : slots ≤ R.slots) (hq : Q (some w) h) :
    Go p e s below n0 Q R T (mkF m pc Ls (w :: S)) :=
  fin X hlk (fun q => by rw [hret] at q; cases q) hc hs hq fun _ Y fs hr => retOut Y hx hret hn (Or.inr (Or.inr (Or.inr (Or.inr ⟨rfl, ht, hw⟩)))) hd hr
theorem rV (X : Pn p l e R s m args below meth c T h n0 cells slots) (hx : p.tables.exec = Jvm.exec) (hlk : meth.locks = false) (hret : meth.sig.returnType = none) (hd : decode c.code pc = .ok (.return_, 1)) (hc : cells ≤ R.cells) (hs : slots ≤ R.slots) (hq : Q none h) :
    Go p e s below n0 Q R T (mkF m pc Ls []) :=
  fin X hlk (fun _ => rfl) hc hs hq fun _ Y fs hr => Y.returnOut hx hret hd hr
/-! heap and tables -/
theorem gf {own R0 O n d host : String} {index : Nat} {a : Addr} {v : Value} (X : Pn p l e R s m args below meth c T h n0 cells slots) (hx : p.tables.exec = Jvm.exec) (hZ : Z.Warmed39 s.vm) (hown : s.vm.findClass own = some m.cls) (w : (Cond.fieldLink own index R0 n d).before a0 Z = true ∨ (Cond.fieldLinkNest own index R0 n d host).before a0 Z = true) (via : Via Z R0 O n d)
    (F : Fld Z h a O n d v) (hd : decode c.code pc = .ok (.getfield index, 3)) (hp : pc + 3 = pc') (k : ∀ T', Pn p l e R s m args below meth c T' h n0 cells slots → Go p e s below n0 Q R T' (mkF m pc' Ls (v :: S))) : Go p e s below n0 Q R T (mkF m pc Ls (.ref a :: S)) := by
  subst hp
  obtain ⟨e0, hn, locs, Y, N⟩ := X
  obtain ⟨T', Y', e', st⟩ := getF Y hx hZ hown w via e0 F (g := mkF m pc Ls (.ref a :: S)) rfl rfl hd
  exact stp st (k T' ⟨e', hn, locs, Y', N⟩)
theorem gs {own R0 O n d host : String} {index : Nat} {v : Value} (X : Pn p l e R s m args below meth c T h n0 cells slots) (hx : p.tables.exec = Jvm.exec) (hZ : Z.Warmed39 s.vm) (hown : s.vm.findClass own = some m.cls) (w : (Cond.fieldLink own index R0 n d).before a0 Z = true ∨ (Cond.fieldLinkNest own index R0 n d host).before a0 Z = true) (via : Via Z R0 O n d)
    (F : Sta Z h O n d v) (hd : decode c.code pc = .ok (.getstatic index, 3)) (hp : pc + 3 = pc') (k : ∀ T', Pn p l e R s m args below meth c T' h n0 cells slots → Go p e s below n0 Q R T' (mkF m pc' Ls (v :: S))) : Go p e s below n0 Q R T (mkF m pc Ls S) := by
  subst hp
  obtain ⟨e0, hn, locs, Y, N⟩ := X
  obtain ⟨T', Y', e', st⟩ := getS2 Y hx hZ hown w via e0 F (g := mkF m pc Ls S) rfl hd
  exact stp st (k T' ⟨e', hn, locs, Y', N⟩)
theorem pf {own R0 O n d host C : String} {index kk : Nat} {ty : FieldType} {a : Addr} {v old : Value} (X : Pn p l e R s m args below meth c T h n0 cells slots) (hx : p.tables.exec = Jvm.exec) (hZ : Z.Warmed39 s.vm) (hown : s.vm.findClass own = some m.cls) (w : (Cond.fieldLink own index R0 n d).before a0 Z = true ∨ (Cond.fieldLinkNest own index R0 n d host).before a0 Z = true) (via : Via Z R0 O n d)
    (F : Fld Z h a O n d old) (E : Exa Z h a C) (L : (Cond.lays C O n d).before a0 Z = true ∨ ((Cond.laysFinal C O n d).before a0 Z = true ∧ own = O ∧ meth.name = "<init>")) (wi : (Cond.instantiable C kk).before a0 Z = true)
    (hty : parseFieldDescriptor d = some ty) (hn : narrow ty v = v) (hf : fits ty v = true) (ge : n0 ≤ a) (hd : decode c.code pc = .ok (.putfield index, 3)) (hp : pc + 3 = pc')
    (k : ∀ T' h', Pn p l e R s m args below meth c T' h' n0 cells slots → Wr h h' a (Jvm.RoadKit.slotOf Z O n d) v → Go p e s below n0 Q R T' (mkF m pc' Ls S)) : Go p e s below n0 Q R T (mkF m pc Ls (v :: .ref a :: S)) := by
  subst hp
  obtain ⟨e0, hm, locs, Y, N⟩ := X
  obtain ⟨T', h', Y', e', W, st⟩ := putF Y hx hZ hown w via e0 F E L wi hty hn hf (g := mkF m pc Ls (v :: .ref a :: S)) rfl rfl hd
  exact stp st (k T' h' ⟨e', hm, _, Y', Fr.snoc Y' N ge⟩ W)
theorem nw {own C : String} {index n : Nat} (X : Pn p l e R s m args below meth c T h n0 cells slots) (hx : p.tables.exec = Jvm.exec) (hZ : Z.Warmed39 s.vm) (hown : s.vm.findClass own = some m.cls) (w : (Cond.classLink own index C).before a0 Z = true) (wi : (Cond.instantiable C n).before a0 Z = true) (wz : (Cond.initialized C).before a0 Z = true)
    (hd : decode c.code pc = .ok (.new index, 3)) (hp : pc + 3 = pc') (hc : cells + 1 ≤ R.cells) (hl : slots + n ≤ R.slots)
    (k : ∀ T' h' b, Pn p l e R s m args below meth c T' h' n0 (cells + 1) (slots + n) → b = h.size → n0 ≤ b → Ext h h' → Exa Z h' b C → (∀ {O nm d : String} {ty : FieldType}, Laid Z a0 C O nm d → parseFieldDescriptor d = some ty → Fld Z h' b O nm d (defaultValue ty)) → Go p e s below n0 Q R T' (mkF m pc' Ls (.ref b :: S))) :
    Go p e s below n0 Q R T (mkF m pc Ls S) := by
  subst hp
  have q := X.le
  obtain ⟨e0, hn, locs, Y, N⟩ := X
  obtain ⟨T', h', Y', e', E', A', D', -, st⟩ := newO Y hx hZ hown w wi wz e0 (g := mkF m pc Ls S) rfl hd hc hl
  exact stp st (k T' h' _ ⟨e', hn, _, Y', N⟩ rfl q E' A' D')
theorem oi {own : String} {idx : Nat} {a : Addr} {W : Nat} (X : Pn p l e R s m args below meth c T h n0 cells slots) (hx : p.tables.exec = Jvm.exec) (hZ : Z.Warmed39 s.vm) (hown : s.vm.findClass own = some m.cls) (w1 : (Cond.methodLink own idx Lib.objectInit).before a0 Z = true) (w2 : (Cond.instanceMethod Lib.objectInit).before a0 Z = true) (w3 : (Cond.code Lib.objectInit ⟨#[0xb1]⟩ 1 none).before a0 Z = true)
    (hsize : Ls.size = c.maxLocals) (hd : decode c.code pc = .ok (.invokespecial idx, 3)) (hp : pc + 3 = pc') (hf : 1 ≤ R.frames) (hW : (S.map fun v => v.category).sum ≤ W) (hl : W + 12 ≤ R.locals)
    (k : ∀ T', Pn p l e R s m args below meth c T' h n0 cells slots → Go p e s below n0 Q R T' (mkF m pc' Ls S)) : Go p e s below n0 Q R T (mkF m pc Ls (.ref a :: S)) := by
  subst hp
  obtain ⟨e0, hn, locs, Y, N⟩ := X
  obtain ⟨T', Y', e', st⟩ := initO Y hx hZ hown w1 w2 w3 e0 (g := mkF m pc Ls (.ref a :: S)) rfl hsize rfl hd hf (W := W) (by show 2 * 0 + _ ≤ _; omega) hl
  exact stp st (k T' ⟨e', hn, locs, Y', N⟩)
/-! calls by their contracts -/
theorem cS {own : String} {index : Nat} {y : MethodName} {bytes : ByteArray} {maxL : Nat} {ret : Option FieldType} {rm : Room} {as : Array Value} {Q' : Option Value → Heap → Prop} (W : Nat) (argsL : List Value) (X : Pn p l e R s m args below meth c T h n0 cells slots) (hx : p.tables.exec = Jvm.exec) (hZ : Z.Warmed39 s.vm) (hown : s.vm.findClass own = some m.cls)
    (w1 : (Cond.methodLink own index y).before a0 Z = true) (w2 : (Cond.static y).before a0 Z = true) (w3 : (Cond.initialized y.cls).before a0 Z = true) (w4 : (Cond.code y bytes maxL ret).before a0 Z = true) (hy : y.cls ≠ "java/lang/invoke/MethodHandle" ∧ y.cls ≠ "java/lang/invoke/VarHandle")
    (hM : Con l Z y bytes maxL ret [] rm as h n0 Q') (hf : rm.frames + 1 ≤ R.frames) (hl : W + (maxL + 11) + rm.locals ≤ R.locals) (hsz : Ls.size = c.maxLocals) (has : as = argsL.toArray) (hlen : ∀ sig, parseMethodDescriptor y.desc = some sig → argsL.length = sig.parameters.length) (hst : S = argsL.reverse ++ rest) (hW : (rest.map fun v => v.category).sum ≤ W)
    (hd : decode c.code pc = .ok (.invokestatic index, 3)) (hp : pc + 3 = pc') (hc : cells + rm.cells ≤ R.cells) (hs : slots + rm.slots ≤ R.slots)
    (k : ∀ v T' h', Pn p l e R s m args below meth c T' h' n0 (cells + rm.cells) (slots + rm.slots) → Q' v h' → Go p e s below n0 Q R T' (mkF m pc' Ls (v.toList ++ rest))) : Go p e s below n0 Q R T (mkF m pc Ls S) := by
  subst hp has
  obtain ⟨e0, hn, locs, Y, N⟩ := X
  obtain ⟨v, _, ⟨T', L', k', n'⟩, -, Y', ⟨Lc, ⟨hq, hN⟩, l', y', z'⟩, st⟩ := Jvm.LawKit.callS Y hx (y := y) hown (mvT hZ w1) (mvT hZ w2) (mvT hZ w3) (mvT hZ w4) hy (backOf (W := W) (Q := fun v h L => Q' v h ∧ Fr n0 L) hM hZ w4 w3 hf hl) (g := mkF m pc Ls S) rfl hsz (argsL := argsL) (rest := rest) hlen hst (by show 2 * 0 + _ ≤ _; omega) hd (fun _ _ => ⟨rfl, e0, hc, hs⟩)
  dsimp only [Pt.U, Pt.locs, Pt.cells, Pt.slots] at Y' l' y' z' st hq
  subst l' y' z'
  exact stp st (k v T' _ ⟨rfl, hn, _, Y', N.app hN⟩ hq)
theorem cI {own : String} {index : Nat} {y : MethodName} {bytes : ByteArray} {maxL : Nat} {rm : Room} {as : Array Value} {a : Addr} {Q' : Option Value → Heap → Prop} (W : Nat) (argsL : List Value) (X : Pn p l e R s m args below meth c T h n0 cells slots) (hx : p.tables.exec = Jvm.exec) (hZ : Z.Warmed39 s.vm) (hown : s.vm.findClass own = some m.cls) (hy1 : y.name = "<init>")
    (w1 : (Cond.methodLink own index y).before a0 Z = true) (w2 : (Cond.instanceMethod y).before a0 Z = true) (w3 : (Cond.initialized y.cls).before a0 Z = true) (w4 : (Cond.code y bytes maxL none).before a0 Z = true) (hy : y.cls ≠ "java/lang/invoke/MethodHandle" ∧ y.cls ≠ "java/lang/invoke/VarHandle")
    (hM : Con l Z y bytes maxL none [] rm as h n0 Q') (hf : rm.frames + 1 ≤ R.frames) (hl : W + (maxL + 11) + rm.locals ≤ R.locals) (hsz : Ls.size = c.maxLocals) (has : as = (.ref a :: argsL).toArray) (hlen : ∀ sig, parseMethodDescriptor y.desc = some sig → argsL.length = sig.parameters.length) (hst : S = argsL.reverse ++ .ref a :: rest) (hW : (rest.map fun v => v.category).sum ≤ W)
    (hd : decode c.code pc = .ok (.invokespecial index, 3)) (hp : pc + 3 = pc') (hc : cells + rm.cells ≤ R.cells) (hs : slots + rm.slots ≤ R.slots)
    (k : ∀ v T' h', Pn p l e R s m args below meth c T' h' n0 (cells + rm.cells) (slots + rm.slots) → Q' v h' → Go p e s below n0 Q R T' (mkF m pc' Ls (v.toList ++ rest))) : Go p e s below n0 Q R T (mkF m pc Ls S) := by
  subst hp has
  obtain ⟨e0, hn, locs, Y, N⟩ := X
  obtain ⟨v, _, ⟨T', L', k', n'⟩, -, Y', ⟨Lc, ⟨hq, hN⟩, l', y', z'⟩, st⟩ := Y.specialBack hx (y := y) hy1 hown (mvT hZ w1) (mvT hZ w2) (mvT hZ w4) hy (backOf (W := W) (Q := fun v h L => Q' v h ∧ Fr n0 L) hM hZ w4 w3 hf hl) (g := mkF m pc Ls S) rfl hsz (Steps.refl _) (a := a) (argsL := argsL) (rest := rest) hlen hst (by show 2 * 0 + _ ≤ _; omega) hd (fun _ _ => ⟨rfl, e0, hc, hs⟩)
  dsimp only [Pt.U, Pt.locs, Pt.cells, Pt.slots] at Y' l' y' z' st hq
  subst l' y' z'
  exact stp (fun _ q => st.trans q) (k v T' _ ⟨rfl, hn, _, Y', N.app hN⟩ hq)
theorem cV {own C : String} {index : Nat} {y : MethodName} {bytes : ByteArray} {maxL : Nat} {ret : Option FieldType} {rm : Room} {as : Array Value} {a : Addr} {Q' : Option Value → Heap → Prop} (W : Nat) (argsL : List Value) (X : Pn p l e R s m args below meth c T h n0 cells slots) (hx : p.tables.exec = Jvm.exec) (hZ : Z.Warmed39 s.vm) (hown : s.vm.findClass own = some m.cls)
    (w1 : (Cond.methodLink own index y).before a0 Z = true) (w2 : (Cond.declares y).before a0 Z = true) (w5 : (Cond.selects C y y).before a0 Z = true) (w6 : (Cond.instanceMethod y).before a0 Z = true) (w3 : (Cond.initialized y.cls).before a0 Z = true) (w4 : (Cond.code y bytes maxL ret).before a0 Z = true) (hy : y.cls ≠ "java/lang/invoke/MethodHandle" ∧ y.cls ≠ "java/lang/invoke/VarHandle")
    (hE : Exa Z h a C) (hM : Con l Z y bytes maxL ret [] rm as h n0 Q') (hf : rm.frames + 1 ≤ R.frames) (hl : W + (maxL + 11) + rm.locals ≤ R.locals) (hsz : Ls.size = c.maxLocals) (has : as = (.ref a :: argsL).toArray) (hlen : ∀ sig, parseMethodDescriptor y.desc = some sig → argsL.length = sig.parameters.length) (hst : S = argsL.reverse ++ .ref a :: rest) (hW : (rest.map fun v => v.category).sum ≤ W)
    (hd : decode c.code pc = .ok (.invokevirtual index, 3)) (hp : pc + 3 = pc') (hc : cells + rm.cells ≤ R.cells) (hs : slots + rm.slots ≤ R.slots)
    (k : ∀ v T' h', Pn p l e R s m args below meth c T' h' n0 (cells + rm.cells) (slots + rm.slots) → Q' v h' → Go p e s below n0 Q R T' (mkF m pc' Ls (v.toList ++ rest))) : Go p e s below n0 Q R T (mkF m pc Ls S) := by
  subst hp has
  obtain ⟨e0, hn, locs, Y, N⟩ := X
  obtain ⟨cq, kq, q1, q2, q3⟩ := isOf hZ e0 hE
  obtain ⟨v, _, ⟨T', L', k', n'⟩, -, Y', ⟨Lc, ⟨hq, hN⟩, l', y', z'⟩, st⟩ := Y.virtualBack hx (y := y) (z := y) hown (mvT hZ w1) (mvT hZ w2) (notFace_of_selects (args := #[]) (mvT hZ w5)) (mvT hZ w5) (mvT hZ w6) hy (backOf (W := W) (Q := fun v h L => Q' v h ∧ Fr n0 L) hM hZ w4 w3 hf hl) q1 q3 (g := mkF m pc Ls S) rfl hsz (Steps.refl _) (argsL := argsL) (rest := rest) hlen hst (by show 2 * 0 + _ ≤ _; omega) hd (fun _ _ => ⟨rfl, e0, hc, hs⟩)
  dsimp only [Pt.U, Pt.locs, Pt.cells, Pt.slots] at Y' l' y' z' st hq
  subst l' y' z'
  exact stp (fun _ q => st.trans q) (k v T' _ ⟨rfl, hn, _, Y', N.app hN⟩ hq)
theorem cP {own : String} {index kk : Nat} {y : MethodName} {bytes : ByteArray} {maxL : Nat} {ret : Option FieldType} {rm : Room} {as : Array Value} {a : Addr} {C : String} {Q' : Option Value → Heap → Prop} (W : Nat) (argsL : List Value) (X : Pn p l e R s m args below meth c T h n0 cells slots) (hx : p.tables.exec = Jvm.exec) (hZ : Z.Warmed39 s.vm) (hown : s.vm.findClass own = some m.cls)
    (w1 : (Cond.methodLink own index y).before a0 Z = true) (w6 : (Cond.instanceMethod y).before a0 Z = true) (wp : (Cond.privateMethod y).before a0 Z = true) (wi : (Cond.instantiable y.cls kk).before a0 Z = true) (w3 : (Cond.initialized y.cls).before a0 Z = true) (w4 : (Cond.code y bytes maxL ret).before a0 Z = true) (hy : y.cls ≠ "java/lang/invoke/MethodHandle" ∧ y.cls ≠ "java/lang/invoke/VarHandle")
    (hE : Exa Z h a C) (hM : Con l Z y bytes maxL ret [] rm as h n0 Q') (hf : rm.frames + 1 ≤ R.frames) (hl : W + (maxL + 11) + rm.locals ≤ R.locals) (hsz : Ls.size = c.maxLocals) (has : as = (.ref a :: argsL).toArray) (hlen : ∀ sig, parseMethodDescriptor y.desc = some sig → argsL.length = sig.parameters.length) (hst : S = argsL.reverse ++ .ref a :: rest) (hW : (rest.map fun v => v.category).sum ≤ W)
    (hd : decode c.code pc = .ok (.invokevirtual index, 3)) (hp : pc + 3 = pc') (hc : cells + rm.cells ≤ R.cells) (hs : slots + rm.slots ≤ R.slots)
    (k : ∀ v T' h', Pn p l e R s m args below meth c T' h' n0 (cells + rm.cells) (slots + rm.slots) → Q' v h' → Go p e s below n0 Q R T' (mkF m pc' Ls (v.toList ++ rest))) : Go p e s below n0 Q R T (mkF m pc Ls S) := by
  subst hp has
  obtain ⟨e0, hn, locs, Y, N⟩ := X
  obtain ⟨cq, q1, q2⟩ := hE.cell
  have mi : (Cond.instantiable y.cls kk).before args s = true := mvT hZ wi
  obtain ⟨cc, kc, u1, u2, -, u3, -⟩ := Cond.instantiable_spec mi
  have hpv := Cond.privateMethod_at (mvP hZ wp (args := #[]))
  have hse := selects_self_of_private (args := args) u1 u2 (by rw [Bool.or_eq_false_iff] at u3; exact u3.1) hpv (mvT hZ w6) hy
  obtain ⟨v, _, ⟨T', L', k', n'⟩, -, Y', ⟨Lc, ⟨hq, hN⟩, l', y', z'⟩, st⟩ := Y.privateBack hx (y := y) hown (mvT hZ w1) (mvT hZ w6) hse hpv (mvT hZ w4) hy (backOf (W := W) (Q := fun v h L => Q' v h ∧ Fr n0 L) hM hZ w4 w3 hf hl) (g := mkF m pc Ls S) rfl hsz (Steps.refl _) (a := a) (by rw [e0]; exact q1) q2 (argsL := argsL) (rest := rest) hlen hst (by show 2 * 0 + _ ≤ _; omega) hd (fun _ _ => ⟨rfl, e0, hc, hs⟩)
  dsimp only [Pt.U, Pt.locs, Pt.cells, Pt.slots] at Y' l' y' z' st hq
  subst l' y' z'
  exact stp (fun _ q => st.trans q) (k v T' _ ⟨rfl, hn, _, Y', N.app hN⟩ hq)
theorem cF {own C : String} {index count : Nat} {y z : MethodName} {bytes : ByteArray} {maxL : Nat} {ret : Option FieldType} {rm : Room} {as : Array Value} {a : Addr} {Q' : Option Value → Heap → Prop} (W : Nat) (argsL : List Value) (X : Pn p l e R s m args below meth c T h n0 cells slots) (hx : p.tables.exec = Jvm.exec) (hZ : Z.Warmed39 s.vm) (hown : s.vm.findClass own = some m.cls)
    (w1 : (Cond.methodLink own index y).before a0 Z = true) (w2 : (Cond.declares y).before a0 Z = true) (w7 : (Cond.interfaceMethod y.cls y.cls y.name y.desc).before a0 Z = true) (w5 : (Cond.selects C y z).before a0 Z = true) (w6 : (Cond.instanceMethod z).before a0 Z = true) (w8 : (Cond.publicMethod z).before a0 Z = true) (w9 : (Cond.unhidden C y.name y.desc).before a0 Z = true) (w10 : (Cond.castable C y.cls).before a0 Z = true)
    (w3 : (Cond.initialized z.cls).before a0 Z = true) (w4 : (Cond.code z bytes maxL ret).before a0 Z = true) (hy : y.cls ≠ "java/lang/invoke/MethodHandle" ∧ y.cls ≠ "java/lang/invoke/VarHandle")
    (hE : Exa Z h a C) (hM : Con l Z z bytes maxL ret [] rm as h n0 Q') (hf : rm.frames + 1 ≤ R.frames) (hl : W + (maxL + 11) + rm.locals ≤ R.locals) (hsz : Ls.size = c.maxLocals) (has : as = (.ref a :: argsL).toArray) (hlen : ∀ sig, parseMethodDescriptor y.desc = some sig → argsL.length = sig.parameters.length) (hst : S = argsL.reverse ++ .ref a :: rest) (hW : (rest.map fun v => v.category).sum ≤ W)
    (hd : decode c.code pc = .ok (.invokeinterface index count, 5)) (hp : pc + 5 = pc') (hc : cells + rm.cells ≤ R.cells) (hs : slots + rm.slots ≤ R.slots)
    (k : ∀ v T' h', Pn p l e R s m args below meth c T' h' n0 (cells + rm.cells) (slots + rm.slots) → Q' v h' → Go p e s below n0 Q R T' (mkF m pc' Ls (v.toList ++ rest))) : Go p e s below n0 Q R T (mkF m pc Ls S) := by
  subst hp has
  obtain ⟨e0, hn, locs, Y, N⟩ := X
  obtain ⟨cq, kq, q1, q2, q3⟩ := isOf hZ e0 hE
  obtain ⟨v, _, ⟨T', L', k', n'⟩, -, Y', ⟨Lc, ⟨hq, hN⟩, l', y', z'⟩, st⟩ := Y.interfaceBack hx (xi := y) (y := z) hown (mvT hZ w1) (mvT hZ w2) (mvT hZ w7 (by simp [Cond.onTables, Cond.keepsFace, Cond.faceAtom, hy.1, hy.2])) (mvT hZ w5) (mvT hZ w6) (mvT hZ w8) (mvT hZ w9) (mvT hZ w10) hy (backOf (W := W) (Q := fun v h L => Q' v h ∧ Fr n0 L) hM hZ w4 w3 hf hl) q1 q2 q3 (g := mkF m pc Ls S) rfl hsz (Steps.refl _) (argsL := argsL) (rest := rest) hlen hst (by show 2 * 0 + _ ≤ _; omega) hd (fun _ _ => ⟨rfl, e0, hc, hs⟩)
  dsimp only [Pt.U, Pt.locs, Pt.cells, Pt.slots] at Y' l' y' z' st hq
  subst l' y' z'
  exact stp (fun _ q => st.trans q) (k v T' _ ⟨rfl, hn, _, Y', N.app hN⟩ hq)
theorem ioY {own K : String} {index : Nat} {a : Addr} (X : Pn p l e R s m args below meth c T h n0 cells slots) (hx : p.tables.exec = Jvm.exec) (hZ : Z.Warmed39 s.vm) (hown : s.vm.findClass own = some m.cls) (w : (Cond.classLink own index K).before a0 Z = true) (F : Ins Z h a K true) (hd : decode c.code pc = .ok (.instanceof index, 3)) (hp : pc + 3 = pc')
    (k : ∀ T', Pn p l e R s m args below meth c T' h n0 cells slots → Go p e s below n0 Q R T' (mkF m pc' Ls (.int 1 :: S))) : Go p e s below n0 Q R T (mkF m pc Ls (.ref a :: S)) := by
  subst hp
  obtain ⟨e0, hn, locs, Y, N⟩ := X
  obtain ⟨T', Y', e', st⟩ := instY Y hx hZ hown w e0 F (g := mkF m pc Ls (.ref a :: S)) rfl rfl hd
  exact stp st (k T' ⟨e', hn, locs, Y', N⟩)
theorem ioN {own K C : String} {index : Nat} {a : Addr} (X : Pn p l e R s m args below meth c T h n0 cells slots) (hx : p.tables.exec = Jvm.exec) (hZ : Z.Warmed39 s.vm) (hown : s.vm.findClass own = some m.cls) (w : (Cond.classLink own index K).before a0 Z = true) (E : Exa Z h a C) (F : ∃ c t, Z.vm.findClass C = some c ∧ Z.vm.findClass K = some t ∧ Z.vm.assignable c t = false) (hd : decode c.code pc = .ok (.instanceof index, 3)) (hp : pc + 3 = pc')
    (k : ∀ T', Pn p l e R s m args below meth c T' h n0 cells slots → Go p e s below n0 Q R T' (mkF m pc' Ls (.int 0 :: S))) : Go p e s below n0 Q R T (mkF m pc Ls (.ref a :: S)) := by
  subst hp
  obtain ⟨e0, hn, locs, Y, N⟩ := X
  obtain ⟨T', Y', e', st⟩ := instNo Y hx hZ hown w e0 E F (g := mkF m pc Ls (.ref a :: S)) rfl rfl hd
  exact stp st (k T' ⟨e', hn, locs, Y', N⟩)
theorem ioZ {index : Nat} (X : Pn p l e R s m args below meth c T h n0 cells slots) (hx : p.tables.exec = Jvm.exec) (hd : decode c.code pc = .ok (.instanceof index, 3)) (hp : pc + 3 = pc')
    (k : Go p e s below n0 Q R T (mkF m pc' Ls (.int 0 :: S))) : Go p e s below n0 Q R T (mkF m pc Ls (.null :: S)) := by
  subst hp
  obtain ⟨e0, hn, locs, Y, N⟩ := X
  exact stp (Y.instanceofNull hx (g := mkF m pc Ls (.null :: S)) rfl rfl hd) k
theorem ccY {own K : String} {index : Nat} {a : Addr} (X : Pn p l e R s m args below meth c T h n0 cells slots) (hx : p.tables.exec = Jvm.exec) (hZ : Z.Warmed39 s.vm) (hown : s.vm.findClass own = some m.cls) (w : (Cond.classLink own index K).before a0 Z = true) (F : Ins Z h a K true) (hd : decode c.code pc = .ok (.checkcast index, 3)) (hp : pc + 3 = pc')
    (k : ∀ T', Pn p l e R s m args below meth c T' h n0 cells slots → Go p e s below n0 Q R T' (mkF m pc' Ls (.ref a :: S))) : Go p e s below n0 Q R T (mkF m pc Ls (.ref a :: S)) := by
  subst hp
  obtain ⟨e0, hn, locs, Y, N⟩ := X
  obtain ⟨T', Y', e', st⟩ := castY Y hx hZ hown w e0 F (g := mkF m pc Ls (.ref a :: S)) rfl rfl hd
  exact stp st (k T' ⟨e', hn, locs, Y', N⟩)
theorem own_nsRoot {O K : String} {kk : Nat} (w : (Cond.noSuperclass O).before a0 Z = true) (wk : (Cond.instantiable K kk).before a0 Z = true) (hn : O ≠ K) : NS Z O K := by
  obtain ⟨c, k, h1, h2, h3, -, -⟩ := Cond.noSuperclass_spec w
  obtain ⟨t, _, g1, -⟩ := Cond.instantiable_spec wk
  have ne := ids_ne h1 g1 hn
  refine ⟨c, t, h1, g1, fun fuel => ?_⟩
  cases fuel with
  | zero => rfl
  | succ f => simp [Vm.isSubclassAux, ne, h2, h3]
theorem own_nsNo {C U K : String} {kk : Nat} (w : (Cond.superclass C U).before a0 Z = true) (wk : (Cond.instantiable K kk).before a0 Z = true) (n : NS Z C K) (hn : C ≠ K) : ∃ c t, Z.vm.findClass C = some c ∧ Z.vm.findClass K = some t ∧ Z.vm.assignable c t = false := by
  obtain ⟨c, t, h0, g0, n3⟩ := n
  obtain ⟨q, k, kp, h1, h2, h3, h4, h5, -, h7⟩ := Cond.superclass_spec h0 w
  obtain ⟨t', k', g1, g2, g3, g4, -⟩ := Cond.instantiable_spec wk
  cases g0.symm.trans g1
  have g7 : k'.isInterface = false := by rw [Bool.or_eq_false_iff] at g4; exact g4.1
  have ne := ids_ne h0 g0 hn
  refine ⟨c, t, h0, g0, ?_⟩
  show Z.vm.assignableAux (255 + 1) c t = false
  simp [Vm.assignableAux, ne, h2, g2, h5, g3, g7, Vm.isSubclass, n3]
/-! arrays: n places, the i-th holds f i -/
def Av (Z : State) (h : Heap) (a : Addr) (ty : FieldType) (n : Nat) (f : Nat → Value) : Prop := ∃ c : Cell, Arr Z h a c ty ∧ c.slots.size = n ∧ ∀ i, i < n → c.slots[i]? = some (f i)
theorem Av.lt {a : Addr} {ty : FieldType} {n : Nat} {f : Nat → Value} (F : Av Z h a ty n f) : a < h.size := by obtain ⟨c, A, -⟩ := F; exact A.lt
theorem Av.ext {h' : Heap} {a : Addr} {ty : FieldType} {n : Nat} {f : Nat → Value} (F : Av Z h a ty n f) (E : Ext h h') : Av Z h' a ty n f := by obtain ⟨c, A, r⟩ := F; exact ⟨c, A.ext E, r⟩
theorem Av.other {h' : Heap} {a b : Addr} {ty : FieldType} {n sl : Nat} {v : Value} {f : Nat → Value} (F : Av Z h b ty n f) (W : Wr h h' a sl v) (q : b ≠ a) : Av Z h' b ty n f := by obtain ⟨c, A, r⟩ := F; exact ⟨c, A.other W q, r⟩
theorem Av.keep {h' : Heap} {a : Addr} {ws : List Addr} {ty : FieldType} {n : Nat} {f : Nat → Value} (F : Av Z h a ty n f) (K : Keep h h' ws) (q : a ∉ ws) : Av Z h' a ty n f := by obtain ⟨c, A, r⟩ := F; exact ⟨c, ⟨K.2.1 a c A.1 q, A.2⟩, r⟩
theorem Av.same {h' : Heap} {a : Addr} {ty : FieldType} {n j : Nat} {v : Value} {f : Nat → Value} (F : Av Z h a ty n f) (W : Wr h h' a j v) : Av Z h' a ty n (fun i => if i = j then v else f i) := by
  obtain ⟨c, A, q, r⟩ := F
  refine ⟨c.setSlot j v, A.same W, by rw [sz_set]; exact q, fun i hi => ?_⟩
  obtain ⟨c', e1, -, -, -, -, e6, e7⟩ := wr_at W A.1
  obtain ⟨e8, e9, -⟩ := e7 rfl
  by_cases hj : i = j
  · subst hj; show _ = some (if i = i then v else f i); rw [if_pos rfl, ← e8]; exact e9
  · show _ = some (if i = j then v else f i); rw [if_neg hj, ← e8, e6 _ hj]; exact r i hi
theorem Av.congr {a : Addr} {ty : FieldType} {n : Nat} {f g : Nat → Value} (F : Av Z h a ty n f) (q : ∀ i, i < n → f i = g i) : Av Z h a ty n g := by obtain ⟨c, A, r, u⟩ := F; exact ⟨c, A, r, fun i hi => by rw [u i hi, q i hi]⟩
theorem na {aty : ArrayType} {z : Int32} (cap : Nat) (X : Pn p l e R s m args below meth c T h n0 cells slots) (hx : p.tables.exec = Jvm.exec) (hZ : Z.Warmed39 s.vm) (w : (Cond.arrayClass (newarray.typeOf aty)).before a0 Z = true) (hd : decode c.code pc = .ok (.newarray aty, 2)) (hp : pc + 2 = pc') (hz : ¬ z < 0) (hcap : z.toNatClampNeg ≤ cap) (hb : cap * 8 ≤ 536870912) (hc : cells + 1 ≤ R.cells) (hl : slots + cap ≤ R.slots)
    (k : ∀ T' h' b, Pn p l e R s m args below meth c T' h' n0 (cells + 1) (slots + cap) → b = h.size → n0 ≤ b → Ext h h' → Av Z h' b (newarray.typeOf aty) z.toNatClampNeg (fun _ => defaultValue (newarray.typeOf aty)) → Go p e s below n0 Q R T' (mkF m pc' Ls (.ref b :: S))) :
    Go p e s below n0 Q R T (mkF m pc Ls (.int z :: S)) := by
  subst hp
  have q := X.le
  obtain ⟨e0, hn, locs, Y, N⟩ := X
  obtain ⟨T', h', k', Y', e', E', A', st⟩ := newP Y hx hZ w e0 (g := mkF m pc Ls (.int z :: S)) rfl hd rfl hz hcap hb hc hl
  refine stp st (k T' h' _ ⟨e', hn, _, Y', N⟩ rfl q E' ⟨_, A', sz_new _ _ _, fun i hi => ?_⟩)
  simp [newA, hi]
theorem len {a : Addr} {ty : FieldType} {n : Nat} {f : Nat → Value} (z : Int32) (X : Pn p l e R s m args below meth c T h n0 cells slots) (hx : p.tables.exec = Jvm.exec) (hZ : Z.Warmed39 s.vm) (A : Av Z h a ty n f) (hz : n.toInt32 = z) (hd : decode c.code pc = .ok (.arraylength, 1)) (hp : pc + 1 = pc')
    (k : Go p e s below n0 Q R T (mkF m pc' Ls (.int z :: S))) : Go p e s below n0 Q R T (mkF m pc Ls (.ref a :: S)) := by
  subst hp hz
  obtain ⟨e0, hn, locs, Y, N⟩ := X
  obtain ⟨cl, Ar, S0, r⟩ := A
  subst S0
  exact stp (fun t q => Y.arraylength hx (by rw [e0]; exact Ar.1) (State.isArrayOf_alike hZ.alike Ar.2.1) (g := mkF m pc Ls (.ref a :: S)) rfl rfl hd t q) k
theorem inn {cl : Cell} {n : Nat} {j : Int32} (S0 : cl.slots.size = n) (q : ¬ j < 0) (r : j.toNatClampNeg < n) : ¬ (j < 0 ∨ cl.slots.size ≤ j.toNatClampNeg) := fun u => u.elim q fun v => by omega
theorem ldI {a : Addr} {n : Nat} {f : Nat → Value} {j : Int32} {v : Value} (X : Pn p l e R s m args below meth c T h n0 cells slots) (hx : p.tables.exec = Jvm.exec) (hZ : Z.Warmed39 s.vm) (A : Av Z h a .int n f) (q : ¬ j < 0) (r : j.toNatClampNeg < n) (hv : f j.toNatClampNeg = v) (hd : decode c.code pc = .ok (.iaload, 1)) (hp : pc + 1 = pc')
    (k : Go p e s below n0 Q R T (mkF m pc' Ls (v :: S))) : Go p e s below n0 Q R T (mkF m pc Ls (.int j :: .ref a :: S)) := by
  subst hp hv
  obtain ⟨e0, hn, locs, Y, N⟩ := X
  obtain ⟨cl, Ar, S0, u⟩ := A
  exact stp (fun t y => Y.iaload hx (by rw [e0]; exact Ar.1) (State.isArrayOf_alike hZ.alike Ar.2.1) Ar.2.2 (inn S0 q r) (u _ r) (g := mkF m pc Ls (.int j :: .ref a :: S)) rfl rfl hd t y) k
theorem ldJ {a : Addr} {n : Nat} {f : Nat → Value} {j : Int32} {v : Value} (X : Pn p l e R s m args below meth c T h n0 cells slots) (hx : p.tables.exec = Jvm.exec) (hZ : Z.Warmed39 s.vm) (A : Av Z h a .long n f) (q : ¬ j < 0) (r : j.toNatClampNeg < n) (hv : f j.toNatClampNeg = v) (hd : decode c.code pc = .ok (.laload, 1)) (hp : pc + 1 = pc')
    (k : Go p e s below n0 Q R T (mkF m pc' Ls (v :: S))) : Go p e s below n0 Q R T (mkF m pc Ls (.int j :: .ref a :: S)) := by
  subst hp hv
  obtain ⟨e0, hn, locs, Y, N⟩ := X
  obtain ⟨cl, Ar, S0, u⟩ := A
  exact stp (fun t y => Y.laload hx (by rw [e0]; exact Ar.1) (State.isArrayOf_alike hZ.alike Ar.2.1) Ar.2.2 (inn S0 q r) (u _ r) (g := mkF m pc Ls (.int j :: .ref a :: S)) rfl rfl hd t y) k
theorem ldB {a : Addr} {n : Nat} {f : Nat → Value} {j : Int32} {v : Value} (X : Pn p l e R s m args below meth c T h n0 cells slots) (hx : p.tables.exec = Jvm.exec) (hZ : Z.Warmed39 s.vm) (A : Av Z h a .byte n f) (q : ¬ j < 0) (r : j.toNatClampNeg < n) (hv : f j.toNatClampNeg = v) (hd : decode c.code pc = .ok (.baload, 1)) (hp : pc + 1 = pc')
    (k : Go p e s below n0 Q R T (mkF m pc' Ls (v :: S))) : Go p e s below n0 Q R T (mkF m pc Ls (.int j :: .ref a :: S)) := by
  subst hp hv
  obtain ⟨e0, hn, locs, Y, N⟩ := X
  obtain ⟨cl, Ar, S0, u⟩ := A
  exact stp (fun t y => Y.baloadBytes hx (by rw [e0]; exact Ar.1) (State.isArrayOf_alike hZ.alike Ar.2.1) Ar.2.2 (inn S0 q r) (u _ r) (g := mkF m pc Ls (.int j :: .ref a :: S)) rfl rfl hd t y) k
theorem ldR {a : Addr} {ty : FieldType} {n : Nat} {f : Nat → Value} {j : Int32} {v : Value} (X : Pn p l e R s m args below meth c T h n0 cells slots) (hx : p.tables.exec = Jvm.exec) (hZ : Z.Warmed39 s.vm) (A : Av Z h a ty n f) (hty : ty.isReference = true) (q : ¬ j < 0) (r : j.toNatClampNeg < n) (hv : f j.toNatClampNeg = v) (hd : decode c.code pc = .ok (.aaload, 1)) (hp : pc + 1 = pc')
    (k : Go p e s below n0 Q R T (mkF m pc' Ls (v :: S))) : Go p e s below n0 Q R T (mkF m pc Ls (.int j :: .ref a :: S)) := by
  subst hp hv
  obtain ⟨e0, hn, locs, Y, N⟩ := X
  obtain ⟨cl, Ar, S0, u⟩ := A
  exact stp (fun t y => Y.aaload hx (by rw [e0]; exact Ar.1) (State.isArrayOf_alike hZ.alike Ar.2.1) hty Ar.2.2 (inn S0 q r) (u _ r) (g := mkF m pc Ls (.int j :: .ref a :: S)) rfl rfl hd t y) k
theorem saI {a : Addr} {n : Nat} {f : Nat → Value} {j x : Int32} (X : Pn p l e R s m args below meth c T h n0 cells slots) (hx : p.tables.exec = Jvm.exec) (hZ : Z.Warmed39 s.vm) (A : Av Z h a .int n f) (ge : n0 ≤ a) (q : ¬ j < 0) (r : j.toNatClampNeg < n) (hd : decode c.code pc = .ok (.iastore, 1)) (hp : pc + 1 = pc')
    (k : ∀ T' h', Pn p l e R s m args below meth c T' h' n0 cells slots → Wr h h' a j.toNatClampNeg (.int x) → Go p e s below n0 Q R T' (mkF m pc' Ls S)) : Go p e s below n0 Q R T (mkF m pc Ls (.int x :: .int j :: .ref a :: S)) := by
  subst hp
  obtain ⟨e0, hn, locs, Y, N⟩ := X
  obtain ⟨cl, Ar, S0, u⟩ := A
  obtain ⟨T', h', Y', e', W', st⟩ := stI Y hx hZ e0 Ar (inn S0 q r) (g := mkF m pc Ls (.int x :: .int j :: .ref a :: S)) rfl rfl hd
  exact stp st (k T' h' ⟨e', hn, _, Y', Fr.snoc Y' N ge⟩ W')
theorem saJ {a : Addr} {n : Nat} {f : Nat → Value} {j : Int32} {x : Int64} (X : Pn p l e R s m args below meth c T h n0 cells slots) (hx : p.tables.exec = Jvm.exec) (hZ : Z.Warmed39 s.vm) (A : Av Z h a .long n f) (ge : n0 ≤ a) (q : ¬ j < 0) (r : j.toNatClampNeg < n) (hd : decode c.code pc = .ok (.lastore, 1)) (hp : pc + 1 = pc')
    (k : ∀ T' h', Pn p l e R s m args below meth c T' h' n0 cells slots → Wr h h' a j.toNatClampNeg (.long x) → Go p e s below n0 Q R T' (mkF m pc' Ls S)) : Go p e s below n0 Q R T (mkF m pc Ls (.long x :: .int j :: .ref a :: S)) := by
  subst hp
  obtain ⟨e0, hn, locs, Y, N⟩ := X
  obtain ⟨cl, Ar, S0, u⟩ := A
  obtain ⟨T', h', Y', e', W', st⟩ := stJ Y hx hZ e0 Ar (inn S0 q r) (g := mkF m pc Ls (.long x :: .int j :: .ref a :: S)) rfl rfl hd
  exact stp st (k T' h' ⟨e', hn, _, Y', Fr.snoc Y' N ge⟩ W')
theorem saB {a : Addr} {n : Nat} {f : Nat → Value} {j x : Int32} (X : Pn p l e R s m args below meth c T h n0 cells slots) (hx : p.tables.exec = Jvm.exec) (hZ : Z.Warmed39 s.vm) (A : Av Z h a .byte n f) (ge : n0 ≤ a) (q : ¬ j < 0) (r : j.toNatClampNeg < n) (hd : decode c.code pc = .ok (.bastore, 1)) (hp : pc + 1 = pc')
    (k : ∀ T' h', Pn p l e R s m args below meth c T' h' n0 cells slots → Wr h h' a j.toNatClampNeg (.int x.toInt8.toInt32) → Go p e s below n0 Q R T' (mkF m pc' Ls S)) : Go p e s below n0 Q R T (mkF m pc Ls (.int x :: .int j :: .ref a :: S)) := by
  subst hp
  obtain ⟨e0, hn, locs, Y, N⟩ := X
  obtain ⟨cl, Ar, S0, u⟩ := A
  obtain ⟨T', h', Y', e', W', st⟩ := stB Y hx hZ e0 Ar (inn S0 q r) (g := mkF m pc Ls (.int x :: .int j :: .ref a :: S)) rfl rfl hd
  exact stp st (k T' h' ⟨e', hn, _, Y', Fr.snoc Y' N ge⟩ W')
/-! arrays of references: the class is known too -/
def AvR (Z : State) (h : Heap) (a : Addr) (C : String) (n : Nat) (f : Nat → Value) : Prop := ∃ c : Cell, Arr Z h a c (.object C) ∧ Ovr Z c.cls C ∧ c.slots.size = n ∧ ∀ i, i < n → c.slots[i]? = some (f i)
theorem AvR.lt {a : Addr} {C : String} {n : Nat} {f : Nat → Value} (F : AvR Z h a C n f) : a < h.size := by obtain ⟨c, A, -⟩ := F; exact A.lt
theorem AvR.av {a : Addr} {C : String} {n : Nat} {f : Nat → Value} (F : AvR Z h a C n f) : Av Z h a (.object C) n f := by obtain ⟨c, A, -, r⟩ := F; exact ⟨c, A, r⟩
theorem AvR.ext {h' : Heap} {a : Addr} {C : String} {n : Nat} {f : Nat → Value} (F : AvR Z h a C n f) (E : Ext h h') : AvR Z h' a C n f := by obtain ⟨c, A, r⟩ := F; exact ⟨c, A.ext E, r⟩
theorem AvR.other {h' : Heap} {a b : Addr} {C : String} {n sl : Nat} {v : Value} {f : Nat → Value} (F : AvR Z h b C n f) (W : Wr h h' a sl v) (q : b ≠ a) : AvR Z h' b C n f := by obtain ⟨c, A, r⟩ := F; exact ⟨c, A.other W q, r⟩
theorem AvR.set {h' : Heap} {a : Addr} {C : String} {n k : Nat} {j : Int32} {v : Value} {f : Nat → Value} (e : j.toNatClampNeg = k) (F : AvR Z h a C n f) (W : Wr h h' a j.toNatClampNeg v) : AvR Z h' a C n (fun i => if i = k then v else f i) := by
  subst e
  obtain ⟨c, A, O, q, r⟩ := F
  refine ⟨c.setSlot j.toNatClampNeg v, A.same W, O, by rw [sz_set]; exact q, fun i hi => ?_⟩
  obtain ⟨c', e1, -, -, -, -, e6, e7⟩ := wr_at W A.1
  obtain ⟨e8, e9, -⟩ := e7 rfl
  by_cases hj : i = j.toNatClampNeg
  · subst hj; show _ = some (if j.toNatClampNeg = j.toNatClampNeg then v else f j.toNatClampNeg); rw [if_pos rfl, ← e8]; exact e9
  · show _ = some (if i = j.toNatClampNeg then v else f i); rw [if_neg hj, ← e8, e6 _ hj]; exact r i hi
theorem nr {own C : String} {index : Nat} {z : Int32} (cap : Nat) (X : Pn p l e R s m args below meth c T h n0 cells slots) (hx : p.tables.exec = Jvm.exec) (hZ : Z.Warmed39 s.vm) (hown : s.vm.findClass own = some m.cls) (w1 : (Cond.classLink own index C).before a0 Z = true) (w2 : (Cond.arrayOver (.object C)).before a0 Z = true) (hd : decode c.code pc = .ok (.anewarray index, 3)) (hp : pc + 3 = pc') (hz : ¬ z < 0) (hcap : z.toNatClampNeg ≤ cap) (hb : cap * 8 ≤ 536870912) (hc : cells + 1 ≤ R.cells) (hl : slots + cap ≤ R.slots)
    (k : ∀ T' h' b, Pn p l e R s m args below meth c T' h' n0 (cells + 1) (slots + cap) → b = h.size → n0 ≤ b → Ext h h' → AvR Z h' b C z.toNatClampNeg (fun _ => .null) → Go p e s below n0 Q R T' (mkF m pc' Ls (.ref b :: S))) :
    Go p e s below n0 Q R T (mkF m pc Ls (.int z :: S)) := by
  subst hp
  have q := X.le
  obtain ⟨e0, hn, locs, Y, N⟩ := X
  obtain ⟨T', h', k', Y', e', E', A', O', st⟩ := newR Y hx hZ hown w1 w2 e0 (g := mkF m pc Ls (.int z :: S)) rfl hd rfl hz hcap hb hc hl
  refine stp st (k T' h' _ ⟨e', hn, _, Y', N⟩ rfl q E' ⟨_, A', O', sz_new _ _ _, fun i hi => ?_⟩)
  simp [newA, hi, defaultValue]
theorem saR {a y : Addr} {C : String} {n : Nat} {f : Nat → Value} {j : Int32} (X : Pn p l e R s m args below meth c T h n0 cells slots) (hx : p.tables.exec = Jvm.exec) (hZ : Z.Warmed39 s.vm) (A : AvR Z h a C n f) (I : Ins Z h y C true) (ge : n0 ≤ a) (q : ¬ j < 0) (r : j.toNatClampNeg < n) (hd : decode c.code pc = .ok (.aastore, 1)) (hp : pc + 1 = pc')
    (k : ∀ T' h', Pn p l e R s m args below meth c T' h' n0 cells slots → Wr h h' a j.toNatClampNeg (.ref y) → Go p e s below n0 Q R T' (mkF m pc' Ls S)) : Go p e s below n0 Q R T (mkF m pc Ls (.ref y :: .int j :: .ref a :: S)) := by
  subst hp
  obtain ⟨e0, hn, locs, Y, N⟩ := X
  obtain ⟨cl, Ar, O, S0, u⟩ := A
  obtain ⟨T', h', Y', e', W', st⟩ := stR Y hx hZ e0 Ar (inn S0 q r) rfl (Sto.of Ar O I) (g := mkF m pc Ls (.ref y :: .int j :: .ref a :: S)) rfl rfl hd
  exact stp st (k T' h' ⟨e', hn, _, Y', Fr.snoc Y' N ge⟩ W')
theorem i_iadd {x y : Int32} (X : Pn p l e R s m args below meth c T h n0 cells slots) (hx : p.tables.exec = Jvm.exec) (hd : decode c.code pc = .ok (.iadd, 1)) (hp : pc + 1 = pc')
    (k : Go p e s below n0 Q R T (mkF m pc' Ls (.int (x + y) :: S))) : Go p e s below n0 Q R T (mkF m pc Ls (.int y :: .int x :: S)) := by subst hp; exact stp (fun _ q => XS.iadd X.here hx rfl hd rfl q) k
theorem i_isub {x y : Int32} (X : Pn p l e R s m args below meth c T h n0 cells slots) (hx : p.tables.exec = Jvm.exec) (hd : decode c.code pc = .ok (.isub, 1)) (hp : pc + 1 = pc')
    (k : Go p e s below n0 Q R T (mkF m pc' Ls (.int (x - y) :: S))) : Go p e s below n0 Q R T (mkF m pc Ls (.int y :: .int x :: S)) := by subst hp; exact stp (fun _ q => XS.isub X.here hx rfl hd rfl q) k
theorem i_imul {x y : Int32} (X : Pn p l e R s m args below meth c T h n0 cells slots) (hx : p.tables.exec = Jvm.exec) (hd : decode c.code pc = .ok (.imul, 1)) (hp : pc + 1 = pc')
    (k : Go p e s below n0 Q R T (mkF m pc' Ls (.int (x * y) :: S))) : Go p e s below n0 Q R T (mkF m pc Ls (.int y :: .int x :: S)) := by subst hp; exact stp (fun _ q => XS.imul X.here hx rfl hd rfl q) k
theorem i_iand {x y : Int32} (X : Pn p l e R s m args below meth c T h n0 cells slots) (hx : p.tables.exec = Jvm.exec) (hd : decode c.code pc = .ok (.iand, 1)) (hp : pc + 1 = pc')
    (k : Go p e s below n0 Q R T (mkF m pc' Ls (.int (x &&& y) :: S))) : Go p e s below n0 Q R T (mkF m pc Ls (.int y :: .int x :: S)) := by subst hp; exact stp (fun _ q => XS.iand X.here hx rfl hd rfl q) k
theorem i_ior {x y : Int32} (X : Pn p l e R s m args below meth c T h n0 cells slots) (hx : p.tables.exec = Jvm.exec) (hd : decode c.code pc = .ok (.ior, 1)) (hp : pc + 1 = pc')
    (k : Go p e s below n0 Q R T (mkF m pc' Ls (.int (x ||| y) :: S))) : Go p e s below n0 Q R T (mkF m pc Ls (.int y :: .int x :: S)) := by subst hp; exact stp (fun _ q => XT.ior X.here hx rfl hd rfl q) k
theorem i_ixor {x y : Int32} (X : Pn p l e R s m args below meth c T h n0 cells slots) (hx : p.tables.exec = Jvm.exec) (hd : decode c.code pc = .ok (.ixor, 1)) (hp : pc + 1 = pc')
    (k : Go p e s below n0 Q R T (mkF m pc' Ls (.int (x ^^^ y) :: S))) : Go p e s below n0 Q R T (mkF m pc Ls (.int y :: .int x :: S)) := by subst hp; exact stp (fun _ q => XT.ixor X.here hx rfl hd rfl q) k
theorem i_ishl {x y : Int32} (X : Pn p l e R s m args below meth c T h n0 cells slots) (hx : p.tables.exec = Jvm.exec) (hd : decode c.code pc = .ok (.ishl, 1)) (hp : pc + 1 = pc')
    (k : Go p e s below n0 Q R T (mkF m pc' Ls (.int (x <<< (y &&& 31)) :: S))) : Go p e s below n0 Q R T (mkF m pc Ls (.int y :: .int x :: S)) := by subst hp; exact stp (fun _ q => XT.ishl X.here hx rfl hd rfl q) k
theorem i_ishr {x y : Int32} (X : Pn p l e R s m args below meth c T h n0 cells slots) (hx : p.tables.exec = Jvm.exec) (hd : decode c.code pc = .ok (.ishr, 1)) (hp : pc + 1 = pc')
    (k : Go p e s below n0 Q R T (mkF m pc' Ls (.int (x >>> (y &&& 31)) :: S))) : Go p e s below n0 Q R T (mkF m pc Ls (.int y :: .int x :: S)) := by subst hp; exact stp (fun _ q => XT.ishr X.here hx rfl hd rfl q) k
theorem i_iushr {x y : Int32} (X : Pn p l e R s m args below meth c T h n0 cells slots) (hx : p.tables.exec = Jvm.exec) (hd : decode c.code pc = .ok (.iushr, 1)) (hp : pc + 1 = pc')
    (k : Go p e s below n0 Q R T (mkF m pc' Ls (.int (XT.ushr x y) :: S))) : Go p e s below n0 Q R T (mkF m pc Ls (.int y :: .int x :: S)) := by subst hp; exact stp (fun _ q => XT.iushr X.here hx rfl hd rfl q) k
theorem i_ladd {x y : Int64} (X : Pn p l e R s m args below meth c T h n0 cells slots) (hx : p.tables.exec = Jvm.exec) (hd : decode c.code pc = .ok (.ladd, 1)) (hp : pc + 1 = pc')
    (k : Go p e s below n0 Q R T (mkF m pc' Ls (.long (x + y) :: S))) : Go p e s below n0 Q R T (mkF m pc Ls (.long y :: .long x :: S)) := by subst hp; exact stp (fun _ q => XT.ladd X.here hx rfl hd rfl q) k
theorem i_lsub {x y : Int64} (X : Pn p l e R s m args below meth c T h n0 cells slots) (hx : p.tables.exec = Jvm.exec) (hd : decode c.code pc = .ok (.lsub, 1)) (hp : pc + 1 = pc')
    (k : Go p e s below n0 Q R T (mkF m pc' Ls (.long (x - y) :: S))) : Go p e s below n0 Q R T (mkF m pc Ls (.long y :: .long x :: S)) := by subst hp; exact stp (fun _ q => XT.lsub X.here hx rfl hd rfl q) k
theorem i_lmul {x y : Int64} (X : Pn p l e R s m args below meth c T h n0 cells slots) (hx : p.tables.exec = Jvm.exec) (hd : decode c.code pc = .ok (.lmul, 1)) (hp : pc + 1 = pc')
    (k : Go p e s below n0 Q R T (mkF m pc' Ls (.long (x * y) :: S))) : Go p e s below n0 Q R T (mkF m pc Ls (.long y :: .long x :: S)) := by subst hp; exact stp (fun _ q => XT.lmul X.here hx rfl hd rfl q) k
theorem i_land {x y : Int64} (X : Pn p l e R s m args below meth c T h n0 cells slots) (hx : p.tables.exec = Jvm.exec) (hd : decode c.code pc = .ok (.land, 1)) (hp : pc + 1 = pc')
    (k : Go p e s below n0 Q R T (mkF m pc' Ls (.long (x &&& y) :: S))) : Go p e s below n0 Q R T (mkF m pc Ls (.long y :: .long x :: S)) := by subst hp; exact stp (fun _ q => XT.land X.here hx rfl hd rfl q) k
theorem i_lor {x y : Int64} (X : Pn p l e R s m args below meth c T h n0 cells slots) (hx : p.tables.exec = Jvm.exec) (hd : decode c.code pc = .ok (.lor, 1)) (hp : pc + 1 = pc')
    (k : Go p e s below n0 Q R T (mkF m pc' Ls (.long (x ||| y) :: S))) : Go p e s below n0 Q R T (mkF m pc Ls (.long y :: .long x :: S)) := by subst hp; exact stp (fun _ q => XT.lor X.here hx rfl hd rfl q) k
theorem i_lxor {x y : Int64} (X : Pn p l e R s m args below meth c T h n0 cells slots) (hx : p.tables.exec = Jvm.exec) (hd : decode c.code pc = .ok (.lxor, 1)) (hp : pc + 1 = pc')
    (k : Go p e s below n0 Q R T (mkF m pc' Ls (.long (x ^^^ y) :: S))) : Go p e s below n0 Q R T (mkF m pc Ls (.long y :: .long x :: S)) := by subst hp; exact stp (fun _ q => XT.lxor X.here hx rfl hd rfl q) k
theorem i_lshl {x : Int64} {y : Int32} (X : Pn p l e R s m args below meth c T h n0 cells slots) (hx : p.tables.exec = Jvm.exec) (hd : decode c.code pc = .ok (.lshl, 1)) (hp : pc + 1 = pc')
    (k : Go p e s below n0 Q R T (mkF m pc' Ls (.long (x <<< (y.toInt64 &&& 63)) :: S))) : Go p e s below n0 Q R T (mkF m pc Ls (.int y :: .long x :: S)) := by subst hp; exact stp (fun _ q => XT.lshl X.here hx rfl hd rfl q) k
theorem i_lshr {x : Int64} {y : Int32} (X : Pn p l e R s m args below meth c T h n0 cells slots) (hx : p.tables.exec = Jvm.exec) (hd : decode c.code pc = .ok (.lshr, 1)) (hp : pc + 1 = pc')
    (k : Go p e s below n0 Q R T (mkF m pc' Ls (.long (x >>> (y.toInt64 &&& 63)) :: S))) : Go p e s below n0 Q R T (mkF m pc Ls (.int y :: .long x :: S)) := by subst hp; exact stp (fun _ q => XT.lshr X.here hx rfl hd rfl q) k
theorem i_lushr {x : Int64} {y : Int32} (X : Pn p l e R s m args below meth c T h n0 cells slots) (hx : p.tables.exec = Jvm.exec) (hd : decode c.code pc = .ok (.lushr, 1)) (hp : pc + 1 = pc')
    (k : Go p e s below n0 Q R T (mkF m pc' Ls (.long (XT.ushrL x y) :: S))) : Go p e s below n0 Q R T (mkF m pc Ls (.int y :: .long x :: S)) := by subst hp; exact stp (fun _ q => XT.lushr X.here hx rfl hd rfl q) k
theorem i_idiv {x y : Int32} (X : Pn p l e R s m args below meth c T h n0 cells slots) (hx : p.tables.exec = Jvm.exec) (hd : decode c.code pc = .ok (.idiv, 1)) (hp : pc + 1 = pc') (hy : y ≠ 0)
    (k : Go p e s below n0 Q R T (mkF m pc' Ls (.int (x / y) :: S))) : Go p e s below n0 Q R T (mkF m pc Ls (.int y :: .int x :: S)) := by subst hp; exact stp (fun _ q => XS.idiv X.here hx rfl hd rfl hy q) k
theorem i_ldiv {x y : Int64} (X : Pn p l e R s m args below meth c T h n0 cells slots) (hx : p.tables.exec = Jvm.exec) (hd : decode c.code pc = .ok (.ldiv, 1)) (hp : pc + 1 = pc') (hy : y ≠ 0)
    (k : Go p e s below n0 Q R T (mkF m pc' Ls (.long (x / y) :: S))) : Go p e s below n0 Q R T (mkF m pc Ls (.long y :: .long x :: S)) := by subst hp; exact stp (fun _ q => XT.ldiv X.here hx rfl hd rfl hy q) k
theorem i_lrem {x y : Int64} (X : Pn p l e R s m args below meth c T h n0 cells slots) (hx : p.tables.exec = Jvm.exec) (hd : decode c.code pc = .ok (.lrem, 1)) (hp : pc + 1 = pc') (hy : y ≠ 0)
    (k : Go p e s below n0 Q R T (mkF m pc' Ls (.long (x - (x / y) * y) :: S))) : Go p e s below n0 Q R T (mkF m pc Ls (.long y :: .long x :: S)) := by subst hp; exact stp (fun _ q => XT.lrem X.here hx rfl hd rfl hy q) k
theorem i_irem {x y : Int32} (X : Pn p l e R s m args below meth c T h n0 cells slots) (hx : p.tables.exec = Jvm.exec) (hd : decode c.code pc = .ok (.irem, 1)) (hp : pc + 1 = pc') (hy : y ≠ 0)
    (k : Go p e s below n0 Q R T (mkF m pc' Ls (.int (x % y) :: S))) : Go p e s below n0 Q R T (mkF m pc Ls (.int y :: .int x :: S)) := by subst hp; obtain ⟨e0, hn, locs, Y, N⟩ := X; exact stp (fun _ q => iremM Y hx rfl hd rfl hy q) k
theorem i_ineg {x : Int32} (X : Pn p l e R s m args below meth c T h n0 cells slots) (hx : p.tables.exec = Jvm.exec) (hd : decode c.code pc = .ok (.ineg, 1)) (hp : pc + 1 = pc')
    (k : Go p e s below n0 Q R T (mkF m pc' Ls (.int (-x) :: S))) : Go p e s below n0 Q R T (mkF m pc Ls (.int x :: S)) := by subst hp; exact stp (fun _ q => XS.ineg X.here hx rfl hd rfl q) k
theorem i_lneg {x : Int64} (X : Pn p l e R s m args below meth c T h n0 cells slots) (hx : p.tables.exec = Jvm.exec) (hd : decode c.code pc = .ok (.lneg, 1)) (hp : pc + 1 = pc')
    (k : Go p e s below n0 Q R T (mkF m pc' Ls (.long (-x) :: S))) : Go p e s below n0 Q R T (mkF m pc Ls (.long x :: S)) := by subst hp; exact stp (fun _ q => XT.lneg X.here hx rfl hd rfl q) k
theorem i_i2l {x : Int32} (X : Pn p l e R s m args below meth c T h n0 cells slots) (hx : p.tables.exec = Jvm.exec) (hd : decode c.code pc = .ok (.i2l, 1)) (hp : pc + 1 = pc')
    (k : Go p e s below n0 Q R T (mkF m pc' Ls (.long x.toInt64 :: S))) : Go p e s below n0 Q R T (mkF m pc Ls (.int x :: S)) := by subst hp; exact stp (fun _ q => XT.i2l X.here hx rfl hd rfl q) k
theorem i_l2i {x : Int64} (X : Pn p l e R s m args below meth c T h n0 cells slots) (hx : p.tables.exec = Jvm.exec) (hd : decode c.code pc = .ok (.l2i, 1)) (hp : pc + 1 = pc')
    (k : Go p e s below n0 Q R T (mkF m pc' Ls (.int x.toInt32 :: S))) : Go p e s below n0 Q R T (mkF m pc Ls (.long x :: S)) := by subst hp; exact stp (fun _ q => XT.l2i X.here hx rfl hd rfl q) k
theorem i_i2b {x : Int32} (X : Pn p l e R s m args below meth c T h n0 cells slots) (hx : p.tables.exec = Jvm.exec) (hd : decode c.code pc = .ok (.i2b, 1)) (hp : pc + 1 = pc')
    (k : Go p e s below n0 Q R T (mkF m pc' Ls (.int x.toInt8.toInt32 :: S))) : Go p e s below n0 Q R T (mkF m pc Ls (.int x :: S)) := by subst hp; exact stp (fun _ q => XT.i2b X.here hx rfl hd rfl q) k
theorem i_i2c {x : Int32} (X : Pn p l e R s m args below meth c T h n0 cells slots) (hx : p.tables.exec = Jvm.exec) (hd : decode c.code pc = .ok (.i2c, 1)) (hp : pc + 1 = pc')
    (k : Go p e s below n0 Q R T (mkF m pc' Ls (.int x.toUInt32.toUInt16.toUInt32.toInt32 :: S))) : Go p e s below n0 Q R T (mkF m pc Ls (.int x :: S)) := by subst hp; exact stp (fun _ q => XT.i2c X.here hx rfl hd rfl q) k
theorem i_i2s {x : Int32} (X : Pn p l e R s m args below meth c T h n0 cells slots) (hx : p.tables.exec = Jvm.exec) (hd : decode c.code pc = .ok (.i2s, 1)) (hp : pc + 1 = pc')
    (k : Go p e s below n0 Q R T (mkF m pc' Ls (.int x.toInt16.toInt32 :: S))) : Go p e s below n0 Q R T (mkF m pc Ls (.int x :: S)) := by subst hp; exact stp (fun _ q => XT.i2s X.here hx rfl hd rfl q) k
theorem i_lcmp {x y : Int64} (X : Pn p l e R s m args below meth c T h n0 cells slots) (hx : p.tables.exec = Jvm.exec) (hd : decode c.code pc = .ok (.lcmp, 1)) (hp : pc + 1 = pc')
    (k : Go p e s below n0 Q R T (mkF m pc' Ls (.int (XT.cmpL x y) :: S))) : Go p e s below n0 Q R T (mkF m pc Ls (.long y :: .long x :: S)) := by subst hp; exact stp (fun _ q => XT.lcmp X.here hx rfl hd rfl q) k
theorem i_aloadN {k : Fin 4} {v : Value} (X : Pn p l e R s m args below meth c T h n0 cells slots) (hx : p.tables.exec = Jvm.exec) (hd : decode c.code pc = .ok (.aload_n k, 1)) (hp : pc + 1 = pc') (hl : Ls[k.val]? = some (.val v)) (hv : v.isRef = true)
    (k : Go p e s below n0 Q R T (mkF m pc' Ls (v :: S))) : Go p e s below n0 Q R T (mkF m pc Ls S) := by subst hp; exact stp (fun _ q => XS.aloadN X.here hx rfl hd hl hv q) k
theorem i_aload {k : Nat} {v : Value} (X : Pn p l e R s m args below meth c T h n0 cells slots) (hx : p.tables.exec = Jvm.exec) (hd : decode c.code pc = .ok (.aload k, 2)) (hp : pc + 2 = pc') (hl : Ls[k]? = some (.val v)) (hv : v.isRef = true)
    (k : Go p e s below n0 Q R T (mkF m pc' Ls (v :: S))) : Go p e s below n0 Q R T (mkF m pc Ls S) := by subst hp; exact stp (fun _ q => XS.aload X.here hx rfl hd hl hv q) k
theorem i_iloadN {k : Fin 4} {v : Int32} (X : Pn p l e R s m args below meth c T h n0 cells slots) (hx : p.tables.exec = Jvm.exec) (hd : decode c.code pc = .ok (.iload_n k, 1)) (hp : pc + 1 = pc') (hl : Ls[k.val]? = some (.val (.int v)))
    (k : Go p e s below n0 Q R T (mkF m pc' Ls (.int v :: S))) : Go p e s below n0 Q R T (mkF m pc Ls S) := by subst hp; exact stp (fun _ q => XS.iloadN X.here hx rfl hd hl q) k
theorem i_iload {k : Nat} {v : Int32} (X : Pn p l e R s m args below meth c T h n0 cells slots) (hx : p.tables.exec = Jvm.exec) (hd : decode c.code pc = .ok (.iload k, 2)) (hp : pc + 2 = pc') (hl : Ls[k]? = some (.val (.int v)))
    (k : Go p e s below n0 Q R T (mkF m pc' Ls (.int v :: S))) : Go p e s below n0 Q R T (mkF m pc Ls S) := by subst hp; exact stp (fun _ q => XS.iload X.here hx rfl hd hl q) k
theorem i_lloadN {k : Fin 4} {v : Int64} (X : Pn p l e R s m args below meth c T h n0 cells slots) (hx : p.tables.exec = Jvm.exec) (hd : decode c.code pc = .ok (.lload_n k, 1)) (hp : pc + 1 = pc') (hl : Ls[k.val]? = some (.val (.long v)))
    (k : Go p e s below n0 Q R T (mkF m pc' Ls (.long v :: S))) : Go p e s below n0 Q R T (mkF m pc Ls S) := by subst hp; exact stp (fun _ q => XT.lloadN X.here hx rfl hd hl q) k
theorem i_lload {k : Nat} {v : Int64} (X : Pn p l e R s m args below meth c T h n0 cells slots) (hx : p.tables.exec = Jvm.exec) (hd : decode c.code pc = .ok (.lload k, 2)) (hp : pc + 2 = pc') (hl : Ls[k]? = some (.val (.long v)))
    (k : Go p e s below n0 Q R T (mkF m pc' Ls (.long v :: S))) : Go p e s below n0 Q R T (mkF m pc Ls S) := by subst hp; exact stp (fun _ q => XT.lload X.here hx rfl hd hl q) k
theorem i_istoreN {k : Fin 4} {x : Int32} {L' : Array Slot} (X : Pn p l e R s m args below meth c T h n0 cells slots) (hx : p.tables.exec = Jvm.exec) (hd : decode c.code pc = .ok (.istore_n k, 1)) (hp : pc + 1 = pc') (hl : storeLocals Ls k.val (.int x) = some L')
    (k : Go p e s below n0 Q R T (mkF m pc' L' S)) : Go p e s below n0 Q R T (mkF m pc Ls (.int x :: S)) := by subst hp; exact stp (fun _ q => XS.istoreN X.here hx rfl hd rfl hl q) k
theorem i_istore {k : Nat} {x : Int32} {L' : Array Slot} (X : Pn p l e R s m args below meth c T h n0 cells slots) (hx : p.tables.exec = Jvm.exec) (hd : decode c.code pc = .ok (.istore k, 2)) (hp : pc + 2 = pc') (hl : storeLocals Ls k (.int x) = some L')
    (k : Go p e s below n0 Q R T (mkF m pc' L' S)) : Go p e s below n0 Q R T (mkF m pc Ls (.int x :: S)) := by subst hp; exact stp (fun _ q => XS.istore X.here hx rfl hd rfl hl q) k
theorem i_lstoreN {k : Fin 4} {x : Int64} {L' : Array Slot} (X : Pn p l e R s m args below meth c T h n0 cells slots) (hx : p.tables.exec = Jvm.exec) (hd : decode c.code pc = .ok (.lstore_n k, 1)) (hp : pc + 1 = pc') (hl : storeLocals Ls k.val (.long x) = some L')
    (k : Go p e s below n0 Q R T (mkF m pc' L' S)) : Go p e s below n0 Q R T (mkF m pc Ls (.long x :: S)) := by subst hp; exact stp (fun _ q => XT.lstoreN X.here hx rfl hd rfl hl q) k
theorem i_lstore {k : Nat} {x : Int64} {L' : Array Slot} (X : Pn p l e R s m args below meth c T h n0 cells slots) (hx : p.tables.exec = Jvm.exec) (hd : decode c.code pc = .ok (.lstore k, 2)) (hp : pc + 2 = pc') (hl : storeLocals Ls k (.long x) = some L')
    (k : Go p e s below n0 Q R T (mkF m pc' L' S)) : Go p e s below n0 Q R T (mkF m pc Ls (.long x :: S)) := by subst hp; exact stp (fun _ q => XT.lstore X.here hx rfl hd rfl hl q) k
theorem i_astoreN {k : Fin 4} {x : Value} {L' : Array Slot} (X : Pn p l e R s m args below meth c T h n0 cells slots) (hx : p.tables.exec = Jvm.exec) (hd : decode c.code pc = .ok (.astore_n k, 1)) (hp : pc + 1 = pc') (hv : x.isRef = true) (hl : storeLocals Ls k.val x = some L')
    (k : Go p e s below n0 Q R T (mkF m pc' L' S)) : Go p e s below n0 Q R T (mkF m pc Ls (x :: S)) := by subst hp; exact stp (fun _ q => XS.astoreN X.here hx rfl hd rfl hv hl q) k
theorem i_astore {k : Nat} {x : Value} {L' : Array Slot} (X : Pn p l e R s m args below meth c T h n0 cells slots) (hx : p.tables.exec = Jvm.exec) (hd : decode c.code pc = .ok (.astore k, 2)) (hp : pc + 2 = pc') (hv : x.isRef = true) (hl : storeLocals Ls k x = some L')
    (k : Go p e s below n0 Q R T (mkF m pc' L' S)) : Go p e s below n0 Q R T (mkF m pc Ls (x :: S)) := by subst hp; exact stp (fun _ q => XS.astore X.here hx rfl hd rfl hv hl q) k
theorem i_iconst {i : Int} (v : Int32) (X : Pn p l e R s m args below meth c T h n0 cells slots) (hx : p.tables.exec = Jvm.exec) (hd : decode c.code pc = .ok (.iconst i, 1)) (hp : pc + 1 = pc') (hv : Int32.ofInt i = v)
    (k : Go p e s below n0 Q R T (mkF m pc' Ls (.int v :: S))) : Go p e s below n0 Q R T (mkF m pc Ls S) := by subst hp; exact stp (fun _ q => XT.iconstV X.here hx rfl v hd hv q) k
theorem i_bipush {i : Int} (v : Int32) (X : Pn p l e R s m args below meth c T h n0 cells slots) (hx : p.tables.exec = Jvm.exec) (hd : decode c.code pc = .ok (.bipush i, 2)) (hp : pc + 2 = pc') (hv : (Int8.ofInt i).toInt32 = v)
    (k : Go p e s below n0 Q R T (mkF m pc' Ls (.int v :: S))) : Go p e s below n0 Q R T (mkF m pc Ls S) := by subst hp; exact stp (fun _ q => XT.bipushV X.here hx rfl v hd hv q) k
theorem i_sipush {i : Int} (v : Int32) (X : Pn p l e R s m args below meth c T h n0 cells slots) (hx : p.tables.exec = Jvm.exec) (hd : decode c.code pc = .ok (.sipush i, 3)) (hp : pc + 3 = pc') (hv : (Int16.ofInt i).toInt32 = v)
    (k : Go p e s below n0 Q R T (mkF m pc' Ls (.int v :: S))) : Go p e s below n0 Q R T (mkF m pc Ls S) := by subst hp; exact stp (fun _ q => XT.sipushV X.here hx rfl v hd hv q) k
theorem i_lconst {i : Fin 2} (v : Int64) (X : Pn p l e R s m args below meth c T h n0 cells slots) (hx : p.tables.exec = Jvm.exec) (hd : decode c.code pc = .ok (.lconst i, 1)) (hp : pc + 1 = pc') (hv : Int64.ofNat i = v)
    (k : Go p e s below n0 Q R T (mkF m pc' Ls (.long v :: S))) : Go p e s below n0 Q R T (mkF m pc Ls S) := by subst hp; exact stp (fun _ q => XT.lconstV X.here hx rfl v hd hv q) k
theorem i_aconstNull (X : Pn p l e R s m args below meth c T h n0 cells slots) (hx : p.tables.exec = Jvm.exec) (hd : decode c.code pc = .ok (.aconst_null, 1)) (hp : pc + 1 = pc')
    (k : Go p e s below n0 Q R T (mkF m pc' Ls (.null :: S))) : Go p e s below n0 Q R T (mkF m pc Ls S) := by subst hp; exact stp (fun _ q => XS.aconstNull X.here hx rfl hd q) k
theorem i_iinc {i : Nat} {cst : Int} {x : Int32} {L' : Array Slot} (v : Int32) (X : Pn p l e R s m args below meth c T h n0 cells slots) (hx : p.tables.exec = Jvm.exec) (hd : decode c.code pc = .ok (.iinc i cst, 3)) (hp : pc + 3 = pc') (hv : Int32.ofInt cst = v) (hl : Ls[i]? = some (.val (.int x))) (hl' : storeLocals Ls i (.int (x + v)) = some L')
    (k : Go p e s below n0 Q R T (mkF m pc' L' S)) : Go p e s below n0 Q R T (mkF m pc Ls S) := by subst hp; exact stp (fun _ q => XT.iincV X.here hx rfl v hd hv hl hl' q) k
theorem i_ldc {own : String} {i : Nat} (v : Int32) (X : Pn p l e R s m args below meth c T h n0 cells slots) (hx : p.tables.exec = Jvm.exec) (hZ : Z.Warmed39 s.vm) (hown : s.vm.findClass own = some m.cls) (w : (Cond.constant own i v).before a0 Z = true) (hd : decode c.code pc = .ok (.ldc i, 2)) (hp : pc + 2 = pc')
    (k : Go p e s below n0 Q R T (mkF m pc' Ls (.int v :: S))) : Go p e s below n0 Q R T (mkF m pc Ls S) := by subst hp; obtain ⟨e0, hn, locs, Y, N⟩ := X; exact stp (fun _ q => Y.ldcI hx hown (mv hZ w) (g := mkF m pc Ls S) rfl hd q) k
theorem i_ldcW {own : String} {i : Nat} (v : Int32) (X : Pn p l e R s m args below meth c T h n0 cells slots) (hx : p.tables.exec = Jvm.exec) (hZ : Z.Warmed39 s.vm) (hown : s.vm.findClass own = some m.cls) (w : (Cond.constant own i v).before a0 Z = true) (hd : decode c.code pc = .ok (.ldc_w i, 3)) (hp : pc + 3 = pc')
    (k : Go p e s below n0 Q R T (mkF m pc' Ls (.int v :: S))) : Go p e s below n0 Q R T (mkF m pc Ls S) := by subst hp; obtain ⟨e0, hn, locs, Y, N⟩ := X; exact stp (fun _ q => Y.ldcWI hx hown (mv hZ w) (g := mkF m pc Ls S) rfl hd q) k
theorem i_ldc2 {own : String} {i : Nat} (v : Int64) (X : Pn p l e R s m args below meth c T h n0 cells slots) (hx : p.tables.exec = Jvm.exec) (hZ : Z.Warmed39 s.vm) (hown : s.vm.findClass own = some m.cls) (w : (Cond.constantLong own i v).before a0 Z = true) (hd : decode c.code pc = .ok (.ldc2_w i, 3)) (hp : pc + 3 = pc')
    (k : Go p e s below n0 Q R T (mkF m pc' Ls (.long v :: S))) : Go p e s below n0 Q R T (mkF m pc Ls S) := by subst hp; obtain ⟨e0, hn, locs, Y, N⟩ := X; exact stp (fun _ q => Y.ldc2J hx hown (mv hZ w) (g := mkF m pc Ls S) rfl hd q) k
theorem i_dup {x : Value} (X : Pn p l e R s m args below meth c T h n0 cells slots) (hx : p.tables.exec = Jvm.exec) (hd : decode c.code pc = .ok (.dup, 1)) (hp : pc + 1 = pc') (hc : x.category = 1)
    (k : Go p e s below n0 Q R T (mkF m pc' Ls (x :: x :: S))) : Go p e s below n0 Q R T (mkF m pc Ls (x :: S)) := by subst hp; exact stp (fun _ q => XS.dup X.here hx rfl hd rfl hc q) k
theorem i_pop {x : Value} (X : Pn p l e R s m args below meth c T h n0 cells slots) (hx : p.tables.exec = Jvm.exec) (hd : decode c.code pc = .ok (.pop, 1)) (hp : pc + 1 = pc') (hc : x.category = 1)
    (k : Go p e s below n0 Q R T (mkF m pc' Ls S)) : Go p e s below n0 Q R T (mkF m pc Ls (x :: S)) := by subst hp; exact stp (fun _ q => XT.pop X.here hx rfl hd rfl hc q) k
theorem i_dupX1 {x y : Value} (X : Pn p l e R s m args below meth c T h n0 cells slots) (hx : p.tables.exec = Jvm.exec) (hd : decode c.code pc = .ok (.dup_x1, 1)) (hp : pc + 1 = pc') (hc : x.category = 1) (hc' : y.category = 1)
    (k : Go p e s below n0 Q R T (mkF m pc' Ls (x :: y :: x :: S))) : Go p e s below n0 Q R T (mkF m pc Ls (x :: y :: S)) := by subst hp; exact stp (fun _ q => XT.dupX1 X.here hx rfl hd rfl hc hc' q) k
theorem i_dup2 {x y : Value} (X : Pn p l e R s m args below meth c T h n0 cells slots) (hx : p.tables.exec = Jvm.exec) (hd : decode c.code pc = .ok (.dup2, 1)) (hp : pc + 1 = pc') (hc : x.category = 1) (hc' : y.category = 1)
    (k : Go p e s below n0 Q R T (mkF m pc' Ls (x :: y :: x :: y :: S))) : Go p e s below n0 Q R T (mkF m pc Ls (x :: y :: S)) := by subst hp; exact stp (fun _ q => XT.dup2 X.here hx rfl hd rfl hc hc' q) k
theorem i_dup2L {x : Int64} (X : Pn p l e R s m args below meth c T h n0 cells slots) (hx : p.tables.exec = Jvm.exec) (hd : decode c.code pc = .ok (.dup2, 1)) (hp : pc + 1 = pc')
    (k : Go p e s below n0 Q R T (mkF m pc' Ls (.long x :: .long x :: S))) : Go p e s below n0 Q R T (mkF m pc Ls (.long x :: S)) := by subst hp; exact stp (fun _ q => XT.dup2L X.here hx rfl hd rfl q) k
theorem i_goto {o : Int} (X : Pn p l e R s m args below meth c T h n0 cells slots) (hx : p.tables.exec = Jvm.exec) (hd : decode c.code pc = .ok (.goto o, 3)) (ho : 0 ≤ (pc : Int) + o) (hp : ((pc : Int) + o).toNat = pc')
    (k : Go p e s below n0 Q R T (mkF m pc' Ls S)) : Go p e s below n0 Q R T (mkF m pc Ls S) := stp (fun _ q => XS.goto X.here hx rfl rfl hd ho hp q) k
theorem i_ifT {cd : ClassFile.Cond} {o : Int} {x : Int32} (X : Pn p l e R s m args below meth c T h n0 cells slots) (hx : p.tables.exec = Jvm.exec) (hd : decode c.code pc = .ok (.ifCond cd o, 3)) (hc : ifCond.holds cd x = true) (ho : 0 ≤ (pc : Int) + o) (hp : ((pc : Int) + o).toNat = pc')
    (k : Go p e s below n0 Q R T (mkF m pc' Ls S)) : Go p e s below n0 Q R T (mkF m pc Ls (.int x :: S)) := stp (fun _ q => XS.ifYes X.here hx rfl rfl hd rfl hc ho hp q) k
theorem i_ifF {cd : ClassFile.Cond} {o : Int} {x : Int32} (X : Pn p l e R s m args below meth c T h n0 cells slots) (hx : p.tables.exec = Jvm.exec) (hd : decode c.code pc = .ok (.ifCond cd o, 3)) (hp : pc + 3 = pc') (hc : ifCond.holds cd x = false)
    (k : Go p e s below n0 Q R T (mkF m pc' Ls S)) : Go p e s below n0 Q R T (mkF m pc Ls (.int x :: S)) := by subst hp; exact stp (fun _ q => XS.ifNo X.here hx rfl hd rfl hc q) k
theorem i_icT {cd : ClassFile.Cond} {o : Int} {x y : Int32} (X : Pn p l e R s m args below meth c T h n0 cells slots) (hx : p.tables.exec = Jvm.exec) (hd : decode c.code pc = .ok (.if_icmp cd o, 3)) (hc : if_icmp.holds cd x y = true) (ho : 0 ≤ (pc : Int) + o) (hp : ((pc : Int) + o).toNat = pc')
    (k : Go p e s below n0 Q R T (mkF m pc' Ls S)) : Go p e s below n0 Q R T (mkF m pc Ls (.int y :: .int x :: S)) := stp (fun _ q => XS.icmpYes X.here hx rfl rfl hd rfl hc ho hp q) k
theorem i_icF {cd : ClassFile.Cond} {o : Int} {x y : Int32} (X : Pn p l e R s m args below meth c T h n0 cells slots) (hx : p.tables.exec = Jvm.exec) (hd : decode c.code pc = .ok (.if_icmp cd o, 3)) (hp : pc + 3 = pc') (hc : if_icmp.holds cd x y = false)
    (k : Go p e s below n0 Q R T (mkF m pc' Ls S)) : Go p e s below n0 Q R T (mkF m pc Ls (.int y :: .int x :: S)) := by subst hp; exact stp (fun _ q => XS.icmpNo X.here hx rfl hd rfl hc q) k
theorem i_acT {cd : ClassFile.ACond} {o : Int} {x y : Value} (X : Pn p l e R s m args below meth c T h n0 cells slots) (hx : p.tables.exec = Jvm.exec) (hd : decode c.code pc = .ok (.if_acmp cd o, 3)) (hx' : x.isRef = true) (hy' : y.isRef = true) (hc : XT.acmp cd x y = true) (ho : 0 ≤ (pc : Int) + o) (hp : ((pc : Int) + o).toNat = pc')
    (k : Go p e s below n0 Q R T (mkF m pc' Ls S)) : Go p e s below n0 Q R T (mkF m pc Ls (y :: x :: S)) := stp (fun _ q => XT.acmpYes X.here hx rfl rfl hd rfl hx' hy' hc ho hp q) k
theorem i_acF {cd : ClassFile.ACond} {o : Int} {x y : Value} (X : Pn p l e R s m args below meth c T h n0 cells slots) (hx : p.tables.exec = Jvm.exec) (hd : decode c.code pc = .ok (.if_acmp cd o, 3)) (hp : pc + 3 = pc') (hx' : x.isRef = true) (hy' : y.isRef = true) (hc : XT.acmp cd x y = false)
    (k : Go p e s below n0 Q R T (mkF m pc' Ls S)) : Go p e s below n0 Q R T (mkF m pc Ls (y :: x :: S)) := by subst hp; exact stp (fun _ q => XT.acmpNo X.here hx rfl hd rfl hx' hy' hc q) k
theorem i_nuT {o : Int} {x : Value} (X : Pn p l e R s m args below meth c T h n0 cells slots) (hx : p.tables.exec = Jvm.exec) (hd : decode c.code pc = .ok (.ifnull o, 3)) (hv : x = .null) (ho : 0 ≤ (pc : Int) + o) (hp : ((pc : Int) + o).toNat = pc')
    (k : Go p e s below n0 Q R T (mkF m pc' Ls S)) : Go p e s below n0 Q R T (mkF m pc Ls (x :: S)) := stp (fun _ q => XT.nullYes X.here hx rfl rfl hd rfl hv ho hp q) k
theorem i_nuF {o : Int} {x : Value} (X : Pn p l e R s m args below meth c T h n0 cells slots) (hx : p.tables.exec = Jvm.exec) (hd : decode c.code pc = .ok (.ifnull o, 3)) (hp : pc + 3 = pc') (hr : x.isRef = true) (hv : ¬ x = .null)
    (k : Go p e s below n0 Q R T (mkF m pc' Ls S)) : Go p e s below n0 Q R T (mkF m pc Ls (x :: S)) := by subst hp; exact stp (fun _ q => XT.nullNo X.here hx rfl hd rfl hr hv q) k
theorem i_nnT {o : Int} {x : Value} (X : Pn p l e R s m args below meth c T h n0 cells slots) (hx : p.tables.exec = Jvm.exec) (hd : decode c.code pc = .ok (.ifnonnull o, 3)) (hr : x.isRef = true) (hv : ¬ x = .null) (ho : 0 ≤ (pc : Int) + o) (hp : ((pc : Int) + o).toNat = pc')
    (k : Go p e s below n0 Q R T (mkF m pc' Ls S)) : Go p e s below n0 Q R T (mkF m pc Ls (x :: S)) := stp (fun _ q => XT.nonnullYes X.here hx rfl rfl hd rfl hr hv ho hp q) k
theorem i_nnF {o : Int} {x : Value} (X : Pn p l e R s m args below meth c T h n0 cells slots) (hx : p.tables.exec = Jvm.exec) (hd : decode c.code pc = .ok (.ifnonnull o, 3)) (hp : pc + 3 = pc') (hv : x = .null)
    (k : Go p e s below n0 Q R T (mkF m pc' Ls S)) : Go p e s below n0 Q R T (mkF m pc Ls (x :: S)) := by subst hp; exact stp (fun _ q => XT.nonnullNo X.here hx rfl hd rfl hv q) k
theorem i_tsI {dflt low high : Int} {offs : Array Int} {ln : Nat} {o : Int} {x : Int32} (X : Pn p l e R s m args below meth c T h n0 cells slots) (hx : p.tables.exec = Jvm.exec) (hd : decode c.code pc = .ok (.tableswitch dflt low high offs, ln)) (hin : ¬ (x.toInt < low ∨ x.toInt > high)) (hoff : offs[(x.toInt - low).toNat]? = some o) (ho : 0 ≤ (pc : Int) + o) (hp : ((pc : Int) + o).toNat = pc')
    (k : Go p e s below n0 Q R T (mkF m pc' Ls S)) : Go p e s below n0 Q R T (mkF m pc Ls (.int x :: S)) := stp (fun _ q => XS.tswIn X.here hx rfl rfl hd rfl hin hoff ho hp q) k
theorem i_tsO {dflt low high : Int} {offs : Array Int} {ln : Nat} {x : Int32} (X : Pn p l e R s m args below meth c T h n0 cells slots) (hx : p.tables.exec = Jvm.exec) (hd : decode c.code pc = .ok (.tableswitch dflt low high offs, ln)) (hout : x.toInt < low ∨ x.toInt > high) (ho : 0 ≤ (pc : Int) + dflt) (hp : ((pc : Int) + dflt).toNat = pc')
    (k : Go p e s below n0 Q R T (mkF m pc' Ls S)) : Go p e s below n0 Q R T (mkF m pc Ls (.int x :: S)) := stp (fun _ q => XS.tswOut X.here hx rfl rfl hd rfl hout ho hp q) k
theorem own_irr (x : Int32) : ¬ x < x := Int32.lt_irrefl
theorem own_nar {t : FieldType} {w : Value} (h : w.isRef = true) : narrow t w = w := by rcases XT.refc h with rfl | ⟨_, rfl⟩ <;> cases t <;> rfl
theorem own_fitO {C : String} {w : Value} (h : w.isRef = true) : fits (.object C) w = true := by rcases XT.refc h with rfl | ⟨_, rfl⟩ <;> rfl
theorem own_fitA {t : FieldType} {w : Value} (h : w.isRef = true) : fits (.array t) w = true := by rcases XT.refc h with rfl | ⟨_, rfl⟩ <;> rfl
theorem own_sta_keep {h' : Heap} {ws : List Addr} {C n d : String} {v : Value} (F : Sta Z h C n d v) (K : Keep h h' ws) (q : ∀ (a : Addr) (cl : Cell), a ∈ ws → h[a]? = some cl → cl.vm.isStatics = false) : Sta Z h' C n d v := by
  obtain ⟨cf, i, k, f, st, cell, h1, h2, h3, h4, h5, h6, h7⟩ := F
  refine ⟨cf, i, k, f, st, cell, h1, h2, h3, h4, K.2.1 st cell h5 (fun hm => ?_), h6, h7⟩
  rw [q st cell hm h5] at h6; cases h6
theorem own_sw3 {x : Int32} (h0 : ¬ x = (0 : Int32)) (h1 : ¬ x = (1 : Int32)) (h2 : ¬ x = (2 : Int32)) : x.toInt < 0 ∨ x.toInt > 2 := by
  have a : ¬ x.toInt = 0 := fun q => h0 (Int32.toInt_inj.mp q)
  have b : ¬ x.toInt = 1 := fun q => h1 (Int32.toInt_inj.mp q)
  have c : ¬ x.toInt = 2 := fun q => h2 (Int32.toInt_inj.mp q)
  omega
def Two (a b : Slot) : Prop := (a = .unset ∧ b = .unset) ∨ ∃ z, a = .val (.long z) ∧ b = .second
theorem Two.u : Two .unset .unset := Or.inl ⟨rfl, rfl⟩
theorem Two.v (z : Int64) : Two (.val (.long z)) .second := Or.inr ⟨z, rfl, rfl⟩
theorem own_nar1 : nar .boolean 1 = 1 := by decide
theorem own_nar0 : nar .boolean 0 = 0 := by decide
end Own
end Jvm.OwnKit
namespace Jvm.Pilot.@@N@@
open Jvm Jvm.ClassFile Sem Op Lib Jvm.Free Jvm.Stand Jvm.LawKit Jvm.RoadKit Jvm.OwnKit Bundle Jvm.Pilot.@@N@@.Jvm.D
theorem own_lt (x y : Int32) : x < y ↔ x.toInt < y.toInt := Int32.lt_iff_toInt_lt
theorem own_eq (x y : Int32) : x = y ↔ x.toInt = y.toInt := Int32.toInt_inj.symm
theorem own_z : (0 : Int32).toInt = 0 := by decide
theorem own_nat {j : Int32} (q : 0 ≤ j.toInt) : (j.toNatClampNeg : Int) = j.toInt := (nat_of (by rw [own_lt, own_z]; omega)).symm
theorem own_lits : (0 : Int32).toInt = 0 ∧ (1 : Int32).toInt = 1 ∧ (2 : Int32).toInt = 2 ∧ (3 : Int32).toInt = 3 ∧ (4 : Int32).toInt = 4 ∧ (128 : Int32).toInt = 128 ∧ (191 : Int32).toInt = 191 ∧ (194 : Int32).toInt = 194 ∧ (223 : Int32).toInt = 223 ∧ (224 : Int32).toInt = 224 ∧ (239 : Int32).toInt = 239 ∧ (240 : Int32).toInt = 240 ∧ (244 : Int32).toInt = 244 ∧ (160 : Int32).toInt = 160 ∧ (237 : Int32).toInt = 237 ∧ (159 : Int32).toInt = 159 ∧ (144 : Int32).toInt = 144 ∧ (143 : Int32).toInt = 143 ∧ (2048 : Int32).toInt = 2048 ∧ (65536 : Int32).toInt = 65536 ∧ (1114111 : Int32).toInt = 1114111 ∧ (55296 : Int32).toInt = 55296 ∧ (57343 : Int32).toInt = 57343 := by decide
def own_spec (L s t u a : Int) : Int32 :=
  if L < 128 then 1
  else if 194 ≤ L ∧ L ≤ 223 then (if 2 ≤ a ∧ 128 ≤ s ∧ s ≤ 191 then 2 else 0)
  else if 224 ≤ L ∧ L ≤ 239 then (if 3 ≤ a ∧ 128 ≤ s ∧ s ≤ 191 ∧ (¬ L = 224 ∨ 160 ≤ s) ∧ (¬ L = 237 ∨ s ≤ 159) ∧ 128 ≤ t ∧ t ≤ 191 then 3 else 0)
  else if 240 ≤ L ∧ L ≤ 244 then (if 4 ≤ a ∧ 128 ≤ s ∧ s ≤ 191 ∧ (¬ L = 240 ∨ 144 ≤ s) ∧ (¬ L = 244 ∨ s ≤ 143) ∧ 128 ≤ t ∧ t ≤ 191 ∧ 128 ≤ u ∧ u ≤ 191 then 4 else 0)
  else 0
theorem own_m255 (x : Int32) : (x &&& (255 : Int32)).toInt = x.toInt % 256 := c_mask x 255 8 (by decide) (by decide)
theorem own_m (x m : Int32) (k : Nat) (hk : k ≤ 31) (hm : m.toBitVec.toNat = 2 ^ k - 1) : (x &&& m).toInt = x.toInt % (2 ^ k : Nat) := c_mask x m k hk hm
theorem own_small {x : Int32} (h : 0 ≤ x.toInt ∧ x.toInt ≤ 255) : ∃ k : Fin 256, x = Int32.ofNat k.1 ∧ x.toInt = (k.1 : Int) := by
  refine ⟨⟨x.toInt.toNat, by omega⟩, ?_, (Int.toNat_of_nonneg h.1).symm⟩
  refine Int32.toInt_inj.mp ?_
  show x.toInt = (Int32.ofNat x.toInt.toNat).toInt
  rw [show (Int32.ofNat x.toInt.toNat) = x.toInt.toNat.toInt32 from rfl, len_toInt (by omega)]; omega
theorem own_k192 : ∀ k : Fin 256, (Int32.ofNat k.1 &&& (192 : Int32) = (128 : Int32)) ↔ (128 ≤ k.1 ∧ k.1 ≤ 191) := by decide +kernel
theorem own_k224 : ∀ k : Fin 256, (Int32.ofNat k.1 &&& (224 : Int32) = (192 : Int32)) ↔ (192 ≤ k.1 ∧ k.1 ≤ 223) := by decide +kernel
theorem own_k240 : ∀ k : Fin 256, (Int32.ofNat k.1 &&& (240 : Int32) = (224 : Int32)) ↔ (224 ≤ k.1 ∧ k.1 ≤ 239) := by decide +kernel
theorem own_k248 : ∀ k : Fin 256, (Int32.ofNat k.1 &&& (248 : Int32) = (240 : Int32)) ↔ (240 ≤ k.1 ∧ k.1 ≤ 247) := by decide +kernel
section OwnMask
variable {x : Int32} (h : 0 ≤ x.toInt ∧ x.toInt ≤ 255)
theorem own_c192 (h : 0 ≤ x.toInt ∧ x.toInt ≤ 255) : (x &&& (192 : Int32) = (128 : Int32)) ↔ (128 ≤ x.toInt ∧ x.toInt ≤ 191) := by obtain ⟨k, e, f⟩ := own_small h; rw [f, e, own_k192 k]; omega
theorem own_c224 (h : 0 ≤ x.toInt ∧ x.toInt ≤ 255) : (x &&& (224 : Int32) = (192 : Int32)) ↔ (192 ≤ x.toInt ∧ x.toInt ≤ 223) := by obtain ⟨k, e, f⟩ := own_small h; rw [f, e, own_k224 k]; omega
theorem own_c240 (h : 0 ≤ x.toInt ∧ x.toInt ≤ 255) : (x &&& (240 : Int32) = (224 : Int32)) ↔ (224 ≤ x.toInt ∧ x.toInt ≤ 239) := by obtain ⟨k, e, f⟩ := own_small h; rw [f, e, own_k240 k]; omega
theorem own_c248 (h : 0 ≤ x.toInt ∧ x.toInt ≤ 255) : (x &&& (248 : Int32) = (240 : Int32)) ↔ (240 ≤ x.toInt ∧ x.toInt ≤ 247) := by obtain ⟨k, e, f⟩ := own_small h; rw [f, e, own_k248 k]; omega
end OwnMask
/-- a byte b (signed or not): b & 192 is (b & 255) & 192 -/
theorem own_s192 (b : Int32) : (b &&& (192 : Int32) = (128 : Int32)) ↔ (128 ≤ b.toInt % 256 ∧ b.toInt % 256 ≤ 191) := by
  have e : b &&& (192 : Int32) = (b &&& (255 : Int32)) &&& (192 : Int32) := by
    rw [Int32.and_assoc]; rfl
  have r : 0 ≤ (b &&& (255 : Int32)).toInt ∧ (b &&& (255 : Int32)).toInt ≤ 255 := by rw [own_m255]; omega
  rw [e, own_c192 r, own_m255]
def own_cont (c : Int32) : Int32 := if (c &&& (192 : Int32)) = (128 : Int32) then (1 : Int32) else (0 : Int32)
theorem own_ct {c : Int32} (h : 0 ≤ c.toInt ∧ c.toInt ≤ 255) : own_cont c = 0 ↔ ¬ (128 ≤ c.toInt ∧ c.toInt ≤ 191) := by
  unfold own_cont
  rw [← own_c192 h]
  split
  · rename_i q; simp [q]
  · rename_i q; simp [q]
theorem own_sh {w q : Int32} (k : Nat) (P : Int) (hq : q.toBitVec.toNat % 32 = k) (hP : P = (2 ^ k : Nat)) (hw : 0 ≤ w.toInt) (hs : w.toInt * P < 2147483648) : (w <<< (q &&& 31)).toInt = w.toInt * P := by
  have a := c_ishl w q k hq
  rw [← hP] at a
  have r := rng32 (w <<< (q &&& 31))
  have p1 : 0 < P := by rw [hP]; exact_mod_cast Nat.two_pow_pos k
  have p0 : 0 ≤ w.toInt * P := Int.mul_nonneg hw (by omega)
  omega
theorem own_or {a b : Int32} (k : Nat) (P : Int) (hk : k ≤ 31) (hP : P = (2 ^ k : Nat)) (ha : a.toInt % P = 0) (ha0 : 0 ≤ a.toInt) (hb : 0 ≤ b.toInt ∧ b.toInt < P) (hs : a.toInt + b.toInt < 2147483648) : (a ||| b).toInt = a.toInt + b.toInt := by
  have q := c_or a b k hk P hP ha hb.1 hb.2
  have r := rng32 (a ||| b)
  omega
theorem own_m6 (x : Int32) : (x &&& (63 : Int32)).toInt = x.toInt % 64 := own_m x 63 6 (by decide) (by decide)
theorem own_cp2 (l c : Int32) : (((l &&& (31 : Int32)) <<< ((6 : Int32) &&& 31)) ||| (c &&& (63 : Int32))).toInt = (l.toInt % 32) * 64 + c.toInt % 64 := by
  have e1 : (l &&& (31 : Int32)).toInt = l.toInt % 32 := own_m l 31 5 (by decide) (by decide)
  have e2 := own_m6 c
  have s := own_sh (w := l &&& (31 : Int32)) (q := 6) 6 64 (by decide) (by decide) (by omega) (by omega)
  rw [own_or 6 64 (by decide) (by decide) (by rw [s]; omega) (by omega) (by omega) (by omega), s, e1, e2]
theorem own_cp3 (l c d : Int32) : ((((l &&& (15 : Int32)) <<< ((12 : Int32) &&& 31)) ||| ((c &&& (63 : Int32)) <<< ((6 : Int32) &&& 31))) ||| (d &&& (63 : Int32))).toInt = (l.toInt % 16) * 4096 + (c.toInt % 64) * 64 + d.toInt % 64 := by
  have e1 : (l &&& (15 : Int32)).toInt = l.toInt % 16 := own_m l 15 4 (by decide) (by decide)
  have e2 := own_m6 c
  have e3 := own_m6 d
  have s := own_sh (w := l &&& (15 : Int32)) (q := 12) 12 4096 (by decide) (by decide) (by omega) (by omega)
  have s2 := own_sh (w := c &&& (63 : Int32)) (q := 6) 6 64 (by decide) (by decide) (by omega) (by omega)
  have o1 := own_or (a := (l &&& (15 : Int32)) <<< ((12 : Int32) &&& 31)) (b := (c &&& (63 : Int32)) <<< ((6 : Int32) &&& 31)) 12 4096 (by decide) (by decide) (by rw [s]; omega) (by omega) (by omega) (by omega)
  rw [own_or 6 64 (by decide) (by decide) (by rw [o1, s, s2]; omega) (by omega) (by omega) (by omega), o1, s, s2, e1, e2, e3]
theorem own_cp4 (l c d f : Int32) : (((((l &&& (7 : Int32)) <<< ((18 : Int32) &&& 31)) ||| ((c &&& (63 : Int32)) <<< ((12 : Int32) &&& 31))) ||| ((d &&& (63 : Int32)) <<< ((6 : Int32) &&& 31))) ||| (f &&& (63 : Int32))).toInt = (l.toInt % 8) * 262144 + (c.toInt % 64) * 4096 + (d.toInt % 64) * 64 + f.toInt % 64 := by
  have e1 : (l &&& (7 : Int32)).toInt = l.toInt % 8 := own_m l 7 3 (by decide) (by decide)
  have e2 := own_m6 c
  have e3 := own_m6 d
  have e4 := own_m6 f
  have s := own_sh (w := l &&& (7 : Int32)) (q := 18) 18 262144 (by decide) (by decide) (by omega) (by omega)
  have s2 := own_sh (w := c &&& (63 : Int32)) (q := 12) 12 4096 (by decide) (by decide) (by omega) (by omega)
  have s3 := own_sh (w := d &&& (63 : Int32)) (q := 6) 6 64 (by decide) (by decide) (by omega) (by omega)
  have o1 := own_or (a := (l &&& (7 : Int32)) <<< ((18 : Int32) &&& 31)) (b := (c &&& (63 : Int32)) <<< ((12 : Int32) &&& 31)) 18 262144 (by decide) (by decide) (by rw [s]; omega) (by omega) (by omega) (by omega)
  have o2 := own_or (a := ((l &&& (7 : Int32)) <<< ((18 : Int32) &&& 31)) ||| ((c &&& (63 : Int32)) <<< ((12 : Int32) &&& 31))) (b := (d &&& (63 : Int32)) <<< ((6 : Int32) &&& 31)) 12 4096 (by decide) (by decide) (by rw [o1, s, s2]; omega) (by omega) (by omega) (by omega)
  rw [own_or 6 64 (by decide) (by decide) (by rw [o2, o1, s, s2, s3]; omega) (by omega) (by omega) (by omega), o2, o1, s, s2, s3, e1, e2, e3, e4]
theorem own_in {a : Int32} {k : Nat} (h : a.toInt = (k : Int)) (hk : k < 5) : ¬ a < 0 ∧ a.toNatClampNeg < 5 ∧ a.toNatClampNeg = k := by
  have := own_nat (j := a) (by omega)
  exact ⟨by rw [own_lt, own_z]; omega, by omega, by omega⟩
theorem own_oj {a j : Int32} {k n : Nat} (h : a.toInt = (k : Int)) (hk : k ≤ 1) (hj : j.toInt = (n : Int)) (hn : n ≤ 3) : (a + j).toInt = ((k + n : Nat) : Int) := by
  rw [XT.add32 (by unfold XT.fits32; omega)]; omega
theorem own_b8 (x : Int32) : x.toInt8.toInt32.toInt % 256 = (x &&& (255 : Int32)).toInt := by
  have a := c_i2b x
  rw [own_m255]; omega
theorem own_bb (x : Int32) : x.toInt8.toInt32.toInt8.toInt32 = x.toInt8.toInt32 := by simp
theorem own_stB {Z : State} {h h' : Heap} {a : Addr} {ty : FieldType} {n k : Nat} {g : Nat → Int32} {j : Int32} {x : Int32} (e : j.toNatClampNeg = k) (A : Av Z h a ty n (fun i => .int (g i))) (W : Wr h h' a j.toNatClampNeg (.int x.toInt8.toInt32.toInt8.toInt32)) : Av Z h' a ty n (fun i => .int (if i = k then x.toInt8.toInt32 else g i)) := by
  rw [own_bb] at W
  subst e; exact (A.same W).congr fun i _ => by split <;> rfl
theorem own_asub (x y : Int32) : x + y - x = y := by rw [Int32.add_comm, Int32.add_sub_cancel]
theorem own_av (x : Int32) : 1 ≤ ((1 : Int32) + (x &&& (3 : Int32))).toInt ∧ ((1 : Int32) + (x &&& (3 : Int32))).toInt ≤ 4 := by
  have a := c_and x 3 (by decide)
  have c1 : (3 : Int32).toInt = 3 := by decide
  have c2 : (1 : Int32).toInt = 1 := by decide
  rw [XT.add32 (by unfold XT.fits32; omega)]; omega
theorem own_at1 {x : Int32} (h : ¬ (x &&& (1 : Int32)) = 0) : (x &&& (1 : Int32)) = 1 := (and_one x).resolve_left h
theorem d1_0 : decode prog_169_method_2_code 0 = .ok (.aload_n 0, 1) := by decide +kernel
theorem d1_1 : decode prog_169_method_2_code 1 = .ok (.iload_n 1, 1) := by decide +kernel
theorem d1_2 : decode prog_169_method_2_code 2 = .ok (.baload, 1) := by decide +kernel
theorem d1_3 : decode prog_169_method_2_code 3 = .ok (.sipush 255, 3) := by decide +kernel
theorem d1_6 : decode prog_169_method_2_code 6 = .ok (.iand, 1) := by decide +kernel
theorem d1_7 : decode prog_169_method_2_code 7 = .ok (.istore_n 3, 1) := by decide +kernel
theorem d1_8 : decode prog_169_method_2_code 8 = .ok (.iload_n 3, 1) := by decide +kernel
theorem d1_9 : decode prog_169_method_2_code 9 = .ok (.sipush 128, 3) := by decide +kernel
theorem d1_12 : decode prog_169_method_2_code 12 = .ok (.if_icmp .ge 5, 3) := by decide +kernel
theorem d1_15 : decode prog_169_method_2_code 15 = .ok (.iconst 1, 1) := by decide +kernel
theorem d1_16 : decode prog_169_method_2_code 16 = .ok (.ireturn, 1) := by decide +kernel
theorem d1_17 : decode prog_169_method_2_code 17 = .ok (.sipush 128, 3) := by decide +kernel
theorem d1_20 : decode prog_169_method_2_code 20 = .ok (.istore 5, 2) := by decide +kernel
theorem d1_22 : decode prog_169_method_2_code 22 = .ok (.sipush 191, 3) := by decide +kernel
theorem d1_25 : decode prog_169_method_2_code 25 = .ok (.istore 6, 2) := by decide +kernel
theorem d1_27 : decode prog_169_method_2_code 27 = .ok (.iload_n 3, 1) := by decide +kernel
theorem d1_28 : decode prog_169_method_2_code 28 = .ok (.sipush 194, 3) := by decide +kernel
theorem d1_31 : decode prog_169_method_2_code 31 = .ok (.if_icmp .lt 16, 3) := by decide +kernel
theorem d1_34 : decode prog_169_method_2_code 34 = .ok (.iload_n 3, 1) := by decide +kernel
theorem d1_35 : decode prog_169_method_2_code 35 = .ok (.sipush 223, 3) := by decide +kernel
theorem d1_38 : decode prog_169_method_2_code 38 = .ok (.if_icmp .gt 9, 3) := by decide +kernel
theorem d1_41 : decode prog_169_method_2_code 41 = .ok (.iconst 2, 1) := by decide +kernel
theorem d1_42 : decode prog_169_method_2_code 42 = .ok (.istore 4, 2) := by decide +kernel
theorem d1_44 : decode prog_169_method_2_code 44 = .ok (.goto 113, 3) := by decide +kernel
theorem d1_47 : decode prog_169_method_2_code 47 = .ok (.iload_n 3, 1) := by decide +kernel
theorem d1_48 : decode prog_169_method_2_code 48 = .ok (.sipush 224, 3) := by decide +kernel
theorem d1_51 : decode prog_169_method_2_code 51 = .ok (.if_icmp .lt 50, 3) := by decide +kernel
theorem d1_54 : decode prog_169_method_2_code 54 = .ok (.iload_n 3, 1) := by decide +kernel
theorem d1_55 : decode prog_169_method_2_code 55 = .ok (.sipush 239, 3) := by decide +kernel
theorem d1_58 : decode prog_169_method_2_code 58 = .ok (.if_icmp .gt 43, 3) := by decide +kernel
theorem d1_61 : decode prog_169_method_2_code 61 = .ok (.iconst 3, 1) := by decide +kernel
theorem d1_62 : decode prog_169_method_2_code 62 = .ok (.istore 4, 2) := by decide +kernel
theorem d1_64 : decode prog_169_method_2_code 64 = .ok (.iload_n 3, 1) := by decide +kernel
theorem d1_65 : decode prog_169_method_2_code 65 = .ok (.sipush 224, 3) := by decide +kernel
theorem d1_68 : decode prog_169_method_2_code 68 = .ok (.if_icmp .ne 9, 3) := by decide +kernel
theorem d1_71 : decode prog_169_method_2_code 71 = .ok (.sipush 160, 3) := by decide +kernel
theorem d1_74 : decode prog_169_method_2_code 74 = .ok (.goto 5, 3) := by decide +kernel
theorem d1_77 : decode prog_169_method_2_code 77 = .ok (.iload 5, 2) := by decide +kernel
theorem d1_79 : decode prog_169_method_2_code 79 = .ok (.istore 5, 2) := by decide +kernel
theorem d1_81 : decode prog_169_method_2_code 81 = .ok (.iload_n 3, 1) := by decide +kernel
theorem d1_82 : decode prog_169_method_2_code 82 = .ok (.sipush 237, 3) := by decide +kernel
theorem d1_85 : decode prog_169_method_2_code 85 = .ok (.if_icmp .ne 9, 3) := by decide +kernel
theorem d1_88 : decode prog_169_method_2_code 88 = .ok (.sipush 159, 3) := by decide +kernel
theorem d1_91 : decode prog_169_method_2_code 91 = .ok (.goto 5, 3) := by decide +kernel
theorem d1_94 : decode prog_169_method_2_code 94 = .ok (.iload 6, 2) := by decide +kernel
theorem d1_96 : decode prog_169_method_2_code 96 = .ok (.istore 6, 2) := by decide +kernel
theorem d1_98 : decode prog_169_method_2_code 98 = .ok (.goto 59, 3) := by decide +kernel
theorem d1_101 : decode prog_169_method_2_code 101 = .ok (.iload_n 3, 1) := by decide +kernel
theorem d1_102 : decode prog_169_method_2_code 102 = .ok (.sipush 240, 3) := by decide +kernel
theorem d1_105 : decode prog_169_method_2_code 105 = .ok (.if_icmp .lt 50, 3) := by decide +kernel
theorem d1_108 : decode prog_169_method_2_code 108 = .ok (.iload_n 3, 1) := by decide +kernel
theorem d1_109 : decode prog_169_method_2_code 109 = .ok (.sipush 244, 3) := by decide +kernel
theorem d1_112 : decode prog_169_method_2_code 112 = .ok (.if_icmp .gt 43, 3) := by decide +kernel
theorem d1_115 : decode prog_169_method_2_code 115 = .ok (.iconst 4, 1) := by decide +kernel
theorem d1_116 : decode prog_169_method_2_code 116 = .ok (.istore 4, 2) := by decide +kernel
theorem d1_118 : decode prog_169_method_2_code 118 = .ok (.iload_n 3, 1) := by decide +kernel
theorem d1_119 : decode prog_169_method_2_code 119 = .ok (.sipush 240, 3) := by decide +kernel
theorem d1_122 : decode prog_169_method_2_code 122 = .ok (.if_icmp .ne 9, 3) := by decide +kernel
theorem d1_125 : decode prog_169_method_2_code 125 = .ok (.sipush 144, 3) := by decide +kernel
theorem d1_128 : decode prog_169_method_2_code 128 = .ok (.goto 5, 3) := by decide +kernel
theorem d1_131 : decode prog_169_method_2_code 131 = .ok (.iload 5, 2) := by decide +kernel
theorem d1_133 : decode prog_169_method_2_code 133 = .ok (.istore 5, 2) := by decide +kernel
theorem d1_135 : decode prog_169_method_2_code 135 = .ok (.iload_n 3, 1) := by decide +kernel
theorem d1_136 : decode prog_169_method_2_code 136 = .ok (.sipush 244, 3) := by decide +kernel
theorem d1_139 : decode prog_169_method_2_code 139 = .ok (.if_icmp .ne 9, 3) := by decide +kernel
theorem d1_142 : decode prog_169_method_2_code 142 = .ok (.sipush 143, 3) := by decide +kernel
theorem d1_145 : decode prog_169_method_2_code 145 = .ok (.goto 5, 3) := by decide +kernel
theorem d1_148 : decode prog_169_method_2_code 148 = .ok (.iload 6, 2) := by decide +kernel
theorem d1_150 : decode prog_169_method_2_code 150 = .ok (.istore 6, 2) := by decide +kernel
theorem d1_152 : decode prog_169_method_2_code 152 = .ok (.goto 5, 3) := by decide +kernel
theorem d1_155 : decode prog_169_method_2_code 155 = .ok (.iconst 0, 1) := by decide +kernel
theorem d1_156 : decode prog_169_method_2_code 156 = .ok (.ireturn, 1) := by decide +kernel
theorem d1_157 : decode prog_169_method_2_code 157 = .ok (.iload_n 2, 1) := by decide +kernel
theorem d1_158 : decode prog_169_method_2_code 158 = .ok (.iload_n 1, 1) := by decide +kernel
theorem d1_159 : decode prog_169_method_2_code 159 = .ok (.isub, 1) := by decide +kernel
theorem d1_160 : decode prog_169_method_2_code 160 = .ok (.iload 4, 2) := by decide +kernel
theorem d1_162 : decode prog_169_method_2_code 162 = .ok (.if_icmp .ge 5, 3) := by decide +kernel
theorem d1_165 : decode prog_169_method_2_code 165 = .ok (.iconst 0, 1) := by decide +kernel
theorem d1_166 : decode prog_169_method_2_code 166 = .ok (.ireturn, 1) := by decide +kernel
theorem d1_167 : decode prog_169_method_2_code 167 = .ok (.aload_n 0, 1) := by decide +kernel
theorem d1_168 : decode prog_169_method_2_code 168 = .ok (.iload_n 1, 1) := by decide +kernel
theorem d1_169 : decode prog_169_method_2_code 169 = .ok (.iconst 1, 1) := by decide +kernel
theorem d1_170 : decode prog_169_method_2_code 170 = .ok (.iadd, 1) := by decide +kernel
theorem d1_171 : decode prog_169_method_2_code 171 = .ok (.baload, 1) := by decide +kernel
theorem d1_172 : decode prog_169_method_2_code 172 = .ok (.sipush 255, 3) := by decide +kernel
theorem d1_175 : decode prog_169_method_2_code 175 = .ok (.iand, 1) := by decide +kernel
theorem d1_176 : decode prog_169_method_2_code 176 = .ok (.istore 7, 2) := by decide +kernel
theorem d1_178 : decode prog_169_method_2_code 178 = .ok (.iload 7, 2) := by decide +kernel
theorem d1_180 : decode prog_169_method_2_code 180 = .ok (.iload 5, 2) := by decide +kernel
theorem d1_182 : decode prog_169_method_2_code 182 = .ok (.if_icmp .lt 10, 3) := by decide +kernel
theorem d1_185 : decode prog_169_method_2_code 185 = .ok (.iload 7, 2) := by decide +kernel
theorem d1_187 : decode prog_169_method_2_code 187 = .ok (.iload 6, 2) := by decide +kernel
theorem d1_189 : decode prog_169_method_2_code 189 = .ok (.if_icmp .le 5, 3) := by decide +kernel
theorem d1_192 : decode prog_169_method_2_code 192 = .ok (.iconst 0, 1) := by decide +kernel
theorem d1_193 : decode prog_169_method_2_code 193 = .ok (.ireturn, 1) := by decide +kernel
theorem d1_194 : decode prog_169_method_2_code 194 = .ok (.iconst 2, 1) := by decide +kernel
theorem d1_195 : decode prog_169_method_2_code 195 = .ok (.istore 8, 2) := by decide +kernel
theorem d1_197 : decode prog_169_method_2_code 197 = .ok (.iload 8, 2) := by decide +kernel
theorem d1_199 : decode prog_169_method_2_code 199 = .ok (.iload 4, 2) := by decide +kernel
theorem d1_201 : decode prog_169_method_2_code 201 = .ok (.if_icmp .ge 27, 3) := by decide +kernel
theorem d1_204 : decode prog_169_method_2_code 204 = .ok (.aload_n 0, 1) := by decide +kernel
theorem d1_205 : decode prog_169_method_2_code 205 = .ok (.iload_n 1, 1) := by decide +kernel
theorem d1_206 : decode prog_169_method_2_code 206 = .ok (.iload 8, 2) := by decide +kernel
theorem d1_208 : decode prog_169_method_2_code 208 = .ok (.iadd, 1) := by decide +kernel
theorem d1_209 : decode prog_169_method_2_code 209 = .ok (.baload, 1) := by decide +kernel
theorem d1_210 : decode prog_169_method_2_code 210 = .ok (.sipush 192, 3) := by decide +kernel
theorem d1_213 : decode prog_169_method_2_code 213 = .ok (.iand, 1) := by decide +kernel
theorem d1_214 : decode prog_169_method_2_code 214 = .ok (.sipush 128, 3) := by decide +kernel
theorem d1_217 : decode prog_169_method_2_code 217 = .ok (.if_icmp .eq 5, 3) := by decide +kernel
theorem d1_220 : decode prog_169_method_2_code 220 = .ok (.iconst 0, 1) := by decide +kernel
theorem d1_221 : decode prog_169_method_2_code 221 = .ok (.ireturn, 1) := by decide +kernel
theorem d1_222 : decode prog_169_method_2_code 222 = .ok (.iinc 8 1, 3) := by decide +kernel
theorem d1_225 : decode prog_169_method_2_code 225 = .ok (.goto (-28), 3) := by decide +kernel
theorem d1_228 : decode prog_169_method_2_code 228 = .ok (.iload 4, 2) := by decide +kernel
theorem d1_230 : decode prog_169_method_2_code 230 = .ok (.ireturn, 1) := by decide +kernel
theorem pn0 : plainName "weir/stream/Json" = true := by first | (simp [plainName, overriddenIn]; done) | decide +kernel
theorem ef_rm1 (m : MethodId) (tt : Addr) (ax : Int32) (tx : Int32) : entryFrame m #[(.ref tt), (.int ax), (.int tx)] 9 = mkF m 0 #[.val (.ref tt), .val (.int ax), .val (.int tx), .unset, .unset, .unset, .unset, .unset, .unset] [] := by first | (simp [entryFrame, mkF, argsToLocals, Value.category, maxLocals]; done) | rfl
def Qrm1 (Z : State) (tt : Addr) (ax : Int32) (tx : Int32) (K : Nat) (g : Nat → Int32) (n0 : Nat) (h0 : Heap) (rv : Option Value) (h : Heap) : Prop := rv = some (.int (own_spec ((g K).toInt % 256) ((g (K + 1)).toInt % 256) ((g (K + 2)).toInt % 256) ((g (K + 3)).toInt % 256) (tx - ax).toInt)) ∧ h0 = h
abbrev Rrm1 : Room := { frames := 0, cells := 0, slots := 0, locals := 0 }
set_option maxRecDepth 65536 in
set_option maxHeartbeats 40000000 in
theorem rm1 (l : Launch) (Z : State) (a0 : Array Value) (hw : ∀ d ∈ tables_1, d.before a0 Z = true) (ws : List Jvm.Cond) (tt : Addr) (ax : Int32) (tx : Int32) (K : Nat) (g : Nat → Int32) (n0 : Nat) (h0 : Heap) (hn : n0 ≤ h0.size) (H0 : Av Z h0 tt .byte 5 (fun i => .int (g i))) (hK : ax.toInt = (K : Int)) (hK1 : K ≤ 1) (ha : 1 ≤ (tx - ax).toInt ∧ (tx - ax).toInt ≤ 4) :
    Con l Z (⟨"weir/stream/Json", "characterLength", "([BII)I"⟩ : MethodName) prog_169_method_2_code 9 (some .int) ws Rrm1 #[(.ref tt), (.int ax), (.int tx)] h0 n0 (Qrm1 Z tt ax tx K g n0 h0) := by
  refine body (y := (⟨"weir/stream/Json", "characterLength", "([BII)I"⟩ : MethodName)) (Ls := #[.val (.ref tt), .val (.int ax), .val (.int tx), .unset, .unset, .unset, .unset, .unset, .unset]) (plainFor_of_name pn0) hn (fun m => ef_rm1 m tt ax tx) ?_
  intro p e s m below meth c T0 hx hby hml hown hnm hret hlk hZ X0
  refine i_aloadN (v := (.ref tt)) (pc' := 1) X0 hx (hb hby d1_0) rfl rfl rfl ?_
  refine i_iloadN (v := ax) (pc' := 2) X0 hx (hb hby d1_1) rfl rfl ?_
  refine ldB (v := (.int (g K))) (pc' := 3) X0 hx hZ H0 (own_in (k := K) hK (by omega)).1 (own_in (k := K) hK (by omega)).2.1 (congrArg (fun i => Value.int (g i)) (own_in (k := K) hK (by omega)).2.2) (hb hby d1_2) rfl ?_
  refine i_sipush (pc' := 6) (255 : Int32) X0 hx (hb hby d1_3) rfl (by decide) ?_
  refine i_iand (pc' := 7) X0 hx (hb hby d1_6) rfl ?_
  obtain ⟨v1, hv1⟩ : ∃ zz : Int32, zz = ((g K) &&& (255 : Int32)) := ⟨_, rfl⟩
  rw [← hv1]
  refine i_istoreN (L' := #[.val (.ref tt), .val (.int ax), .val (.int tx), .val (.int v1), .unset, .unset, .unset, .unset, .unset]) (pc' := 8) X0 hx (hb hby d1_7) rfl rfl ?_
  refine i_iloadN (v := v1) (pc' := 9) X0 hx (hb hby d1_8) rfl rfl ?_
  refine i_sipush (pc' := 12) (128 : Int32) X0 hx (hb hby d1_9) rfl (by decide) ?_
  by_cases hc2 : v1 < (128 : Int32)
  · skip
    refine i_icF (pc' := 15) X0 hx (hb hby d1_12) rfl (XT.ii_ge_f hc2) ?_
    refine i_iconst (pc' := 16) (1 : Int32) X0 hx (hb hby d1_15) rfl (by decide) ?_
    refine rI X0 hx hlk hret (hb hby d1_16) (by decide) (by decide) ?_
    have hfin : (1 : Int32) = (own_spec ((g K).toInt % 256) ((g (K + 1)).toInt % 256) ((g (K + 2)).toInt % 256) ((g (K + 3)).toInt % 256) (tx - ax).toInt) := by
      have lits := own_lits
      have ev1 := congrArg Int32.toInt hv1
      rw [own_m255] at ev1
      have khc2 := (own_lt _ _).mp hc2
      unfold own_spec
      repeat' split
      all_goals first | rfl | (exfalso; omega)
    exact ⟨congrArg (fun z => some (Value.int z)) hfin, rfl⟩
  · skip
    refine i_icT (pc' := 17) X0 hx (hb hby d1_12) (XT.ii_ge_t hc2) (by decide) (by decide) ?_
    refine i_sipush (pc' := 20) (128 : Int32) X0 hx (hb hby d1_17) rfl (by decide) ?_
    refine i_istore (L' := #[.val (.ref tt), .val (.int ax), .val (.int tx), .val (.int v1), .unset, .val (.int (128 : Int32)), .unset, .unset, .unset]) (pc' := 22) X0 hx (hb hby d1_20) rfl rfl ?_
    refine i_sipush (pc' := 25) (191 : Int32) X0 hx (hb hby d1_22) rfl (by decide) ?_
    refine i_istore (L' := #[.val (.ref tt), .val (.int ax), .val (.int tx), .val (.int v1), .unset, .val (.int (128 : Int32)), .val (.int (191 : Int32)), .unset, .unset]) (pc' := 27) X0 hx (hb hby d1_25) rfl rfl ?_
    refine i_iloadN (v := v1) (pc' := 28) X0 hx (hb hby d1_27) rfl rfl ?_
    refine i_sipush (pc' := 31) (194 : Int32) X0 hx (hb hby d1_28) rfl (by decide) ?_
    by_cases hc3 : v1 < (194 : Int32)
    · skip
      refine i_icT (pc' := 47) X0 hx (hb hby d1_31) (XT.ii_lt_t hc3) (by decide) (by decide) ?_
      refine i_iloadN (v := v1) (pc' := 48) X0 hx (hb hby d1_47) rfl rfl ?_
      refine i_sipush (pc' := 51) (224 : Int32) X0 hx (hb hby d1_48) rfl (by decide) ?_
      refine i_icT (pc' := 101) X0 hx (hb hby d1_51) (XT.ii_lt_t ((own_lt _ _).mpr (by have q := (own_lt _ _).mp hc3; have l := own_lits; omega))) (by decide) (by decide) ?_
      refine i_iloadN (v := v1) (pc' := 102) X0 hx (hb hby d1_101) rfl rfl ?_
      refine i_sipush (pc' := 105) (240 : Int32) X0 hx (hb hby d1_102) rfl (by decide) ?_
      refine i_icT (pc' := 155) X0 hx (hb hby d1_105) (XT.ii_lt_t ((own_lt _ _).mpr (by have q := (own_lt _ _).mp hc3; have l := own_lits; omega))) (by decide) (by decide) ?_
      refine i_iconst (pc' := 156) (0 : Int32) X0 hx (hb hby d1_155) rfl (by decide) ?_
      refine rI X0 hx hlk hret (hb hby d1_156) (by decide) (by decide) ?_
      have hfin : (0 : Int32) = (own_spec ((g K).toInt % 256) ((g (K + 1)).toInt % 256) ((g (K + 2)).toInt % 256) ((g (K + 3)).toInt % 256) (tx - ax).toInt) := by
        have lits := own_lits
        have ev1 := congrArg Int32.toInt hv1
        rw [own_m255] at ev1
        have khc2 := (not_congr (own_lt _ _)).mp hc2
        have khc3 := (own_lt _ _).mp hc3
        unfold own_spec
        repeat' split
        all_goals first | rfl | (exfalso; omega)
      exact ⟨congrArg (fun z => some (Value.int z)) hfin, rfl⟩
    · skip
      refine i_icF (pc' := 34) X0 hx (hb hby d1_31) rfl (XT.ii_lt_f hc3) ?_
      refine i_iloadN (v := v1) (pc' := 35) X0 hx (hb hby d1_34) rfl rfl ?_
      refine i_sipush (pc' := 38) (223 : Int32) X0 hx (hb hby d1_35) rfl (by decide) ?_
      by_cases hc4 : (223 : Int32) < v1
      · skip
        refine i_icT (pc' := 47) X0 hx (hb hby d1_38) (XT.ii_gt_t hc4) (by decide) (by decide) ?_
        refine i_iloadN (v := v1) (pc' := 48) X0 hx (hb hby d1_47) rfl rfl ?_
        refine i_sipush (pc' := 51) (224 : Int32) X0 hx (hb hby d1_48) rfl (by decide) ?_
        refine i_icF (pc' := 54) X0 hx (hb hby d1_51) rfl (XT.ii_lt_f (fun q => by have q1 := (own_lt _ _).mp q; have q2 := (own_lt _ _).mp hc4; have l := own_lits; omega)) ?_
        refine i_iloadN (v := v1) (pc' := 55) X0 hx (hb hby d1_54) rfl rfl ?_
        refine i_sipush (pc' := 58) (239 : Int32) X0 hx (hb hby d1_55) rfl (by decide) ?_
        by_cases hc5 : (239 : Int32) < v1
        · skip
          refine i_icT (pc' := 101) X0 hx (hb hby d1_58) (XT.ii_gt_t hc5) (by decide) (by decide) ?_
          refine i_iloadN (v := v1) (pc' := 102) X0 hx (hb hby d1_101) rfl rfl ?_
          refine i_sipush (pc' := 105) (240 : Int32) X0 hx (hb hby d1_102) rfl (by decide) ?_
          refine i_icF (pc' := 108) X0 hx (hb hby d1_105) rfl (XT.ii_lt_f (fun q => by have q1 := (own_lt _ _).mp q; have q2 := (own_lt _ _).mp hc5; have l := own_lits; omega)) ?_
          refine i_iloadN (v := v1) (pc' := 109) X0 hx (hb hby d1_108) rfl rfl ?_
          refine i_sipush (pc' := 112) (244 : Int32) X0 hx (hb hby d1_109) rfl (by decide) ?_
          by_cases hc6 : (244 : Int32) < v1
          · skip
            refine i_icT (pc' := 155) X0 hx (hb hby d1_112) (XT.ii_gt_t hc6) (by decide) (by decide) ?_
            refine i_iconst (pc' := 156) (0 : Int32) X0 hx (hb hby d1_155) rfl (by decide) ?_
            refine rI X0 hx hlk hret (hb hby d1_156) (by decide) (by decide) ?_
            have hfin : (0 : Int32) = (own_spec ((g K).toInt % 256) ((g (K + 1)).toInt % 256) ((g (K + 2)).toInt % 256) ((g (K + 3)).toInt % 256) (tx - ax).toInt) := by
              have lits := own_lits
              have ev1 := congrArg Int32.toInt hv1
              rw [own_m255] at ev1
              have khc2 := (not_congr (own_lt _ _)).mp hc2
              have khc3 := (not_congr (own_lt _ _)).mp hc3
              have khc4 := (own_lt _ _).mp hc4
              have khc5 := (own_lt _ _).mp hc5
              have khc6 := (own_lt _ _).mp hc6
              unfold own_spec
              repeat' split
              all_goals first | rfl | (exfalso; omega)
            exact ⟨congrArg (fun z => some (Value.int z)) hfin, rfl⟩
          · skip
            refine i_icF (pc' := 115) X0 hx (hb hby d1_112) rfl (XT.ii_gt_f hc6) ?_
            refine i_iconst (pc' := 116) (4 : Int32) X0 hx (hb hby d1_115) rfl (by decide) ?_
            refine i_istore (L' := #[.val (.ref tt), .val (.int ax), .val (.int tx), .val (.int v1), .val (.int (4 : Int32)), .val (.int (128 : Int32)), .val (.int (191 : Int32)), .unset, .unset]) (pc' := 118) X0 hx (hb hby d1_116) rfl rfl ?_
            refine i_iloadN (v := v1) (pc' := 119) X0 hx (hb hby d1_118) rfl rfl ?_
            refine i_sipush (pc' := 122) (240 : Int32) X0 hx (hb hby d1_119) rfl (by decide) ?_
            obtain ⟨v7, hv7⟩ : ∃ zz : Int32, zz = (if v1 = (240 : Int32) then (144 : Int32) else (128 : Int32)) := ⟨_, rfl⟩
            have J8 : ∀ (T : State), Pn p l e Rrm1 s m #[(.ref tt), (.int ax), (.int tx)] below meth c T h0 n0 0 0 → Go p e s below n0 (Qrm1 Z tt ax tx K g n0 h0) Rrm1 T (mkF m 133 #[.val (.ref tt), .val (.int ax), .val (.int tx), .val (.int v1), .val (.int (4 : Int32)), .val (.int (128 : Int32)), .val (.int (191 : Int32)), .unset, .unset] [(.int v7)]) := by
              intro T8 X8
              refine i_istore (L' := #[.val (.ref tt), .val (.int ax), .val (.int tx), .val (.int v1), .val (.int (4 : Int32)), .val (.int v7), .val (.int (191 : Int32)), .unset, .unset]) (pc' := 135) X8 hx (hb hby d1_133) rfl rfl ?_
              refine i_iloadN (v := v1) (pc' := 136) X8 hx (hb hby d1_135) rfl rfl ?_
              refine i_sipush (pc' := 139) (244 : Int32) X8 hx (hb hby d1_136) rfl (by decide) ?_
              obtain ⟨v9, hv9⟩ : ∃ zz : Int32, zz = (if v1 = (244 : Int32) then (143 : Int32) else (191 : Int32)) := ⟨_, rfl⟩
              have J10 : ∀ (T : State), Pn p l e Rrm1 s m #[(.ref tt), (.int ax), (.int tx)] below meth c T h0 n0 0 0 → Go p e s below n0 (Qrm1 Z tt ax tx K g n0 h0) Rrm1 T (mkF m 150 #[.val (.ref tt), .val (.int ax), .val (.int tx), .val (.int v1), .val (.int (4 : Int32)), .val (.int v7), .val (.int (191 : Int32)), .unset, .unset] [(.int v9)]) := by
                intro T10 X10
                refine i_istore (L' := #[.val (.ref tt), .val (.int ax), .val (.int tx), .val (.int v1), .val (.int (4 : Int32)), .val (.int v7), .val (.int v9), .unset, .unset]) (pc' := 152) X10 hx (hb hby d1_150) rfl rfl ?_
                refine i_goto (pc' := 157) X10 hx (hb hby d1_152) (by decide) (by decide) ?_
                refine i_iloadN (v := tx) (pc' := 158) X10 hx (hb hby d1_157) rfl rfl ?_
                refine i_iloadN (v := ax) (pc' := 159) X10 hx (hb hby d1_158) rfl rfl ?_
                refine i_isub (pc' := 160) X10 hx (hb hby d1_159) rfl ?_
                refine i_iload (v := (4 : Int32)) (pc' := 162) X10 hx (hb hby d1_160) rfl rfl ?_
                by_cases hc11 : (tx - ax) < (4 : Int32)
                · skip
                  refine i_icF (pc' := 165) X10 hx (hb hby d1_162) rfl (XT.ii_ge_f hc11) ?_
                  refine i_iconst (pc' := 166) (0 : Int32) X10 hx (hb hby d1_165) rfl (by decide) ?_
                  refine rI X10 hx hlk hret (hb hby d1_166) (by decide) (by decide) ?_
                  have hfin : (0 : Int32) = (own_spec ((g K).toInt % 256) ((g (K + 1)).toInt % 256) ((g (K + 2)).toInt % 256) ((g (K + 3)).toInt % 256) (tx - ax).toInt) := by
                    have lits := own_lits
                    have ev1 := congrArg Int32.toInt hv1
                    rw [own_m255] at ev1
                    have khc2 := (not_congr (own_lt _ _)).mp hc2
                    have khc3 := (not_congr (own_lt _ _)).mp hc3
                    have khc4 := (own_lt _ _).mp hc4
                    have khc5 := (own_lt _ _).mp hc5
                    have khc6 := (not_congr (own_lt _ _)).mp hc6
                    have khc11 := (own_lt _ _).mp hc11
                    have mv7 : (v1.toInt = 240 ∧ v7.toInt = 144) ∨ (¬ v1.toInt = 240 ∧ v7.toInt = 128) := by
                      rw [hv7]
                      by_cases q : v1 = (240 : Int32)
                      · rw [if_pos q]; exact Or.inl ⟨by rw [q]; decide, by decide⟩
                      · rw [if_neg q]; exact Or.inr ⟨fun u => q ((own_eq _ _).mpr (by rw [u]; decide)), by decide⟩
                    have mv9 : (v1.toInt = 244 ∧ v9.toInt = 143) ∨ (¬ v1.toInt = 244 ∧ v9.toInt = 191) := by
                      rw [hv9]
                      by_cases q : v1 = (244 : Int32)
                      · rw [if_pos q]; exact Or.inl ⟨by rw [q]; decide, by decide⟩
                      · rw [if_neg q]; exact Or.inr ⟨fun u => q ((own_eq _ _).mpr (by rw [u]; decide)), by decide⟩
                    unfold own_spec
                    repeat' split
                    all_goals first | rfl | (exfalso; omega)
                  exact ⟨congrArg (fun z => some (Value.int z)) hfin, rfl⟩
                · skip
                  refine i_icT (pc' := 167) X10 hx (hb hby d1_162) (XT.ii_ge_t hc11) (by decide) (by decide) ?_
                  refine i_aloadN (v := (.ref tt)) (pc' := 168) X10 hx (hb hby d1_167) rfl rfl rfl ?_
                  refine i_iloadN (v := ax) (pc' := 169) X10 hx (hb hby d1_168) rfl rfl ?_
                  refine i_iconst (pc' := 170) (1 : Int32) X10 hx (hb hby d1_169) rfl (by decide) ?_
                  refine i_iadd (pc' := 171) X10 hx (hb hby d1_170) rfl ?_
                  refine ldB (v := (.int (g (K + 1)))) (pc' := 172) X10 hx hZ H0 (own_in (k := (K + 1)) (own_oj hK hK1 (n := 1) (by decide) (by decide)) (by omega)).1 (own_in (k := (K + 1)) (own_oj hK hK1 (n := 1) (by decide) (by decide)) (by omega)).2.1 (congrArg (fun i => Value.int (g i)) (own_in (k := (K + 1)) (own_oj hK hK1 (n := 1) (by decide) (by decide)) (by omega)).2.2) (hb hby d1_171) rfl ?_
                  refine i_sipush (pc' := 175) (255 : Int32) X10 hx (hb hby d1_172) rfl (by decide) ?_
                  refine i_iand (pc' := 176) X10 hx (hb hby d1_175) rfl ?_
                  obtain ⟨v12, hv12⟩ : ∃ zz : Int32, zz = ((g (K + 1)) &&& (255 : Int32)) := ⟨_, rfl⟩
                  rw [← hv12]
                  refine i_istore (L' := #[.val (.ref tt), .val (.int ax), .val (.int tx), .val (.int v1), .val (.int (4 : Int32)), .val (.int v7), .val (.int v9), .val (.int v12), .unset]) (pc' := 178) X10 hx (hb hby d1_176) rfl rfl ?_
                  refine i_iload (v := v12) (pc' := 180) X10 hx (hb hby d1_178) rfl rfl ?_
                  refine i_iload (v := v7) (pc' := 182) X10 hx (hb hby d1_180) rfl rfl ?_
                  by_cases hc13 : v12 < v7
                  · skip
                    refine i_icT (pc' := 192) X10 hx (hb hby d1_182) (XT.ii_lt_t hc13) (by decide) (by decide) ?_
                    refine i_iconst (pc' := 193) (0 : Int32) X10 hx (hb hby d1_192) rfl (by decide) ?_
                    refine rI X10 hx hlk hret (hb hby d1_193) (by decide) (by decide) ?_
                    have hfin : (0 : Int32) = (own_spec ((g K).toInt % 256) ((g (K + 1)).toInt % 256) ((g (K + 2)).toInt % 256) ((g (K + 3)).toInt % 256) (tx - ax).toInt) := by
                      have lits := own_lits
                      have ev1 := congrArg Int32.toInt hv1
                      rw [own_m255] at ev1
                      have ev12 := congrArg Int32.toInt hv12
                      rw [own_m255] at ev12
                      have khc2 := (not_congr (own_lt _ _)).mp hc2
                      have khc3 := (not_congr (own_lt _ _)).mp hc3
                      have khc4 := (own_lt _ _).mp hc4
                      have khc5 := (own_lt _ _).mp hc5
                      have khc6 := (not_congr (own_lt _ _)).mp hc6
                      have khc11 := (not_congr (own_lt _ _)).mp hc11
                      have khc13 := (own_lt _ _).mp hc13
                      have mv7 : (v1.toInt = 240 ∧ v7.toInt = 144) ∨ (¬ v1.toInt = 240 ∧ v7.toInt = 128) := by
                        rw [hv7]
                        by_cases q : v1 = (240 : Int32)
                        · rw [if_pos q]; exact Or.inl ⟨by rw [q]; decide, by decide⟩
                        · rw [if_neg q]; exact Or.inr ⟨fun u => q ((own_eq _ _).mpr (by rw [u]; decide)), by decide⟩
                      have mv9 : (v1.toInt = 244 ∧ v9.toInt = 143) ∨ (¬ v1.toInt = 244 ∧ v9.toInt = 191) := by
                        rw [hv9]
                        by_cases q : v1 = (244 : Int32)
                        · rw [if_pos q]; exact Or.inl ⟨by rw [q]; decide, by decide⟩
                        · rw [if_neg q]; exact Or.inr ⟨fun u => q ((own_eq _ _).mpr (by rw [u]; decide)), by decide⟩
                      unfold own_spec
                      repeat' split
                      all_goals first | rfl | (exfalso; omega)
                    exact ⟨congrArg (fun z => some (Value.int z)) hfin, rfl⟩
                  · skip
                    refine i_icF (pc' := 185) X10 hx (hb hby d1_182) rfl (XT.ii_lt_f hc13) ?_
                    refine i_iload (v := v12) (pc' := 187) X10 hx (hb hby d1_185) rfl rfl ?_
                    refine i_iload (v := v9) (pc' := 189) X10 hx (hb hby d1_187) rfl rfl ?_
                    by_cases hc14 : v9 < v12
                    · skip
                      refine i_icF (pc' := 192) X10 hx (hb hby d1_189) rfl (XT.ii_le_f hc14) ?_
                      refine i_iconst (pc' := 193) (0 : Int32) X10 hx (hb hby d1_192) rfl (by decide) ?_
                      refine rI X10 hx hlk hret (hb hby d1_193) (by decide) (by decide) ?_
                      have hfin : (0 : Int32) = (own_spec ((g K).toInt % 256) ((g (K + 1)).toInt % 256) ((g (K + 2)).toInt % 256) ((g (K + 3)).toInt % 256) (tx - ax).toInt) := by
                        have lits := own_lits
                        have ev1 := congrArg Int32.toInt hv1
                        rw [own_m255] at ev1
                        have ev12 := congrArg Int32.toInt hv12
                        rw [own_m255] at ev12
                        have khc2 := (not_congr (own_lt _ _)).mp hc2
                        have khc3 := (not_congr (own_lt _ _)).mp hc3
                        have khc4 := (own_lt _ _).mp hc4
                        have khc5 := (own_lt _ _).mp hc5
                        have khc6 := (not_congr (own_lt _ _)).mp hc6
                        have khc11 := (not_congr (own_lt _ _)).mp hc11
                        have khc13 := (not_congr (own_lt _ _)).mp hc13
                        have khc14 := (own_lt _ _).mp hc14
                        have mv7 : (v1.toInt = 240 ∧ v7.toInt = 144) ∨ (¬ v1.toInt = 240 ∧ v7.toInt = 128) := by
                          rw [hv7]
                          by_cases q : v1 = (240 : Int32)
                          · rw [if_pos q]; exact Or.inl ⟨by rw [q]; decide, by decide⟩
                          · rw [if_neg q]; exact Or.inr ⟨fun u => q ((own_eq _ _).mpr (by rw [u]; decide)), by decide⟩
                        have mv9 : (v1.toInt = 244 ∧ v9.toInt = 143) ∨ (¬ v1.toInt = 244 ∧ v9.toInt = 191) := by
                          rw [hv9]
                          by_cases q : v1 = (244 : Int32)
                          · rw [if_pos q]; exact Or.inl ⟨by rw [q]; decide, by decide⟩
                          · rw [if_neg q]; exact Or.inr ⟨fun u => q ((own_eq _ _).mpr (by rw [u]; decide)), by decide⟩
                        unfold own_spec
                        repeat' split
                        all_goals first | rfl | (exfalso; omega)
                      exact ⟨congrArg (fun z => some (Value.int z)) hfin, rfl⟩
                    · skip
                      refine i_icT (pc' := 194) X10 hx (hb hby d1_189) (XT.ii_le_t hc14) (by decide) (by decide) ?_
                      refine i_iconst (pc' := 195) (2 : Int32) X10 hx (hb hby d1_194) rfl (by decide) ?_
                      refine i_istore (L' := #[.val (.ref tt), .val (.int ax), .val (.int tx), .val (.int v1), .val (.int (4 : Int32)), .val (.int v7), .val (.int v9), .val (.int v12), .val (.int (2 : Int32))]) (pc' := 197) X10 hx (hb hby d1_195) rfl rfl ?_
                      refine i_iload (v := (2 : Int32)) (pc' := 199) X10 hx (hb hby d1_197) rfl rfl ?_
                      refine i_iload (v := (4 : Int32)) (pc' := 201) X10 hx (hb hby d1_199) rfl rfl ?_
                      refine i_icF (pc' := 204) X10 hx (hb hby d1_201) rfl (XT.ii_ge_f (by decide)) ?_
                      refine i_aloadN (v := (.ref tt)) (pc' := 205) X10 hx (hb hby d1_204) rfl rfl rfl ?_
                      refine i_iloadN (v := ax) (pc' := 206) X10 hx (hb hby d1_205) rfl rfl ?_
                      refine i_iload (v := (2 : Int32)) (pc' := 208) X10 hx (hb hby d1_206) rfl rfl ?_
                      refine i_iadd (pc' := 209) X10 hx (hb hby d1_208) rfl ?_
                      refine ldB (v := (.int (g (K + 2)))) (pc' := 210) X10 hx hZ H0 (own_in (k := (K + 2)) (own_oj hK hK1 (n := 2) (by decide) (by decide)) (by omega)).1 (own_in (k := (K + 2)) (own_oj hK hK1 (n := 2) (by decide) (by decide)) (by omega)).2.1 (congrArg (fun i => Value.int (g i)) (own_in (k := (K + 2)) (own_oj hK hK1 (n := 2) (by decide) (by decide)) (by omega)).2.2) (hb hby d1_209) rfl ?_
                      refine i_sipush (pc' := 213) (192 : Int32) X10 hx (hb hby d1_210) rfl (by decide) ?_
                      refine i_iand (pc' := 214) X10 hx (hb hby d1_213) rfl ?_
                      refine i_sipush (pc' := 217) (128 : Int32) X10 hx (hb hby d1_214) rfl (by decide) ?_
                      by_cases hc15 : ((g (K + 2)) &&& (192 : Int32)) = (128 : Int32)
                      · skip
                        refine i_icT (pc' := 222) X10 hx (hb hby d1_217) (XT.ii_eq_t hc15) (by decide) (by decide) ?_
                        refine i_iinc (pc' := 225) (L' := #[.val (.ref tt), .val (.int ax), .val (.int tx), .val (.int v1), .val (.int (4 : Int32)), .val (.int v7), .val (.int v9), .val (.int v12), .val (.int (3 : Int32))]) (1 : Int32) X10 hx (hb hby d1_222) rfl (by decide) rfl (by rw [show ((2 : Int32) + (1 : Int32)) = (3 : Int32) from by decide]; rfl) ?_
                        refine i_goto (pc' := 197) X10 hx (hb hby d1_225) (by decide) (by decide) ?_
                        refine i_iload (v := (3 : Int32)) (pc' := 199) X10 hx (hb hby d1_197) rfl rfl ?_
                        refine i_iload (v := (4 : Int32)) (pc' := 201) X10 hx (hb hby d1_199) rfl rfl ?_
                        refine i_icF (pc' := 204) X10 hx (hb hby d1_201) rfl (XT.ii_ge_f (by decide)) ?_
                        refine i_aloadN (v := (.ref tt)) (pc' := 205) X10 hx (hb hby d1_204) rfl rfl rfl ?_
                        refine i_iloadN (v := ax) (pc' := 206) X10 hx (hb hby d1_205) rfl rfl ?_
                        refine i_iload (v := (3 : Int32)) (pc' := 208) X10 hx (hb hby d1_206) rfl rfl ?_
                        refine i_iadd (pc' := 209) X10 hx (hb hby d1_208) rfl ?_
                        refine ldB (v := (.int (g (K + 3)))) (pc' := 210) X10 hx hZ H0 (own_in (k := (K + 3)) (own_oj hK hK1 (n := 3) (by decide) (by decide)) (by omega)).1 (own_in (k := (K + 3)) (own_oj hK hK1 (n := 3) (by decide) (by decide)) (by omega)).2.1 (congrArg (fun i => Value.int (g i)) (own_in (k := (K + 3)) (own_oj hK hK1 (n := 3) (by decide) (by decide)) (by omega)).2.2) (hb hby d1_209) rfl ?_
                        refine i_sipush (pc' := 213) (192 : Int32) X10 hx (hb hby d1_210) rfl (by decide) ?_
                        refine i_iand (pc' := 214) X10 hx (hb hby d1_213) rfl ?_
                        refine i_sipush (pc' := 217) (128 : Int32) X10 hx (hb hby d1_214) rfl (by decide) ?_
                        by_cases hc16 : ((g (K + 3)) &&& (192 : Int32)) = (128 : Int32)
                        · skip
                          refine i_icT (pc' := 222) X10 hx (hb hby d1_217) (XT.ii_eq_t hc16) (by decide) (by decide) ?_
                          refine i_iinc (pc' := 225) (L' := #[.val (.ref tt), .val (.int ax), .val (.int tx), .val (.int v1), .val (.int (4 : Int32)), .val (.int v7), .val (.int v9), .val (.int v12), .val (.int (4 : Int32))]) (1 : Int32) X10 hx (hb hby d1_222) rfl (by decide) rfl (by rw [show ((3 : Int32) + (1 : Int32)) = (4 : Int32) from by decide]; rfl) ?_
                          refine i_goto (pc' := 197) X10 hx (hb hby d1_225) (by decide) (by decide) ?_
                          refine i_iload (v := (4 : Int32)) (pc' := 199) X10 hx (hb hby d1_197) rfl rfl ?_
                          refine i_iload (v := (4 : Int32)) (pc' := 201) X10 hx (hb hby d1_199) rfl rfl ?_
                          refine i_icT (pc' := 228) X10 hx (hb hby d1_201) (XT.ii_ge_t (by decide)) (by decide) (by decide) ?_
                          refine i_iload (v := (4 : Int32)) (pc' := 230) X10 hx (hb hby d1_228) rfl rfl ?_
                          refine rI X10 hx hlk hret (hb hby d1_230) (by decide) (by decide) ?_
                          have hfin : (4 : Int32) = (own_spec ((g K).toInt % 256) ((g (K + 1)).toInt % 256) ((g (K + 2)).toInt % 256) ((g (K + 3)).toInt % 256) (tx - ax).toInt) := by
                            have lits := own_lits
                            have ev1 := congrArg Int32.toInt hv1
                            rw [own_m255] at ev1
                            have ev12 := congrArg Int32.toInt hv12
                            rw [own_m255] at ev12
                            have khc2 := (not_congr (own_lt _ _)).mp hc2
                            have khc3 := (not_congr (own_lt _ _)).mp hc3
                            have khc4 := (own_lt _ _).mp hc4
                            have khc5 := (own_lt _ _).mp hc5
                            have khc6 := (not_congr (own_lt _ _)).mp hc6
                            have khc11 := (not_congr (own_lt _ _)).mp hc11
                            have khc13 := (not_congr (own_lt _ _)).mp hc13
                            have khc14 := (not_congr (own_lt _ _)).mp hc14
                            have khc15 := (own_s192 (g (K + 2))).mp hc15
                            have khc16 := (own_s192 (g (K + 3))).mp hc16
                            have mv7 : (v1.toInt = 240 ∧ v7.toInt = 144) ∨ (¬ v1.toInt = 240 ∧ v7.toInt = 128) := by
                              rw [hv7]
                              by_cases q : v1 = (240 : Int32)
                              · rw [if_pos q]; exact Or.inl ⟨by rw [q]; decide, by decide⟩
                              · rw [if_neg q]; exact Or.inr ⟨fun u => q ((own_eq _ _).mpr (by rw [u]; decide)), by decide⟩
                            have mv9 : (v1.toInt = 244 ∧ v9.toInt = 143) ∨ (¬ v1.toInt = 244 ∧ v9.toInt = 191) := by
                              rw [hv9]
                              by_cases q : v1 = (244 : Int32)
                              · rw [if_pos q]; exact Or.inl ⟨by rw [q]; decide, by decide⟩
                              · rw [if_neg q]; exact Or.inr ⟨fun u => q ((own_eq _ _).mpr (by rw [u]; decide)), by decide⟩
                            unfold own_spec
                            repeat' split
                            all_goals first | rfl | (exfalso; omega)
                          exact ⟨congrArg (fun z => some (Value.int z)) hfin, rfl⟩
                        · skip
                          refine i_icF (pc' := 220) X10 hx (hb hby d1_217) rfl (XT.ii_eq_f hc16) ?_
                          refine i_iconst (pc' := 221) (0 : Int32) X10 hx (hb hby d1_220) rfl (by decide) ?_
                          refine rI X10 hx hlk hret (hb hby d1_221) (by decide) (by decide) ?_
                          have hfin : (0 : Int32) = (own_spec ((g K).toInt % 256) ((g (K + 1)).toInt % 256) ((g (K + 2)).toInt % 256) ((g (K + 3)).toInt % 256) (tx - ax).toInt) := by
                            have lits := own_lits
                            have ev1 := congrArg Int32.toInt hv1
                            rw [own_m255] at ev1
                            have ev12 := congrArg Int32.toInt hv12
                            rw [own_m255] at ev12
                            have khc2 := (not_congr (own_lt _ _)).mp hc2
                            have khc3 := (not_congr (own_lt _ _)).mp hc3
                            have khc4 := (own_lt _ _).mp hc4
                            have khc5 := (own_lt _ _).mp hc5
                            have khc6 := (not_congr (own_lt _ _)).mp hc6
                            have khc11 := (not_congr (own_lt _ _)).mp hc11
                            have khc13 := (not_congr (own_lt _ _)).mp hc13
                            have khc14 := (not_congr (own_lt _ _)).mp hc14
                            have khc15 := (own_s192 (g (K + 2))).mp hc15
                            have khc16 := (not_congr (own_s192 (g (K + 3)))).mp hc16
                            have mv7 : (v1.toInt = 240 ∧ v7.toInt = 144) ∨ (¬ v1.toInt = 240 ∧ v7.toInt = 128) := by
                              rw [hv7]
                              by_cases q : v1 = (240 : Int32)
                              · rw [if_pos q]; exact Or.inl ⟨by rw [q]; decide, by decide⟩
                              · rw [if_neg q]; exact Or.inr ⟨fun u => q ((own_eq _ _).mpr (by rw [u]; decide)), by decide⟩
                            have mv9 : (v1.toInt = 244 ∧ v9.toInt = 143) ∨ (¬ v1.toInt = 244 ∧ v9.toInt = 191) := by
                              rw [hv9]
                              by_cases q : v1 = (244 : Int32)
                              · rw [if_pos q]; exact Or.inl ⟨by rw [q]; decide, by decide⟩
                              · rw [if_neg q]; exact Or.inr ⟨fun u => q ((own_eq _ _).mpr (by rw [u]; decide)), by decide⟩
                            unfold own_spec
                            repeat' split
                            all_goals first | rfl | (exfalso; omega)
                          exact ⟨congrArg (fun z => some (Value.int z)) hfin, rfl⟩
                      · skip
                        refine i_icF (pc' := 220) X10 hx (hb hby d1_217) rfl (XT.ii_eq_f hc15) ?_
                        refine i_iconst (pc' := 221) (0 : Int32) X10 hx (hb hby d1_220) rfl (by decide) ?_
                        refine rI X10 hx hlk hret (hb hby d1_221) (by decide) (by decide) ?_
                        have hfin : (0 : Int32) = (own_spec ((g K).toInt % 256) ((g (K + 1)).toInt % 256) ((g (K + 2)).toInt % 256) ((g (K + 3)).toInt % 256) (tx - ax).toInt) := by
                          have lits := own_lits
                          have ev1 := congrArg Int32.toInt hv1
                          rw [own_m255] at ev1
                          have ev12 := congrArg Int32.toInt hv12
                          rw [own_m255] at ev12
                          have khc2 := (not_congr (own_lt _ _)).mp hc2
                          have khc3 := (not_congr (own_lt _ _)).mp hc3
                          have khc4 := (own_lt _ _).mp hc4
                          have khc5 := (own_lt _ _).mp hc5
                          have khc6 := (not_congr (own_lt _ _)).mp hc6
                          have khc11 := (not_congr (own_lt _ _)).mp hc11
                          have khc13 := (not_congr (own_lt _ _)).mp hc13
                          have khc14 := (not_congr (own_lt _ _)).mp hc14
                          have khc15 := (not_congr (own_s192 (g (K + 2)))).mp hc15
                          have mv7 : (v1.toInt = 240 ∧ v7.toInt = 144) ∨ (¬ v1.toInt = 240 ∧ v7.toInt = 128) := by
                            rw [hv7]
                            by_cases q : v1 = (240 : Int32)
                            · rw [if_pos q]; exact Or.inl ⟨by rw [q]; decide, by decide⟩
                            · rw [if_neg q]; exact Or.inr ⟨fun u => q ((own_eq _ _).mpr (by rw [u]; decide)), by decide⟩
                          have mv9 : (v1.toInt = 244 ∧ v9.toInt = 143) ∨ (¬ v1.toInt = 244 ∧ v9.toInt = 191) := by
                            rw [hv9]
                            by_cases q : v1 = (244 : Int32)
                            · rw [if_pos q]; exact Or.inl ⟨by rw [q]; decide, by decide⟩
                            · rw [if_neg q]; exact Or.inr ⟨fun u => q ((own_eq _ _).mpr (by rw [u]; decide)), by decide⟩
                          unfold own_spec
                          repeat' split
                          all_goals first | rfl | (exfalso; omega)
                        exact ⟨congrArg (fun z => some (Value.int z)) hfin, rfl⟩
              by_cases hc17 : v1 = (244 : Int32)
              · skip
                refine i_icF (pc' := 142) X8 hx (hb hby d1_139) rfl (XT.ii_ne_f hc17) ?_
                refine i_sipush (pc' := 145) (143 : Int32) X8 hx (hb hby d1_142) rfl (by decide) ?_
                refine i_goto (pc' := 150) X8 hx (hb hby d1_145) (by decide) (by decide) ?_
                have ev9 := hv9
                simp only [if_pos hc17] at ev9
                rw [ev9] at J10
                exact J10 _ (X8.mono (by decide) (by decide))
              · skip
                refine i_icT (pc' := 148) X8 hx (hb hby d1_139) (XT.ii_ne_t hc17) (by decide) (by decide) ?_
                refine i_iload (v := (191 : Int32)) (pc' := 150) X8 hx (hb hby d1_148) rfl rfl ?_
                have ev9 := hv9
                simp only [if_neg hc17] at ev9
                rw [ev9] at J10
                exact J10 _ (X8.mono (by decide) (by decide))
            by_cases hc18 : v1 = (240 : Int32)
            · skip
              refine i_icF (pc' := 125) X0 hx (hb hby d1_122) rfl (XT.ii_ne_f hc18) ?_
              refine i_sipush (pc' := 128) (144 : Int32) X0 hx (hb hby d1_125) rfl (by decide) ?_
              refine i_goto (pc' := 133) X0 hx (hb hby d1_128) (by decide) (by decide) ?_
              have ev7 := hv7
              simp only [if_pos hc18] at ev7
              rw [ev7] at J8
              exact J8 _ (X0.mono (by decide) (by decide))
            · skip
              refine i_icT (pc' := 131) X0 hx (hb hby d1_122) (XT.ii_ne_t hc18) (by decide) (by decide) ?_
              refine i_iload (v := (128 : Int32)) (pc' := 133) X0 hx (hb hby d1_131) rfl rfl ?_
              have ev7 := hv7
              simp only [if_neg hc18] at ev7
              rw [ev7] at J8
              exact J8 _ (X0.mono (by decide) (by decide))
        · skip
          refine i_icF (pc' := 61) X0 hx (hb hby d1_58) rfl (XT.ii_gt_f hc5) ?_
          refine i_iconst (pc' := 62) (3 : Int32) X0 hx (hb hby d1_61) rfl (by decide) ?_
          refine i_istore (L' := #[.val (.ref tt), .val (.int ax), .val (.int tx), .val (.int v1), .val (.int (3 : Int32)), .val (.int (128 : Int32)), .val (.int (191 : Int32)), .unset, .unset]) (pc' := 64) X0 hx (hb hby d1_62) rfl rfl ?_
          refine i_iloadN (v := v1) (pc' := 65) X0 hx (hb hby d1_64) rfl rfl ?_
          refine i_sipush (pc' := 68) (224 : Int32) X0 hx (hb hby d1_65) rfl (by decide) ?_
          obtain ⟨v19, hv19⟩ : ∃ zz : Int32, zz = (if v1 = (224 : Int32) then (160 : Int32) else (128 : Int32)) := ⟨_, rfl⟩
          have J20 : ∀ (T : State), Pn p l e Rrm1 s m #[(.ref tt), (.int ax), (.int tx)] below meth c T h0 n0 0 0 → Go p e s below n0 (Qrm1 Z tt ax tx K g n0 h0) Rrm1 T (mkF m 79 #[.val (.ref tt), .val (.int ax), .val (.int tx), .val (.int v1), .val (.int (3 : Int32)), .val (.int (128 : Int32)), .val (.int (191 : Int32)), .unset, .unset] [(.int v19)]) := by
            intro T20 X20
            refine i_istore (L' := #[.val (.ref tt), .val (.int ax), .val (.int tx), .val (.int v1), .val (.int (3 : Int32)), .val (.int v19), .val (.int (191 : Int32)), .unset, .unset]) (pc' := 81) X20 hx (hb hby d1_79) rfl rfl ?_
            refine i_iloadN (v := v1) (pc' := 82) X20 hx (hb hby d1_81) rfl rfl ?_
            refine i_sipush (pc' := 85) (237 : Int32) X20 hx (hb hby d1_82) rfl (by decide) ?_
            obtain ⟨v21, hv21⟩ : ∃ zz : Int32, zz = (if v1 = (237 : Int32) then (159 : Int32) else (191 : Int32)) := ⟨_, rfl⟩
            have J22 : ∀ (T : State), Pn p l e Rrm1 s m #[(.ref tt), (.int ax), (.int tx)] below meth c T h0 n0 0 0 → Go p e s below n0 (Qrm1 Z tt ax tx K g n0 h0) Rrm1 T (mkF m 96 #[.val (.ref tt), .val (.int ax), .val (.int tx), .val (.int v1), .val (.int (3 : Int32)), .val (.int v19), .val (.int (191 : Int32)), .unset, .unset] [(.int v21)]) := by
              intro T22 X22
              refine i_istore (L' := #[.val (.ref tt), .val (.int ax), .val (.int tx), .val (.int v1), .val (.int (3 : Int32)), .val (.int v19), .val (.int v21), .unset, .unset]) (pc' := 98) X22 hx (hb hby d1_96) rfl rfl ?_
              refine i_goto (pc' := 157) X22 hx (hb hby d1_98) (by decide) (by decide) ?_
              refine i_iloadN (v := tx) (pc' := 158) X22 hx (hb hby d1_157) rfl rfl ?_
              refine i_iloadN (v := ax) (pc' := 159) X22 hx (hb hby d1_158) rfl rfl ?_
              refine i_isub (pc' := 160) X22 hx (hb hby d1_159) rfl ?_
              refine i_iload (v := (3 : Int32)) (pc' := 162) X22 hx (hb hby d1_160) rfl rfl ?_
              by_cases hc23 : (tx - ax) < (3 : Int32)
              · skip
                refine i_icF (pc' := 165) X22 hx (hb hby d1_162) rfl (XT.ii_ge_f hc23) ?_
                refine i_iconst (pc' := 166) (0 : Int32) X22 hx (hb hby d1_165) rfl (by decide) ?_
                refine rI X22 hx hlk hret (hb hby d1_166) (by decide) (by decide) ?_
                have hfin : (0 : Int32) = (own_spec ((g K).toInt % 256) ((g (K + 1)).toInt % 256) ((g (K + 2)).toInt % 256) ((g (K + 3)).toInt % 256) (tx - ax).toInt) := by
                  have lits := own_lits
                  have ev1 := congrArg Int32.toInt hv1
                  rw [own_m255] at ev1
                  have khc2 := (not_congr (own_lt _ _)).mp hc2
                  have khc3 := (not_congr (own_lt _ _)).mp hc3
                  have khc4 := (own_lt _ _).mp hc4
                  have khc5 := (not_congr (own_lt _ _)).mp hc5
                  have khc23 := (own_lt _ _).mp hc23
                  have mv19 : (v1.toInt = 224 ∧ v19.toInt = 160) ∨ (¬ v1.toInt = 224 ∧ v19.toInt = 128) := by
                    rw [hv19]
                    by_cases q : v1 = (224 : Int32)
                    · rw [if_pos q]; exact Or.inl ⟨by rw [q]; decide, by decide⟩
                    · rw [if_neg q]; exact Or.inr ⟨fun u => q ((own_eq _ _).mpr (by rw [u]; decide)), by decide⟩
                  have mv21 : (v1.toInt = 237 ∧ v21.toInt = 159) ∨ (¬ v1.toInt = 237 ∧ v21.toInt = 191) := by
                    rw [hv21]
                    by_cases q : v1 = (237 : Int32)
                    · rw [if_pos q]; exact Or.inl ⟨by rw [q]; decide, by decide⟩
                    · rw [if_neg q]; exact Or.inr ⟨fun u => q ((own_eq _ _).mpr (by rw [u]; decide)), by decide⟩
                  unfold own_spec
                  repeat' split
                  all_goals first | rfl | (exfalso; omega)
                exact ⟨congrArg (fun z => some (Value.int z)) hfin, rfl⟩
              · skip
                refine i_icT (pc' := 167) X22 hx (hb hby d1_162) (XT.ii_ge_t hc23) (by decide) (by decide) ?_
                refine i_aloadN (v := (.ref tt)) (pc' := 168) X22 hx (hb hby d1_167) rfl rfl rfl ?_
                refine i_iloadN (v := ax) (pc' := 169) X22 hx (hb hby d1_168) rfl rfl ?_
                refine i_iconst (pc' := 170) (1 : Int32) X22 hx (hb hby d1_169) rfl (by decide) ?_
                refine i_iadd (pc' := 171) X22 hx (hb hby d1_170) rfl ?_
                refine ldB (v := (.int (g (K + 1)))) (pc' := 172) X22 hx hZ H0 (own_in (k := (K + 1)) (own_oj hK hK1 (n := 1) (by decide) (by decide)) (by omega)).1 (own_in (k := (K + 1)) (own_oj hK hK1 (n := 1) (by decide) (by decide)) (by omega)).2.1 (congrArg (fun i => Value.int (g i)) (own_in (k := (K + 1)) (own_oj hK hK1 (n := 1) (by decide) (by decide)) (by omega)).2.2) (hb hby d1_171) rfl ?_
                refine i_sipush (pc' := 175) (255 : Int32) X22 hx (hb hby d1_172) rfl (by decide) ?_
                refine i_iand (pc' := 176) X22 hx (hb hby d1_175) rfl ?_
                obtain ⟨v24, hv24⟩ : ∃ zz : Int32, zz = ((g (K + 1)) &&& (255 : Int32)) := ⟨_, rfl⟩
                rw [← hv24]
                refine i_istore (L' := #[.val (.ref tt), .val (.int ax), .val (.int tx), .val (.int v1), .val (.int (3 : Int32)), .val (.int v19), .val (.int v21), .val (.int v24), .unset]) (pc' := 178) X22 hx (hb hby d1_176) rfl rfl ?_
                refine i_iload (v := v24) (pc' := 180) X22 hx (hb hby d1_178) rfl rfl ?_
                refine i_iload (v := v19) (pc' := 182) X22 hx (hb hby d1_180) rfl rfl ?_
                by_cases hc25 : v24 < v19
                · skip
                  refine i_icT (pc' := 192) X22 hx (hb hby d1_182) (XT.ii_lt_t hc25) (by decide) (by decide) ?_
                  refine i_iconst (pc' := 193) (0 : Int32) X22 hx (hb hby d1_192) rfl (by decide) ?_
                  refine rI X22 hx hlk hret (hb hby d1_193) (by decide) (by decide) ?_
                  have hfin : (0 : Int32) = (own_spec ((g K).toInt % 256) ((g (K + 1)).toInt % 256) ((g (K + 2)).toInt % 256) ((g (K + 3)).toInt % 256) (tx - ax).toInt) := by
                    have lits := own_lits
                    have ev1 := congrArg Int32.toInt hv1
                    rw [own_m255] at ev1
                    have ev24 := congrArg Int32.toInt hv24
                    rw [own_m255] at ev24
                    have khc2 := (not_congr (own_lt _ _)).mp hc2
                    have khc3 := (not_congr (own_lt _ _)).mp hc3
                    have khc4 := (own_lt _ _).mp hc4
                    have khc5 := (not_congr (own_lt _ _)).mp hc5
                    have khc23 := (not_congr (own_lt _ _)).mp hc23
                    have khc25 := (own_lt _ _).mp hc25
                    have mv19 : (v1.toInt = 224 ∧ v19.toInt = 160) ∨ (¬ v1.toInt = 224 ∧ v19.toInt = 128) := by
                      rw [hv19]
                      by_cases q : v1 = (224 : Int32)
                      · rw [if_pos q]; exact Or.inl ⟨by rw [q]; decide, by decide⟩
                      · rw [if_neg q]; exact Or.inr ⟨fun u => q ((own_eq _ _).mpr (by rw [u]; decide)), by decide⟩
                    have mv21 : (v1.toInt = 237 ∧ v21.toInt = 159) ∨ (¬ v1.toInt = 237 ∧ v21.toInt = 191) := by
                      rw [hv21]
                      by_cases q : v1 = (237 : Int32)
                      · rw [if_pos q]; exact Or.inl ⟨by rw [q]; decide, by decide⟩
                      · rw [if_neg q]; exact Or.inr ⟨fun u => q ((own_eq _ _).mpr (by rw [u]; decide)), by decide⟩
                    unfold own_spec
                    repeat' split
                    all_goals first | rfl | (exfalso; omega)
                  exact ⟨congrArg (fun z => some (Value.int z)) hfin, rfl⟩
                · skip
                  refine i_icF (pc' := 185) X22 hx (hb hby d1_182) rfl (XT.ii_lt_f hc25) ?_
                  refine i_iload (v := v24) (pc' := 187) X22 hx (hb hby d1_185) rfl rfl ?_
                  refine i_iload (v := v21) (pc' := 189) X22 hx (hb hby d1_187) rfl rfl ?_
                  by_cases hc26 : v21 < v24
                  · skip
                    refine i_icF (pc' := 192) X22 hx (hb hby d1_189) rfl (XT.ii_le_f hc26) ?_
                    refine i_iconst (pc' := 193) (0 : Int32) X22 hx (hb hby d1_192) rfl (by decide) ?_
                    refine rI X22 hx hlk hret (hb hby d1_193) (by decide) (by decide) ?_
                    have hfin : (0 : Int32) = (own_spec ((g K).toInt % 256) ((g (K + 1)).toInt % 256) ((g (K + 2)).toInt % 256) ((g (K + 3)).toInt % 256) (tx - ax).toInt) := by
                      have lits := own_lits
                      have ev1 := congrArg Int32.toInt hv1
                      rw [own_m255] at ev1
                      have ev24 := congrArg Int32.toInt hv24
                      rw [own_m255] at ev24
                      have khc2 := (not_congr (own_lt _ _)).mp hc2
                      have khc3 := (not_congr (own_lt _ _)).mp hc3
                      have khc4 := (own_lt _ _).mp hc4
                      have khc5 := (not_congr (own_lt _ _)).mp hc5
                      have khc23 := (not_congr (own_lt _ _)).mp hc23
                      have khc25 := (not_congr (own_lt _ _)).mp hc25
                      have khc26 := (own_lt _ _).mp hc26
                      have mv19 : (v1.toInt = 224 ∧ v19.toInt = 160) ∨ (¬ v1.toInt = 224 ∧ v19.toInt = 128) := by
                        rw [hv19]
                        by_cases q : v1 = (224 : Int32)
                        · rw [if_pos q]; exact Or.inl ⟨by rw [q]; decide, by decide⟩
                        · rw [if_neg q]; exact Or.inr ⟨fun u => q ((own_eq _ _).mpr (by rw [u]; decide)), by decide⟩
                      have mv21 : (v1.toInt = 237 ∧ v21.toInt = 159) ∨ (¬ v1.toInt = 237 ∧ v21.toInt = 191) := by
                        rw [hv21]
                        by_cases q : v1 = (237 : Int32)
                        · rw [if_pos q]; exact Or.inl ⟨by rw [q]; decide, by decide⟩
                        · rw [if_neg q]; exact Or.inr ⟨fun u => q ((own_eq _ _).mpr (by rw [u]; decide)), by decide⟩
                      unfold own_spec
                      repeat' split
                      all_goals first | rfl | (exfalso; omega)
                    exact ⟨congrArg (fun z => some (Value.int z)) hfin, rfl⟩
                  · skip
                    refine i_icT (pc' := 194) X22 hx (hb hby d1_189) (XT.ii_le_t hc26) (by decide) (by decide) ?_
                    refine i_iconst (pc' := 195) (2 : Int32) X22 hx (hb hby d1_194) rfl (by decide) ?_
                    refine i_istore (L' := #[.val (.ref tt), .val (.int ax), .val (.int tx), .val (.int v1), .val (.int (3 : Int32)), .val (.int v19), .val (.int v21), .val (.int v24), .val (.int (2 : Int32))]) (pc' := 197) X22 hx (hb hby d1_195) rfl rfl ?_
                    refine i_iload (v := (2 : Int32)) (pc' := 199) X22 hx (hb hby d1_197) rfl rfl ?_
                    refine i_iload (v := (3 : Int32)) (pc' := 201) X22 hx (hb hby d1_199) rfl rfl ?_
                    refine i_icF (pc' := 204) X22 hx (hb hby d1_201) rfl (XT.ii_ge_f (by decide)) ?_
                    refine i_aloadN (v := (.ref tt)) (pc' := 205) X22 hx (hb hby d1_204) rfl rfl rfl ?_
                    refine i_iloadN (v := ax) (pc' := 206) X22 hx (hb hby d1_205) rfl rfl ?_
                    refine i_iload (v := (2 : Int32)) (pc' := 208) X22 hx (hb hby d1_206) rfl rfl ?_
                    refine i_iadd (pc' := 209) X22 hx (hb hby d1_208) rfl ?_
                    refine ldB (v := (.int (g (K + 2)))) (pc' := 210) X22 hx hZ H0 (own_in (k := (K + 2)) (own_oj hK hK1 (n := 2) (by decide) (by decide)) (by omega)).1 (own_in (k := (K + 2)) (own_oj hK hK1 (n := 2) (by decide) (by decide)) (by omega)).2.1 (congrArg (fun i => Value.int (g i)) (own_in (k := (K + 2)) (own_oj hK hK1 (n := 2) (by decide) (by decide)) (by omega)).2.2) (hb hby d1_209) rfl ?_
                    refine i_sipush (pc' := 213) (192 : Int32) X22 hx (hb hby d1_210) rfl (by decide) ?_
                    refine i_iand (pc' := 214) X22 hx (hb hby d1_213) rfl ?_
                    refine i_sipush (pc' := 217) (128 : Int32) X22 hx (hb hby d1_214) rfl (by decide) ?_
                    by_cases hc27 : ((g (K + 2)) &&& (192 : Int32)) = (128 : Int32)
                    · skip
                      refine i_icT (pc' := 222) X22 hx (hb hby d1_217) (XT.ii_eq_t hc27) (by decide) (by decide) ?_
                      refine i_iinc (pc' := 225) (L' := #[.val (.ref tt), .val (.int ax), .val (.int tx), .val (.int v1), .val (.int (3 : Int32)), .val (.int v19), .val (.int v21), .val (.int v24), .val (.int (3 : Int32))]) (1 : Int32) X22 hx (hb hby d1_222) rfl (by decide) rfl (by rw [show ((2 : Int32) + (1 : Int32)) = (3 : Int32) from by decide]; rfl) ?_
                      refine i_goto (pc' := 197) X22 hx (hb hby d1_225) (by decide) (by decide) ?_
                      refine i_iload (v := (3 : Int32)) (pc' := 199) X22 hx (hb hby d1_197) rfl rfl ?_
                      refine i_iload (v := (3 : Int32)) (pc' := 201) X22 hx (hb hby d1_199) rfl rfl ?_
                      refine i_icT (pc' := 228) X22 hx (hb hby d1_201) (XT.ii_ge_t (by decide)) (by decide) (by decide) ?_
                      refine i_iload (v := (3 : Int32)) (pc' := 230) X22 hx (hb hby d1_228) rfl rfl ?_
                      refine rI X22 hx hlk hret (hb hby d1_230) (by decide) (by decide) ?_
                      have hfin : (3 : Int32) = (own_spec ((g K).toInt % 256) ((g (K + 1)).toInt % 256) ((g (K + 2)).toInt % 256) ((g (K + 3)).toInt % 256) (tx - ax).toInt) := by
                        have lits := own_lits
                        have ev1 := congrArg Int32.toInt hv1
                        rw [own_m255] at ev1
                        have ev24 := congrArg Int32.toInt hv24
                        rw [own_m255] at ev24
                        have khc2 := (not_congr (own_lt _ _)).mp hc2
                        have khc3 := (not_congr (own_lt _ _)).mp hc3
                        have khc4 := (own_lt _ _).mp hc4
                        have khc5 := (not_congr (own_lt _ _)).mp hc5
                        have khc23 := (not_congr (own_lt _ _)).mp hc23
                        have khc25 := (not_congr (own_lt _ _)).mp hc25
                        have khc26 := (not_congr (own_lt _ _)).mp hc26
                        have khc27 := (own_s192 (g (K + 2))).mp hc27
                        have mv19 : (v1.toInt = 224 ∧ v19.toInt = 160) ∨ (¬ v1.toInt = 224 ∧ v19.toInt = 128) := by
                          rw [hv19]
                          by_cases q : v1 = (224 : Int32)
                          · rw [if_pos q]; exact Or.inl ⟨by rw [q]; decide, by decide⟩
                          · rw [if_neg q]; exact Or.inr ⟨fun u => q ((own_eq _ _).mpr (by rw [u]; decide)), by decide⟩
                        have mv21 : (v1.toInt = 237 ∧ v21.toInt = 159) ∨ (¬ v1.toInt = 237 ∧ v21.toInt = 191) := by
                          rw [hv21]
                          by_cases q : v1 = (237 : Int32)
                          · rw [if_pos q]; exact Or.inl ⟨by rw [q]; decide, by decide⟩
                          · rw [if_neg q]; exact Or.inr ⟨fun u => q ((own_eq _ _).mpr (by rw [u]; decide)), by decide⟩
                        unfold own_spec
                        repeat' split
                        all_goals first | rfl | (exfalso; omega)
                      exact ⟨congrArg (fun z => some (Value.int z)) hfin, rfl⟩
                    · skip
                      refine i_icF (pc' := 220) X22 hx (hb hby d1_217) rfl (XT.ii_eq_f hc27) ?_
                      refine i_iconst (pc' := 221) (0 : Int32) X22 hx (hb hby d1_220) rfl (by decide) ?_
                      refine rI X22 hx hlk hret (hb hby d1_221) (by decide) (by decide) ?_
                      have hfin : (0 : Int32) = (own_spec ((g K).toInt % 256) ((g (K + 1)).toInt % 256) ((g (K + 2)).toInt % 256) ((g (K + 3)).toInt % 256) (tx - ax).toInt) := by
                        have lits := own_lits
                        have ev1 := congrArg Int32.toInt hv1
                        rw [own_m255] at ev1
                        have ev24 := congrArg Int32.toInt hv24
                        rw [own_m255] at ev24
                        have khc2 := (not_congr (own_lt _ _)).mp hc2
                        have khc3 := (not_congr (own_lt _ _)).mp hc3
                        have khc4 := (own_lt _ _).mp hc4
                        have khc5 := (not_congr (own_lt _ _)).mp hc5
                        have khc23 := (not_congr (own_lt _ _)).mp hc23
                        have khc25 := (not_congr (own_lt _ _)).mp hc25
                        have khc26 := (not_congr (own_lt _ _)).mp hc26
                        have khc27 := (not_congr (own_s192 (g (K + 2)))).mp hc27
                        have mv19 : (v1.toInt = 224 ∧ v19.toInt = 160) ∨ (¬ v1.toInt = 224 ∧ v19.toInt = 128) := by
                          rw [hv19]
                          by_cases q : v1 = (224 : Int32)
                          · rw [if_pos q]; exact Or.inl ⟨by rw [q]; decide, by decide⟩
                          · rw [if_neg q]; exact Or.inr ⟨fun u => q ((own_eq _ _).mpr (by rw [u]; decide)), by decide⟩
                        have mv21 : (v1.toInt = 237 ∧ v21.toInt = 159) ∨ (¬ v1.toInt = 237 ∧ v21.toInt = 191) := by
                          rw [hv21]
                          by_cases q : v1 = (237 : Int32)
                          · rw [if_pos q]; exact Or.inl ⟨by rw [q]; decide, by decide⟩
                          · rw [if_neg q]; exact Or.inr ⟨fun u => q ((own_eq _ _).mpr (by rw [u]; decide)), by decide⟩
                        unfold own_spec
                        repeat' split
                        all_goals first | rfl | (exfalso; omega)
                      exact ⟨congrArg (fun z => some (Value.int z)) hfin, rfl⟩
            by_cases hc28 : v1 = (237 : Int32)
            · skip
              refine i_icF (pc' := 88) X20 hx (hb hby d1_85) rfl (XT.ii_ne_f hc28) ?_
              refine i_sipush (pc' := 91) (159 : Int32) X20 hx (hb hby d1_88) rfl (by decide) ?_
              refine i_goto (pc' := 96) X20 hx (hb hby d1_91) (by decide) (by decide) ?_
              have ev21 := hv21
              simp only [if_pos hc28] at ev21
              rw [ev21] at J22
              exact J22 _ (X20.mono (by decide) (by decide))
            · skip
              refine i_icT (pc' := 94) X20 hx (hb hby d1_85) (XT.ii_ne_t hc28) (by decide) (by decide) ?_
              refine i_iload (v := (191 : Int32)) (pc' := 96) X20 hx (hb hby d1_94) rfl rfl ?_
              have ev21 := hv21
              simp only [if_neg hc28] at ev21
              rw [ev21] at J22
              exact J22 _ (X20.mono (by decide) (by decide))
          by_cases hc29 : v1 = (224 : Int32)
          · skip
            refine i_icF (pc' := 71) X0 hx (hb hby d1_68) rfl (XT.ii_ne_f hc29) ?_
            refine i_sipush (pc' := 74) (160 : Int32) X0 hx (hb hby d1_71) rfl (by decide) ?_
            refine i_goto (pc' := 79) X0 hx (hb hby d1_74) (by decide) (by decide) ?_
            have ev19 := hv19
            simp only [if_pos hc29] at ev19
            rw [ev19] at J20
            exact J20 _ (X0.mono (by decide) (by decide))
          · skip
            refine i_icT (pc' := 77) X0 hx (hb hby d1_68) (XT.ii_ne_t hc29) (by decide) (by decide) ?_
            refine i_iload (v := (128 : Int32)) (pc' := 79) X0 hx (hb hby d1_77) rfl rfl ?_
            have ev19 := hv19
            simp only [if_neg hc29] at ev19
            rw [ev19] at J20
            exact J20 _ (X0.mono (by decide) (by decide))
      · skip
        refine i_icF (pc' := 41) X0 hx (hb hby d1_38) rfl (XT.ii_gt_f hc4) ?_
        refine i_iconst (pc' := 42) (2 : Int32) X0 hx (hb hby d1_41) rfl (by decide) ?_
        refine i_istore (L' := #[.val (.ref tt), .val (.int ax), .val (.int tx), .val (.int v1), .val (.int (2 : Int32)), .val (.int (128 : Int32)), .val (.int (191 : Int32)), .unset, .unset]) (pc' := 44) X0 hx (hb hby d1_42) rfl rfl ?_
        refine i_goto (pc' := 157) X0 hx (hb hby d1_44) (by decide) (by decide) ?_
        refine i_iloadN (v := tx) (pc' := 158) X0 hx (hb hby d1_157) rfl rfl ?_
        refine i_iloadN (v := ax) (pc' := 159) X0 hx (hb hby d1_158) rfl rfl ?_
        refine i_isub (pc' := 160) X0 hx (hb hby d1_159) rfl ?_
        refine i_iload (v := (2 : Int32)) (pc' := 162) X0 hx (hb hby d1_160) rfl rfl ?_
        by_cases hc30 : (tx - ax) < (2 : Int32)
        · skip
          refine i_icF (pc' := 165) X0 hx (hb hby d1_162) rfl (XT.ii_ge_f hc30) ?_
          refine i_iconst (pc' := 166) (0 : Int32) X0 hx (hb hby d1_165) rfl (by decide) ?_
          refine rI X0 hx hlk hret (hb hby d1_166) (by decide) (by decide) ?_
          have hfin : (0 : Int32) = (own_spec ((g K).toInt % 256) ((g (K + 1)).toInt % 256) ((g (K + 2)).toInt % 256) ((g (K + 3)).toInt % 256) (tx - ax).toInt) := by
            have lits := own_lits
            have ev1 := congrArg Int32.toInt hv1
            rw [own_m255] at ev1
            have khc2 := (not_congr (own_lt _ _)).mp hc2
            have khc3 := (not_congr (own_lt _ _)).mp hc3
            have khc4 := (not_congr (own_lt _ _)).mp hc4
            have khc30 := (own_lt _ _).mp hc30
            unfold own_spec
            repeat' split
            all_goals first | rfl | (exfalso; omega)
          exact ⟨congrArg (fun z => some (Value.int z)) hfin, rfl⟩
        · skip
          refine i_icT (pc' := 167) X0 hx (hb hby d1_162) (XT.ii_ge_t hc30) (by decide) (by decide) ?_
          refine i_aloadN (v := (.ref tt)) (pc' := 168) X0 hx (hb hby d1_167) rfl rfl rfl ?_
          refine i_iloadN (v := ax) (pc' := 169) X0 hx (hb hby d1_168) rfl rfl ?_
          refine i_iconst (pc' := 170) (1 : Int32) X0 hx (hb hby d1_169) rfl (by decide) ?_
          refine i_iadd (pc' := 171) X0 hx (hb hby d1_170) rfl ?_
          refine ldB (v := (.int (g (K + 1)))) (pc' := 172) X0 hx hZ H0 (own_in (k := (K + 1)) (own_oj hK hK1 (n := 1) (by decide) (by decide)) (by omega)).1 (own_in (k := (K + 1)) (own_oj hK hK1 (n := 1) (by decide) (by decide)) (by omega)).2.1 (congrArg (fun i => Value.int (g i)) (own_in (k := (K + 1)) (own_oj hK hK1 (n := 1) (by decide) (by decide)) (by omega)).2.2) (hb hby d1_171) rfl ?_
          refine i_sipush (pc' := 175) (255 : Int32) X0 hx (hb hby d1_172) rfl (by decide) ?_
          refine i_iand (pc' := 176) X0 hx (hb hby d1_175) rfl ?_
          obtain ⟨v31, hv31⟩ : ∃ zz : Int32, zz = ((g (K + 1)) &&& (255 : Int32)) := ⟨_, rfl⟩
          rw [← hv31]
          refine i_istore (L' := #[.val (.ref tt), .val (.int ax), .val (.int tx), .val (.int v1), .val (.int (2 : Int32)), .val (.int (128 : Int32)), .val (.int (191 : Int32)), .val (.int v31), .unset]) (pc' := 178) X0 hx (hb hby d1_176) rfl rfl ?_
          refine i_iload (v := v31) (pc' := 180) X0 hx (hb hby d1_178) rfl rfl ?_
          refine i_iload (v := (128 : Int32)) (pc' := 182) X0 hx (hb hby d1_180) rfl rfl ?_
          by_cases hc32 : v31 < (128 : Int32)
          · skip
            refine i_icT (pc' := 192) X0 hx (hb hby d1_182) (XT.ii_lt_t hc32) (by decide) (by decide) ?_
            refine i_iconst (pc' := 193) (0 : Int32) X0 hx (hb hby d1_192) rfl (by decide) ?_
            refine rI X0 hx hlk hret (hb hby d1_193) (by decide) (by decide) ?_
            have hfin : (0 : Int32) = (own_spec ((g K).toInt % 256) ((g (K + 1)).toInt % 256) ((g (K + 2)).toInt % 256) ((g (K + 3)).toInt % 256) (tx - ax).toInt) := by
              have lits := own_lits
              have ev1 := congrArg Int32.toInt hv1
              rw [own_m255] at ev1
              have ev31 := congrArg Int32.toInt hv31
              rw [own_m255] at ev31
              have khc2 := (not_congr (own_lt _ _)).mp hc2
              have khc3 := (not_congr (own_lt _ _)).mp hc3
              have khc4 := (not_congr (own_lt _ _)).mp hc4
              have khc30 := (not_congr (own_lt _ _)).mp hc30
              have khc32 := (own_lt _ _).mp hc32
              unfold own_spec
              repeat' split
              all_goals first | rfl | (exfalso; omega)
            exact ⟨congrArg (fun z => some (Value.int z)) hfin, rfl⟩
          · skip
            refine i_icF (pc' := 185) X0 hx (hb hby d1_182) rfl (XT.ii_lt_f hc32) ?_
            refine i_iload (v := v31) (pc' := 187) X0 hx (hb hby d1_185) rfl rfl ?_
            refine i_iload (v := (191 : Int32)) (pc' := 189) X0 hx (hb hby d1_187) rfl rfl ?_
            by_cases hc33 : (191 : Int32) < v31
            · skip
              refine i_icF (pc' := 192) X0 hx (hb hby d1_189) rfl (XT.ii_le_f hc33) ?_
              refine i_iconst (pc' := 193) (0 : Int32) X0 hx (hb hby d1_192) rfl (by decide) ?_
              refine rI X0 hx hlk hret (hb hby d1_193) (by decide) (by decide) ?_
              have hfin : (0 : Int32) = (own_spec ((g K).toInt % 256) ((g (K + 1)).toInt % 256) ((g (K + 2)).toInt % 256) ((g (K + 3)).toInt % 256) (tx - ax).toInt) := by
                have lits := own_lits
                have ev1 := congrArg Int32.toInt hv1
                rw [own_m255] at ev1
                have ev31 := congrArg Int32.toInt hv31
                rw [own_m255] at ev31
                have khc2 := (not_congr (own_lt _ _)).mp hc2
                have khc3 := (not_congr (own_lt _ _)).mp hc3
                have khc4 := (not_congr (own_lt _ _)).mp hc4
                have khc30 := (not_congr (own_lt _ _)).mp hc30
                have khc32 := (not_congr (own_lt _ _)).mp hc32
                have khc33 := (own_lt _ _).mp hc33
                unfold own_spec
                repeat' split
                all_goals first | rfl | (exfalso; omega)
              exact ⟨congrArg (fun z => some (Value.int z)) hfin, rfl⟩
            · skip
              refine i_icT (pc' := 194) X0 hx (hb hby d1_189) (XT.ii_le_t hc33) (by decide) (by decide) ?_
              refine i_iconst (pc' := 195) (2 : Int32) X0 hx (hb hby d1_194) rfl (by decide) ?_
              refine i_istore (L' := #[.val (.ref tt), .val (.int ax), .val (.int tx), .val (.int v1), .val (.int (2 : Int32)), .val (.int (128 : Int32)), .val (.int (191 : Int32)), .val (.int v31), .val (.int (2 : Int32))]) (pc' := 197) X0 hx (hb hby d1_195) rfl rfl ?_
              refine i_iload (v := (2 : Int32)) (pc' := 199) X0 hx (hb hby d1_197) rfl rfl ?_
              refine i_iload (v := (2 : Int32)) (pc' := 201) X0 hx (hb hby d1_199) rfl rfl ?_
              refine i_icT (pc' := 228) X0 hx (hb hby d1_201) (XT.ii_ge_t (by decide)) (by decide) (by decide) ?_
              refine i_iload (v := (2 : Int32)) (pc' := 230) X0 hx (hb hby d1_228) rfl rfl ?_
              refine rI X0 hx hlk hret (hb hby d1_230) (by decide) (by decide) ?_
              have hfin : (2 : Int32) = (own_spec ((g K).toInt % 256) ((g (K + 1)).toInt % 256) ((g (K + 2)).toInt % 256) ((g (K + 3)).toInt % 256) (tx - ax).toInt) := by
                have lits := own_lits
                have ev1 := congrArg Int32.toInt hv1
                rw [own_m255] at ev1
                have ev31 := congrArg Int32.toInt hv31
                rw [own_m255] at ev31
                have khc2 := (not_congr (own_lt _ _)).mp hc2
                have khc3 := (not_congr (own_lt _ _)).mp hc3
                have khc4 := (not_congr (own_lt _ _)).mp hc4
                have khc30 := (not_congr (own_lt _ _)).mp hc30
                have khc32 := (not_congr (own_lt _ _)).mp hc32
                have khc33 := (not_congr (own_lt _ _)).mp hc33
                unfold own_spec
                repeat' split
                all_goals first | rfl | (exfalso; omega)
              exact ⟨congrArg (fun z => some (Value.int z)) hfin, rfl⟩
theorem d3_0 : decode method_3_code 0 = .ok (.iload_n 0, 1) := by decide +kernel
theorem d3_1 : decode method_3_code 1 = .ok (.sipush 192, 3) := by decide +kernel
theorem d3_4 : decode method_3_code 4 = .ok (.iand, 1) := by decide +kernel
theorem d3_5 : decode method_3_code 5 = .ok (.sipush 128, 3) := by decide +kernel
theorem d3_8 : decode method_3_code 8 = .ok (.if_icmp .ne 7, 3) := by decide +kernel
theorem d3_11 : decode method_3_code 11 = .ok (.iconst 1, 1) := by decide +kernel
theorem d3_12 : decode method_3_code 12 = .ok (.goto 4, 3) := by decide +kernel
theorem d3_15 : decode method_3_code 15 = .ok (.iconst 0, 1) := by decide +kernel
theorem d3_16 : decode method_3_code 16 = .ok (.ireturn, 1) := by decide +kernel
theorem pn1 : plainName "weir/stream/JsonCharacterLengthPinLaw" = true := by first | (simp [plainName, overriddenIn]; done) | decide +kernel
theorem ef_rmC (m : MethodId) (c0 : Int32) : entryFrame m #[(.int c0)] 1 = mkF m 0 #[.val (.int c0)] [] := by first | (simp [entryFrame, mkF, argsToLocals, Value.category, maxLocals]; done) | rfl
def QrmC (Z : State) (c0 : Int32) (n0 : Nat) (h0 : Heap) (rv : Option Value) (h : Heap) : Prop := rv = some (.int (own_cont c0)) ∧ h0 = h
abbrev RrmC : Room := { frames := 0, cells := 0, slots := 0, locals := 0 }
set_option maxRecDepth 65536 in
set_option maxHeartbeats 40000000 in
theorem rmC (l : Launch) (Z : State) (a0 : Array Value) (hw : ∀ d ∈ tables_1, d.before a0 Z = true) (ws : List Jvm.Cond) (c0 : Int32) (n0 : Nat) (h0 : Heap) (hn : n0 ≤ h0.size)   :
    Con l Z (⟨"weir/stream/JsonCharacterLengthPinLaw", "cont", "(I)Z"⟩ : MethodName) method_3_code 1 (some .boolean) ws RrmC #[(.int c0)] h0 n0 (QrmC Z c0 n0 h0) := by
  refine body (y := (⟨"weir/stream/JsonCharacterLengthPinLaw", "cont", "(I)Z"⟩ : MethodName)) (Ls := #[.val (.int c0)]) (plainFor_of_name pn1) hn (fun m => ef_rmC m c0) ?_
  intro p e s m below meth c T0 hx hby hml hown hnm hret hlk hZ X0
  refine i_iloadN (v := c0) (pc' := 1) X0 hx (hb hby d3_0) rfl rfl ?_
  refine i_sipush (pc' := 4) (192 : Int32) X0 hx (hb hby d3_1) rfl (by decide) ?_
  refine i_iand (pc' := 5) X0 hx (hb hby d3_4) rfl ?_
  refine i_sipush (pc' := 8) (128 : Int32) X0 hx (hb hby d3_5) rfl (by decide) ?_
  by_cases hc1 : (c0 &&& (192 : Int32)) = (128 : Int32)
  · skip
    refine i_icF (pc' := 11) X0 hx (hb hby d3_8) rfl (XT.ii_ne_f hc1) ?_
    refine i_iconst (pc' := 12) (1 : Int32) X0 hx (hb hby d3_11) rfl (by decide) ?_
    refine i_goto (pc' := 16) X0 hx (hb hby d3_12) (by decide) (by decide) ?_
    refine rN X0 hx hlk hret (by simp) (hb hby d3_16) (by decide) (by decide) ?_
    exact ⟨(by simp [own_cont, own_nar1, own_nar0, hc1]), rfl⟩
  · skip
    refine i_icT (pc' := 15) X0 hx (hb hby d3_8) (XT.ii_ne_t hc1) (by decide) (by decide) ?_
    refine i_iconst (pc' := 16) (0 : Int32) X0 hx (hb hby d3_15) rfl (by decide) ?_
    refine rN X0 hx hlk hret (by simp) (hb hby d3_16) (by decide) (by decide) ?_
    exact ⟨(by simp [own_cont, own_nar1, own_nar0, hc1]), rfl⟩
theorem d2_0 : decode method_4_code 0 = .ok (.iload_n 0, 1) := by decide +kernel
theorem d2_1 : decode method_4_code 1 = .ok (.sipush 128, 3) := by decide +kernel
theorem d2_4 : decode method_4_code 4 = .ok (.if_icmp .ge 5, 3) := by decide +kernel
theorem d2_7 : decode method_4_code 7 = .ok (.iconst 1, 1) := by decide +kernel
theorem d2_8 : decode method_4_code 8 = .ok (.ireturn, 1) := by decide +kernel
theorem d2_9 : decode method_4_code 9 = .ok (.iload_n 0, 1) := by decide +kernel
theorem d2_10 : decode method_4_code 10 = .ok (.sipush 224, 3) := by decide +kernel
theorem d2_13 : decode method_4_code 13 = .ok (.iand, 1) := by decide +kernel
theorem d2_14 : decode method_4_code 14 = .ok (.sipush 192, 3) := by decide +kernel
theorem d2_17 : decode method_4_code 17 = .ok (.if_icmp .ne 9, 3) := by decide +kernel
theorem d2_20 : decode method_4_code 20 = .ok (.iconst 2, 1) := by decide +kernel
theorem d2_21 : decode method_4_code 21 = .ok (.istore 5, 2) := by decide +kernel
theorem d2_23 : decode method_4_code 23 = .ok (.goto 39, 3) := by decide +kernel
theorem d2_26 : decode method_4_code 26 = .ok (.iload_n 0, 1) := by decide +kernel
theorem d2_27 : decode method_4_code 27 = .ok (.sipush 240, 3) := by decide +kernel
theorem d2_30 : decode method_4_code 30 = .ok (.iand, 1) := by decide +kernel
theorem d2_31 : decode method_4_code 31 = .ok (.sipush 224, 3) := by decide +kernel
theorem d2_34 : decode method_4_code 34 = .ok (.if_icmp .ne 9, 3) := by decide +kernel
theorem d2_37 : decode method_4_code 37 = .ok (.iconst 3, 1) := by decide +kernel
theorem d2_38 : decode method_4_code 38 = .ok (.istore 5, 2) := by decide +kernel
theorem d2_40 : decode method_4_code 40 = .ok (.goto 22, 3) := by decide +kernel
theorem d2_43 : decode method_4_code 43 = .ok (.iload_n 0, 1) := by decide +kernel
theorem d2_44 : decode method_4_code 44 = .ok (.sipush 248, 3) := by decide +kernel
theorem d2_47 : decode method_4_code 47 = .ok (.iand, 1) := by decide +kernel
theorem d2_48 : decode method_4_code 48 = .ok (.sipush 240, 3) := by decide +kernel
theorem d2_51 : decode method_4_code 51 = .ok (.if_icmp .ne 9, 3) := by decide +kernel
theorem d2_54 : decode method_4_code 54 = .ok (.iconst 4, 1) := by decide +kernel
theorem d2_55 : decode method_4_code 55 = .ok (.istore 5, 2) := by decide +kernel
theorem d2_57 : decode method_4_code 57 = .ok (.goto 5, 3) := by decide +kernel
theorem d2_60 : decode method_4_code 60 = .ok (.iconst 0, 1) := by decide +kernel
theorem d2_61 : decode method_4_code 61 = .ok (.ireturn, 1) := by decide +kernel
theorem d2_62 : decode method_4_code 62 = .ok (.iload 4, 2) := by decide +kernel
theorem d2_64 : decode method_4_code 64 = .ok (.iload 5, 2) := by decide +kernel
theorem d2_66 : decode method_4_code 66 = .ok (.if_icmp .ge 5, 3) := by decide +kernel
theorem d2_69 : decode method_4_code 69 = .ok (.iconst 0, 1) := by decide +kernel
theorem d2_70 : decode method_4_code 70 = .ok (.ireturn, 1) := by decide +kernel
theorem d2_71 : decode method_4_code 71 = .ok (.iload_n 1, 1) := by decide +kernel
theorem d2_72 : decode method_4_code 72 = .ok (.invokestatic 19, 3) := by decide +kernel
theorem d2_75 : decode method_4_code 75 = .ok (.ifCond .ne 5, 3) := by decide +kernel
theorem d2_78 : decode method_4_code 78 = .ok (.iconst 0, 1) := by decide +kernel
theorem d2_79 : decode method_4_code 79 = .ok (.ireturn, 1) := by decide +kernel
theorem d2_80 : decode method_4_code 80 = .ok (.iload 5, 2) := by decide +kernel
theorem d2_82 : decode method_4_code 82 = .ok (.iconst 3, 1) := by decide +kernel
theorem d2_83 : decode method_4_code 83 = .ok (.if_icmp .lt 12, 3) := by decide +kernel
theorem d2_86 : decode method_4_code 86 = .ok (.iload_n 2, 1) := by decide +kernel
theorem d2_87 : decode method_4_code 87 = .ok (.invokestatic 19, 3) := by decide +kernel
theorem d2_90 : decode method_4_code 90 = .ok (.ifCond .ne 5, 3) := by decide +kernel
theorem d2_93 : decode method_4_code 93 = .ok (.iconst 0, 1) := by decide +kernel
theorem d2_94 : decode method_4_code 94 = .ok (.ireturn, 1) := by decide +kernel
theorem d2_95 : decode method_4_code 95 = .ok (.iload 5, 2) := by decide +kernel
theorem d2_97 : decode method_4_code 97 = .ok (.iconst 4, 1) := by decide +kernel
theorem d2_98 : decode method_4_code 98 = .ok (.if_icmp .ne 12, 3) := by decide +kernel
theorem d2_101 : decode method_4_code 101 = .ok (.iload_n 3, 1) := by decide +kernel
theorem d2_102 : decode method_4_code 102 = .ok (.invokestatic 19, 3) := by decide +kernel
theorem d2_105 : decode method_4_code 105 = .ok (.ifCond .ne 5, 3) := by decide +kernel
theorem d2_108 : decode method_4_code 108 = .ok (.iconst 0, 1) := by decide +kernel
theorem d2_109 : decode method_4_code 109 = .ok (.ireturn, 1) := by decide +kernel
theorem d2_110 : decode method_4_code 110 = .ok (.iload 5, 2) := by decide +kernel
theorem d2_112 : decode method_4_code 112 = .ok (.iconst 2, 1) := by decide +kernel
theorem d2_113 : decode method_4_code 113 = .ok (.if_icmp .ne 25, 3) := by decide +kernel
theorem d2_116 : decode method_4_code 116 = .ok (.iload_n 0, 1) := by decide +kernel
theorem d2_117 : decode method_4_code 117 = .ok (.bipush 31, 2) := by decide +kernel
theorem d2_119 : decode method_4_code 119 = .ok (.iand, 1) := by decide +kernel
theorem d2_120 : decode method_4_code 120 = .ok (.bipush 6, 2) := by decide +kernel
theorem d2_122 : decode method_4_code 122 = .ok (.ishl, 1) := by decide +kernel
theorem d2_123 : decode method_4_code 123 = .ok (.iload_n 1, 1) := by decide +kernel
theorem d2_124 : decode method_4_code 124 = .ok (.bipush 63, 2) := by decide +kernel
theorem d2_126 : decode method_4_code 126 = .ok (.iand, 1) := by decide +kernel
theorem d2_127 : decode method_4_code 127 = .ok (.ior, 1) := by decide +kernel
theorem d2_128 : decode method_4_code 128 = .ok (.istore 6, 2) := by decide +kernel
theorem d2_130 : decode method_4_code 130 = .ok (.sipush 128, 3) := by decide +kernel
theorem d2_133 : decode method_4_code 133 = .ok (.istore 7, 2) := by decide +kernel
theorem d2_135 : decode method_4_code 135 = .ok (.goto 73, 3) := by decide +kernel
theorem d2_138 : decode method_4_code 138 = .ok (.iload 5, 2) := by decide +kernel
theorem d2_140 : decode method_4_code 140 = .ok (.iconst 3, 1) := by decide +kernel
theorem d2_141 : decode method_4_code 141 = .ok (.if_icmp .ne 33, 3) := by decide +kernel
theorem d2_144 : decode method_4_code 144 = .ok (.iload_n 0, 1) := by decide +kernel
theorem d2_145 : decode method_4_code 145 = .ok (.bipush 15, 2) := by decide +kernel
theorem d2_147 : decode method_4_code 147 = .ok (.iand, 1) := by decide +kernel
theorem d2_148 : decode method_4_code 148 = .ok (.bipush 12, 2) := by decide +kernel
theorem d2_150 : decode method_4_code 150 = .ok (.ishl, 1) := by decide +kernel
theorem d2_151 : decode method_4_code 151 = .ok (.iload_n 1, 1) := by decide +kernel
theorem d2_152 : decode method_4_code 152 = .ok (.bipush 63, 2) := by decide +kernel
theorem d2_154 : decode method_4_code 154 = .ok (.iand, 1) := by decide +kernel
theorem d2_155 : decode method_4_code 155 = .ok (.bipush 6, 2) := by decide +kernel
theorem d2_157 : decode method_4_code 157 = .ok (.ishl, 1) := by decide +kernel
theorem d2_158 : decode method_4_code 158 = .ok (.ior, 1) := by decide +kernel
theorem d2_159 : decode method_4_code 159 = .ok (.iload_n 2, 1) := by decide +kernel
theorem d2_160 : decode method_4_code 160 = .ok (.bipush 63, 2) := by decide +kernel
theorem d2_162 : decode method_4_code 162 = .ok (.iand, 1) := by decide +kernel
theorem d2_163 : decode method_4_code 163 = .ok (.ior, 1) := by decide +kernel
theorem d2_164 : decode method_4_code 164 = .ok (.istore 6, 2) := by decide +kernel
theorem d2_166 : decode method_4_code 166 = .ok (.sipush 2048, 3) := by decide +kernel
theorem d2_169 : decode method_4_code 169 = .ok (.istore 7, 2) := by decide +kernel
theorem d2_171 : decode method_4_code 171 = .ok (.goto 37, 3) := by decide +kernel
theorem d2_174 : decode method_4_code 174 = .ok (.iload_n 0, 1) := by decide +kernel
theorem d2_175 : decode method_4_code 175 = .ok (.bipush 7, 2) := by decide +kernel
theorem d2_177 : decode method_4_code 177 = .ok (.iand, 1) := by decide +kernel
theorem d2_178 : decode method_4_code 178 = .ok (.bipush 18, 2) := by decide +kernel
theorem d2_180 : decode method_4_code 180 = .ok (.ishl, 1) := by decide +kernel
theorem d2_181 : decode method_4_code 181 = .ok (.iload_n 1, 1) := by decide +kernel
theorem d2_182 : decode method_4_code 182 = .ok (.bipush 63, 2) := by decide +kernel
theorem d2_184 : decode method_4_code 184 = .ok (.iand, 1) := by decide +kernel
theorem d2_185 : decode method_4_code 185 = .ok (.bipush 12, 2) := by decide +kernel
theorem d2_187 : decode method_4_code 187 = .ok (.ishl, 1) := by decide +kernel
theorem d2_188 : decode method_4_code 188 = .ok (.ior, 1) := by decide +kernel
theorem d2_189 : decode method_4_code 189 = .ok (.iload_n 2, 1) := by decide +kernel
theorem d2_190 : decode method_4_code 190 = .ok (.bipush 63, 2) := by decide +kernel
theorem d2_192 : decode method_4_code 192 = .ok (.iand, 1) := by decide +kernel
theorem d2_193 : decode method_4_code 193 = .ok (.bipush 6, 2) := by decide +kernel
theorem d2_195 : decode method_4_code 195 = .ok (.ishl, 1) := by decide +kernel
theorem d2_196 : decode method_4_code 196 = .ok (.ior, 1) := by decide +kernel
theorem d2_197 : decode method_4_code 197 = .ok (.iload_n 3, 1) := by decide +kernel
theorem d2_198 : decode method_4_code 198 = .ok (.bipush 63, 2) := by decide +kernel
theorem d2_200 : decode method_4_code 200 = .ok (.iand, 1) := by decide +kernel
theorem d2_201 : decode method_4_code 201 = .ok (.ior, 1) := by decide +kernel
theorem d2_202 : decode method_4_code 202 = .ok (.istore 6, 2) := by decide +kernel
theorem d2_204 : decode method_4_code 204 = .ok (.ldc 23, 2) := by decide +kernel
theorem d2_206 : decode method_4_code 206 = .ok (.istore 7, 2) := by decide +kernel
theorem d2_208 : decode method_4_code 208 = .ok (.iload 6, 2) := by decide +kernel
theorem d2_210 : decode method_4_code 210 = .ok (.iload 7, 2) := by decide +kernel
theorem d2_212 : decode method_4_code 212 = .ok (.if_icmp .ge 5, 3) := by decide +kernel
theorem d2_215 : decode method_4_code 215 = .ok (.iconst 0, 1) := by decide +kernel
theorem d2_216 : decode method_4_code 216 = .ok (.ireturn, 1) := by decide +kernel
theorem d2_217 : decode method_4_code 217 = .ok (.iload 6, 2) := by decide +kernel
theorem d2_219 : decode method_4_code 219 = .ok (.ldc 24, 2) := by decide +kernel
theorem d2_221 : decode method_4_code 221 = .ok (.if_icmp .le 5, 3) := by decide +kernel
theorem d2_224 : decode method_4_code 224 = .ok (.iconst 0, 1) := by decide +kernel
theorem d2_225 : decode method_4_code 225 = .ok (.ireturn, 1) := by decide +kernel
theorem d2_226 : decode method_4_code 226 = .ok (.iload 6, 2) := by decide +kernel
theorem d2_228 : decode method_4_code 228 = .ok (.ldc 25, 2) := by decide +kernel
theorem d2_230 : decode method_4_code 230 = .ok (.if_icmp .lt 12, 3) := by decide +kernel
theorem d2_233 : decode method_4_code 233 = .ok (.iload 6, 2) := by decide +kernel
theorem d2_235 : decode method_4_code 235 = .ok (.ldc 26, 2) := by decide +kernel
theorem d2_237 : decode method_4_code 237 = .ok (.if_icmp .gt 5, 3) := by decide +kernel
theorem d2_240 : decode method_4_code 240 = .ok (.iconst 0, 1) := by decide +kernel
theorem d2_241 : decode method_4_code 241 = .ok (.ireturn, 1) := by decide +kernel
theorem d2_242 : decode method_4_code 242 = .ok (.iload 5, 2) := by decide +kernel
theorem d2_244 : decode method_4_code 244 = .ok (.ireturn, 1) := by decide +kernel
theorem ef_rmE (m : MethodId) (l0 : Int32) (c1 : Int32) (c2 : Int32) (c3 : Int32) (ar : Int32) : entryFrame m #[(.int l0), (.int c1), (.int c2), (.int c3), (.int ar)] 8 = mkF m 0 #[.val (.int l0), .val (.int c1), .val (.int c2), .val (.int c3), .val (.int ar), .unset, .unset, .unset] [] := by first | (simp [entryFrame, mkF, argsToLocals, Value.category, maxLocals]; done) | rfl
def QrmE (Z : State) (l0 : Int32) (c1 : Int32) (c2 : Int32) (c3 : Int32) (ar : Int32) (n0 : Nat) (h0 : Heap) (rv : Option Value) (h : Heap) : Prop := rv = some (.int (own_spec l0.toInt c1.toInt c2.toInt c3.toInt ar.toInt)) ∧ h0 = h
theorem pd0 : parseMethodDescriptor "(I)Z" = some ⟨[.int], some .boolean⟩ := by decide +kernel
abbrev RrmE : Room := { frames := 1, cells := 0, slots := 0, locals := 12 }
set_option maxRecDepth 65536 in
set_option maxHeartbeats 40000000 in
theorem rmE (l : Launch) (Z : State) (a0 : Array Value) (hw : ∀ d ∈ tables_1, d.before a0 Z = true) (ws : List Jvm.Cond) (l0 : Int32) (c1 : Int32) (c2 : Int32) (c3 : Int32) (ar : Int32) (n0 : Nat) (h0 : Heap) (hn : n0 ≤ h0.size)  (hq0 : 0 ≤ l0.toInt ∧ l0.toInt ≤ 255) (hq1 : 0 ≤ c1.toInt ∧ c1.toInt ≤ 255) (hq2 : 0 ≤ c2.toInt ∧ c2.toInt ≤ 255) (hq3 : 0 ≤ c3.toInt ∧ c3.toInt ≤ 255) :
    Con l Z (⟨"weir/stream/JsonCharacterLengthPinLaw", "expected", "(IIIII)I"⟩ : MethodName) method_4_code 8 (some .int) ws RrmE #[(.int l0), (.int c1), (.int c2), (.int c3), (.int ar)] h0 n0 (QrmE Z l0 c1 c2 c3 ar n0 h0) := by
  refine body (y := (⟨"weir/stream/JsonCharacterLengthPinLaw", "expected", "(IIIII)I"⟩ : MethodName)) (Ls := #[.val (.int l0), .val (.int c1), .val (.int c2), .val (.int c3), .val (.int ar), .unset, .unset, .unset]) (plainFor_of_name pn1) hn (fun m => ef_rmE m l0 c1 c2 c3 ar) ?_
  intro p e s m below meth c T0 hx hby hml hown hnm hret hlk hZ X0
  refine i_iloadN (v := l0) (pc' := 1) X0 hx (hb hby d2_0) rfl rfl ?_
  refine i_sipush (pc' := 4) (128 : Int32) X0 hx (hb hby d2_1) rfl (by decide) ?_
  by_cases hc1 : l0 < (128 : Int32)
  · skip
    refine i_icF (pc' := 7) X0 hx (hb hby d2_4) rfl (XT.ii_ge_f hc1) ?_
    refine i_iconst (pc' := 8) (1 : Int32) X0 hx (hb hby d2_7) rfl (by decide) ?_
    refine rI X0 hx hlk hret (hb hby d2_8) (by decide) (by decide) ?_
    have hfin : (1 : Int32) = (own_spec l0.toInt c1.toInt c2.toInt c3.toInt ar.toInt) := by
      have lits := own_lits
      have r0 := hq0
      have r1 := hq1
      have r2 := hq2
      have r3 := hq3
      have khc1 := (own_lt _ _).mp hc1
      unfold own_spec
      repeat' split
      all_goals first | rfl | (exfalso; omega)
    exact ⟨congrArg (fun z => some (Value.int z)) hfin, rfl⟩
  · skip
    refine i_icT (pc' := 9) X0 hx (hb hby d2_4) (XT.ii_ge_t hc1) (by decide) (by decide) ?_
    refine i_iloadN (v := l0) (pc' := 10) X0 hx (hb hby d2_9) rfl rfl ?_
    refine i_sipush (pc' := 13) (224 : Int32) X0 hx (hb hby d2_10) rfl (by decide) ?_
    refine i_iand (pc' := 14) X0 hx (hb hby d2_13) rfl ?_
    refine i_sipush (pc' := 17) (192 : Int32) X0 hx (hb hby d2_14) rfl (by decide) ?_
    by_cases hc2 : (l0 &&& (224 : Int32)) = (192 : Int32)
    · skip
      refine i_icF (pc' := 20) X0 hx (hb hby d2_17) rfl (XT.ii_ne_f hc2) ?_
      refine i_iconst (pc' := 21) (2 : Int32) X0 hx (hb hby d2_20) rfl (by decide) ?_
      refine i_istore (L' := #[.val (.int l0), .val (.int c1), .val (.int c2), .val (.int c3), .val (.int ar), .val (.int (2 : Int32)), .unset, .unset]) (pc' := 23) X0 hx (hb hby d2_21) rfl rfl ?_
      refine i_goto (pc' := 62) X0 hx (hb hby d2_23) (by decide) (by decide) ?_
      refine i_iload (v := ar) (pc' := 64) X0 hx (hb hby d2_62) rfl rfl ?_
      refine i_iload (v := (2 : Int32)) (pc' := 66) X0 hx (hb hby d2_64) rfl rfl ?_
      by_cases hc3 : ar < (2 : Int32)
      · skip
        refine i_icF (pc' := 69) X0 hx (hb hby d2_66) rfl (XT.ii_ge_f hc3) ?_
        refine i_iconst (pc' := 70) (0 : Int32) X0 hx (hb hby d2_69) rfl (by decide) ?_
        refine rI X0 hx hlk hret (hb hby d2_70) (by decide) (by decide) ?_
        have hfin : (0 : Int32) = (own_spec l0.toInt c1.toInt c2.toInt c3.toInt ar.toInt) := by
          have lits := own_lits
          have r0 := hq0
          have r1 := hq1
          have r2 := hq2
          have r3 := hq3
          have khc1 := (not_congr (own_lt _ _)).mp hc1
          have khc2 := (own_c224 hq0).mp hc2
          have khc3 := (own_lt _ _).mp hc3
          unfold own_spec
          repeat' split
          all_goals first | rfl | (exfalso; omega)
        exact ⟨congrArg (fun z => some (Value.int z)) hfin, rfl⟩
      · skip
        refine i_icT (pc' := 71) X0 hx (hb hby d2_66) (XT.ii_ge_t hc3) (by decide) (by decide) ?_
        refine i_iloadN (v := c1) (pc' := 72) X0 hx (hb hby d2_71) rfl rfl ?_
        refine cS (y := (⟨"weir/stream/JsonCharacterLengthPinLaw", "cont", "(I)Z"⟩ : MethodName)) (rest := []) (pc' := 75) 0 [(.int c1)] X0 hx hZ hown (hw _ (List.mem_of_getElem? (i := 9) rfl)) (hw _ (List.mem_of_getElem? (i := 10) rfl)) (hw _ (List.mem_of_getElem? (i := 7) rfl)) (hw _ (List.mem_of_getElem? (i := 11) rfl)) (by decide) (rmC l Z a0 hw [] c1 n0 h0 X0.le ) (by decide) (by decide) (by rw [hml]; rfl) rfl (lenOf pd0 rfl) rfl (Nat.le_of_eq rfl) (hb hby d2_72) rfl (by decide) (by decide) ?_
        intro r4 T4 h4 X4 q4
        obtain ⟨rfl, eh4⟩ := q4
        subst eh4
        show Go _ _ _ _ _ _ _ T4 (mkF m 75 #[.val (.int l0), .val (.int c1), .val (.int c2), .val (.int c3), .val (.int ar), .val (.int (2 : Int32)), .unset, .unset] [(.int (own_cont c1))])
        by_cases hc5 : (own_cont c1) = 0
        · skip
          refine i_ifF (pc' := 78) X4 hx (hb hby d2_75) rfl (XT.i0_ne_f hc5) ?_
          refine i_iconst (pc' := 79) (0 : Int32) X4 hx (hb hby d2_78) rfl (by decide) ?_
          refine rI X4 hx hlk hret (hb hby d2_79) (by decide) (by decide) ?_
          have hfin : (0 : Int32) = (own_spec l0.toInt c1.toInt c2.toInt c3.toInt ar.toInt) := by
            have lits := own_lits
            have r0 := hq0
            have r1 := hq1
            have r2 := hq2
            have r3 := hq3
            have khc1 := (not_congr (own_lt _ _)).mp hc1
            have khc2 := (own_c224 hq0).mp hc2
            have khc3 := (not_congr (own_lt _ _)).mp hc3
            have khc5 := (own_ct hq1).mp hc5
            unfold own_spec
            repeat' split
            all_goals first | rfl | (exfalso; omega)
          exact ⟨congrArg (fun z => some (Value.int z)) hfin, rfl⟩
        · skip
          refine i_ifT (pc' := 80) X4 hx (hb hby d2_75) (XT.i0_ne_t hc5) (by decide) (by decide) ?_
          refine i_iload (v := (2 : Int32)) (pc' := 82) X4 hx (hb hby d2_80) rfl rfl ?_
          refine i_iconst (pc' := 83) (3 : Int32) X4 hx (hb hby d2_82) rfl (by decide) ?_
          refine i_icT (pc' := 95) X4 hx (hb hby d2_83) (XT.ii_lt_t (by decide)) (by decide) (by decide) ?_
          refine i_iload (v := (2 : Int32)) (pc' := 97) X4 hx (hb hby d2_95) rfl rfl ?_
          refine i_iconst (pc' := 98) (4 : Int32) X4 hx (hb hby d2_97) rfl (by decide) ?_
          refine i_icT (pc' := 110) X4 hx (hb hby d2_98) (XT.ii_ne_t (by decide)) (by decide) (by decide) ?_
          refine i_iload (v := (2 : Int32)) (pc' := 112) X4 hx (hb hby d2_110) rfl rfl ?_
          refine i_iconst (pc' := 113) (2 : Int32) X4 hx (hb hby d2_112) rfl (by decide) ?_
          refine i_icF (pc' := 116) X4 hx (hb hby d2_113) rfl (XT.ii_ne_f (by decide)) ?_
          refine i_iloadN (v := l0) (pc' := 117) X4 hx (hb hby d2_116) rfl rfl ?_
          refine i_bipush (pc' := 119) (31 : Int32) X4 hx (hb hby d2_117) rfl (by decide) ?_
          refine i_iand (pc' := 120) X4 hx (hb hby d2_119) rfl ?_
          refine i_bipush (pc' := 122) (6 : Int32) X4 hx (hb hby d2_120) rfl (by decide) ?_
          refine i_ishl (pc' := 123) X4 hx (hb hby d2_122) rfl ?_
          refine i_iloadN (v := c1) (pc' := 124) X4 hx (hb hby d2_123) rfl rfl ?_
          refine i_bipush (pc' := 126) (63 : Int32) X4 hx (hb hby d2_124) rfl (by decide) ?_
          refine i_iand (pc' := 127) X4 hx (hb hby d2_126) rfl ?_
          refine i_ior (pc' := 128) X4 hx (hb hby d2_127) rfl ?_
          obtain ⟨v6, hv6⟩ : ∃ zz : Int32, zz = (((l0 &&& (31 : Int32)) <<< ((6 : Int32) &&& 31)) ||| (c1 &&& (63 : Int32))) := ⟨_, rfl⟩
          rw [← hv6]
          refine i_istore (L' := #[.val (.int l0), .val (.int c1), .val (.int c2), .val (.int c3), .val (.int ar), .val (.int (2 : Int32)), .val (.int v6), .unset]) (pc' := 130) X4 hx (hb hby d2_128) rfl rfl ?_
          refine i_sipush (pc' := 133) (128 : Int32) X4 hx (hb hby d2_130) rfl (by decide) ?_
          refine i_istore (L' := #[.val (.int l0), .val (.int c1), .val (.int c2), .val (.int c3), .val (.int ar), .val (.int (2 : Int32)), .val (.int v6), .val (.int (128 : Int32))]) (pc' := 135) X4 hx (hb hby d2_133) rfl rfl ?_
          refine i_goto (pc' := 208) X4 hx (hb hby d2_135) (by decide) (by decide) ?_
          refine i_iload (v := v6) (pc' := 210) X4 hx (hb hby d2_208) rfl rfl ?_
          refine i_iload (v := (128 : Int32)) (pc' := 212) X4 hx (hb hby d2_210) rfl rfl ?_
          by_cases hc7 : v6 < (128 : Int32)
          · skip
            refine i_icF (pc' := 215) X4 hx (hb hby d2_212) rfl (XT.ii_ge_f hc7) ?_
            refine i_iconst (pc' := 216) (0 : Int32) X4 hx (hb hby d2_215) rfl (by decide) ?_
            refine rI X4 hx hlk hret (hb hby d2_216) (by decide) (by decide) ?_
            have hfin : (0 : Int32) = (own_spec l0.toInt c1.toInt c2.toInt c3.toInt ar.toInt) := by
              have lits := own_lits
              have r0 := hq0
              have r1 := hq1
              have r2 := hq2
              have r3 := hq3
              have khc1 := (not_congr (own_lt _ _)).mp hc1
              have khc2 := (own_c224 hq0).mp hc2
              have khc3 := (not_congr (own_lt _ _)).mp hc3
              have khc5 := (not_congr (own_ct hq1)).mp hc5
              have khc7 := (own_lt _ _).mp hc7
              have ev6 := own_cp2 l0 c1
              rw [← hv6] at ev6
              unfold own_spec
              repeat' split
              all_goals first | rfl | (exfalso; omega)
            exact ⟨congrArg (fun z => some (Value.int z)) hfin, rfl⟩
          · skip
            refine i_icT (pc' := 217) X4 hx (hb hby d2_212) (XT.ii_ge_t hc7) (by decide) (by decide) ?_
            refine i_iload (v := v6) (pc' := 219) X4 hx (hb hby d2_217) rfl rfl ?_
            refine i_ldc (pc' := 221) (1114111 : Int32) X4 hx hZ hown (hw _ (List.mem_of_getElem? (i := 12) rfl)) (hb hby d2_219) rfl ?_
            by_cases hc8 : (1114111 : Int32) < v6
            · skip
              refine i_icF (pc' := 224) X4 hx (hb hby d2_221) rfl (XT.ii_le_f hc8) ?_
              refine i_iconst (pc' := 225) (0 : Int32) X4 hx (hb hby d2_224) rfl (by decide) ?_
              refine rI X4 hx hlk hret (hb hby d2_225) (by decide) (by decide) ?_
              have hfin : (0 : Int32) = (own_spec l0.toInt c1.toInt c2.toInt c3.toInt ar.toInt) := by
                have lits := own_lits
                have r0 := hq0
                have r1 := hq1
                have r2 := hq2
                have r3 := hq3
                have khc1 := (not_congr (own_lt _ _)).mp hc1
                have khc2 := (own_c224 hq0).mp hc2
                have khc3 := (not_congr (own_lt _ _)).mp hc3
                have khc5 := (not_congr (own_ct hq1)).mp hc5
                have khc7 := (not_congr (own_lt _ _)).mp hc7
                have khc8 := (own_lt _ _).mp hc8
                have ev6 := own_cp2 l0 c1
                rw [← hv6] at ev6
                unfold own_spec
                repeat' split
                all_goals first | rfl | (exfalso; omega)
              exact ⟨congrArg (fun z => some (Value.int z)) hfin, rfl⟩
            · skip
              refine i_icT (pc' := 226) X4 hx (hb hby d2_221) (XT.ii_le_t hc8) (by decide) (by decide) ?_
              refine i_iload (v := v6) (pc' := 228) X4 hx (hb hby d2_226) rfl rfl ?_
              refine i_ldc (pc' := 230) (55296 : Int32) X4 hx hZ hown (hw _ (List.mem_of_getElem? (i := 13) rfl)) (hb hby d2_228) rfl ?_
              by_cases hc9 : v6 < (55296 : Int32)
              · skip
                refine i_icT (pc' := 242) X4 hx (hb hby d2_230) (XT.ii_lt_t hc9) (by decide) (by decide) ?_
                refine i_iload (v := (2 : Int32)) (pc' := 244) X4 hx (hb hby d2_242) rfl rfl ?_
                refine rI X4 hx hlk hret (hb hby d2_244) (by decide) (by decide) ?_
                have hfin : (2 : Int32) = (own_spec l0.toInt c1.toInt c2.toInt c3.toInt ar.toInt) := by
                  have lits := own_lits
                  have r0 := hq0
                  have r1 := hq1
                  have r2 := hq2
                  have r3 := hq3
                  have khc1 := (not_congr (own_lt _ _)).mp hc1
                  have khc2 := (own_c224 hq0).mp hc2
                  have khc3 := (not_congr (own_lt _ _)).mp hc3
                  have khc5 := (not_congr (own_ct hq1)).mp hc5
                  have khc7 := (not_congr (own_lt _ _)).mp hc7
                  have khc8 := (not_congr (own_lt _ _)).mp hc8
                  have khc9 := (own_lt _ _).mp hc9
                  have ev6 := own_cp2 l0 c1
                  rw [← hv6] at ev6
                  unfold own_spec
                  repeat' split
                  all_goals first | rfl | (exfalso; omega)
                exact ⟨congrArg (fun z => some (Value.int z)) hfin, rfl⟩
              · skip
                refine i_icF (pc' := 233) X4 hx (hb hby d2_230) rfl (XT.ii_lt_f hc9) ?_
                refine i_iload (v := v6) (pc' := 235) X4 hx (hb hby d2_233) rfl rfl ?_
                refine i_ldc (pc' := 237) (57343 : Int32) X4 hx hZ hown (hw _ (List.mem_of_getElem? (i := 15) rfl)) (hb hby d2_235) rfl ?_
                by_cases hc10 : (57343 : Int32) < v6
                · skip
                  refine i_icT (pc' := 242) X4 hx (hb hby d2_237) (XT.ii_gt_t hc10) (by decide) (by decide) ?_
                  refine i_iload (v := (2 : Int32)) (pc' := 244) X4 hx (hb hby d2_242) rfl rfl ?_
                  refine rI X4 hx hlk hret (hb hby d2_244) (by decide) (by decide) ?_
                  have hfin : (2 : Int32) = (own_spec l0.toInt c1.toInt c2.toInt c3.toInt ar.toInt) := by
                    have lits := own_lits
                    have r0 := hq0
                    have r1 := hq1
                    have r2 := hq2
                    have r3 := hq3
                    have khc1 := (not_congr (own_lt _ _)).mp hc1
                    have khc2 := (own_c224 hq0).mp hc2
                    have khc3 := (not_congr (own_lt _ _)).mp hc3
                    have khc5 := (not_congr (own_ct hq1)).mp hc5
                    have khc7 := (not_congr (own_lt _ _)).mp hc7
                    have khc8 := (not_congr (own_lt _ _)).mp hc8
                    have khc9 := (not_congr (own_lt _ _)).mp hc9
                    have khc10 := (own_lt _ _).mp hc10
                    have ev6 := own_cp2 l0 c1
                    rw [← hv6] at ev6
                    unfold own_spec
                    repeat' split
                    all_goals first | rfl | (exfalso; omega)
                  exact ⟨congrArg (fun z => some (Value.int z)) hfin, rfl⟩
                · skip
                  refine i_icF (pc' := 240) X4 hx (hb hby d2_237) rfl (XT.ii_gt_f hc10) ?_
                  refine i_iconst (pc' := 241) (0 : Int32) X4 hx (hb hby d2_240) rfl (by decide) ?_
                  refine rI X4 hx hlk hret (hb hby d2_241) (by decide) (by decide) ?_
                  have hfin : (0 : Int32) = (own_spec l0.toInt c1.toInt c2.toInt c3.toInt ar.toInt) := by
                    have lits := own_lits
                    have r0 := hq0
                    have r1 := hq1
                    have r2 := hq2
                    have r3 := hq3
                    have khc1 := (not_congr (own_lt _ _)).mp hc1
                    have khc2 := (own_c224 hq0).mp hc2
                    have khc3 := (not_congr (own_lt _ _)).mp hc3
                    have khc5 := (not_congr (own_ct hq1)).mp hc5
                    have khc7 := (not_congr (own_lt _ _)).mp hc7
                    have khc8 := (not_congr (own_lt _ _)).mp hc8
                    have khc9 := (not_congr (own_lt _ _)).mp hc9
                    have khc10 := (not_congr (own_lt _ _)).mp hc10
                    have ev6 := own_cp2 l0 c1
                    rw [← hv6] at ev6
                    unfold own_spec
                    repeat' split
                    all_goals first | rfl | (exfalso; omega)
                  exact ⟨congrArg (fun z => some (Value.int z)) hfin, rfl⟩
    · skip
      refine i_icT (pc' := 26) X0 hx (hb hby d2_17) (XT.ii_ne_t hc2) (by decide) (by decide) ?_
      refine i_iloadN (v := l0) (pc' := 27) X0 hx (hb hby d2_26) rfl rfl ?_
      refine i_sipush (pc' := 30) (240 : Int32) X0 hx (hb hby d2_27) rfl (by decide) ?_
      refine i_iand (pc' := 31) X0 hx (hb hby d2_30) rfl ?_
      refine i_sipush (pc' := 34) (224 : Int32) X0 hx (hb hby d2_31) rfl (by decide) ?_
      by_cases hc11 : (l0 &&& (240 : Int32)) = (224 : Int32)
      · skip
        refine i_icF (pc' := 37) X0 hx (hb hby d2_34) rfl (XT.ii_ne_f hc11) ?_
        refine i_iconst (pc' := 38) (3 : Int32) X0 hx (hb hby d2_37) rfl (by decide) ?_
        refine i_istore (L' := #[.val (.int l0), .val (.int c1), .val (.int c2), .val (.int c3), .val (.int ar), .val (.int (3 : Int32)), .unset, .unset]) (pc' := 40) X0 hx (hb hby d2_38) rfl rfl ?_
        refine i_goto (pc' := 62) X0 hx (hb hby d2_40) (by decide) (by decide) ?_
        refine i_iload (v := ar) (pc' := 64) X0 hx (hb hby d2_62) rfl rfl ?_
        refine i_iload (v := (3 : Int32)) (pc' := 66) X0 hx (hb hby d2_64) rfl rfl ?_
        by_cases hc12 : ar < (3 : Int32)
        · skip
          refine i_icF (pc' := 69) X0 hx (hb hby d2_66) rfl (XT.ii_ge_f hc12) ?_
          refine i_iconst (pc' := 70) (0 : Int32) X0 hx (hb hby d2_69) rfl (by decide) ?_
          refine rI X0 hx hlk hret (hb hby d2_70) (by decide) (by decide) ?_
          have hfin : (0 : Int32) = (own_spec l0.toInt c1.toInt c2.toInt c3.toInt ar.toInt) := by
            have lits := own_lits
            have r0 := hq0
            have r1 := hq1
            have r2 := hq2
            have r3 := hq3
            have khc1 := (not_congr (own_lt _ _)).mp hc1
            have khc2 := (not_congr (own_c224 hq0)).mp hc2
            have khc11 := (own_c240 hq0).mp hc11
            have khc12 := (own_lt _ _).mp hc12
            unfold own_spec
            repeat' split
            all_goals first | rfl | (exfalso; omega)
          exact ⟨congrArg (fun z => some (Value.int z)) hfin, rfl⟩
        · skip
          refine i_icT (pc' := 71) X0 hx (hb hby d2_66) (XT.ii_ge_t hc12) (by decide) (by decide) ?_
          refine i_iloadN (v := c1) (pc' := 72) X0 hx (hb hby d2_71) rfl rfl ?_
          refine cS (y := (⟨"weir/stream/JsonCharacterLengthPinLaw", "cont", "(I)Z"⟩ : MethodName)) (rest := []) (pc' := 75) 0 [(.int c1)] X0 hx hZ hown (hw _ (List.mem_of_getElem? (i := 9) rfl)) (hw _ (List.mem_of_getElem? (i := 10) rfl)) (hw _ (List.mem_of_getElem? (i := 7) rfl)) (hw _ (List.mem_of_getElem? (i := 11) rfl)) (by decide) (rmC l Z a0 hw [] c1 n0 h0 X0.le ) (by decide) (by decide) (by rw [hml]; rfl) rfl (lenOf pd0 rfl) rfl (Nat.le_of_eq rfl) (hb hby d2_72) rfl (by decide) (by decide) ?_
          intro r13 T13 h13 X13 q13
          obtain ⟨rfl, eh13⟩ := q13
          subst eh13
          show Go _ _ _ _ _ _ _ T13 (mkF m 75 #[.val (.int l0), .val (.int c1), .val (.int c2), .val (.int c3), .val (.int ar), .val (.int (3 : Int32)), .unset, .unset] [(.int (own_cont c1))])
          by_cases hc14 : (own_cont c1) = 0
          · skip
            refine i_ifF (pc' := 78) X13 hx (hb hby d2_75) rfl (XT.i0_ne_f hc14) ?_
            refine i_iconst (pc' := 79) (0 : Int32) X13 hx (hb hby d2_78) rfl (by decide) ?_
            refine rI X13 hx hlk hret (hb hby d2_79) (by decide) (by decide) ?_
            have hfin : (0 : Int32) = (own_spec l0.toInt c1.toInt c2.toInt c3.toInt ar.toInt) := by
              have lits := own_lits
              have r0 := hq0
              have r1 := hq1
              have r2 := hq2
              have r3 := hq3
              have khc1 := (not_congr (own_lt _ _)).mp hc1
              have khc2 := (not_congr (own_c224 hq0)).mp hc2
              have khc11 := (own_c240 hq0).mp hc11
              have khc12 := (not_congr (own_lt _ _)).mp hc12
              have khc14 := (own_ct hq1).mp hc14
              unfold own_spec
              repeat' split
              all_goals first | rfl | (exfalso; omega)
            exact ⟨congrArg (fun z => some (Value.int z)) hfin, rfl⟩
          · skip
            refine i_ifT (pc' := 80) X13 hx (hb hby d2_75) (XT.i0_ne_t hc14) (by decide) (by decide) ?_
            refine i_iload (v := (3 : Int32)) (pc' := 82) X13 hx (hb hby d2_80) rfl rfl ?_
            refine i_iconst (pc' := 83) (3 : Int32) X13 hx (hb hby d2_82) rfl (by decide) ?_
            refine i_icF (pc' := 86) X13 hx (hb hby d2_83) rfl (XT.ii_lt_f (by decide)) ?_
            refine i_iloadN (v := c2) (pc' := 87) X13 hx (hb hby d2_86) rfl rfl ?_
            refine cS (y := (⟨"weir/stream/JsonCharacterLengthPinLaw", "cont", "(I)Z"⟩ : MethodName)) (rest := []) (pc' := 90) 0 [(.int c2)] X13 hx hZ hown (hw _ (List.mem_of_getElem? (i := 9) rfl)) (hw _ (List.mem_of_getElem? (i := 10) rfl)) (hw _ (List.mem_of_getElem? (i := 7) rfl)) (hw _ (List.mem_of_getElem? (i := 11) rfl)) (by decide) (rmC l Z a0 hw [] c2 n0 h0 X13.le ) (by decide) (by decide) (by rw [hml]; rfl) rfl (lenOf pd0 rfl) rfl (Nat.le_of_eq rfl) (hb hby d2_87) rfl (by decide) (by decide) ?_
            intro r15 T15 h15 X15 q15
            obtain ⟨rfl, eh15⟩ := q15
            subst eh15
            show Go _ _ _ _ _ _ _ T15 (mkF m 90 #[.val (.int l0), .val (.int c1), .val (.int c2), .val (.int c3), .val (.int ar), .val (.int (3 : Int32)), .unset, .unset] [(.int (own_cont c2))])
            by_cases hc16 : (own_cont c2) = 0
            · skip
              refine i_ifF (pc' := 93) X15 hx (hb hby d2_90) rfl (XT.i0_ne_f hc16) ?_
              refine i_iconst (pc' := 94) (0 : Int32) X15 hx (hb hby d2_93) rfl (by decide) ?_
              refine rI X15 hx hlk hret (hb hby d2_94) (by decide) (by decide) ?_
              have hfin : (0 : Int32) = (own_spec l0.toInt c1.toInt c2.toInt c3.toInt ar.toInt) := by
                have lits := own_lits
                have r0 := hq0
                have r1 := hq1
                have r2 := hq2
                have r3 := hq3
                have khc1 := (not_congr (own_lt _ _)).mp hc1
                have khc2 := (not_congr (own_c224 hq0)).mp hc2
                have khc11 := (own_c240 hq0).mp hc11
                have khc12 := (not_congr (own_lt _ _)).mp hc12
                have khc14 := (not_congr (own_ct hq1)).mp hc14
                have khc16 := (own_ct hq2).mp hc16
                unfold own_spec
                repeat' split
                all_goals first | rfl | (exfalso; omega)
              exact ⟨congrArg (fun z => some (Value.int z)) hfin, rfl⟩
            · skip
              refine i_ifT (pc' := 95) X15 hx (hb hby d2_90) (XT.i0_ne_t hc16) (by decide) (by decide) ?_
              refine i_iload (v := (3 : Int32)) (pc' := 97) X15 hx (hb hby d2_95) rfl rfl ?_
              refine i_iconst (pc' := 98) (4 : Int32) X15 hx (hb hby d2_97) rfl (by decide) ?_
              refine i_icT (pc' := 110) X15 hx (hb hby d2_98) (XT.ii_ne_t (by decide)) (by decide) (by decide) ?_
              refine i_iload (v := (3 : Int32)) (pc' := 112) X15 hx (hb hby d2_110) rfl rfl ?_
              refine i_iconst (pc' := 113) (2 : Int32) X15 hx (hb hby d2_112) rfl (by decide) ?_
              refine i_icT (pc' := 138) X15 hx (hb hby d2_113) (XT.ii_ne_t (by decide)) (by decide) (by decide) ?_
              refine i_iload (v := (3 : Int32)) (pc' := 140) X15 hx (hb hby d2_138) rfl rfl ?_
              refine i_iconst (pc' := 141) (3 : Int32) X15 hx (hb hby d2_140) rfl (by decide) ?_
              refine i_icF (pc' := 144) X15 hx (hb hby d2_141) rfl (XT.ii_ne_f (by decide)) ?_
              refine i_iloadN (v := l0) (pc' := 145) X15 hx (hb hby d2_144) rfl rfl ?_
              refine i_bipush (pc' := 147) (15 : Int32) X15 hx (hb hby d2_145) rfl (by decide) ?_
              refine i_iand (pc' := 148) X15 hx (hb hby d2_147) rfl ?_
              refine i_bipush (pc' := 150) (12 : Int32) X15 hx (hb hby d2_148) rfl (by decide) ?_
              refine i_ishl (pc' := 151) X15 hx (hb hby d2_150) rfl ?_
              refine i_iloadN (v := c1) (pc' := 152) X15 hx (hb hby d2_151) rfl rfl ?_
              refine i_bipush (pc' := 154) (63 : Int32) X15 hx (hb hby d2_152) rfl (by decide) ?_
              refine i_iand (pc' := 155) X15 hx (hb hby d2_154) rfl ?_
              refine i_bipush (pc' := 157) (6 : Int32) X15 hx (hb hby d2_155) rfl (by decide) ?_
              refine i_ishl (pc' := 158) X15 hx (hb hby d2_157) rfl ?_
              refine i_ior (pc' := 159) X15 hx (hb hby d2_158) rfl ?_
              refine i_iloadN (v := c2) (pc' := 160) X15 hx (hb hby d2_159) rfl rfl ?_
              refine i_bipush (pc' := 162) (63 : Int32) X15 hx (hb hby d2_160) rfl (by decide) ?_
              refine i_iand (pc' := 163) X15 hx (hb hby d2_162) rfl ?_
              refine i_ior (pc' := 164) X15 hx (hb hby d2_163) rfl ?_
              obtain ⟨v17, hv17⟩ : ∃ zz : Int32, zz = ((((l0 &&& (15 : Int32)) <<< ((12 : Int32) &&& 31)) ||| ((c1 &&& (63 : Int32)) <<< ((6 : Int32) &&& 31))) ||| (c2 &&& (63 : Int32))) := ⟨_, rfl⟩
              rw [← hv17]
              refine i_istore (L' := #[.val (.int l0), .val (.int c1), .val (.int c2), .val (.int c3), .val (.int ar), .val (.int (3 : Int32)), .val (.int v17), .unset]) (pc' := 166) X15 hx (hb hby d2_164) rfl rfl ?_
              refine i_sipush (pc' := 169) (2048 : Int32) X15 hx (hb hby d2_166) rfl (by decide) ?_
              refine i_istore (L' := #[.val (.int l0), .val (.int c1), .val (.int c2), .val (.int c3), .val (.int ar), .val (.int (3 : Int32)), .val (.int v17), .val (.int (2048 : Int32))]) (pc' := 171) X15 hx (hb hby d2_169) rfl rfl ?_
              refine i_goto (pc' := 208) X15 hx (hb hby d2_171) (by decide) (by decide) ?_
              refine i_iload (v := v17) (pc' := 210) X15 hx (hb hby d2_208) rfl rfl ?_
              refine i_iload (v := (2048 : Int32)) (pc' := 212) X15 hx (hb hby d2_210) rfl rfl ?_
              by_cases hc18 : v17 < (2048 : Int32)
              · skip
                refine i_icF (pc' := 215) X15 hx (hb hby d2_212) rfl (XT.ii_ge_f hc18) ?_
                refine i_iconst (pc' := 216) (0 : Int32) X15 hx (hb hby d2_215) rfl (by decide) ?_
                refine rI X15 hx hlk hret (hb hby d2_216) (by decide) (by decide) ?_
                have hfin : (0 : Int32) = (own_spec l0.toInt c1.toInt c2.toInt c3.toInt ar.toInt) := by
                  have lits := own_lits
                  have r0 := hq0
                  have r1 := hq1
                  have r2 := hq2
                  have r3 := hq3
                  have khc1 := (not_congr (own_lt _ _)).mp hc1
                  have khc2 := (not_congr (own_c224 hq0)).mp hc2
                  have khc11 := (own_c240 hq0).mp hc11
                  have khc12 := (not_congr (own_lt _ _)).mp hc12
                  have khc14 := (not_congr (own_ct hq1)).mp hc14
                  have khc16 := (not_congr (own_ct hq2)).mp hc16
                  have khc18 := (own_lt _ _).mp hc18
                  have ev17 := own_cp3 l0 c1 c2
                  rw [← hv17] at ev17
                  unfold own_spec
                  repeat' split
                  all_goals first | rfl | (exfalso; omega)
                exact ⟨congrArg (fun z => some (Value.int z)) hfin, rfl⟩
              · skip
                refine i_icT (pc' := 217) X15 hx (hb hby d2_212) (XT.ii_ge_t hc18) (by decide) (by decide) ?_
                refine i_iload (v := v17) (pc' := 219) X15 hx (hb hby d2_217) rfl rfl ?_
                refine i_ldc (pc' := 221) (1114111 : Int32) X15 hx hZ hown (hw _ (List.mem_of_getElem? (i := 12) rfl)) (hb hby d2_219) rfl ?_
                by_cases hc19 : (1114111 : Int32) < v17
                · skip
                  refine i_icF (pc' := 224) X15 hx (hb hby d2_221) rfl (XT.ii_le_f hc19) ?_
                  refine i_iconst (pc' := 225) (0 : Int32) X15 hx (hb hby d2_224) rfl (by decide) ?_
                  refine rI X15 hx hlk hret (hb hby d2_225) (by decide) (by decide) ?_
                  have hfin : (0 : Int32) = (own_spec l0.toInt c1.toInt c2.toInt c3.toInt ar.toInt) := by
                    have lits := own_lits
                    have r0 := hq0
                    have r1 := hq1
                    have r2 := hq2
                    have r3 := hq3
                    have khc1 := (not_congr (own_lt _ _)).mp hc1
                    have khc2 := (not_congr (own_c224 hq0)).mp hc2
                    have khc11 := (own_c240 hq0).mp hc11
                    have khc12 := (not_congr (own_lt _ _)).mp hc12
                    have khc14 := (not_congr (own_ct hq1)).mp hc14
                    have khc16 := (not_congr (own_ct hq2)).mp hc16
                    have khc18 := (not_congr (own_lt _ _)).mp hc18
                    have khc19 := (own_lt _ _).mp hc19
                    have ev17 := own_cp3 l0 c1 c2
                    rw [← hv17] at ev17
                    unfold own_spec
                    repeat' split
                    all_goals first | rfl | (exfalso; omega)
                  exact ⟨congrArg (fun z => some (Value.int z)) hfin, rfl⟩
                · skip
                  refine i_icT (pc' := 226) X15 hx (hb hby d2_221) (XT.ii_le_t hc19) (by decide) (by decide) ?_
                  refine i_iload (v := v17) (pc' := 228) X15 hx (hb hby d2_226) rfl rfl ?_
                  refine i_ldc (pc' := 230) (55296 : Int32) X15 hx hZ hown (hw _ (List.mem_of_getElem? (i := 13) rfl)) (hb hby d2_228) rfl ?_
                  by_cases hc20 : v17 < (55296 : Int32)
                  · skip
                    refine i_icT (pc' := 242) X15 hx (hb hby d2_230) (XT.ii_lt_t hc20) (by decide) (by decide) ?_
                    refine i_iload (v := (3 : Int32)) (pc' := 244) X15 hx (hb hby d2_242) rfl rfl ?_
                    refine rI X15 hx hlk hret (hb hby d2_244) (by decide) (by decide) ?_
                    have hfin : (3 : Int32) = (own_spec l0.toInt c1.toInt c2.toInt c3.toInt ar.toInt) := by
                      have lits := own_lits
                      have r0 := hq0
                      have r1 := hq1
                      have r2 := hq2
                      have r3 := hq3
                      have khc1 := (not_congr (own_lt _ _)).mp hc1
                      have khc2 := (not_congr (own_c224 hq0)).mp hc2
                      have khc11 := (own_c240 hq0).mp hc11
                      have khc12 := (not_congr (own_lt _ _)).mp hc12
                      have khc14 := (not_congr (own_ct hq1)).mp hc14
                      have khc16 := (not_congr (own_ct hq2)).mp hc16
                      have khc18 := (not_congr (own_lt _ _)).mp hc18
                      have khc19 := (not_congr (own_lt _ _)).mp hc19
                      have khc20 := (own_lt _ _).mp hc20
                      have ev17 := own_cp3 l0 c1 c2
                      rw [← hv17] at ev17
                      unfold own_spec
                      repeat' split
                      all_goals first | rfl | (exfalso; omega)
                    exact ⟨congrArg (fun z => some (Value.int z)) hfin, rfl⟩
                  · skip
                    refine i_icF (pc' := 233) X15 hx (hb hby d2_230) rfl (XT.ii_lt_f hc20) ?_
                    refine i_iload (v := v17) (pc' := 235) X15 hx (hb hby d2_233) rfl rfl ?_
                    refine i_ldc (pc' := 237) (57343 : Int32) X15 hx hZ hown (hw _ (List.mem_of_getElem? (i := 15) rfl)) (hb hby d2_235) rfl ?_
                    by_cases hc21 : (57343 : Int32) < v17
                    · skip
                      refine i_icT (pc' := 242) X15 hx (hb hby d2_237) (XT.ii_gt_t hc21) (by decide) (by decide) ?_
                      refine i_iload (v := (3 : Int32)) (pc' := 244) X15 hx (hb hby d2_242) rfl rfl ?_
                      refine rI X15 hx hlk hret (hb hby d2_244) (by decide) (by decide) ?_
                      have hfin : (3 : Int32) = (own_spec l0.toInt c1.toInt c2.toInt c3.toInt ar.toInt) := by
                        have lits := own_lits
                        have r0 := hq0
                        have r1 := hq1
                        have r2 := hq2
                        have r3 := hq3
                        have khc1 := (not_congr (own_lt _ _)).mp hc1
                        have khc2 := (not_congr (own_c224 hq0)).mp hc2
                        have khc11 := (own_c240 hq0).mp hc11
                        have khc12 := (not_congr (own_lt _ _)).mp hc12
                        have khc14 := (not_congr (own_ct hq1)).mp hc14
                        have khc16 := (not_congr (own_ct hq2)).mp hc16
                        have khc18 := (not_congr (own_lt _ _)).mp hc18
                        have khc19 := (not_congr (own_lt _ _)).mp hc19
                        have khc20 := (not_congr (own_lt _ _)).mp hc20
                        have khc21 := (own_lt _ _).mp hc21
                        have ev17 := own_cp3 l0 c1 c2
                        rw [← hv17] at ev17
                        unfold own_spec
                        repeat' split
                        all_goals first | rfl | (exfalso; omega)
                      exact ⟨congrArg (fun z => some (Value.int z)) hfin, rfl⟩
                    · skip
                      refine i_icF (pc' := 240) X15 hx (hb hby d2_237) rfl (XT.ii_gt_f hc21) ?_
                      refine i_iconst (pc' := 241) (0 : Int32) X15 hx (hb hby d2_240) rfl (by decide) ?_
                      refine rI X15 hx hlk hret (hb hby d2_241) (by decide) (by decide) ?_
                      have hfin : (0 : Int32) = (own_spec l0.toInt c1.toInt c2.toInt c3.toInt ar.toInt) := by
                        have lits := own_lits
                        have r0 := hq0
                        have r1 := hq1
                        have r2 := hq2
                        have r3 := hq3
                        have khc1 := (not_congr (own_lt _ _)).mp hc1
                        have khc2 := (not_congr (own_c224 hq0)).mp hc2
                        have khc11 := (own_c240 hq0).mp hc11
                        have khc12 := (not_congr (own_lt _ _)).mp hc12
                        have khc14 := (not_congr (own_ct hq1)).mp hc14
                        have khc16 := (not_congr (own_ct hq2)).mp hc16
                        have khc18 := (not_congr (own_lt _ _)).mp hc18
                        have khc19 := (not_congr (own_lt _ _)).mp hc19
                        have khc20 := (not_congr (own_lt _ _)).mp hc20
                        have khc21 := (not_congr (own_lt _ _)).mp hc21
                        have ev17 := own_cp3 l0 c1 c2
                        rw [← hv17] at ev17
                        unfold own_spec
                        repeat' split
                        all_goals first | rfl | (exfalso; omega)
                      exact ⟨congrArg (fun z => some (Value.int z)) hfin, rfl⟩
      · skip
        refine i_icT (pc' := 43) X0 hx (hb hby d2_34) (XT.ii_ne_t hc11) (by decide) (by decide) ?_
        refine i_iloadN (v := l0) (pc' := 44) X0 hx (hb hby d2_43) rfl rfl ?_
        refine i_sipush (pc' := 47) (248 : Int32) X0 hx (hb hby d2_44) rfl (by decide) ?_
        refine i_iand (pc' := 48) X0 hx (hb hby d2_47) rfl ?_
        refine i_sipush (pc' := 51) (240 : Int32) X0 hx (hb hby d2_48) rfl (by decide) ?_
        by_cases hc22 : (l0 &&& (248 : Int32)) = (240 : Int32)
        · skip
          refine i_icF (pc' := 54) X0 hx (hb hby d2_51) rfl (XT.ii_ne_f hc22) ?_
          refine i_iconst (pc' := 55) (4 : Int32) X0 hx (hb hby d2_54) rfl (by decide) ?_
          refine i_istore (L' := #[.val (.int l0), .val (.int c1), .val (.int c2), .val (.int c3), .val (.int ar), .val (.int (4 : Int32)), .unset, .unset]) (pc' := 57) X0 hx (hb hby d2_55) rfl rfl ?_
          refine i_goto (pc' := 62) X0 hx (hb hby d2_57) (by decide) (by decide) ?_
          refine i_iload (v := ar) (pc' := 64) X0 hx (hb hby d2_62) rfl rfl ?_
          refine i_iload (v := (4 : Int32)) (pc' := 66) X0 hx (hb hby d2_64) rfl rfl ?_
          by_cases hc23 : ar < (4 : Int32)
          · skip
            refine i_icF (pc' := 69) X0 hx (hb hby d2_66) rfl (XT.ii_ge_f hc23) ?_
            refine i_iconst (pc' := 70) (0 : Int32) X0 hx (hb hby d2_69) rfl (by decide) ?_
            refine rI X0 hx hlk hret (hb hby d2_70) (by decide) (by decide) ?_
            have hfin : (0 : Int32) = (own_spec l0.toInt c1.toInt c2.toInt c3.toInt ar.toInt) := by
              have lits := own_lits
              have r0 := hq0
              have r1 := hq1
              have r2 := hq2
              have r3 := hq3
              have khc1 := (not_congr (own_lt _ _)).mp hc1
              have khc2 := (not_congr (own_c224 hq0)).mp hc2
              have khc11 := (not_congr (own_c240 hq0)).mp hc11
              have khc22 := (own_c248 hq0).mp hc22
              have khc23 := (own_lt _ _).mp hc23
              unfold own_spec
              repeat' split
              all_goals first | rfl | (exfalso; omega)
            exact ⟨congrArg (fun z => some (Value.int z)) hfin, rfl⟩
          · skip
            refine i_icT (pc' := 71) X0 hx (hb hby d2_66) (XT.ii_ge_t hc23) (by decide) (by decide) ?_
            refine i_iloadN (v := c1) (pc' := 72) X0 hx (hb hby d2_71) rfl rfl ?_
            refine cS (y := (⟨"weir/stream/JsonCharacterLengthPinLaw", "cont", "(I)Z"⟩ : MethodName)) (rest := []) (pc' := 75) 0 [(.int c1)] X0 hx hZ hown (hw _ (List.mem_of_getElem? (i := 9) rfl)) (hw _ (List.mem_of_getElem? (i := 10) rfl)) (hw _ (List.mem_of_getElem? (i := 7) rfl)) (hw _ (List.mem_of_getElem? (i := 11) rfl)) (by decide) (rmC l Z a0 hw [] c1 n0 h0 X0.le ) (by decide) (by decide) (by rw [hml]; rfl) rfl (lenOf pd0 rfl) rfl (Nat.le_of_eq rfl) (hb hby d2_72) rfl (by decide) (by decide) ?_
            intro r24 T24 h24 X24 q24
            obtain ⟨rfl, eh24⟩ := q24
            subst eh24
            show Go _ _ _ _ _ _ _ T24 (mkF m 75 #[.val (.int l0), .val (.int c1), .val (.int c2), .val (.int c3), .val (.int ar), .val (.int (4 : Int32)), .unset, .unset] [(.int (own_cont c1))])
            by_cases hc25 : (own_cont c1) = 0
            · skip
              refine i_ifF (pc' := 78) X24 hx (hb hby d2_75) rfl (XT.i0_ne_f hc25) ?_
              refine i_iconst (pc' := 79) (0 : Int32) X24 hx (hb hby d2_78) rfl (by decide) ?_
              refine rI X24 hx hlk hret (hb hby d2_79) (by decide) (by decide) ?_
              have hfin : (0 : Int32) = (own_spec l0.toInt c1.toInt c2.toInt c3.toInt ar.toInt) := by
                have lits := own_lits
                have r0 := hq0
                have r1 := hq1
                have r2 := hq2
                have r3 := hq3
                have khc1 := (not_congr (own_lt _ _)).mp hc1
                have khc2 := (not_congr (own_c224 hq0)).mp hc2
                have khc11 := (not_congr (own_c240 hq0)).mp hc11
                have khc22 := (own_c248 hq0).mp hc22
                have khc23 := (not_congr (own_lt _ _)).mp hc23
                have khc25 := (own_ct hq1).mp hc25
                unfold own_spec
                repeat' split
                all_goals first | rfl | (exfalso; omega)
              exact ⟨congrArg (fun z => some (Value.int z)) hfin, rfl⟩
            · skip
              refine i_ifT (pc' := 80) X24 hx (hb hby d2_75) (XT.i0_ne_t hc25) (by decide) (by decide) ?_
              refine i_iload (v := (4 : Int32)) (pc' := 82) X24 hx (hb hby d2_80) rfl rfl ?_
              refine i_iconst (pc' := 83) (3 : Int32) X24 hx (hb hby d2_82) rfl (by decide) ?_
              refine i_icF (pc' := 86) X24 hx (hb hby d2_83) rfl (XT.ii_lt_f (by decide)) ?_
              refine i_iloadN (v := c2) (pc' := 87) X24 hx (hb hby d2_86) rfl rfl ?_
              refine cS (y := (⟨"weir/stream/JsonCharacterLengthPinLaw", "cont", "(I)Z"⟩ : MethodName)) (rest := []) (pc' := 90) 0 [(.int c2)] X24 hx hZ hown (hw _ (List.mem_of_getElem? (i := 9) rfl)) (hw _ (List.mem_of_getElem? (i := 10) rfl)) (hw _ (List.mem_of_getElem? (i := 7) rfl)) (hw _ (List.mem_of_getElem? (i := 11) rfl)) (by decide) (rmC l Z a0 hw [] c2 n0 h0 X24.le ) (by decide) (by decide) (by rw [hml]; rfl) rfl (lenOf pd0 rfl) rfl (Nat.le_of_eq rfl) (hb hby d2_87) rfl (by decide) (by decide) ?_
              intro r26 T26 h26 X26 q26
              obtain ⟨rfl, eh26⟩ := q26
              subst eh26
              show Go _ _ _ _ _ _ _ T26 (mkF m 90 #[.val (.int l0), .val (.int c1), .val (.int c2), .val (.int c3), .val (.int ar), .val (.int (4 : Int32)), .unset, .unset] [(.int (own_cont c2))])
              by_cases hc27 : (own_cont c2) = 0
              · skip
                refine i_ifF (pc' := 93) X26 hx (hb hby d2_90) rfl (XT.i0_ne_f hc27) ?_
                refine i_iconst (pc' := 94) (0 : Int32) X26 hx (hb hby d2_93) rfl (by decide) ?_
                refine rI X26 hx hlk hret (hb hby d2_94) (by decide) (by decide) ?_
                have hfin : (0 : Int32) = (own_spec l0.toInt c1.toInt c2.toInt c3.toInt ar.toInt) := by
                  have lits := own_lits
                  have r0 := hq0
                  have r1 := hq1
                  have r2 := hq2
                  have r3 := hq3
                  have khc1 := (not_congr (own_lt _ _)).mp hc1
                  have khc2 := (not_congr (own_c224 hq0)).mp hc2
                  have khc11 := (not_congr (own_c240 hq0)).mp hc11
                  have khc22 := (own_c248 hq0).mp hc22
                  have khc23 := (not_congr (own_lt _ _)).mp hc23
                  have khc25 := (not_congr (own_ct hq1)).mp hc25
                  have khc27 := (own_ct hq2).mp hc27
                  unfold own_spec
                  repeat' split
                  all_goals first | rfl | (exfalso; omega)
                exact ⟨congrArg (fun z => some (Value.int z)) hfin, rfl⟩
              · skip
                refine i_ifT (pc' := 95) X26 hx (hb hby d2_90) (XT.i0_ne_t hc27) (by decide) (by decide) ?_
                refine i_iload (v := (4 : Int32)) (pc' := 97) X26 hx (hb hby d2_95) rfl rfl ?_
                refine i_iconst (pc' := 98) (4 : Int32) X26 hx (hb hby d2_97) rfl (by decide) ?_
                refine i_icF (pc' := 101) X26 hx (hb hby d2_98) rfl (XT.ii_ne_f (by decide)) ?_
                refine i_iloadN (v := c3) (pc' := 102) X26 hx (hb hby d2_101) rfl rfl ?_
                refine cS (y := (⟨"weir/stream/JsonCharacterLengthPinLaw", "cont", "(I)Z"⟩ : MethodName)) (rest := []) (pc' := 105) 0 [(.int c3)] X26 hx hZ hown (hw _ (List.mem_of_getElem? (i := 9) rfl)) (hw _ (List.mem_of_getElem? (i := 10) rfl)) (hw _ (List.mem_of_getElem? (i := 7) rfl)) (hw _ (List.mem_of_getElem? (i := 11) rfl)) (by decide) (rmC l Z a0 hw [] c3 n0 h0 X26.le ) (by decide) (by decide) (by rw [hml]; rfl) rfl (lenOf pd0 rfl) rfl (Nat.le_of_eq rfl) (hb hby d2_102) rfl (by decide) (by decide) ?_
                intro r28 T28 h28 X28 q28
                obtain ⟨rfl, eh28⟩ := q28
                subst eh28
                show Go _ _ _ _ _ _ _ T28 (mkF m 105 #[.val (.int l0), .val (.int c1), .val (.int c2), .val (.int c3), .val (.int ar), .val (.int (4 : Int32)), .unset, .unset] [(.int (own_cont c3))])
                by_cases hc29 : (own_cont c3) = 0
                · skip
                  refine i_ifF (pc' := 108) X28 hx (hb hby d2_105) rfl (XT.i0_ne_f hc29) ?_
                  refine i_iconst (pc' := 109) (0 : Int32) X28 hx (hb hby d2_108) rfl (by decide) ?_
                  refine rI X28 hx hlk hret (hb hby d2_109) (by decide) (by decide) ?_
                  have hfin : (0 : Int32) = (own_spec l0.toInt c1.toInt c2.toInt c3.toInt ar.toInt) := by
                    have lits := own_lits
                    have r0 := hq0
                    have r1 := hq1
                    have r2 := hq2
                    have r3 := hq3
                    have khc1 := (not_congr (own_lt _ _)).mp hc1
                    have khc2 := (not_congr (own_c224 hq0)).mp hc2
                    have khc11 := (not_congr (own_c240 hq0)).mp hc11
                    have khc22 := (own_c248 hq0).mp hc22
                    have khc23 := (not_congr (own_lt _ _)).mp hc23
                    have khc25 := (not_congr (own_ct hq1)).mp hc25
                    have khc27 := (not_congr (own_ct hq2)).mp hc27
                    have khc29 := (own_ct hq3).mp hc29
                    unfold own_spec
                    repeat' split
                    all_goals first | rfl | (exfalso; omega)
                  exact ⟨congrArg (fun z => some (Value.int z)) hfin, rfl⟩
                · skip
                  refine i_ifT (pc' := 110) X28 hx (hb hby d2_105) (XT.i0_ne_t hc29) (by decide) (by decide) ?_
                  refine i_iload (v := (4 : Int32)) (pc' := 112) X28 hx (hb hby d2_110) rfl rfl ?_
                  refine i_iconst (pc' := 113) (2 : Int32) X28 hx (hb hby d2_112) rfl (by decide) ?_
                  refine i_icT (pc' := 138) X28 hx (hb hby d2_113) (XT.ii_ne_t (by decide)) (by decide) (by decide) ?_
                  refine i_iload (v := (4 : Int32)) (pc' := 140) X28 hx (hb hby d2_138) rfl rfl ?_
                  refine i_iconst (pc' := 141) (3 : Int32) X28 hx (hb hby d2_140) rfl (by decide) ?_
                  refine i_icT (pc' := 174) X28 hx (hb hby d2_141) (XT.ii_ne_t (by decide)) (by decide) (by decide) ?_
                  refine i_iloadN (v := l0) (pc' := 175) X28 hx (hb hby d2_174) rfl rfl ?_
                  refine i_bipush (pc' := 177) (7 : Int32) X28 hx (hb hby d2_175) rfl (by decide) ?_
                  refine i_iand (pc' := 178) X28 hx (hb hby d2_177) rfl ?_
                  refine i_bipush (pc' := 180) (18 : Int32) X28 hx (hb hby d2_178) rfl (by decide) ?_
                  refine i_ishl (pc' := 181) X28 hx (hb hby d2_180) rfl ?_
                  refine i_iloadN (v := c1) (pc' := 182) X28 hx (hb hby d2_181) rfl rfl ?_
                  refine i_bipush (pc' := 184) (63 : Int32) X28 hx (hb hby d2_182) rfl (by decide) ?_
                  refine i_iand (pc' := 185) X28 hx (hb hby d2_184) rfl ?_
                  refine i_bipush (pc' := 187) (12 : Int32) X28 hx (hb hby d2_185) rfl (by decide) ?_
                  refine i_ishl (pc' := 188) X28 hx (hb hby d2_187) rfl ?_
                  refine i_ior (pc' := 189) X28 hx (hb hby d2_188) rfl ?_
                  refine i_iloadN (v := c2) (pc' := 190) X28 hx (hb hby d2_189) rfl rfl ?_
                  refine i_bipush (pc' := 192) (63 : Int32) X28 hx (hb hby d2_190) rfl (by decide) ?_
                  refine i_iand (pc' := 193) X28 hx (hb hby d2_192) rfl ?_
                  refine i_bipush (pc' := 195) (6 : Int32) X28 hx (hb hby d2_193) rfl (by decide) ?_
                  refine i_ishl (pc' := 196) X28 hx (hb hby d2_195) rfl ?_
                  refine i_ior (pc' := 197) X28 hx (hb hby d2_196) rfl ?_
                  refine i_iloadN (v := c3) (pc' := 198) X28 hx (hb hby d2_197) rfl rfl ?_
                  refine i_bipush (pc' := 200) (63 : Int32) X28 hx (hb hby d2_198) rfl (by decide) ?_
                  refine i_iand (pc' := 201) X28 hx (hb hby d2_200) rfl ?_
                  refine i_ior (pc' := 202) X28 hx (hb hby d2_201) rfl ?_
                  obtain ⟨v30, hv30⟩ : ∃ zz : Int32, zz = (((((l0 &&& (7 : Int32)) <<< ((18 : Int32) &&& 31)) ||| ((c1 &&& (63 : Int32)) <<< ((12 : Int32) &&& 31))) ||| ((c2 &&& (63 : Int32)) <<< ((6 : Int32) &&& 31))) ||| (c3 &&& (63 : Int32))) := ⟨_, rfl⟩
                  rw [← hv30]
                  refine i_istore (L' := #[.val (.int l0), .val (.int c1), .val (.int c2), .val (.int c3), .val (.int ar), .val (.int (4 : Int32)), .val (.int v30), .unset]) (pc' := 204) X28 hx (hb hby d2_202) rfl rfl ?_
                  refine i_ldc (pc' := 206) (65536 : Int32) X28 hx hZ hown (hw _ (List.mem_of_getElem? (i := 14) rfl)) (hb hby d2_204) rfl ?_
                  refine i_istore (L' := #[.val (.int l0), .val (.int c1), .val (.int c2), .val (.int c3), .val (.int ar), .val (.int (4 : Int32)), .val (.int v30), .val (.int (65536 : Int32))]) (pc' := 208) X28 hx (hb hby d2_206) rfl rfl ?_
                  refine i_iload (v := v30) (pc' := 210) X28 hx (hb hby d2_208) rfl rfl ?_
                  refine i_iload (v := (65536 : Int32)) (pc' := 212) X28 hx (hb hby d2_210) rfl rfl ?_
                  by_cases hc31 : v30 < (65536 : Int32)
                  · skip
                    refine i_icF (pc' := 215) X28 hx (hb hby d2_212) rfl (XT.ii_ge_f hc31) ?_
                    refine i_iconst (pc' := 216) (0 : Int32) X28 hx (hb hby d2_215) rfl (by decide) ?_
                    refine rI X28 hx hlk hret (hb hby d2_216) (by decide) (by decide) ?_
                    have hfin : (0 : Int32) = (own_spec l0.toInt c1.toInt c2.toInt c3.toInt ar.toInt) := by
                      have lits := own_lits
                      have r0 := hq0
                      have r1 := hq1
                      have r2 := hq2
                      have r3 := hq3
                      have khc1 := (not_congr (own_lt _ _)).mp hc1
                      have khc2 := (not_congr (own_c224 hq0)).mp hc2
                      have khc11 := (not_congr (own_c240 hq0)).mp hc11
                      have khc22 := (own_c248 hq0).mp hc22
                      have khc23 := (not_congr (own_lt _ _)).mp hc23
                      have khc25 := (not_congr (own_ct hq1)).mp hc25
                      have khc27 := (not_congr (own_ct hq2)).mp hc27
                      have khc29 := (not_congr (own_ct hq3)).mp hc29
                      have khc31 := (own_lt _ _).mp hc31
                      have ev30 := own_cp4 l0 c1 c2 c3
                      rw [← hv30] at ev30
                      unfold own_spec
                      repeat' split
                      all_goals first | rfl | (exfalso; omega)
                    exact ⟨congrArg (fun z => some (Value.int z)) hfin, rfl⟩
                  · skip
                    refine i_icT (pc' := 217) X28 hx (hb hby d2_212) (XT.ii_ge_t hc31) (by decide) (by decide) ?_
                    refine i_iload (v := v30) (pc' := 219) X28 hx (hb hby d2_217) rfl rfl ?_
                    refine i_ldc (pc' := 221) (1114111 : Int32) X28 hx hZ hown (hw _ (List.mem_of_getElem? (i := 12) rfl)) (hb hby d2_219) rfl ?_
                    by_cases hc32 : (1114111 : Int32) < v30
                    · skip
                      refine i_icF (pc' := 224) X28 hx (hb hby d2_221) rfl (XT.ii_le_f hc32) ?_
                      refine i_iconst (pc' := 225) (0 : Int32) X28 hx (hb hby d2_224) rfl (by decide) ?_
                      refine rI X28 hx hlk hret (hb hby d2_225) (by decide) (by decide) ?_
                      have hfin : (0 : Int32) = (own_spec l0.toInt c1.toInt c2.toInt c3.toInt ar.toInt) := by
                        have lits := own_lits
                        have r0 := hq0
                        have r1 := hq1
                        have r2 := hq2
                        have r3 := hq3
                        have khc1 := (not_congr (own_lt _ _)).mp hc1
                        have khc2 := (not_congr (own_c224 hq0)).mp hc2
                        have khc11 := (not_congr (own_c240 hq0)).mp hc11
                        have khc22 := (own_c248 hq0).mp hc22
                        have khc23 := (not_congr (own_lt _ _)).mp hc23
                        have khc25 := (not_congr (own_ct hq1)).mp hc25
                        have khc27 := (not_congr (own_ct hq2)).mp hc27
                        have khc29 := (not_congr (own_ct hq3)).mp hc29
                        have khc31 := (not_congr (own_lt _ _)).mp hc31
                        have khc32 := (own_lt _ _).mp hc32
                        have ev30 := own_cp4 l0 c1 c2 c3
                        rw [← hv30] at ev30
                        unfold own_spec
                        repeat' split
                        all_goals first | rfl | (exfalso; omega)
                      exact ⟨congrArg (fun z => some (Value.int z)) hfin, rfl⟩
                    · skip
                      refine i_icT (pc' := 226) X28 hx (hb hby d2_221) (XT.ii_le_t hc32) (by decide) (by decide) ?_
                      refine i_iload (v := v30) (pc' := 228) X28 hx (hb hby d2_226) rfl rfl ?_
                      refine i_ldc (pc' := 230) (55296 : Int32) X28 hx hZ hown (hw _ (List.mem_of_getElem? (i := 13) rfl)) (hb hby d2_228) rfl ?_
                      by_cases hc33 : v30 < (55296 : Int32)
                      · skip
                        refine i_icT (pc' := 242) X28 hx (hb hby d2_230) (XT.ii_lt_t hc33) (by decide) (by decide) ?_
                        refine i_iload (v := (4 : Int32)) (pc' := 244) X28 hx (hb hby d2_242) rfl rfl ?_
                        refine rI X28 hx hlk hret (hb hby d2_244) (by decide) (by decide) ?_
                        have hfin : (4 : Int32) = (own_spec l0.toInt c1.toInt c2.toInt c3.toInt ar.toInt) := by
                          have lits := own_lits
                          have r0 := hq0
                          have r1 := hq1
                          have r2 := hq2
                          have r3 := hq3
                          have khc1 := (not_congr (own_lt _ _)).mp hc1
                          have khc2 := (not_congr (own_c224 hq0)).mp hc2
                          have khc11 := (not_congr (own_c240 hq0)).mp hc11
                          have khc22 := (own_c248 hq0).mp hc22
                          have khc23 := (not_congr (own_lt _ _)).mp hc23
                          have khc25 := (not_congr (own_ct hq1)).mp hc25
                          have khc27 := (not_congr (own_ct hq2)).mp hc27
                          have khc29 := (not_congr (own_ct hq3)).mp hc29
                          have khc31 := (not_congr (own_lt _ _)).mp hc31
                          have khc32 := (not_congr (own_lt _ _)).mp hc32
                          have khc33 := (own_lt _ _).mp hc33
                          have ev30 := own_cp4 l0 c1 c2 c3
                          rw [← hv30] at ev30
                          unfold own_spec
                          repeat' split
                          all_goals first | rfl | (exfalso; omega)
                        exact ⟨congrArg (fun z => some (Value.int z)) hfin, rfl⟩
                      · skip
                        refine i_icF (pc' := 233) X28 hx (hb hby d2_230) rfl (XT.ii_lt_f hc33) ?_
                        refine i_iload (v := v30) (pc' := 235) X28 hx (hb hby d2_233) rfl rfl ?_
                        refine i_ldc (pc' := 237) (57343 : Int32) X28 hx hZ hown (hw _ (List.mem_of_getElem? (i := 15) rfl)) (hb hby d2_235) rfl ?_
                        by_cases hc34 : (57343 : Int32) < v30
                        · skip
                          refine i_icT (pc' := 242) X28 hx (hb hby d2_237) (XT.ii_gt_t hc34) (by decide) (by decide) ?_
                          refine i_iload (v := (4 : Int32)) (pc' := 244) X28 hx (hb hby d2_242) rfl rfl ?_
                          refine rI X28 hx hlk hret (hb hby d2_244) (by decide) (by decide) ?_
                          have hfin : (4 : Int32) = (own_spec l0.toInt c1.toInt c2.toInt c3.toInt ar.toInt) := by
                            have lits := own_lits
                            have r0 := hq0
                            have r1 := hq1
                            have r2 := hq2
                            have r3 := hq3
                            have khc1 := (not_congr (own_lt _ _)).mp hc1
                            have khc2 := (not_congr (own_c224 hq0)).mp hc2
                            have khc11 := (not_congr (own_c240 hq0)).mp hc11
                            have khc22 := (own_c248 hq0).mp hc22
                            have khc23 := (not_congr (own_lt _ _)).mp hc23
                            have khc25 := (not_congr (own_ct hq1)).mp hc25
                            have khc27 := (not_congr (own_ct hq2)).mp hc27
                            have khc29 := (not_congr (own_ct hq3)).mp hc29
                            have khc31 := (not_congr (own_lt _ _)).mp hc31
                            have khc32 := (not_congr (own_lt _ _)).mp hc32
                            have khc33 := (not_congr (own_lt _ _)).mp hc33
                            have khc34 := (own_lt _ _).mp hc34
                            have ev30 := own_cp4 l0 c1 c2 c3
                            rw [← hv30] at ev30
                            unfold own_spec
                            repeat' split
                            all_goals first | rfl | (exfalso; omega)
                          exact ⟨congrArg (fun z => some (Value.int z)) hfin, rfl⟩
                        · skip
                          refine i_icF (pc' := 240) X28 hx (hb hby d2_237) rfl (XT.ii_gt_f hc34) ?_
                          refine i_iconst (pc' := 241) (0 : Int32) X28 hx (hb hby d2_240) rfl (by decide) ?_
                          refine rI X28 hx hlk hret (hb hby d2_241) (by decide) (by decide) ?_
                          have hfin : (0 : Int32) = (own_spec l0.toInt c1.toInt c2.toInt c3.toInt ar.toInt) := by
                            have lits := own_lits
                            have r0 := hq0
                            have r1 := hq1
                            have r2 := hq2
                            have r3 := hq3
                            have khc1 := (not_congr (own_lt _ _)).mp hc1
                            have khc2 := (not_congr (own_c224 hq0)).mp hc2
                            have khc11 := (not_congr (own_c240 hq0)).mp hc11
                            have khc22 := (own_c248 hq0).mp hc22
                            have khc23 := (not_congr (own_lt _ _)).mp hc23
                            have khc25 := (not_congr (own_ct hq1)).mp hc25
                            have khc27 := (not_congr (own_ct hq2)).mp hc27
                            have khc29 := (not_congr (own_ct hq3)).mp hc29
                            have khc31 := (not_congr (own_lt _ _)).mp hc31
                            have khc32 := (not_congr (own_lt _ _)).mp hc32
                            have khc33 := (not_congr (own_lt _ _)).mp hc33
                            have khc34 := (not_congr (own_lt _ _)).mp hc34
                            have ev30 := own_cp4 l0 c1 c2 c3
                            rw [← hv30] at ev30
                            unfold own_spec
                            repeat' split
                            all_goals first | rfl | (exfalso; omega)
                          exact ⟨congrArg (fun z => some (Value.int z)) hfin, rfl⟩
        · skip
          refine i_icT (pc' := 60) X0 hx (hb hby d2_51) (XT.ii_ne_t hc22) (by decide) (by decide) ?_
          refine i_iconst (pc' := 61) (0 : Int32) X0 hx (hb hby d2_60) rfl (by decide) ?_
          refine rI X0 hx hlk hret (hb hby d2_61) (by decide) (by decide) ?_
          have hfin : (0 : Int32) = (own_spec l0.toInt c1.toInt c2.toInt c3.toInt ar.toInt) := by
            have lits := own_lits
            have r0 := hq0
            have r1 := hq1
            have r2 := hq2
            have r3 := hq3
            have khc1 := (not_congr (own_lt _ _)).mp hc1
            have khc2 := (not_congr (own_c224 hq0)).mp hc2
            have khc11 := (not_congr (own_c240 hq0)).mp hc11
            have khc22 := (not_congr (own_c248 hq0)).mp hc22
            unfold own_spec
            repeat' split
            all_goals first | rfl | (exfalso; omega)
          exact ⟨congrArg (fun z => some (Value.int z)) hfin, rfl⟩
theorem ef_rm0 (m : MethodId) (p1 : Int32) (p2 : Int32) (p3 : Int32) (p4 : Int32) (p5 : Int32) (p6 : Int32) : entryFrame m #[(.int p1), (.int p2), (.int p3), (.int p4), (.int p5), (.int p6)] maxLocals = mkF m 0 #[.val (.int p1), .val (.int p2), .val (.int p3), .val (.int p4), .val (.int p5), .val (.int p6), .unset, .unset, .unset, .unset] [] := by first | (simp [entryFrame, mkF, argsToLocals, Value.category, maxLocals]; done) | rfl
abbrev Q0 : Option Value → Heap → Prop := fun v _ => v = some (.int 1)
theorem pd1 : parseMethodDescriptor "([BII)I" = some ⟨[(.array .byte), .int, .int], some .int⟩ := by decide +kernel
theorem pd2 : parseMethodDescriptor "(IIIII)I" = some ⟨[.int, .int, .int, .int, .int], some .int⟩ := by decide +kernel
set_option maxRecDepth 65536 in
set_option maxHeartbeats 40000000 in
theorem rm0 (l : Launch) (Z : State) (a0 : Array Value) (hw : ∀ d ∈ tables_1, d.before a0 Z = true) (ws : List Jvm.Cond) (p1 : Int32) (p2 : Int32) (p3 : Int32) (p4 : Int32) (p5 : Int32) (p6 : Int32) (n0 : Nat) (h0 : Heap) (hn : n0 ≤ h0.size)   :
    Con l Z x code maxLocals ret ws room_1 #[(.int p1), (.int p2), (.int p3), (.int p4), (.int p5), (.int p6)] h0 n0 Q0 := by
  refine body (y := x) (Ls := #[.val (.int p1), .val (.int p2), .val (.int p3), .val (.int p4), .val (.int p5), .val (.int p6), .unset, .unset, .unset, .unset]) (plainFor_of_name pn1) hn (fun m => ef_rm0 m p1 p2 p3 p4 p5 p6) ?_
  intro p e s m below meth c T0 hx hby hml hown hnm hret hlk hZ X0
  replace hown : s.vm.findClass "weir/stream/JsonCharacterLengthPinLaw" = some m.cls := hown
  replace hml : c.maxLocals = 10 := hml
  replace hret : meth.sig.returnType = (some .boolean) := hret
  refine i_iload (v := p6) (pc' := 2) X0 hx (hb hby at_0) rfl rfl ?_
  refine i_iconst (pc' := 3) (2 : Int32) X0 hx (hb hby at_2) rfl (by decide) ?_
  refine i_iushr (pc' := 4) X0 hx (hb hby at_3) rfl ?_
  refine i_iconst (pc' := 5) (1 : Int32) X0 hx (hb hby at_4) rfl (by decide) ?_
  refine i_iand (pc' := 6) X0 hx (hb hby at_5) rfl ?_
  obtain ⟨v1, hv1⟩ : ∃ zz : Int32, zz = ((XT.ushr p6 (2 : Int32)) &&& (1 : Int32)) := ⟨_, rfl⟩
  rw [← hv1]
  refine i_istore (L' := #[.val (.int p1), .val (.int p2), .val (.int p3), .val (.int p4), .val (.int p5), .val (.int p6), .val (.int v1), .unset, .unset, .unset]) (pc' := 8) X0 hx (hb hby at_6) rfl rfl ?_
  refine i_iconst (pc' := 9) (1 : Int32) X0 hx (hb hby at_8) rfl (by decide) ?_
  refine i_iload (v := p6) (pc' := 11) X0 hx (hb hby at_9) rfl rfl ?_
  refine i_iconst (pc' := 12) (3 : Int32) X0 hx (hb hby at_11) rfl (by decide) ?_
  refine i_iand (pc' := 13) X0 hx (hb hby at_12) rfl ?_
  refine i_iadd (pc' := 14) X0 hx (hb hby at_13) rfl ?_
  obtain ⟨v2, hv2⟩ : ∃ zz : Int32, zz = ((1 : Int32) + (p6 &&& (3 : Int32))) := ⟨_, rfl⟩
  rw [← hv2]
  refine i_istore (L' := #[.val (.int p1), .val (.int p2), .val (.int p3), .val (.int p4), .val (.int p5), .val (.int p6), .val (.int v1), .val (.int v2), .unset, .unset]) (pc' := 16) X0 hx (hb hby at_14) rfl rfl ?_
  refine i_iconst (pc' := 17) (5 : Int32) X0 hx (hb hby at_16) rfl (by decide) ?_
  refine na (aty := .byte) (pc' := 19) 5 X0 hx hZ (hw _ (List.mem_of_getElem? (i := 0) rfl)) (hb hby at_17) rfl (by decide) (by decide) (by decide) (by decide) (by decide) fun T3 h3 b3 X3 g3 ge3 E3 V3 => ?_
  have sz_b3 : h0.size ≤ b3 := Nat.le_trans ((Keep.refl h0 _) : Keep h0 h0 []).1 (Nat.le_of_eq g3.symm)
  have K3 : Keep h0 h3 [] := ((Keep.refl h0 _) : Keep h0 h0 []).ext E3
  have A3 : Av Z h3 b3 .byte 5 (fun _ => .int 0) := V3
  refine i_astore (L' := #[.val (.int p1), .val (.int p2), .val (.int p3), .val (.int p4), .val (.int p5), .val (.int p6), .val (.int v1), .val (.int v2), .val (.ref b3), .unset]) (pc' := 21) X3 hx (hb hby at_19) rfl rfl rfl ?_
  refine i_iload (v := v1) (pc' := 23) X3 hx (hb hby at_21) rfl rfl ?_
  by_cases hc4 : v1 = 0
  · skip
    refine i_ifF (pc' := 26) X3 hx (hb hby at_23) rfl (XT.i0_ne_f hc4) ?_
    refine i_aload (v := (.ref b3)) (pc' := 28) X3 hx (hb hby at_26) rfl rfl rfl ?_
    refine i_iconst (pc' := 29) (0 : Int32) X3 hx (hb hby at_28) rfl (by decide) ?_
    refine i_iloadN (v := p1) (pc' := 30) X3 hx (hb hby at_29) rfl rfl ?_
    refine i_i2b (pc' := 31) X3 hx (hb hby at_30) rfl ?_
    refine saB (pc' := 32) X3 hx hZ A3 ge3 (by decide) (by decide) (hb hby at_31) rfl fun T5 h5 X5 W5 => ?_
    refine i_aload (v := (.ref b3)) (pc' := 34) X5 hx (hb hby at_32) rfl rfl rfl ?_
    refine i_iconst (pc' := 35) (1 : Int32) X5 hx (hb hby at_34) rfl (by decide) ?_
    refine i_iloadN (v := p2) (pc' := 36) X5 hx (hb hby at_35) rfl rfl ?_
    refine i_i2b (pc' := 37) X5 hx (hb hby at_36) rfl ?_
    have F6 : Av Z h5 b3 .byte 5 (fun i => .int ((fun i => if i = 0 then (p1.toInt8.toInt32) else (fun _ => (0 : Int32)) i) i)) := (own_stB (k := 0) (g := (fun _ => (0 : Int32))) (by decide) A3 W5)
    refine saB (pc' := 38) X5 hx hZ F6 ge3 (by decide) (by decide) (hb hby at_37) rfl fun T7 h7 X7 W7 => ?_
    refine i_aload (v := (.ref b3)) (pc' := 40) X7 hx (hb hby at_38) rfl rfl rfl ?_
    refine i_iconst (pc' := 41) (2 : Int32) X7 hx (hb hby at_40) rfl (by decide) ?_
    refine i_iloadN (v := p3) (pc' := 42) X7 hx (hb hby at_41) rfl rfl ?_
    refine i_i2b (pc' := 43) X7 hx (hb hby at_42) rfl ?_
    have F8 : Av Z h7 b3 .byte 5 (fun i => .int ((fun i => if i = 1 then (p2.toInt8.toInt32) else (fun i => if i = 0 then (p1.toInt8.toInt32) else (fun _ => (0 : Int32)) i) i) i)) := (own_stB (k := 1) (g := (fun i => if i = 0 then (p1.toInt8.toInt32) else (fun _ => (0 : Int32)) i)) (by decide) F6 W7)
    refine saB (pc' := 44) X7 hx hZ F8 ge3 (by decide) (by decide) (hb hby at_43) rfl fun T9 h9 X9 W9 => ?_
    refine i_aload (v := (.ref b3)) (pc' := 46) X9 hx (hb hby at_44) rfl rfl rfl ?_
    refine i_iconst (pc' := 47) (3 : Int32) X9 hx (hb hby at_46) rfl (by decide) ?_
    refine i_iloadN (v := p4) (pc' := 48) X9 hx (hb hby at_47) rfl rfl ?_
    refine i_i2b (pc' := 49) X9 hx (hb hby at_48) rfl ?_
    have F10 : Av Z h9 b3 .byte 5 (fun i => .int ((fun i => if i = 2 then (p3.toInt8.toInt32) else (fun i => if i = 1 then (p2.toInt8.toInt32) else (fun i => if i = 0 then (p1.toInt8.toInt32) else (fun _ => (0 : Int32)) i) i) i) i)) := (own_stB (k := 2) (g := (fun i => if i = 1 then (p2.toInt8.toInt32) else (fun i => if i = 0 then (p1.toInt8.toInt32) else (fun _ => (0 : Int32)) i) i)) (by decide) F8 W9)
    refine saB (pc' := 50) X9 hx hZ F10 ge3 (by decide) (by decide) (hb hby at_49) rfl fun T11 h11 X11 W11 => ?_
    refine i_aload (v := (.ref b3)) (pc' := 52) X11 hx (hb hby at_50) rfl rfl rfl ?_
    refine i_iconst (pc' := 53) (4 : Int32) X11 hx (hb hby at_52) rfl (by decide) ?_
    refine i_iload (v := p5) (pc' := 55) X11 hx (hb hby at_53) rfl rfl ?_
    refine i_i2b (pc' := 56) X11 hx (hb hby at_55) rfl ?_
    have F12 : Av Z h11 b3 .byte 5 (fun i => .int ((fun i => if i = 3 then (p4.toInt8.toInt32) else (fun i => if i = 2 then (p3.toInt8.toInt32) else (fun i => if i = 1 then (p2.toInt8.toInt32) else (fun i => if i = 0 then (p1.toInt8.toInt32) else (fun _ => (0 : Int32)) i) i) i) i) i)) := (own_stB (k := 3) (g := (fun i => if i = 2 then (p3.toInt8.toInt32) else (fun i => if i = 1 then (p2.toInt8.toInt32) else (fun i => if i = 0 then (p1.toInt8.toInt32) else (fun _ => (0 : Int32)) i) i) i)) (by decide) F10 W11)
    refine saB (pc' := 57) X11 hx hZ F12 ge3 (by decide) (by decide) (hb hby at_56) rfl fun T13 h13 X13 W13 => ?_
    refine i_goto (pc' := 91) X13 hx (hb hby at_57) (by decide) (by decide) ?_
    have F14 : Av Z h13 b3 .byte 5 (fun i => .int ((fun i => if i = 4 then (p5.toInt8.toInt32) else (fun i => if i = 3 then (p4.toInt8.toInt32) else (fun i => if i = 2 then (p3.toInt8.toInt32) else (fun i => if i = 1 then (p2.toInt8.toInt32) else (fun i => if i = 0 then (p1.toInt8.toInt32) else (fun _ => (0 : Int32)) i) i) i) i) i) i)) := (own_stB (k := 4) (g := (fun i => if i = 3 then (p4.toInt8.toInt32) else (fun i => if i = 2 then (p3.toInt8.toInt32) else (fun i => if i = 1 then (p2.toInt8.toInt32) else (fun i => if i = 0 then (p1.toInt8.toInt32) else (fun _ => (0 : Int32)) i) i) i) i)) (by decide) F12 W13)
    obtain ⟨g15, hg15_0, hg15_1, hg15_2, hg15_3, A15⟩ : ∃ g : Nat → Int32, g 0 = p1.toInt8.toInt32 ∧ g (0 + 1) = p2.toInt8.toInt32 ∧ g (0 + 2) = p3.toInt8.toInt32 ∧ g (0 + 3) = p4.toInt8.toInt32 ∧ Av Z h13 b3 .byte 5 (fun i => .int (g i)) := ⟨_, rfl, rfl, rfl, rfl, F14⟩
    have hat : v1.toInt = ((0 : Nat) : Int) := by rw [hc4]; decide
    have hav : 1 ≤ v2.toInt ∧ v2.toInt ≤ 4 := by rw [hv2]; exact own_av _
    refine i_aload (v := (.ref b3)) (pc' := 93) X13 hx (hb hby at_91) rfl rfl rfl ?_
    refine i_iload (v := v1) (pc' := 95) X13 hx (hb hby at_93) rfl rfl ?_
    refine i_iload (v := v1) (pc' := 97) X13 hx (hb hby at_95) rfl rfl ?_
    refine i_iload (v := v2) (pc' := 99) X13 hx (hb hby at_97) rfl rfl ?_
    refine i_iadd (pc' := 100) X13 hx (hb hby at_99) rfl ?_
    refine cS (y := (⟨"weir/stream/Json", "characterLength", "([BII)I"⟩ : MethodName)) (rest := []) (pc' := 103) 0 [(.ref b3), (.int v1), (.int (v1 + v2))] X13 hx hZ hown (hw _ (List.mem_of_getElem? (i := 1) rfl)) (hw _ (List.mem_of_getElem? (i := 2) rfl)) (hw _ (List.mem_of_getElem? (i := 3) rfl)) (hw _ (List.mem_of_getElem? (i := 4) rfl)) (by decide) (rm1 l Z a0 hw [] b3 v1 (v1 + v2) 0 g15 n0 h13 X13.le A15 hat (by decide) (by rw [own_asub]; exact hav)) (by decide) (by decide) (by rw [hml]; rfl) rfl (lenOf pd1 rfl) rfl (Nat.le_of_eq rfl) (hb hby at_100) rfl (by decide) (by decide) ?_
    intro r16 T16 h16 X16 q16
    obtain ⟨rfl, eh16⟩ := q16
    subst eh16
    show Go _ _ _ _ _ _ _ T16 (mkF m 103 #[.val (.int p1), .val (.int p2), .val (.int p3), .val (.int p4), .val (.int p5), .val (.int p6), .val (.int v1), .val (.int v2), .val (.ref b3), .unset] [(.int (own_spec ((g15 0).toInt % 256) ((g15 (0 + 1)).toInt % 256) ((g15 (0 + 2)).toInt % 256) ((g15 (0 + 3)).toInt % 256) ((v1 + v2) - v1).toInt))])
    obtain ⟨v17, hv17⟩ : ∃ zz : Int32, zz = (own_spec ((g15 0).toInt % 256) ((g15 (0 + 1)).toInt % 256) ((g15 (0 + 2)).toInt % 256) ((g15 (0 + 3)).toInt % 256) ((v1 + v2) - v1).toInt) := ⟨_, rfl⟩
    rw [← hv17]
    refine i_istore (L' := #[.val (.int p1), .val (.int p2), .val (.int p3), .val (.int p4), .val (.int p5), .val (.int p6), .val (.int v1), .val (.int v2), .val (.ref b3), .val (.int v17)]) (pc' := 105) X16 hx (hb hby at_103) rfl rfl ?_
    refine i_iload (v := v17) (pc' := 107) X16 hx (hb hby at_105) rfl rfl ?_
    refine i_iloadN (v := p1) (pc' := 108) X16 hx (hb hby at_107) rfl rfl ?_
    refine i_sipush (pc' := 111) (255 : Int32) X16 hx (hb hby at_108) rfl (by decide) ?_
    refine i_iand (pc' := 112) X16 hx (hb hby at_111) rfl ?_
    refine i_iloadN (v := p2) (pc' := 113) X16 hx (hb hby at_112) rfl rfl ?_
    refine i_sipush (pc' := 116) (255 : Int32) X16 hx (hb hby at_113) rfl (by decide) ?_
    refine i_iand (pc' := 117) X16 hx (hb hby at_116) rfl ?_
    refine i_iloadN (v := p3) (pc' := 118) X16 hx (hb hby at_117) rfl rfl ?_
    refine i_sipush (pc' := 121) (255 : Int32) X16 hx (hb hby at_118) rfl (by decide) ?_
    refine i_iand (pc' := 122) X16 hx (hb hby at_121) rfl ?_
    refine i_iloadN (v := p4) (pc' := 123) X16 hx (hb hby at_122) rfl rfl ?_
    refine i_sipush (pc' := 126) (255 : Int32) X16 hx (hb hby at_123) rfl (by decide) ?_
    refine i_iand (pc' := 127) X16 hx (hb hby at_126) rfl ?_
    refine i_iload (v := v2) (pc' := 129) X16 hx (hb hby at_127) rfl rfl ?_
    refine cS (y := (⟨"weir/stream/JsonCharacterLengthPinLaw", "expected", "(IIIII)I"⟩ : MethodName)) (rest := [(.int v17)]) (pc' := 132) 1 [(.int (p1 &&& (255 : Int32))), (.int (p2 &&& (255 : Int32))), (.int (p3 &&& (255 : Int32))), (.int (p4 &&& (255 : Int32))), (.int v2)] X16 hx hZ hown (hw _ (List.mem_of_getElem? (i := 5) rfl)) (hw _ (List.mem_of_getElem? (i := 6) rfl)) (hw _ (List.mem_of_getElem? (i := 7) rfl)) (hw _ (List.mem_of_getElem? (i := 8) rfl)) (by decide) (rmE l Z a0 hw [] (p1 &&& (255 : Int32)) (p2 &&& (255 : Int32)) (p3 &&& (255 : Int32)) (p4 &&& (255 : Int32)) v2 n0 h13 X16.le (by rw [own_m255]; omega) (by rw [own_m255]; omega) (by rw [own_m255]; omega) (by rw [own_m255]; omega)) (by decide) (by decide) (by rw [hml]; rfl) rfl (lenOf pd2 rfl) rfl (Nat.le_of_eq rfl) (hb hby at_129) rfl (by decide) (by decide) ?_
    intro r18 T18 h18 X18 q18
    obtain ⟨rfl, eh18⟩ := q18
    subst eh18
    show Go _ _ _ _ _ _ _ T18 (mkF m 132 #[.val (.int p1), .val (.int p2), .val (.int p3), .val (.int p4), .val (.int p5), .val (.int p6), .val (.int v1), .val (.int v2), .val (.ref b3), .val (.int v17)] [(.int (own_spec (p1 &&& (255 : Int32)).toInt (p2 &&& (255 : Int32)).toInt (p3 &&& (255 : Int32)).toInt (p4 &&& (255 : Int32)).toInt v2.toInt)), (.int v17)])
    refine i_icF (pc' := 135) X18 hx (hb hby at_132) rfl (XT.ii_ne_f (by rw [hv17, own_asub, hg15_0, hg15_1, hg15_2, hg15_3, own_b8, own_b8, own_b8, own_b8])) ?_
    refine i_iconst (pc' := 136) (1 : Int32) X18 hx (hb hby at_135) rfl (by decide) ?_
    refine i_goto (pc' := 140) X18 hx (hb hby at_136) (by decide) (by decide) ?_
    refine rN X18 hx hlk hret (by simp) (hb hby at_140) (by decide) (by decide) ?_
    exact rfl
  · skip
    refine i_ifT (pc' := 60) X3 hx (hb hby at_23) (XT.i0_ne_t hc4) (by decide) (by decide) ?_
    refine i_aload (v := (.ref b3)) (pc' := 62) X3 hx (hb hby at_60) rfl rfl rfl ?_
    refine i_iconst (pc' := 63) (0 : Int32) X3 hx (hb hby at_62) rfl (by decide) ?_
    refine i_iload (v := p5) (pc' := 65) X3 hx (hb hby at_63) rfl rfl ?_
    refine i_i2b (pc' := 66) X3 hx (hb hby at_65) rfl ?_
    refine saB (pc' := 67) X3 hx hZ A3 ge3 (by decide) (by decide) (hb hby at_66) rfl fun T19 h19 X19 W19 => ?_
    refine i_aload (v := (.ref b3)) (pc' := 69) X19 hx (hb hby at_67) rfl rfl rfl ?_
    refine i_iconst (pc' := 70) (1 : Int32) X19 hx (hb hby at_69) rfl (by decide) ?_
    refine i_iloadN (v := p1) (pc' := 71) X19 hx (hb hby at_70) rfl rfl ?_
    refine i_i2b (pc' := 72) X19 hx (hb hby at_71) rfl ?_
    have F20 : Av Z h19 b3 .byte 5 (fun i => .int ((fun i => if i = 0 then (p5.toInt8.toInt32) else (fun _ => (0 : Int32)) i) i)) := (own_stB (k := 0) (g := (fun _ => (0 : Int32))) (by decide) A3 W19)
    refine saB (pc' := 73) X19 hx hZ F20 ge3 (by decide) (by decide) (hb hby at_72) rfl fun T21 h21 X21 W21 => ?_
    refine i_aload (v := (.ref b3)) (pc' := 75) X21 hx (hb hby at_73) rfl rfl rfl ?_
    refine i_iconst (pc' := 76) (2 : Int32) X21 hx (hb hby at_75) rfl (by decide) ?_
    refine i_iloadN (v := p2) (pc' := 77) X21 hx (hb hby at_76) rfl rfl ?_
    refine i_i2b (pc' := 78) X21 hx (hb hby at_77) rfl ?_
    have F22 : Av Z h21 b3 .byte 5 (fun i => .int ((fun i => if i = 1 then (p1.toInt8.toInt32) else (fun i => if i = 0 then (p5.toInt8.toInt32) else (fun _ => (0 : Int32)) i) i) i)) := (own_stB (k := 1) (g := (fun i => if i = 0 then (p5.toInt8.toInt32) else (fun _ => (0 : Int32)) i)) (by decide) F20 W21)
    refine saB (pc' := 79) X21 hx hZ F22 ge3 (by decide) (by decide) (hb hby at_78) rfl fun T23 h23 X23 W23 => ?_
    refine i_aload (v := (.ref b3)) (pc' := 81) X23 hx (hb hby at_79) rfl rfl rfl ?_
    refine i_iconst (pc' := 82) (3 : Int32) X23 hx (hb hby at_81) rfl (by decide) ?_
    refine i_iloadN (v := p3) (pc' := 83) X23 hx (hb hby at_82) rfl rfl ?_
    refine i_i2b (pc' := 84) X23 hx (hb hby at_83) rfl ?_
    have F24 : Av Z h23 b3 .byte 5 (fun i => .int ((fun i => if i = 2 then (p2.toInt8.toInt32) else (fun i => if i = 1 then (p1.toInt8.toInt32) else (fun i => if i = 0 then (p5.toInt8.toInt32) else (fun _ => (0 : Int32)) i) i) i) i)) := (own_stB (k := 2) (g := (fun i => if i = 1 then (p1.toInt8.toInt32) else (fun i => if i = 0 then (p5.toInt8.toInt32) else (fun _ => (0 : Int32)) i) i)) (by decide) F22 W23)
    refine saB (pc' := 85) X23 hx hZ F24 ge3 (by decide) (by decide) (hb hby at_84) rfl fun T25 h25 X25 W25 => ?_
    refine i_aload (v := (.ref b3)) (pc' := 87) X25 hx (hb hby at_85) rfl rfl rfl ?_
    refine i_iconst (pc' := 88) (4 : Int32) X25 hx (hb hby at_87) rfl (by decide) ?_
    refine i_iloadN (v := p4) (pc' := 89) X25 hx (hb hby at_88) rfl rfl ?_
    refine i_i2b (pc' := 90) X25 hx (hb hby at_89) rfl ?_
    have F26 : Av Z h25 b3 .byte 5 (fun i => .int ((fun i => if i = 3 then (p3.toInt8.toInt32) else (fun i => if i = 2 then (p2.toInt8.toInt32) else (fun i => if i = 1 then (p1.toInt8.toInt32) else (fun i => if i = 0 then (p5.toInt8.toInt32) else (fun _ => (0 : Int32)) i) i) i) i) i)) := (own_stB (k := 3) (g := (fun i => if i = 2 then (p2.toInt8.toInt32) else (fun i => if i = 1 then (p1.toInt8.toInt32) else (fun i => if i = 0 then (p5.toInt8.toInt32) else (fun _ => (0 : Int32)) i) i) i)) (by decide) F24 W25)
    refine saB (pc' := 91) X25 hx hZ F26 ge3 (by decide) (by decide) (hb hby at_90) rfl fun T27 h27 X27 W27 => ?_
    have F28 : Av Z h27 b3 .byte 5 (fun i => .int ((fun i => if i = 4 then (p4.toInt8.toInt32) else (fun i => if i = 3 then (p3.toInt8.toInt32) else (fun i => if i = 2 then (p2.toInt8.toInt32) else (fun i => if i = 1 then (p1.toInt8.toInt32) else (fun i => if i = 0 then (p5.toInt8.toInt32) else (fun _ => (0 : Int32)) i) i) i) i) i) i)) := (own_stB (k := 4) (g := (fun i => if i = 3 then (p3.toInt8.toInt32) else (fun i => if i = 2 then (p2.toInt8.toInt32) else (fun i => if i = 1 then (p1.toInt8.toInt32) else (fun i => if i = 0 then (p5.toInt8.toInt32) else (fun _ => (0 : Int32)) i) i) i) i)) (by decide) F26 W27)
    obtain ⟨g29, hg29_0, hg29_1, hg29_2, hg29_3, A29⟩ : ∃ g : Nat → Int32, g 1 = p1.toInt8.toInt32 ∧ g (1 + 1) = p2.toInt8.toInt32 ∧ g (1 + 2) = p3.toInt8.toInt32 ∧ g (1 + 3) = p4.toInt8.toInt32 ∧ Av Z h27 b3 .byte 5 (fun i => .int (g i)) := ⟨_, rfl, rfl, rfl, rfl, F28⟩
    have hat : v1.toInt = ((1 : Nat) : Int) := by have q := hc4; rw [hv1] at q ⊢; rw [own_at1 q]; decide
    have hav : 1 ≤ v2.toInt ∧ v2.toInt ≤ 4 := by rw [hv2]; exact own_av _
    refine i_aload (v := (.ref b3)) (pc' := 93) X27 hx (hb hby at_91) rfl rfl rfl ?_
    refine i_iload (v := v1) (pc' := 95) X27 hx (hb hby at_93) rfl rfl ?_
    refine i_iload (v := v1) (pc' := 97) X27 hx (hb hby at_95) rfl rfl ?_
    refine i_iload (v := v2) (pc' := 99) X27 hx (hb hby at_97) rfl rfl ?_
    refine i_iadd (pc' := 100) X27 hx (hb hby at_99) rfl ?_
    refine cS (y := (⟨"weir/stream/Json", "characterLength", "([BII)I"⟩ : MethodName)) (rest := []) (pc' := 103) 0 [(.ref b3), (.int v1), (.int (v1 + v2))] X27 hx hZ hown (hw _ (List.mem_of_getElem? (i := 1) rfl)) (hw _ (List.mem_of_getElem? (i := 2) rfl)) (hw _ (List.mem_of_getElem? (i := 3) rfl)) (hw _ (List.mem_of_getElem? (i := 4) rfl)) (by decide) (rm1 l Z a0 hw [] b3 v1 (v1 + v2) 1 g29 n0 h27 X27.le A29 hat (by decide) (by rw [own_asub]; exact hav)) (by decide) (by decide) (by rw [hml]; rfl) rfl (lenOf pd1 rfl) rfl (Nat.le_of_eq rfl) (hb hby at_100) rfl (by decide) (by decide) ?_
    intro r30 T30 h30 X30 q30
    obtain ⟨rfl, eh30⟩ := q30
    subst eh30
    show Go _ _ _ _ _ _ _ T30 (mkF m 103 #[.val (.int p1), .val (.int p2), .val (.int p3), .val (.int p4), .val (.int p5), .val (.int p6), .val (.int v1), .val (.int v2), .val (.ref b3), .unset] [(.int (own_spec ((g29 1).toInt % 256) ((g29 (1 + 1)).toInt % 256) ((g29 (1 + 2)).toInt % 256) ((g29 (1 + 3)).toInt % 256) ((v1 + v2) - v1).toInt))])
    obtain ⟨v31, hv31⟩ : ∃ zz : Int32, zz = (own_spec ((g29 1).toInt % 256) ((g29 (1 + 1)).toInt % 256) ((g29 (1 + 2)).toInt % 256) ((g29 (1 + 3)).toInt % 256) ((v1 + v2) - v1).toInt) := ⟨_, rfl⟩
    rw [← hv31]
    refine i_istore (L' := #[.val (.int p1), .val (.int p2), .val (.int p3), .val (.int p4), .val (.int p5), .val (.int p6), .val (.int v1), .val (.int v2), .val (.ref b3), .val (.int v31)]) (pc' := 105) X30 hx (hb hby at_103) rfl rfl ?_
    refine i_iload (v := v31) (pc' := 107) X30 hx (hb hby at_105) rfl rfl ?_
    refine i_iloadN (v := p1) (pc' := 108) X30 hx (hb hby at_107) rfl rfl ?_
    refine i_sipush (pc' := 111) (255 : Int32) X30 hx (hb hby at_108) rfl (by decide) ?_
    refine i_iand (pc' := 112) X30 hx (hb hby at_111) rfl ?_
    refine i_iloadN (v := p2) (pc' := 113) X30 hx (hb hby at_112) rfl rfl ?_
    refine i_sipush (pc' := 116) (255 : Int32) X30 hx (hb hby at_113) rfl (by decide) ?_
    refine i_iand (pc' := 117) X30 hx (hb hby at_116) rfl ?_
    refine i_iloadN (v := p3) (pc' := 118) X30 hx (hb hby at_117) rfl rfl ?_
    refine i_sipush (pc' := 121) (255 : Int32) X30 hx (hb hby at_118) rfl (by decide) ?_
    refine i_iand (pc' := 122) X30 hx (hb hby at_121) rfl ?_
    refine i_iloadN (v := p4) (pc' := 123) X30 hx (hb hby at_122) rfl rfl ?_
    refine i_sipush (pc' := 126) (255 : Int32) X30 hx (hb hby at_123) rfl (by decide) ?_
    refine i_iand (pc' := 127) X30 hx (hb hby at_126) rfl ?_
    refine i_iload (v := v2) (pc' := 129) X30 hx (hb hby at_127) rfl rfl ?_
    refine cS (y := (⟨"weir/stream/JsonCharacterLengthPinLaw", "expected", "(IIIII)I"⟩ : MethodName)) (rest := [(.int v31)]) (pc' := 132) 1 [(.int (p1 &&& (255 : Int32))), (.int (p2 &&& (255 : Int32))), (.int (p3 &&& (255 : Int32))), (.int (p4 &&& (255 : Int32))), (.int v2)] X30 hx hZ hown (hw _ (List.mem_of_getElem? (i := 5) rfl)) (hw _ (List.mem_of_getElem? (i := 6) rfl)) (hw _ (List.mem_of_getElem? (i := 7) rfl)) (hw _ (List.mem_of_getElem? (i := 8) rfl)) (by decide) (rmE l Z a0 hw [] (p1 &&& (255 : Int32)) (p2 &&& (255 : Int32)) (p3 &&& (255 : Int32)) (p4 &&& (255 : Int32)) v2 n0 h27 X30.le (by rw [own_m255]; omega) (by rw [own_m255]; omega) (by rw [own_m255]; omega) (by rw [own_m255]; omega)) (by decide) (by decide) (by rw [hml]; rfl) rfl (lenOf pd2 rfl) rfl (Nat.le_of_eq rfl) (hb hby at_129) rfl (by decide) (by decide) ?_
    intro r32 T32 h32 X32 q32
    obtain ⟨rfl, eh32⟩ := q32
    subst eh32
    show Go _ _ _ _ _ _ _ T32 (mkF m 132 #[.val (.int p1), .val (.int p2), .val (.int p3), .val (.int p4), .val (.int p5), .val (.int p6), .val (.int v1), .val (.int v2), .val (.ref b3), .val (.int v31)] [(.int (own_spec (p1 &&& (255 : Int32)).toInt (p2 &&& (255 : Int32)).toInt (p3 &&& (255 : Int32)).toInt (p4 &&& (255 : Int32)).toInt v2.toInt)), (.int v31)])
    refine i_icF (pc' := 135) X32 hx (hb hby at_132) rfl (XT.ii_ne_f (by rw [hv31, own_asub, hg29_0, hg29_1, hg29_2, hg29_3, own_b8, own_b8, own_b8, own_b8])) ?_
    refine i_iconst (pc' := 136) (1 : Int32) X32 hx (hb hby at_135) rfl (by decide) ?_
    refine i_goto (pc' := 140) X32 hx (hb hby at_136) (by decide) (by decide) ?_
    refine rN X32 hx hlk hret (by simp) (hb hby at_140) (by decide) (by decide) ?_
    exact rfl
set_option maxRecDepth 65536 in
set_option maxHeartbeats 40000000 in
theorem comes_1 {Post : Tables → Env → Array Value → State → Outcome → State → Prop} (hpost : ∀ tb e args s v u, (limb_1_1.after args s (.returned v) u = true ∧ limb_1_2.after args s (.returned v) u = true ∧ True) → FrameEnd s (.returned v) u (Jvm.fieldLocs frame_1_writes args s ++ Jvm.arrayLocs frame_1_arrays args s ++ Jvm.staticLocs frame_1_statics s) 16 128 → Post tb e args s (.returned v) u) :
    ArmFor flags0 classFile x code maxLocals ret World_1 tables_1 room_1 Calls_1 rest_1 Pre_1 Post := by
  intro l hfl _ _ p e ha hc hk s m args below hf hA hF happ hP
  obtain ⟨hcalls, hrest, hpre⟩ := hP
  obtain ⟨-, -, -, hnamed, -, -, -, hat⟩ := (Spec.applies_iff hf).mp happ
  obtain ⟨hg, hn⟩ := and_e (Cond.before_iff.mp (show (Jvm.Cond.and given_1 narrow_1).before args s = true from hpre))
  obtain ⟨g0, k0⟩ := and_e hg
  obtain ⟨g1, k1⟩ := and_e k0
  obtain ⟨g2, k2⟩ := and_e k1
  obtain ⟨g3, k3⟩ := and_e k2
  obtain ⟨g4, k4⟩ := and_e k3
  obtain ⟨g5, k5⟩ := and_e k4
  obtain ⟨w0, w1, w2, w3, w4, w5, rfl⟩ : ∃ w0 w1 w2 w3 w4 w5 : Value, args = #[w0, w1, w2, w3, w4, w5] := by
    have hs : args.size = 6 := by simpa [Cond.value, given_1] using g0
    obtain ⟨L⟩ := args
    match L, hs with
    | [w0, w1, w2, w3, w4, w5], _ => exact ⟨w0, w1, w2, w3, w4, w5, rfl⟩
  have hw := fun d (hd : d ∈ tables_1) => atoms_spec (ws := Jvm.Cond.code x code maxLocals ret :: tables_1) hat d (List.mem_cons_of_mem _ hd)
  have hfit : Fit s := fun {y c} hc i hi => by
    obtain ⟨ha, rfl⟩ := Array.getElem?_eq_some_iff.mp hc
    have q := List.all_eq_true.mp ((Array.all_eq_true_iff_forall_mem.mp hF) _ (Array.getElem_mem ha)) i (List.mem_range.mpr hi)
    simpa [Array.getElem?_eq_getElem hi] using q
  obtain ⟨i0, ei0⟩ := is_v g1
  obtain rfl : w0 = (.int i0) := Option.some.inj ei0
  obtain ⟨i1, ei1⟩ := is_v g2
  obtain rfl : w1 = (.int i1) := Option.some.inj ei1
  obtain ⟨i2, ei2⟩ := is_v g3
  obtain rfl : w2 = (.int i2) := Option.some.inj ei2
  obtain ⟨i3, ei3⟩ := is_v g4
  obtain rfl : w3 = (.int i3) := Option.some.inj ei3
  obtain ⟨i4, ei4⟩ := is_v g5
  obtain rfl : w4 = (.int i4) := Option.some.inj ei4
  obtain ⟨i5, ei5⟩ := is_v k5
  obtain rfl : w5 = (.int i5) := Option.some.inj ei5
  obtain ⟨n, o, h1, h2, h3, _, L, rfl, ⟨rfl, N⟩, hq⟩ := rm0 l s _ hw tables_1 i0 i1 i2 i3 i4 i5 s.heap.size s.heap (Nat.le_refl _)  p e ha hc hk s m _ below hf ((Spec.applies_iff_loose hf).mp happ).1 ⟨rfl, State.Warmed39.refl s, rfl⟩ trivial
  refine ⟨n, _, h1, h2, h3, hpost _ _ _ _ _ _ ⟨Cond.after_iff.mpr rfl, Cond.after_iff.mpr (eq_i res_at (Term.int_eval (1)) rfl), trivial⟩ ⟨hq.1, hq.2.1, (hq.2.2.sift fun y hy => Or.inr (N y hy)).mono (by decide) (by decide)⟩⟩
theorem main_1_1 : Claimed_1_1 := comes_1 fun _ _ _ _ _ _ h hF => ⟨h.1, hF⟩
theorem main_1_2 : Claimed_1_2 := comes_1 fun _ _ _ _ _ _ h hF => ⟨h.2.1, hF⟩
end Jvm.Pilot.@@N@@
namespace Jvm.Pilot.@@N@@
open Jvm Jvm.ClassFile Sem Op Lib Jvm.Free Jvm.Stand Jvm.Pilot.@@N@@.Jvm.D
/-! MADE BY PROGRAM (witnessworld.py) out of the Statement's table words and the real class files: 9 classes; the members and pool entries that the words name. The judged class is class 1, her method 1. -/
namespace start1
open Jvm.ClassFile
def u (s : String) : CpInfo := .utf8 (stringToUtf16 s)
/-- a pool by its gaps: so many unusable entries, then the entry; so many at the end -/
def gap : Nat → List CpInfo → List CpInfo
  | 0, r => r
  | n + 1, r => .unusable :: gap n r
def poolList (es : List (Nat × CpInfo)) (last : Nat) : List CpInfo := es.foldr (fun e r => gap e.1 (e.2 :: r)) (gap last [])
def pool (es : List (Nat × CpInfo)) (last : Nat) : Array CpInfo := ⟨poolList es last⟩
def fileOf (pool : Array CpInfo) (this : Nat) (attrs : Array Attribute := #[]) (ms : Array MethodInfo := #[]) (fl : Nat := 33) (sup : Nat := 0) (ifs : Array Nat := #[]) (fds : Array FieldInfo := #[]) : ClassFile where
  minorVersion := 0
  majorVersion := 65
  constantPool := pool
  accessFlags := fl
  thisClass := this
  superClass := sup
  interfaces := ifs
  fields := fds
  methods := ms
  attributes := attrs
def plain (name : String) (sup : Option ClassId) : Class where
  name := name
  kind := .ordinary
  loader := none
  accessFlags := 33
  super := sup
  interfaces := #[]
  cf := none
  fields := #[]
  methods := #[]
  instanceTypes := #[]
  staticTypes := #[]
  resolved := #[]
  callSites := []
  init := .initialized
  statics := none
  mirror := none

def pool0 : Array CpInfo := pool [(5, u "<init>"), (0, u "()V"), (1, .class_ 10), (1, u "java/lang/Object")] 113

def k0m0 : Method := { name := "<init>", desc := "()V", sig := { parameters := [], returnType := none }, accessFlags := 1, code := none }
/-- java/lang/Object -/
def k0 : Class := { plain "java/lang/Object" none with
  accessFlags := 33
  interfaces := #[]
  cf := some (fileOf pool0 8 #[] #[{ accessFlags := 1, nameIndex := 5, descriptorIndex := 6, attributes := #[] }] 33 0 #[] #[])
  fields := #[]
  methods := #[k0m0]
  instanceTypes := #[]
  staticTypes := #[]
  resolved := Array.replicate 124 none
  statics := none }

def pool1 : Array CpInfo := pool [(2, .class_ 4), (1, u "java/lang/Object"), (0, u "<init>"), (0, u "()V"), (0, .methodref 8 9), (0, .class_ 10), (0, .nameAndType 11 12), (0, u "weir/stream/Json"), (0, u "characterLength"), (0, u "([BII)I"), (0, .methodref 14 15), (0, .class_ 16), (0, .nameAndType 17 18), (0, u "weir/stream/JsonCharacterLengthPinLaw"), (0, u "expected"), (0, u "(IIIII)I"), (0, .methodref 14 20), (0, .nameAndType 21 22), (0, u "cont"), (0, u "(I)Z"), (0, .integer 65536), (0, .integer 1114111), (0, .integer 55296), (0, .integer 57343), (2, u "law"), (0, u "(IIIIII)Z")] 5

def k1m0 : Method := { name := "<init>", desc := "()V", sig := { parameters := [], returnType := none }, accessFlags := 1, code := none }
def k1c1 : Code := { maxStack := 6, maxLocals := 10, code := code, exceptionTable := #[], attributes := #[] }
def k1m1 : Method := { name := "law", desc := "(IIIIII)Z", sig := { parameters := [.int, .int, .int, .int, .int, .int], returnType := some .boolean }, accessFlags := 9, code := some k1c1 }
def k1c2 : Code := { maxStack := 2, maxLocals := 1, code := method_3_code, exceptionTable := #[], attributes := #[] }
def k1m2 : Method := { name := "cont", desc := "(I)Z", sig := { parameters := [.int], returnType := some .boolean }, accessFlags := 10, code := some k1c2 }
def k1c3 : Code := { maxStack := 3, maxLocals := 8, code := method_4_code, exceptionTable := #[], attributes := #[] }
def k1m3 : Method := { name := "expected", desc := "(IIIII)I", sig := { parameters := [.int, .int, .int, .int, .int], returnType := some .int }, accessFlags := 10, code := some k1c3 }
/-- weir/stream/JsonCharacterLengthPinLaw -/
def k1 : Class := { plain "weir/stream/JsonCharacterLengthPinLaw" (some 0) with
  accessFlags := 49
  interfaces := #[]
  cf := some (fileOf pool1 14 #[] #[{ accessFlags := 1, nameIndex := 5, descriptorIndex := 6, attributes := #[] }, { accessFlags := 9, nameIndex := 29, descriptorIndex := 30, attributes := #[] }, { accessFlags := 10, nameIndex := 21, descriptorIndex := 22, attributes := #[] }, { accessFlags := 10, nameIndex := 17, descriptorIndex := 18, attributes := #[] }] 49 2 #[] #[])
  fields := #[]
  methods := #[k1m0, k1m1, k1m2, k1m3]
  instanceTypes := #[]
  staticTypes := #[]
  resolved := Array.replicate 36 none
  statics := none }

def pool2 : Array CpInfo := pool [(2, .class_ 4), (1, u "java/lang/Object"), (0, u "<init>"), (0, u "()V"), (7, .class_ 16), (1, u "weir/stream/Json"), (0, u "ESCAPES"), (0, u "[[B"), (2, u "characterLength"), (0, u "([BII)I"), (2, u "REPLACEMENT"), (0, u "[B")] 18

def k2m0 : Method := { name := "<init>", desc := "()V", sig := { parameters := [], returnType := none }, accessFlags := 2, code := none }
def k2c1 : Code := { maxStack := 3, maxLocals := 9, code := prog_169_method_2_code, exceptionTable := #[], attributes := #[] }
def k2m1 : Method := { name := "characterLength", desc := "([BII)I", sig := { parameters := [(.array .byte), .int, .int], returnType := some .int }, accessFlags := 8, code := some k2c1 }
/-- weir/stream/Json -/
def k2 : Class := { plain "weir/stream/Json" (some 0) with
  accessFlags := 48
  interfaces := #[]
  cf := some (fileOf pool2 14 #[] #[{ accessFlags := 2, nameIndex := 5, descriptorIndex := 6, attributes := #[] }, { accessFlags := 8, nameIndex := 21, descriptorIndex := 22, attributes := #[] }] 48 2 #[] #[{ accessFlags := 26, nameIndex := 17, descriptorIndex := 18, attributes := #[] }, { accessFlags := 26, nameIndex := 25, descriptorIndex := 26, attributes := #[] }])
  fields := #[{ name := "ESCAPES", type := (.array (.array .byte)), accessFlags := 26, slot := 0, constantValue := 0 }, { name := "REPLACEMENT", type := (.array .byte), accessFlags := 26, slot := 1, constantValue := 0 }]
  methods := #[k2m0, k2m1]
  instanceTypes := #[]
  staticTypes := #[(.array (.array .byte)), (.array .byte)]
  resolved := Array.replicate 45 none
  statics := none }

def pool3 : Array CpInfo := pool [(1, u "java/lang/Cloneable"), (0, .class_ 1), (0, u "java/lang/Object"), (0, .class_ 3)] 3

/-- java/lang/Cloneable -/
def k3 : Class := { plain "java/lang/Cloneable" (some 0) with
  accessFlags := 1537
  interfaces := #[]
  cf := some (fileOf pool3 2 #[] #[] 1537 4 #[] #[])
  fields := #[]
  methods := #[]
  instanceTypes := #[]
  staticTypes := #[]
  resolved := Array.replicate 8 none
  statics := none }

def pool4 : Array CpInfo := pool [(1, u "java/io/Serializable"), (0, .class_ 1), (0, u "java/lang/Object"), (0, .class_ 3)] 3

/-- java/io/Serializable -/
def k4 : Class := { plain "java/io/Serializable" (some 0) with
  accessFlags := 1537
  interfaces := #[]
  cf := some (fileOf pool4 2 #[] #[] 1537 4 #[] #[])
  fields := #[]
  methods := #[]
  instanceTypes := #[]
  staticTypes := #[]
  resolved := Array.replicate 8 none
  statics := none }

/-- the primitive byte -/
def k5 : Class := { plain "byte" none with kind := .primitive 'B', accessFlags := 0x411 }
/-- [B -/
def k6 : Class := { plain "[B" (some 0) with kind := .array 5 .byte, interfaces := #[3, 4], accessFlags := 1041 }

/-- the primitive int -/
def k7 : Class := { plain "int" none with kind := .primitive 'I', accessFlags := 0x411 }
/-- [I -/
def k8 : Class := { plain "[I" (some 0) with kind := .array 7 .int, interfaces := #[3, 4], accessFlags := 1041 }

def heap : Heap := #[]
def classes : Array Class := #[k0, k1, k2, k3, k4, k5, k6, k7, k8]
def interned : List (Array UInt16 × Addr) := []
def slotsUsed : Nat := 0
def theMethod : MethodId := ⟨1, 1⟩
def args0 : Array Value := #[.int 200, .int 150, .int 3, .int 1, .int 7, .int 5]
def aboutOver (below : List Frame) : State where
  vm := { classes := classes, interned := interned.toArray }
  heap := heap
  slotsUsed := slotsUsed
  threads := #[{ frames := .invoking theMethod args0 :: below }]
def below0 : List Frame := [.native { method := ⟨0, 0⟩, args := #[] }]
def about1 : State := aboutOver below0
def p0 : Program := .bare "" "" ""
def e0 : Env := launch0.env 0 0 0
theorem w_frames : about1.frames = Frame.invoking theMethod args0 :: below0 := rfl
set_option maxRecDepth 65536 in
theorem w_args : argsFit about1.vm theMethod args0 = true := by decide +kernel
set_option maxRecDepth 65536 in
theorem w_heap : heapFits about1 = true := by decide +kernel
set_option maxRecDepth 65536 in
theorem w_runnable : about1.curStatus? = some .runnable := by decide +kernel
set_option maxRecDepth 65536 in
theorem w_alone : about1.alone = true := by decide +kernel
set_option maxRecDepth 65536 in
theorem w_named : about1.methodNamed? x = some theMethod := by decide +kernel
set_option maxRecDepth 65536 in
theorem w_hears : about1.hears theMethod below0 = true := by decide +kernel
set_option maxRecDepth 65536 in
theorem w_ripe : about1.ripe theMethod args0 below0 = true := by decide +kernel
theorem w_running : about1.status = .running := rfl
set_option maxRecDepth 65536 in
theorem w_room : about1.hasRoom e0.platform room_1 = true :=
  launch0.hasRoom_least _ room_1 (by decide +kernel) (by decide +kernel) (by decide +kernel) (by decide +kernel) (by decide +kernel) (by decide +kernel)
theorem allAtoms_all (ts : List Jvm.Cond) (a : Array Jvm.Value) (st : Jvm.State) : (allAtoms ts).before a st = ts.all (fun c => c.before a st) := by
  induction ts with
  | nil => rfl
  | cons c t ih =>
    show (Jvm.Cond.and c (allAtoms t)).before a st = _
    rw [Jvm.Cond.before_and, ih, List.all_cons]
def words1 : List Jvm.Cond := Jvm.Cond.code x code maxLocals ret :: tables_1
/-- a 'code' word, met by the world's own term for the bytes: nothing is compared byte by byte -/
theorem code_word {y : MethodName} {bytes : ByteArray} {mx : Nat} {rt : Option FieldType} {a : Array Value} {s : State} {m : MethodId} {meth : Method} {c : Code} (h1 : s.methodNamed? y = some m) (h2 : s.vm.method? m = some meth) (h3 : meth.code = some c) (h4 : c.code = bytes)
    (h5 : (c.maxLocals == mx && c.exceptionTable.isEmpty && decide (c.maxStack ≤ mostOperands) && decide (meth.sig.returnType = rt) && !meth.locks && decide (parseMethodDescriptor y.desc = some meth.sig)) = true) : (Jvm.Cond.code y bytes mx rt).before a s = true := by
  simp only [Bool.and_eq_true, beq_iff_eq, Bool.not_eq_true', decide_eq_true_eq] at h5
  obtain ⟨⟨⟨⟨⟨g1, g2⟩, g3⟩, g4⟩, g5⟩, g6⟩ := h5
  simp [Cond.before, Cond.holds, Cond.value, h1, h2, h3, h4, g1, g2, g3, g4, g5, g6]
def isCode : Jvm.Cond → Bool
  | .code _ _ _ _ => true
  | _ => false
theorem all_split {L : List Jvm.Cond} {P : Jvm.Cond → Bool} (h1 : L.all (fun c => isCode c || P c) = true) (h2 : ∀ c ∈ L.filter isCode, P c = true) : L.all P = true := by
  refine List.all_eq_true.mpr fun c hc => ?_
  have h := List.all_eq_true.mp h1 c hc
  rcases Bool.eq_false_or_eq_true (isCode c) with hi | hi
  · exact h2 c (List.mem_filter.mpr ⟨hc, hi⟩)
  · simpa [hi] using h
set_option maxRecDepth 65536 in
theorem w_c0 : (Jvm.Cond.code x code maxLocals ret).before args0 about1 = true := code_word (m := ⟨1, 1⟩) (meth := k1m1) (c := k1c1) (by decide +kernel) rfl rfl rfl (by decide +kernel)
set_option maxRecDepth 65536 in
theorem w_c1 : (Jvm.Cond.code ({ cls := "weir/stream/Json", name := "characterLength", desc := "([BII)I" } : Jvm.MethodName) prog_169_method_2_code (9 : Nat) (Option.some Jvm.ClassFile.FieldType.int)).before args0 about1 = true := code_word (m := ⟨2, 1⟩) (meth := k2m1) (c := k2c1) (by decide +kernel) rfl rfl rfl (by decide +kernel)
set_option maxRecDepth 65536 in
theorem w_c2 : (Jvm.Cond.code ({ cls := "weir/stream/JsonCharacterLengthPinLaw", name := "expected", desc := "(IIIII)I" } : Jvm.MethodName) method_4_code (8 : Nat) (Option.some Jvm.ClassFile.FieldType.int)).before args0 about1 = true := code_word (m := ⟨1, 3⟩) (meth := k1m3) (c := k1c3) (by decide +kernel) rfl rfl rfl (by decide +kernel)
set_option maxRecDepth 65536 in
theorem w_c3 : (Jvm.Cond.code ({ cls := "weir/stream/JsonCharacterLengthPinLaw", name := "cont", desc := "(I)Z" } : Jvm.MethodName) method_3_code (1 : Nat) (Option.some Jvm.ClassFile.FieldType.boolean)).before args0 about1 = true := code_word (m := ⟨1, 2⟩) (meth := k1m2) (c := k1c2) (by decide +kernel) rfl rfl rfl (by decide +kernel)
def codes1 : List Jvm.Cond := [Jvm.Cond.code x code maxLocals ret, Jvm.Cond.code ({ cls := "weir/stream/Json", name := "characterLength", desc := "([BII)I" } : Jvm.MethodName) prog_169_method_2_code (9 : Nat) (Option.some Jvm.ClassFile.FieldType.int), Jvm.Cond.code ({ cls := "weir/stream/JsonCharacterLengthPinLaw", name := "expected", desc := "(IIIII)I" } : Jvm.MethodName) method_4_code (8 : Nat) (Option.some Jvm.ClassFile.FieldType.int), Jvm.Cond.code ({ cls := "weir/stream/JsonCharacterLengthPinLaw", name := "cont", desc := "(I)Z" } : Jvm.MethodName) method_3_code (1 : Nat) (Option.some Jvm.ClassFile.FieldType.boolean)]
set_option maxRecDepth 65536 in
theorem codes_eq : words1.filter isCode = codes1 := rfl
theorem w_codes : ∀ c ∈ words1.filter isCode, c.before args0 about1 = true := by
  rw [codes_eq]
  intro c hc
  simp only [codes1, List.mem_cons, List.not_mem_nil, or_false] at hc
  rcases hc with rfl | rfl | rfl | rfl
  · exact w_c0
  · exact w_c1
  · exact w_c2
  · exact w_c3
set_option maxRecDepth 65536 in
theorem w_t1 : words1.all (fun c => isCode c || c.before args0 about1) = true := by decide +kernel
theorem w_tables : (allAtoms (Jvm.Cond.code x code maxLocals ret :: tables_1)).before args0 about1 = true := by
  rw [allAtoms_all]
  show words1.all (fun c => c.before args0 about1) = true
  refine all_split ?_ w_codes
  rw [w_t1]
set_option maxRecDepth 65536 in
theorem w_case : (Jvm.Cond.and given_1 narrow_1).before args0 about1 = true := by decide +kernel
theorem w_applies : (headSpec (Jvm.Cond.code x code maxLocals ret :: tables_1) room_1).applies x e0.platform about1 = true :=
  (Spec.applies_iff w_frames).mpr ⟨w_running, w_runnable, w_alone, w_named, w_hears, w_ripe, w_room, w_tables⟩
theorem atStart : AtStart classFile x code maxLocals ret World_1 tables_1 room_1 Calls_1 rest_1 Pre_1 launch0 p0 e0 about1 theMethod args0 below0 :=
  ⟨lists_1, trivial, launch0.admits_env _ _ _, launch0.least_env, fairChoices_fair.cas, fairChoices_fair.clock, w_frames, w_args, w_heap, w_applies, trivial, trivial, w_case⟩
end start1
theorem witness_1 : WitnessClaimed_1 := ⟨start1.p0, start1.e0, start1.about1, start1.theMethod, start1.args0, start1.below0, start1.atStart⟩
end Jvm.Pilot.@@N@@
