import JvmDerived
import JvmDerived.Pilot.@@N@@Statement
import JvmDerived.Pilot.@@N@@Code
set_option linter.unusedVariables false
set_option linter.unusedSimpArgs false
namespace Jvm.OwnKit
open Sem ClassFile Op Lib Jvm.Stand Jvm.Free Jvm.LawKit Jvm.RoadKit
section Own
variable {p : Program} {l : Launch} {e : Env} {R : Room} {s : State} {m : MethodId} {args : Array Value} {below : List Frame} {meth : Method} {c : Code} {T : State} {h : Heap} {n0 cells slots : Nat} {Z : State} {a0 : Array Value} {Q : Option Value → Heap → Prop} {pc pc' : Nat} {Ls : Array Slot} {S rest : List Value}
/-- where the walk stands: over T, whose heap is h; nothing older than n0 was written -/
def Pn (p : Program) (l : Launch) (e : Env) (R : Room) (s : State) (m : MethodId) (args : Array Value) (below : List Frame) (meth : Method) (c : Code) (T : State) (h : Heap) (n0 cells slots : Nat) : Prop :=
  T.heap = h ∧ n0 ≤ s.heap.size ∧ ∃ locs, Stand p l e R s m args below meth c T locs cells slots ∧ Fr n0 locs
theorem Pn.here (X : Pn p l e R s m args below meth c T h n0 cells slots) : At T m c below := by obtain ⟨_, _, _, X, _⟩ := X; exact X.here
theorem Pn.le (X : Pn p l e R s m args below meth c T h n0 cells slots) : n0 ≤ h.size := by
  obtain ⟨e0, hn, _, X, _⟩ := X
  have q : s.heap.size ≤ T.heap.size := X.same.2.1
  rw [← e0]; exact Nat.le_trans hn q
theorem Pn.mono (X : Pn p l e R s m args below meth c T h n0 cells slots) {cells' slots' : Nat} (hc : cells ≤ cells') (hs : slots ≤ slots') : Pn p l e R s m args below meth c T h n0 cells' slots' := by
  obtain ⟨e0, hn, L, X, N⟩ := X
  exact ⟨e0, hn, L, ⟨X.admits, X.cas, X.clock, X.frames, X.room, X.hears, X.method, X.code, X.here, X.tail, X.warmed, X.limits, X.bytes, X.same.mono hc hs⟩, N⟩
/-- from here the run comes to a return that Q speaks of -/
def Go (p : Program) (e : Env) (s : State) (below : List Frame) (n0 : Nat) (Q : Option Value → Heap → Prop) (R : Room) (T : State) (f : JFrame) : Prop :=
  ∃ V, Steps p.tables e below (T.setTop f) V ∧ V.status = .running ∧ ∃ v L, Ended V below (.returned v) ∧ Q v V.heap ∧ Fr n0 L ∧ FrameEnd s (.returned v) V L R.cells R.slots
theorem stp {T' : State} {f f' : JFrame} (k : ∀ t, Steps p.tables e below (T'.setTop f') t → Steps p.tables e below (T.setTop f) t) (g : Go p e s below n0 Q R T' f') : Go p e s below n0 Q R T f := by
  obtain ⟨V, h1, h2⟩ := g; exact ⟨V, k V h1, h2⟩
def Con (l : Launch) (Z : State) (y : MethodName) (bytes : ByteArray) (maxL : Nat) (ret : Option FieldType) (ws : List Jvm.Cond) (rm : Room) (as : Array Value) (h0 : Heap) (n0 : Nat) (Q : Option Value → Heap → Prop) : Prop :=
  MetFree l y (head1 (Jvm.Cond.code y bytes maxL ret :: ws) rm) (fun a U => a = as ∧ Z.Warmed39 U.vm ∧ U.heap = h0) (fun _ _ _ _ _ => True) (fun _ U o U' => ∃ v L, o = .returned v ∧ (Q v U'.heap ∧ Fr n0 L) ∧ FrameEnd U o U' L rm.cells rm.slots)
theorem body {y : MethodName} {bytes : ByteArray} {maxL : Nat} {ret : Option FieldType} {ws : List Jvm.Cond} {rm : Room} {as : Array Value} {h0 : Heap} (hp : plainFor y = true) (hn : n0 ≤ h0.size) (ent : ∀ m, entryFrame m as maxL = mkF m 0 Ls [])
    (walk : ∀ (p : Program) (e : Env) (s : State) (m : MethodId) (below : List Frame) (meth : Method) (c : Code) (T : State), p.tables.exec = Jvm.exec → c.code = bytes → c.maxLocals = maxL → s.vm.findClass y.cls = some m.cls → meth.name = y.name → meth.sig.returnType = ret → meth.locks = false → Z.Warmed39 s.vm →
      Pn p l e rm s m as below meth c T h0 n0 0 0 → Go p e s below n0 Q rm T (mkF m 0 Ls [])) : Con l Z y bytes maxL ret ws rm as h0 n0 Q := by
  refine MetFree.of_bodySF hp hisR ?_
  intro p e s m args below meth c s₁ Bd hml0 hP hK
  obtain ⟨rfl, hZ, hh⟩ := hP
  have hown : s.vm.findClass y.cls = some m.cls := findClass_of_methodNamed Bd.named
  have hnm := (name_of_methodNamed Bd.named Bd.method).1
  have X0 : Stand p l e rm s m _ below meth c s₁ [] 0 0 := Stand.of_body Bd
  have e0 : s₁.heap = h0 := by rw [← hh, Bd.state]; rfl
  obtain ⟨V, h1, h2, v, L, h3, h4, h5, h6⟩ := walk p e s m below meth c s₁ Bd.exec Bd.bytes hml0 hown hnm Bd.returns Bd.notSynchronized hZ ⟨e0, by rw [hh]; exact hn, [], X0, Fr.nil n0⟩
  exact ⟨V, _, castTop (ent m) h1, h2, h3, v, L, rfl, ⟨h4, h5⟩, h6⟩
/-! the ends -/
theorem fin (X : Pn p l e R s m args below meth c T h n0 cells slots) (hlk : meth.locks = false) {v : Option Value} (hv : meth.sig.returnType = none → v = none) (hc : cells ≤ R.cells) (hs : slots ≤ R.slots) (hq : Q v h) {f : JFrame}
    (k : ∀ locs, Stand p l e R s m args below meth c T locs cells slots → ∀ fs, (∀ (f : JFrame) (acts : List Action), f.method = m → f.locked = none → f.entered = [] → (doReturn e (T.setTop f) acts v).1 = T.setFrames fs) → Steps p.tables e below (T.setTop f) (T.setFrames fs)) : Go p e s below n0 Q R T f := by
  obtain ⟨e0, hn, locs, Y, N⟩ := X
  obtain ⟨fs, hr, hrun, hended, hW, hsame⟩ := Y.leave hv hlk
  refine ⟨_, k locs Y fs hr, hrun, v, locs, hended, ?_, N, ⟨_, rfl⟩, hW, hsame.mono hc hs⟩
  show Q v T.heap
  rw [e0]; exact hq
theorem rI {z : Int32} (X : Pn p l e R s m args below meth c T h n0 cells slots) (hx : p.tables.exec = Jvm.exec) (hlk : meth.locks = false) (hret : meth.sig.returnType = some .int) (hd : decode c.code pc = .ok (.ireturn, 1)) (hc : cells ≤ R.cells) (hs : slots ≤ R.slots) (hq : Q (some (.int z)) h) :
    Go p e s below n0 Q R T (mkF m pc Ls (.int z :: S)) :=
  fin X hlk (fun q => by rw [hret] at q; cases q) hc hs hq fun _ Y fs hr => retOut Y hx hret rfl (Or.inl ⟨rfl, Or.inl rfl, z, rfl⟩) hd hr
theorem rN {z : Int32} {t : FieldType} (X : Pn p l e R s m args below meth c T h n0 cells slots) (hx : p.tables.exec = Jvm.exec) (hlk : meth.locks = false) (hret : meth.sig.returnType = some t) (ht : t = .boolean ∨ t = .byte ∨ t = .char ∨ t = .short) (hd : decode c.code pc = .ok (.ireturn, 1)) (hc : cells ≤ R.cells) (hs : slots ≤ R.slots) (hq : Q (some (.int (nar t z))) h) :
    Go p e s below n0 Q R T (mkF m pc Ls (.int z :: S)) :=
  fin X hlk (fun q => by rw [hret] at q; cases q) hc hs hq fun _ Y fs hr => retN Y hx hret ht hd hr
theorem rL {z : Int64} (X : Pn p l e R s m args below meth c T h n0 cells slots) (hx : p.tables.exec = Jvm.exec) (hlk : meth.locks = false) (hret : meth.sig.returnType = some .long) (hd : decode c.code pc = .ok (.lreturn, 1)) (hc : cells ≤ R.cells) (hs : slots ≤ R.slots) (hq : Q (some (.long z)) h) :
    Go p e s below n0 Q R T (mkF m pc Ls (.long z :: S)) :=
  fin X hlk (fun q => by rw [hret] at q; cases q) hc hs hq fun _ Y fs hr => retOut Y hx hret rfl (Or.inr (Or.inl ⟨rfl, rfl, z, rfl⟩)) hd hr
theorem rA {w : Value} {t : FieldType} (X : Pn p l e R s m args below meth c T h n0 cells slots) (hx : p.tables.exec = Jvm.exec) (hlk : meth.locks = false) (hret : meth.sig.returnType = some t) (ht : t.isReference = true) (hw : w.isRef = true) (hn : narrow t w = w) (hd : decode c.code pc = .ok (.areturn, 1)) (hc : cells ≤ R.cells) (hs : slots ≤ R.slots) (hq : Q (some w) h) :
    Go p e s below n0 Q R T (mkF m pc Ls (w :: S)) :=
  fin X hlk (fun q => by rw [hret] at q; cases q) hc hs hq fun _ Y fs hr => retOut Y hx hret hn (Or.inr (Or.inr (Or.inr (Or.inr ⟨rfl, ht, hw⟩)))) hd hr
theorem rV (X : Pn p l e R s m args below meth c T h n0 cells slots) (hx : p.tables.exec = Jvm.exec) (hlk : meth.locks = false) (hret : meth.sig.returnType = none) (hd : decode c.code pc = .ok (.return_, 1)) (hc : cells ≤ R.cells) (hs : slots ≤ R.slots) (hq : Q none h) :
    Go p e s below n0 Q R T (mkF m pc Ls []) :=
  fin X hlk (fun _ => rfl) hc hs hq fun _ Y fs hr => Y.returnOut hx hret hd hr
/-! heap and tables -/
theorem gf {own R0 O n d host : String} {index : Nat} {a : Addr} {v : Value} (X : Pn p l e R s m args below meth c T h n0 cells slots) (hx : p.tables.exec = Jvm.exec) (hZ : Z.Warmed39 s.vm) (hown : s.vm.findClass own = some m.cls) (w : (Cond.fieldLink own index R0 n d).before a0 Z = true ∨ (Cond.fieldLinkNest own index R0 n d host).before a0 Z = true) (via : Via Z R0 O n d)
    (F : Fld Z h a O n d v) (hd : decode c.code pc = .ok (.getfield index, 3)) (hp : pc + 3 = pc') (k : ∀ T', Pn p l e R s m args below meth c T' h n0 cells slots → Go p e s below n0 Q R T' (mkF m pc' Ls (v :: S))) : Go p e s below n0 Q R T (mkF m pc Ls (.ref a :: S)) := by
  subst hp
  obtain ⟨e0, hn, locs, Y, N⟩ := X
  obtain ⟨T', Y', e', st⟩ := getF Y hx hZ hown w via e0 F (g := mkF m pc Ls (.ref a :: S)) rfl rfl hd
  exact stp st (k T' ⟨e', hn, locs, Y', N⟩)
theorem gs {own R0 O n d host : String} {index : Nat} {v : Value} (X : Pn p l e R s m args below meth c T h n0 cells slots) (hx : p.tables.exec = Jvm.exec) (hZ : Z.Warmed39 s.vm) (hown : s.vm.findClass own = some m.cls) (w : (Cond.fieldLink own index R0 n d).before a0 Z = true ∨ (Cond.fieldLinkNest own index R0 n d host).before a0 Z = true) (via : Via Z R0 O n d)
    (F : Sta Z h O n d v) (hd : decode c.code pc = .ok (.getstatic index, 3)) (hp : pc + 3 = pc') (k : ∀ T', Pn p l e R s m args below meth c T' h n0 cells slots → Go p e s below n0 Q R T' (mkF m pc' Ls (v :: S))) : Go p e s below n0 Q R T (mkF m pc Ls S) := by
  subst hp
  obtain ⟨e0, hn, locs, Y, N⟩ := X
  obtain ⟨T', Y', e', st⟩ := getS2 Y hx hZ hown w via e0 F (g := mkF m pc Ls S) rfl hd
  exact stp st (k T' ⟨e', hn, locs, Y', N⟩)
theorem pf {own R0 O n d host C : String} {index kk : Nat} {ty : FieldType} {a : Addr} {v old : Value} (X : Pn p l e R s m args below meth c T h n0 cells slots) (hx : p.tables.exec = Jvm.exec) (hZ : Z.Warmed39 s.vm) (hown : s.vm.findClass own = some m.cls) (w : (Cond.fieldLink own index R0 n d).before a0 Z = true ∨ (Cond.fieldLinkNest own index R0 n d host).before a0 Z = true) (via : Via Z R0 O n d)
    (F : Fld Z h a O n d old) (E : Exa Z h a C) (L : (Cond.lays C O n d).before a0 Z = true ∨ ((Cond.laysFinal C O n d).before a0 Z = true ∧ own = O ∧ meth.name = "<init>")) (wi : (Cond.instantiable C kk).before a0 Z = true)
    (hty : parseFieldDescriptor d = some ty) (hn : narrow ty v = v) (hf : fits ty v = true) (ge : n0 ≤ a) (hd : decode c.code pc = .ok (.putfield index, 3)) (hp : pc + 3 = pc')
    (k : ∀ T' h', Pn p l e R s m args below meth c T' h' n0 cells slots → Wr h h' a (Jvm.RoadKit.slotOf Z O n d) v → Go p e s below n0 Q R T' (mkF m pc' Ls S)) : Go p e s below n0 Q R T (mkF m pc Ls (v :: .ref a :: S)) := by
  subst hp
  obtain ⟨e0, hm, locs, Y, N⟩ := X
  obtain ⟨T', h', Y', e', W, st⟩ := putF Y hx hZ hown w via e0 F E L wi hty hn hf (g := mkF m pc Ls (v :: .ref a :: S)) rfl rfl hd
  exact stp st (k T' h' ⟨e', hm, _, Y', Fr.snoc Y' N ge⟩ W)
theorem nw {own C : String} {index n : Nat} (X : Pn p l e R s m args below meth c T h n0 cells slots) (hx : p.tables.exec = Jvm.exec) (hZ : Z.Warmed39 s.vm) (hown : s.vm.findClass own = some m.cls) (w : (Cond.classLink own index C).before a0 Z = true) (wi : (Cond.instantiable C n).before a0 Z = true) (wz : (Cond.initialized C).before a0 Z = true)
    (hd : decode c.code pc = .ok (.new index, 3)) (hp : pc + 3 = pc') (hc : cells + 1 ≤ R.cells) (hl : slots + n ≤ R.slots)
    (k : ∀ T' h' b, Pn p l e R s m args below meth c T' h' n0 (cells + 1) (slots + n) → b = h.size → n0 ≤ b → Ext h h' → Exa Z h' b C → (∀ {O nm d : String} {ty : FieldType}, Laid Z a0 C O nm d → parseFieldDescriptor d = some ty → Fld Z h' b O nm d (defaultValue ty)) → Go p e s below n0 Q R T' (mkF m pc' Ls (.ref b :: S))) :
    Go p e s below n0 Q R T (mkF m pc Ls S) := by
  subst hp
  have q := X.le
  obtain ⟨e0, hn, locs, Y, N⟩ := X
  obtain ⟨T', h', Y', e', E', A', D', -, st⟩ := newO Y hx hZ hown w wi wz e0 (g := mkF m pc Ls S) rfl hd hc hl
  exact stp st (k T' h' _ ⟨e', hn, _, Y', N⟩ rfl q E' A' D')
theorem oi {own : String} {idx : Nat} {a : Addr} {W : Nat} (X : Pn p l e R s m args below meth c T h n0 cells slots) (hx : p.tables.exec = Jvm.exec) (hZ : Z.Warmed39 s.vm) (hown : s.vm.findClass own = some m.cls) (w1 : (Cond.methodLink own idx Lib.objectInit).before a0 Z = true) (w2 : (Cond.instanceMethod Lib.objectInit).before a0 Z = true) (w3 : (Cond.code Lib.objectInit ⟨#[0xb1]⟩ 1 none).before a0 Z = true)
    (hsize : Ls.size = c.maxLocals) (hd : decode c.code pc = .ok (.invokespecial idx, 3)) (hp : pc + 3 = pc') (hf : 1 ≤ R.frames) (hW : (S.map fun v => v.category).sum ≤ W) (hl : W + 12 ≤ R.locals)
    (k : ∀ T', Pn p l e R s m args below meth c T' h n0 cells slots → Go p e s below n0 Q R T' (mkF m pc' Ls S)) : Go p e s below n0 Q R T (mkF m pc Ls (.ref a :: S)) := by
  subst hp
  obtain ⟨e0, hn, locs, Y, N⟩ := X
  obtain ⟨T', Y', e', st⟩ := initO Y hx hZ hown w1 w2 w3 e0 (g := mkF m pc Ls (.ref a :: S)) rfl hsize rfl hd hf (W := W) (by show 2 * 0 + _ ≤ _; omega) hl
  exact stp st (k T' ⟨e', hn, locs, Y', N⟩)
/-! calls by their contracts -/
theorem cS {own : String} {index : Nat} {y : MethodName} {bytes : ByteArray} {maxL : Nat} {ret : Option FieldType} {rm : Room} {as : Array Value} {Q' : Option Value → Heap → Prop} (W : Nat) (argsL : List Value) (X : Pn p l e R s m args below meth c T h n0 cells slots) (hx : p.tables.exec = Jvm.exec) (hZ : Z.Warmed39 s.vm) (hown : s.vm.findClass own = some m.cls)
    (w1 : (Cond.methodLink own index y).before a0 Z = true) (w2 : (Cond.static y).before a0 Z = true) (w3 : (Cond.initialized y.cls).before a0 Z = true) (w4 : (Cond.code y bytes maxL ret).before a0 Z = true) (hy : y.cls ≠ "java/lang/invoke/MethodHandle" ∧ y.cls ≠ "java/lang/invoke/VarHandle")
    (hM : Con l Z y bytes maxL ret [] rm as h n0 Q') (hf : rm.frames + 1 ≤ R.frames) (hl : W + (maxL + 11) + rm.locals ≤ R.locals) (hsz : Ls.size = c.maxLocals) (has : as = argsL.toArray) (hlen : ∀ sig, parseMethodDescriptor y.desc = some sig → argsL.length = sig.parameters.length) (hst : S = argsL.reverse ++ rest) (hW : (rest.map fun v => v.category).sum ≤ W)
    (hd : decode c.code pc = .ok (.invokestatic index, 3)) (hp : pc + 3 = pc') (hc : cells + rm.cells ≤ R.cells) (hs : slots + rm.slots ≤ R.slots)
    (k : ∀ v T' h', Pn p l e R s m args below meth c T' h' n0 (cells + rm.cells) (slots + rm.slots) → Q' v h' → Go p e s below n0 Q R T' (mkF m pc' Ls (v.toList ++ rest))) : Go p e s below n0 Q R T (mkF m pc Ls S) := by
  subst hp has
  obtain ⟨e0, hn, locs, Y, N⟩ := X
  obtain ⟨v, _, ⟨T', L', k', n'⟩, -, Y', ⟨Lc, ⟨hq, hN⟩, l', y', z'⟩, st⟩ := Jvm.LawKit.callS Y hx (y := y) hown (mvT hZ w1) (mvT hZ w2) (mvT hZ w3) (mvT hZ w4) hy (backOf (W := W) (Q := fun v h L => Q' v h ∧ Fr n0 L) hM hZ w4 w3 hf hl) (g := mkF m pc Ls S) rfl hsz (argsL := argsL) (rest := rest) hlen hst (by show 2 * 0 + _ ≤ _; omega) hd (fun _ _ => ⟨rfl, e0, hc, hs⟩)
  dsimp only [Pt.U, Pt.locs, Pt.cells, Pt.slots] at Y' l' y' z' st hq
  subst l' y' z'
  exact stp st (k v T' _ ⟨rfl, hn, _, Y', N.app hN⟩ hq)
theorem cI {own : String} {index : Nat} {y : MethodName} {bytes : ByteArray} {maxL : Nat} {rm : Room} {as : Array Value} {a : Addr} {Q' : Option Value → Heap → Prop} (W : Nat) (argsL : List Value) (X : Pn p l e R s m args below meth c T h n0 cells slots) (hx : p.tables.exec = Jvm.exec) (hZ : Z.Warmed39 s.vm) (hown : s.vm.findClass own = some m.cls) (hy1 : y.name = "<init>")
    (w1 : (Cond.methodLink own index y).before a0 Z = true) (w2 : (Cond.instanceMethod y).before a0 Z = true) (w3 : (Cond.initialized y.cls).before a0 Z = true) (w4 : (Cond.code y bytes maxL none).before a0 Z = true) (hy : y.cls ≠ "java/lang/invoke/MethodHandle" ∧ y.cls ≠ "java/lang/invoke/VarHandle")
    (hM : Con l Z y bytes maxL none [] rm as h n0 Q') (hf : rm.frames + 1 ≤ R.frames) (hl : W + (maxL + 11) + rm.locals ≤ R.locals) (hsz : Ls.size = c.maxLocals) (has : as = (.ref a :: argsL).toArray) (hlen : ∀ sig, parseMethodDescriptor y.desc = some sig → argsL.length = sig.parameters.length) (hst : S = argsL.reverse ++ .ref a :: rest) (hW : (rest.map fun v => v.category).sum ≤ W)
    (hd : decode c.code pc = .ok (.invokespecial index, 3)) (hp : pc + 3 = pc') (hc : cells + rm.cells ≤ R.cells) (hs : slots + rm.slots ≤ R.slots)
    (k : ∀ v T' h', Pn p l e R s m args below meth c T' h' n0 (cells + rm.cells) (slots + rm.slots) → Q' v h' → Go p e s below n0 Q R T' (mkF m pc' Ls (v.toList ++ rest))) : Go p e s below n0 Q R T (mkF m pc Ls S) := by
  subst hp has
  obtain ⟨e0, hn, locs, Y, N⟩ := X
  obtain ⟨v, _, ⟨T', L', k', n'⟩, -, Y', ⟨Lc, ⟨hq, hN⟩, l', y', z'⟩, st⟩ := Y.specialBack hx (y := y) hy1 hown (mvT hZ w1) (mvT hZ w2) (mvT hZ w4) hy (backOf (W := W) (Q := fun v h L => Q' v h ∧ Fr n0 L) hM hZ w4 w3 hf hl) (g := mkF m pc Ls S) rfl hsz (Steps.refl _) (a := a) (argsL := argsL) (rest := rest) hlen hst (by show 2 * 0 + _ ≤ _; omega) hd (fun _ _ => ⟨rfl, e0, hc, hs⟩)
  dsimp only [Pt.U, Pt.locs, Pt.cells, Pt.slots] at Y' l' y' z' st hq
  subst l' y' z'
  exact stp (fun _ q => st.trans q) (k v T' _ ⟨rfl, hn, _, Y', N.app hN⟩ hq)
theorem cV {own C : String} {index : Nat} {y : MethodName} {bytes : ByteArray} {maxL : Nat} {ret : Option FieldType} {rm : Room} {as : Array Value} {a : Addr} {Q' : Option Value → Heap → Prop} (W : Nat) (argsL : List Value) (X : Pn p l e R s m args below meth c T h n0 cells slots) (hx : p.tables.exec = Jvm.exec) (hZ : Z.Warmed39 s.vm) (hown : s.vm.findClass own = some m.cls)
    (w1 : (Cond.methodLink own index y).before a0 Z = true) (w2 : (Cond.declares y).before a0 Z = true) (w5 : (Cond.selects C y y).before a0 Z = true) (w6 : (Cond.instanceMethod y).before a0 Z = true) (w3 : (Cond.initialized y.cls).before a0 Z = true) (w4 : (Cond.code y bytes maxL ret).before a0 Z = true) (hy : y.cls ≠ "java/lang/invoke/MethodHandle" ∧ y.cls ≠ "java/lang/invoke/VarHandle")
    (hE : Exa Z h a C) (hM : Con l Z y bytes maxL ret [] rm as h n0 Q') (hf : rm.frames + 1 ≤ R.frames) (hl : W + (maxL + 11) + rm.locals ≤ R.locals) (hsz : Ls.size = c.maxLocals) (has : as = (.ref a :: argsL).toArray) (hlen : ∀ sig, parseMethodDescriptor y.desc = some sig → argsL.length = sig.parameters.length) (hst : S = argsL.reverse ++ .ref a :: rest) (hW : (rest.map fun v => v.category).sum ≤ W)
    (hd : decode c.code pc = .ok (.invokevirtual index, 3)) (hp : pc + 3 = pc') (hc : cells + rm.cells ≤ R.cells) (hs : slots + rm.slots ≤ R.slots)
    (k : ∀ v T' h', Pn p l e R s m args below meth c T' h' n0 (cells + rm.cells) (slots + rm.slots) → Q' v h' → Go p e s below n0 Q R T' (mkF m pc' Ls (v.toList ++ rest))) : Go p e s below n0 Q R T (mkF m pc Ls S) := by
  subst hp has
  obtain ⟨e0, hn, locs, Y, N⟩ := X
  obtain ⟨cq, kq, q1, q2, q3⟩ := isOf hZ e0 hE
  obtain ⟨v, _, ⟨T', L', k', n'⟩, -, Y', ⟨Lc, ⟨hq, hN⟩, l', y', z'⟩, st⟩ := Y.virtualBack hx (y := y) (z := y) hown (mvT hZ w1) (mvT hZ w2) (notFace_of_selects (args := #[]) (mvT hZ w5)) (mvT hZ w5) (mvT hZ w6) hy (backOf (W := W) (Q := fun v h L => Q' v h ∧ Fr n0 L) hM hZ w4 w3 hf hl) q1 q3 (g := mkF m pc Ls S) rfl hsz (Steps.refl _) (argsL := argsL) (rest := rest) hlen hst (by show 2 * 0 + _ ≤ _; omega) hd (fun _ _ => ⟨rfl, e0, hc, hs⟩)
  dsimp only [Pt.U, Pt.locs, Pt.cells, Pt.slots] at Y' l' y' z' st hq
  subst l' y' z'
  exact stp (fun _ q => st.trans q) (k v T' _ ⟨rfl, hn, _, Y', N.app hN⟩ hq)
theorem cP {own : String} {index kk : Nat} {y : MethodName} {bytes : ByteArray} {maxL : Nat} {ret : Option FieldType} {rm : Room} {as : Array Value} {a : Addr} {C : String} {Q' : Option Value → Heap → Prop} (W : Nat) (argsL : List Value) (X : Pn p l e R s m args below meth c T h n0 cells slots) (hx : p.tables.exec = Jvm.exec) (hZ : Z.Warmed39 s.vm) (hown : s.vm.findClass own = some m.cls)
    (w1 : (Cond.methodLink own index y).before a0 Z = true) (w6 : (Cond.instanceMethod y).before a0 Z = true) (wp : (Cond.privateMethod y).before a0 Z = true) (wi : (Cond.instantiable y.cls kk).before a0 Z = true) (w3 : (Cond.initialized y.cls).before a0 Z = true) (w4 : (Cond.code y bytes maxL ret).before a0 Z = true) (hy : y.cls ≠ "java/lang/invoke/MethodHandle" ∧ y.cls ≠ "java/lang/invoke/VarHandle")
    (hE : Exa Z h a C) (hM : Con l Z y bytes maxL ret [] rm as h n0 Q') (hf : rm.frames + 1 ≤ R.frames) (hl : W + (maxL + 11) + rm.locals ≤ R.locals) (hsz : Ls.size = c.maxLocals) (has : as = (.ref a :: argsL).toArray) (hlen : ∀ sig, parseMethodDescriptor y.desc = some sig → argsL.length = sig.parameters.length) (hst : S = argsL.reverse ++ .ref a :: rest) (hW : (rest.map fun v => v.category).sum ≤ W)
    (hd : decode c.code pc = .ok (.invokevirtual index, 3)) (hp : pc + 3 = pc') (hc : cells + rm.cells ≤ R.cells) (hs : slots + rm.slots ≤ R.slots)
    (k : ∀ v T' h', Pn p l e R s m args below meth c T' h' n0 (cells + rm.cells) (slots + rm.slots) → Q' v h' → Go p e s below n0 Q R T' (mkF m pc' Ls (v.toList ++ rest))) : Go p e s below n0 Q R T (mkF m pc Ls S) := by
  subst hp has
  obtain ⟨e0, hn, locs, Y, N⟩ := X
  obtain ⟨cq, q1, q2⟩ := hE.cell
  have mi : (Cond.instantiable y.cls kk).before args s = true := mvT hZ wi
  obtain ⟨cc, kc, u1, u2, -, u3, -⟩ := Cond.instantiable_spec mi
  have hpv := Cond.privateMethod_at (mvP hZ wp (args := #[]))
  have hse := selects_self_of_private (args := args) u1 u2 (by rw [Bool.or_eq_false_iff] at u3; exact u3.1) hpv (mvT hZ w6) hy
  obtain ⟨v, _, ⟨T', L', k', n'⟩, -, Y', ⟨Lc, ⟨hq, hN⟩, l', y', z'⟩, st⟩ := Y.privateBack hx (y := y) hown (mvT hZ w1) (mvT hZ w6) hse hpv (mvT hZ w4) hy (backOf (W := W) (Q := fun v h L => Q' v h ∧ Fr n0 L) hM hZ w4 w3 hf hl) (g := mkF m pc Ls S) rfl hsz (Steps.refl _) (a := a) (by rw [e0]; exact q1) q2 (argsL := argsL) (rest := rest) hlen hst (by show 2 * 0 + _ ≤ _; omega) hd (fun _ _ => ⟨rfl, e0, hc, hs⟩)
  dsimp only [Pt.U, Pt.locs, Pt.cells, Pt.slots] at Y' l' y' z' st hq
  subst l' y' z'
  exact stp (fun _ q => st.trans q) (k v T' _ ⟨rfl, hn, _, Y', N.app hN⟩ hq)
theorem cF {own C : String} {index count : Nat} {y z : MethodName} {bytes : ByteArray} {maxL : Nat} {ret : Option FieldType} {rm : Room} {as : Array Value} {a : Addr} {Q' : Option Value → Heap → Prop} (W : Nat) (argsL : List Value) (X : Pn p l e R s m args below meth c T h n0 cells slots) (hx : p.tables.exec = Jvm.exec) (hZ : Z.Warmed39 s.vm) (hown : s.vm.findClass own = some m.cls)
    (w1 : (Cond.methodLink own index y).before a0 Z = true) (w2 : (Cond.declares y).before a0 Z = true) (w7 : (Cond.interfaceMethod y.cls y.cls y.name y.desc).before a0 Z = true) (w5 : (Cond.selects C y z).before a0 Z = true) (w6 : (Cond.instanceMethod z).before a0 Z = true) (w8 : (Cond.publicMethod z).before a0 Z = true) (w9 : (Cond.unhidden C y.name y.desc).before a0 Z = true) (w10 : (Cond.castable C y.cls).before a0 Z = true)
    (w3 : (Cond.initialized z.cls).before a0 Z = true) (w4 : (Cond.code z bytes maxL ret).before a0 Z = true) (hy : y.cls ≠ "java/lang/invoke/MethodHandle" ∧ y.cls ≠ "java/lang/invoke/VarHandle")
    (hE : Exa Z h a C) (hM : Con l Z z bytes maxL ret [] rm as h n0 Q') (hf : rm.frames + 1 ≤ R.frames) (hl : W + (maxL + 11) + rm.locals ≤ R.locals) (hsz : Ls.size = c.maxLocals) (has : as = (.ref a :: argsL).toArray) (hlen : ∀ sig, parseMethodDescriptor y.desc = some sig → argsL.length = sig.parameters.length) (hst : S = argsL.reverse ++ .ref a :: rest) (hW : (rest.map fun v => v.category).sum ≤ W)
    (hd : decode c.code pc = .ok (.invokeinterface index count, 5)) (hp : pc + 5 = pc') (hc : cells + rm.cells ≤ R.cells) (hs : slots + rm.slots ≤ R.slots)
    (k : ∀ v T' h', Pn p l e R s m args below meth c T' h' n0 (cells + rm.cells) (slots + rm.slots) → Q' v h' → Go p e s below n0 Q R T' (mkF m pc' Ls (v.toList ++ rest))) : Go p e s below n0 Q R T (mkF m pc Ls S) := by
  subst hp has
  obtain ⟨e0, hn, locs, Y, N⟩ := X
  obtain ⟨cq, kq, q1, q2, q3⟩ := isOf hZ e0 hE
  obtain ⟨v, _, ⟨T', L', k', n'⟩, -, Y', ⟨Lc, ⟨hq, hN⟩, l', y', z'⟩, st⟩ := Y.interfaceBack hx (xi := y) (y := z) hown (mvT hZ w1) (mvT hZ w2) (mvT hZ w7 (by simp [Cond.onTables, Cond.keepsFace, Cond.faceAtom, hy.1, hy.2])) (mvT hZ w5) (mvT hZ w6) (mvT hZ w8) (mvT hZ w9) (mvT hZ w10) hy (backOf (W := W) (Q := fun v h L => Q' v h ∧ Fr n0 L) hM hZ w4 w3 hf hl) q1 q2 q3 (g := mkF m pc Ls S) rfl hsz (Steps.refl _) (argsL := argsL) (rest := rest) hlen hst (by show 2 * 0 + _ ≤ _; omega) hd (fun _ _ => ⟨rfl, e0, hc, hs⟩)
  dsimp only [Pt.U, Pt.locs, Pt.cells, Pt.slots] at Y' l' y' z' st hq
  subst l' y' z'
  exact stp (fun _ q => st.trans q) (k v T' _ ⟨rfl, hn, _, Y', N.app hN⟩ hq)
theorem ioY {own K : String} {index : Nat} {a : Addr} (X : Pn p l e R s m args below meth c T h n0 cells slots) (hx : p.tables.exec = Jvm.exec) (hZ : Z.Warmed39 s.vm) (hown : s.vm.findClass own = some m.cls) (w : (Cond.classLink own index K).before a0 Z = true) (F : Ins Z h a K true) (hd : decode c.code pc = .ok (.instanceof index, 3)) (hp : pc + 3 = pc')
    (k : ∀ T', Pn p l e R s m args below meth c T' h n0 cells slots → Go p e s below n0 Q R T' (mkF m pc' Ls (.int 1 :: S))) : Go p e s below n0 Q R T (mkF m pc Ls (.ref a :: S)) := by
  subst hp
  obtain ⟨e0, hn, locs, Y, N⟩ := X
  obtain ⟨T', Y', e', st⟩ := instY Y hx hZ hown w e0 F (g := mkF m pc Ls (.ref a :: S)) rfl rfl hd
  exact stp st (k T' ⟨e', hn, locs, Y', N⟩)
theorem ioN {own K C : String} {index : Nat} {a : Addr} (X : Pn p l e R s m args below meth c T h n0 cells slots) (hx : p.tables.exec = Jvm.exec) (hZ : Z.Warmed39 s.vm) (hown : s.vm.findClass own = some m.cls) (w : (Cond.classLink own index K).before a0 Z = true) (E : Exa Z h a C) (F : ∃ c t, Z.vm.findClass C = some c ∧ Z.vm.findClass K = some t ∧ Z.vm.assignable c t = false) (hd : decode c.code pc = .ok (.instanceof index, 3)) (hp : pc + 3 = pc')
    (k : ∀ T', Pn p l e R s m args below meth c T' h n0 cells slots → Go p e s below n0 Q R T' (mkF m pc' Ls (.int 0 :: S))) : Go p e s below n0 Q R T (mkF m pc Ls (.ref a :: S)) := by
  subst hp
  obtain ⟨e0, hn, locs, Y, N⟩ := X
  obtain ⟨T', Y', e', st⟩ := instNo Y hx hZ hown w e0 E F (g := mkF m pc Ls (.ref a :: S)) rfl rfl hd
  exact stp st (k T' ⟨e', hn, locs, Y', N⟩)
theorem ioZ {index : Nat} (X : Pn p l e R s m args below meth c T h n0 cells slots) (hx : p.tables.exec = Jvm.exec) (hd : decode c.code pc = .ok (.instanceof index, 3)) (hp : pc + 3 = pc')
    (k : Go p e s below n0 Q R T (mkF m pc' Ls (.int 0 :: S))) : Go p e s below n0 Q R T (mkF m pc Ls (.null :: S)) := by
  subst hp
  obtain ⟨e0, hn, locs, Y, N⟩ := X
  exact stp (Y.instanceofNull hx (g := mkF m pc Ls (.null :: S)) rfl rfl hd) k
theorem ccY {own K : String} {index : Nat} {a : Addr} (X : Pn p l e R s m args below meth c T h n0 cells slots) (hx : p.tables.exec = Jvm.exec) (hZ : Z.Warmed39 s.vm) (hown : s.vm.findClass own = some m.cls) (w : (Cond.classLink own index K).before a0 Z = true) (F : Ins Z h a K true) (hd : decode c.code pc = .ok (.checkcast index, 3)) (hp : pc + 3 = pc')
    (k : ∀ T', Pn p l e R s m args below meth c T' h n0 cells slots → Go p e s below n0 Q R T' (mkF m pc' Ls (.ref a :: S))) : Go p e s below n0 Q R T (mkF m pc Ls (.ref a :: S)) := by
  subst hp
  obtain ⟨e0, hn, locs, Y, N⟩ := X
  obtain ⟨T', Y', e', st⟩ := castY Y hx hZ hown w e0 F (g := mkF m pc Ls (.ref a :: S)) rfl rfl hd
  exact stp st (k T' ⟨e', hn, locs, Y', N⟩)
theorem own_nsRoot {O K : String} {kk : Nat} (w : (Cond.noSuperclass O).before a0 Z = true) (wk : (Cond.instantiable K kk).before a0 Z = true) (hn : O ≠ K) : NS Z O K := by
  obtain ⟨c, k, h1, h2, h3, -, -⟩ := Cond.noSuperclass_spec w
  obtain ⟨t, _, g1, -⟩ := Cond.instantiable_spec wk
  have ne := ids_ne h1 g1 hn
  refine ⟨c, t, h1, g1, fun fuel => ?_⟩
  cases fuel with
  | zero => rfl
  | succ f => simp [Vm.isSubclassAux, ne, h2, h3]
theorem own_nsNo {C U K : String} {kk : Nat} (w : (Cond.superclass C U).before a0 Z = true) (wk : (Cond.instantiable K kk).before a0 Z = true) (n : NS Z C K) (hn : C ≠ K) : ∃ c t, Z.vm.findClass C = some c ∧ Z.vm.findClass K = some t ∧ Z.vm.assignable c t = false := by
  obtain ⟨c, t, h0, g0, n3⟩ := n
  obtain ⟨q, k, kp, h1, h2, h3, h4, h5, -, h7⟩ := Cond.superclass_spec h0 w
  obtain ⟨t', k', g1, g2, g3, g4, -⟩ := Cond.instantiable_spec wk
  cases g0.symm.trans g1
  have g7 : k'.isInterface = false := by rw [Bool.or_eq_false_iff] at g4; exact g4.1
  have ne := ids_ne h0 g0 hn
  refine ⟨c, t, h0, g0, ?_⟩
  show Z.vm.assignableAux (255 + 1) c t = false
  simp [Vm.assignableAux, ne, h2, g2, h5, g3, g7, Vm.isSubclass, n3]
/-! arrays: n places, the i-th holds f i -/
def Av (Z : State) (h : Heap) (a : Addr) (ty : FieldType) (n : Nat) (f : Nat → Value) : Prop := ∃ c : Cell, Arr Z h a c ty ∧ c.slots.size = n ∧ ∀ i, i < n → c.slots[i]? = some (f i)
theorem Av.lt {a : Addr} {ty : FieldType} {n : Nat} {f : Nat → Value} (F : Av Z h a ty n f) : a < h.size := by obtain ⟨c, A, -⟩ := F; exact A.lt
theorem Av.ext {h' : Heap} {a : Addr} {ty : FieldType} {n : Nat} {f : Nat → Value} (F : Av Z h a ty n f) (E : Ext h h') : Av Z h' a ty n f := by obtain ⟨c, A, r⟩ := F; exact ⟨c, A.ext E, r⟩
theorem Av.other {h' : Heap} {a b : Addr} {ty : FieldType} {n sl : Nat} {v : Value} {f : Nat → Value} (F : Av Z h b ty n f) (W : Wr h h' a sl v) (q : b ≠ a) : Av Z h' b ty n f := by obtain ⟨c, A, r⟩ := F; exact ⟨c, A.other W q, r⟩
theorem Av.keep {h' : Heap} {a : Addr} {ws : List Addr} {ty : FieldType} {n : Nat} {f : Nat → Value} (F : Av Z h a ty n f) (K : Keep h h' ws) (q : a ∉ ws) : Av Z h' a ty n f := by obtain ⟨c, A, r⟩ := F; exact ⟨c, ⟨K.2.1 a c A.1 q, A.2⟩, r⟩
theorem Av.same {h' : Heap} {a : Addr} {ty : FieldType} {n j : Nat} {v : Value} {f : Nat → Value} (F : Av Z h a ty n f) (W : Wr h h' a j v) : Av Z h' a ty n (fun i => if i = j then v else f i) := by
  obtain ⟨c, A, q, r⟩ := F
  refine ⟨c.setSlot j v, A.same W, by rw [sz_set]; exact q, fun i hi => ?_⟩
  obtain ⟨c', e1, -, -, -, -, e6, e7⟩ := wr_at W A.1
  obtain ⟨e8, e9, -⟩ := e7 rfl
  by_cases hj : i = j
  · subst hj; show _ = some (if i = i then v else f i); rw [if_pos rfl, ← e8]; exact e9
  · show _ = some (if i = j then v else f i); rw [if_neg hj, ← e8, e6 _ hj]; exact r i hi
theorem Av.congr {a : Addr} {ty : FieldType} {n : Nat} {f g : Nat → Value} (F : Av Z h a ty n f) (q : ∀ i, i < n → f i = g i) : Av Z h a ty n g := by obtain ⟨c, A, r, u⟩ := F; exact ⟨c, A, r, fun i hi => by rw [u i hi, q i hi]⟩
theorem na {aty : ArrayType} {z : Int32} (cap : Nat) (X : Pn p l e R s m args below meth c T h n0 cells slots) (hx : p.tables.exec = Jvm.exec) (hZ : Z.Warmed39 s.vm) (w : (Cond.arrayClass (newarray.typeOf aty)).before a0 Z = true) (hd : decode c.code pc = .ok (.newarray aty, 2)) (hp : pc + 2 = pc') (hz : ¬ z < 0) (hcap : z.toNatClampNeg ≤ cap) (hb : cap * 8 ≤ 536870912) (hc : cells + 1 ≤ R.cells) (hl : slots + cap ≤ R.slots)
    (k : ∀ T' h' b, Pn p l e R s m args below meth c T' h' n0 (cells + 1) (slots + cap) → b = h.size → n0 ≤ b → Ext h h' → Av Z h' b (newarray.typeOf aty) z.toNatClampNeg (fun _ => defaultValue (newarray.typeOf aty)) → Go p e s below n0 Q R T' (mkF m pc' Ls (.ref b :: S))) :
    Go p e s below n0 Q R T (mkF m pc Ls (.int z :: S)) := by
  subst hp
  have q := X.le
  obtain ⟨e0, hn, locs, Y, N⟩ := X
  obtain ⟨T', h', k', Y', e', E', A', st⟩ := newP Y hx hZ w e0 (g := mkF m pc Ls (.int z :: S)) rfl hd rfl hz hcap hb hc hl
  refine stp st (k T' h' _ ⟨e', hn, _, Y', N⟩ rfl q E' ⟨_, A', sz_new _ _ _, fun i hi => ?_⟩)
  simp [newA, hi]
theorem len {a : Addr} {ty : FieldType} {n : Nat} {f : Nat → Value} (z : Int32) (X : Pn p l e R s m args below meth c T h n0 cells slots) (hx : p.tables.exec = Jvm.exec) (hZ : Z.Warmed39 s.vm) (A : Av Z h a ty n f) (hz : n.toInt32 = z) (hd : decode c.code pc = .ok (.arraylength, 1)) (hp : pc + 1 = pc')
    (k : Go p e s below n0 Q R T (mkF m pc' Ls (.int z :: S))) : Go p e s below n0 Q R T (mkF m pc Ls (.ref a :: S)) := by
  subst hp hz
  obtain ⟨e0, hn, locs, Y, N⟩ := X
  obtain ⟨cl, Ar, S0, r⟩ := A
  subst S0
  exact stp (fun t q => Y.arraylength hx (by rw [e0]; exact Ar.1) (State.isArrayOf_alike hZ.alike Ar.2.1) (g := mkF m pc Ls (.ref a :: S)) rfl rfl hd t q) k
theorem inn {cl : Cell} {n : Nat} {j : Int32} (S0 : cl.slots.size = n) (q : ¬ j < 0) (r : j.toNatClampNeg < n) : ¬ (j < 0 ∨ cl.slots.size ≤ j.toNatClampNeg) := fun u => u.elim q fun v => by omega
theorem ldI {a : Addr} {n : Nat} {f : Nat → Value} {j : Int32} {v : Value} (X : Pn p l e R s m args below meth c T h n0 cells slots) (hx : p.tables.exec = Jvm.exec) (hZ : Z.Warmed39 s.vm) (A : Av Z h a .int n f) (q : ¬ j < 0) (r : j.toNatClampNeg < n) (hv : f j.toNatClampNeg = v) (hd : decode c.code pc = .ok (.iaload, 1)) (hp : pc + 1 = pc')
    (k : Go p e s below n0 Q R T (mkF m pc' Ls (v :: S))) : Go p e s below n0 Q R T (mkF m pc Ls (.int j :: .ref a :: S)) := by
  subst hp hv
  obtain ⟨e0, hn, locs, Y, N⟩ := X
  obtain ⟨cl, Ar, S0, u⟩ := A
  exact stp (fun t y => Y.iaload hx (by rw [e0]; exact Ar.1) (State.isArrayOf_alike hZ.alike Ar.2.1) Ar.2.2 (inn S0 q r) (u _ r) (g := mkF m pc Ls (.int j :: .ref a :: S)) rfl rfl hd t y) k
theorem ldJ {a : Addr} {n : Nat} {f : Nat → Value} {j : Int32} {v : Value} (X : Pn p l e R s m args below meth c T h n0 cells slots) (hx : p.tables.exec = Jvm.exec) (hZ : Z.Warmed39 s.vm) (A : Av Z h a .long n f) (q : ¬ j < 0) (r : j.toNatClampNeg < n) (hv : f j.toNatClampNeg = v) (hd : decode c.code pc = .ok (.laload, 1)) (hp : pc + 1 = pc')
    (k : Go p e s below n0 Q R T (mkF m pc' Ls (v :: S))) : Go p e s below n0 Q R T (mkF m pc Ls (.int j :: .ref a :: S)) := by
  subst hp hv
  obtain ⟨e0, hn, locs, Y, N⟩ := X
  obtain ⟨cl, Ar, S0, u⟩ := A
  exact stp (fun t y => Y.laload hx (by rw [e0]; exact Ar.1) (State.isArrayOf_alike hZ.alike Ar.2.1) Ar.2.2 (inn S0 q r) (u _ r) (g := mkF m pc Ls (.int j :: .ref a :: S)) rfl rfl hd t y) k
theorem ldB {a : Addr} {n : Nat} {f : Nat → Value} {j : Int32} {v : Value} (X : Pn p l e R s m args below meth c T h n0 cells slots) (hx : p.tables.exec = Jvm.exec) (hZ : Z.Warmed39 s.vm) (A : Av Z h a .byte n f) (q : ¬ j < 0) (r : j.toNatClampNeg < n) (hv : f j.toNatClampNeg = v) (hd : decode c.code pc = .ok (.baload, 1)) (hp : pc + 1 = pc')
    (k : Go p e s below n0 Q R T (mkF m pc' Ls (v :: S))) : Go p e s below n0 Q R T (mkF m pc Ls (.int j :: .ref a :: S)) := by
  subst hp hv
  obtain ⟨e0, hn, locs, Y, N⟩ := X
  obtain ⟨cl, Ar, S0, u⟩ := A
  exact stp (fun t y => Y.baloadBytes hx (by rw [e0]; exact Ar.1) (State.isArrayOf_alike hZ.alike Ar.2.1) Ar.2.2 (inn S0 q r) (u _ r) (g := mkF m pc Ls (.int j :: .ref a :: S)) rfl rfl hd t y) k
theorem ldR {a : Addr} {ty : FieldType} {n : Nat} {f : Nat → Value} {j : Int32} {v : Value} (X : Pn p l e R s m args below meth c T h n0 cells slots) (hx : p.tables.exec = Jvm.exec) (hZ : Z.Warmed39 s.vm) (A : Av Z h a ty n f) (hty : ty.isReference = true) (q : ¬ j < 0) (r : j.toNatClampNeg < n) (hv : f j.toNatClampNeg = v) (hd : decode c.code pc = .ok (.aaload, 1)) (hp : pc + 1 = pc')
    (k : Go p e s below n0 Q R T (mkF m pc' Ls (v :: S))) : Go p e s below n0 Q R T (mkF m pc Ls (.int j :: .ref a :: S)) := by
  subst hp hv
  obtain ⟨e0, hn, locs, Y, N⟩ := X
  obtain ⟨cl, Ar, S0, u⟩ := A
  exact stp (fun t y => Y.aaload hx (by rw [e0]; exact Ar.1) (State.isArrayOf_alike hZ.alike Ar.2.1) hty Ar.2.2 (inn S0 q r) (u _ r) (g := mkF m pc Ls (.int j :: .ref a :: S)) rfl rfl hd t y) k
theorem saI {a : Addr} {n : Nat} {f : Nat → Value} {j x : Int32} (X : Pn p l e R s m args below meth c T h n0 cells slots) (hx : p.tables.exec = Jvm.exec) (hZ : Z.Warmed39 s.vm) (A : Av Z h a .int n f) (ge : n0 ≤ a) (q : ¬ j < 0) (r : j.toNatClampNeg < n) (hd : decode c.code pc = .ok (.iastore, 1)) (hp : pc + 1 = pc')
    (k : ∀ T' h', Pn p l e R s m args below meth c T' h' n0 cells slots → Wr h h' a j.toNatClampNeg (.int x) → Go p e s below n0 Q R T' (mkF m pc' Ls S)) : Go p e s below n0 Q R T (mkF m pc Ls (.int x :: .int j :: .ref a :: S)) := by
  subst hp
  obtain ⟨e0, hn, locs, Y, N⟩ := X
  obtain ⟨cl, Ar, S0, u⟩ := A
  obtain ⟨T', h', Y', e', W', st⟩ := stI Y hx hZ e0 Ar (inn S0 q r) (g := mkF m pc Ls (.int x :: .int j :: .ref a :: S)) rfl rfl hd
  exact stp st (k T' h' ⟨e', hn, _, Y', Fr.snoc Y' N ge⟩ W')
theorem saJ {a : Addr} {n : Nat} {f : Nat → Value} {j : Int32} {x : Int64} (X : Pn p l e R s m args below meth c T h n0 cells slots) (hx : p.tables.exec = Jvm.exec) (hZ : Z.Warmed39 s.vm) (A : Av Z h a .long n f) (ge : n0 ≤ a) (q : ¬ j < 0) (r : j.toNatClampNeg < n) (hd : decode c.code pc = .ok (.lastore, 1)) (hp : pc + 1 = pc')
    (k : ∀ T' h', Pn p l e R s m args below meth c T' h' n0 cells slots → Wr h h' a j.toNatClampNeg (.long x) → Go p e s below n0 Q R T' (mkF m pc' Ls S)) : Go p e s below n0 Q R T (mkF m pc Ls (.long x :: .int j :: .ref a :: S)) := by
  subst hp
  obtain ⟨e0, hn, locs, Y, N⟩ := X
  obtain ⟨cl, Ar, S0, u⟩ := A
  obtain ⟨T', h', Y', e', W', st⟩ := stJ Y hx hZ e0 Ar (inn S0 q r) (g := mkF m pc Ls (.long x :: .int j :: .ref a :: S)) rfl rfl hd
  exact stp st (k T' h' ⟨e', hn, _, Y', Fr.snoc Y' N ge⟩ W')
theorem saB {a : Addr} {n : Nat} {f : Nat → Value} {j x : Int32} (X : Pn p l e R s m args below meth c T h n0 cells slots) (hx : p.tables.exec = Jvm.exec) (hZ : Z.Warmed39 s.vm) (A : Av Z h a .byte n f) (ge : n0 ≤ a) (q : ¬ j < 0) (r : j.toNatClampNeg < n) (hd : decode c.code pc = .ok (.bastore, 1)) (hp : pc + 1 = pc')
    (k : ∀ T' h', Pn p l e R s m args below meth c T' h' n0 cells slots → Wr h h' a j.toNatClampNeg (.int x.toInt8.toInt32) → Go p e s below n0 Q R T' (mkF m pc' Ls S)) : Go p e s below n0 Q R T (mkF m pc Ls (.int x :: .int j :: .ref a :: S)) := by
  subst hp
  obtain ⟨e0, hn, locs, Y, N⟩ := X
  obtain ⟨cl, Ar, S0, u⟩ := A
  obtain ⟨T', h', Y', e', W', st⟩ := stB Y hx hZ e0 Ar (inn S0 q r) (g := mkF m pc Ls (.int x :: .int j :: .ref a :: S)) rfl rfl hd
  exact stp st (k T' h' ⟨e', hn, _, Y', Fr.snoc Y' N ge⟩ W')
/-! arrays of references: the class is known too -/
def AvR (Z : State) (h : Heap) (a : Addr) (C : String) (n : Nat) (f : Nat → Value) : Prop := ∃ c : Cell, Arr Z h a c (.object C) ∧ Ovr Z c.cls C ∧ c.slots.size = n ∧ ∀ i, i < n → c.slots[i]? = some (f i)
theorem AvR.lt {a : Addr} {C : String} {n : Nat} {f : Nat → Value} (F : AvR Z h a C n f) : a < h.size := by obtain ⟨c, A, -⟩ := F; exact A.lt
theorem AvR.av {a : Addr} {C : String} {n : Nat} {f : Nat → Value} (F : AvR Z h a C n f) : Av Z h a (.object C) n f := by obtain ⟨c, A, -, r⟩ := F; exact ⟨c, A, r⟩
theorem AvR.ext {h' : Heap} {a : Addr} {C : String} {n : Nat} {f : Nat → Value} (F : AvR Z h a C n f) (E : Ext h h') : AvR Z h' a C n f := by obtain ⟨c, A, r⟩ := F; exact ⟨c, A.ext E, r⟩
theorem AvR.other {h' : Heap} {a b : Addr} {C : String} {n sl : Nat} {v : Value} {f : Nat → Value} (F : AvR Z h b C n f) (W : Wr h h' a sl v) (q : b ≠ a) : AvR Z h' b C n f := by obtain ⟨c, A, r⟩ := F; exact ⟨c, A.other W q, r⟩
theorem AvR.set {h' : Heap} {a : Addr} {C : String} {n k : Nat} {j : Int32} {v : Value} {f : Nat → Value} (e : j.toNatClampNeg = k) (F : AvR Z h a C n f) (W : Wr h h' a j.toNatClampNeg v) : AvR Z h' a C n (fun i => if i = k then v else f i) := by
  subst e
  obtain ⟨c, A, O, q, r⟩ := F
  refine ⟨c.setSlot j.toNatClampNeg v, A.same W, O, by rw [sz_set]; exact q, fun i hi => ?_⟩
  obtain ⟨c', e1, -, -, -, -, e6, e7⟩ := wr_at W A.1
  obtain ⟨e8, e9, -⟩ := e7 rfl
  by_cases hj : i = j.toNatClampNeg
  · subst hj; show _ = some (if j.toNatClampNeg = j.toNatClampNeg then v else f j.toNatClampNeg); rw [if_pos rfl, ← e8]; exact e9
  · show _ = some (if i = j.toNatClampNeg then v else f i); rw [if_neg hj, ← e8, e6 _ hj]; exact r i hi
theorem nr {own C : String} {index : Nat} {z : Int32} (cap : Nat) (X : Pn p l e R s m args below meth c T h n0 cells slots) (hx : p.tables.exec = Jvm.exec) (hZ : Z.Warmed39 s.vm) (hown : s.vm.findClass own = some m.cls) (w1 : (Cond.classLink own index C).before a0 Z = true) (w2 : (Cond.arrayOver (.object C)).before a0 Z = true) (hd : decode c.code pc = .ok (.anewarray index, 3)) (hp : pc + 3 = pc') (hz : ¬ z < 0) (hcap : z.toNatClampNeg ≤ cap) (hb : cap * 8 ≤ 536870912) (hc : cells + 1 ≤ R.cells) (hl : slots + cap ≤ R.slots)
    (k : ∀ T' h' b, Pn p l e R s m args below meth c T' h' n0 (cells + 1) (slots + cap) → b = h.size → n0 ≤ b → Ext h h' → AvR Z h' b C z.toNatClampNeg (fun _ => .null) → Go p e s below n0 Q R T' (mkF m pc' Ls (.ref b :: S))) :
    Go p e s below n0 Q R T (mkF m pc Ls (.int z :: S)) := by
  subst hp
  have q := X.le
  obtain ⟨e0, hn, locs, Y, N⟩ := X
  obtain ⟨T', h', k', Y', e', E', A', O', st⟩ := newR Y hx hZ hown w1 w2 e0 (g := mkF m pc Ls (.int z :: S)) rfl hd rfl hz hcap hb hc hl
  refine stp st (k T' h' _ ⟨e', hn, _, Y', N⟩ rfl q E' ⟨_, A', O', sz_new _ _ _, fun i hi => ?_⟩)
  simp [newA, hi, defaultValue]
theorem saR {a y : Addr} {C : String} {n : Nat} {f : Nat → Value} {j : Int32} (X : Pn p l e R s m args below meth c T h n0 cells slots) (hx : p.tables.exec = Jvm.exec) (hZ : Z.Warmed39 s.vm) (A : AvR Z h a C n f) (I : Ins Z h y C true) (ge : n0 ≤ a) (q : ¬ j < 0) (r : j.toNatClampNeg < n) (hd : decode c.code pc = .ok (.aastore, 1)) (hp : pc + 1 = pc')
    (k : ∀ T' h', Pn p l e R s m args below meth c T' h' n0 cells slots → Wr h h' a j.toNatClampNeg (.ref y) → Go p e s below n0 Q R T' (mkF m pc' Ls S)) : Go p e s below n0 Q R T (mkF m pc Ls (.ref y :: .int j :: .ref a :: S)) := by
  subst hp
  obtain ⟨e0, hn, locs, Y, N⟩ := X
  obtain ⟨cl, Ar, O, S0, u⟩ := A
  obtain ⟨T', h', Y', e', W', st⟩ := stR Y hx hZ e0 Ar (inn S0 q r) rfl (Sto.of Ar O I) (g := mkF m pc Ls (.ref y :: .int j :: .ref a :: S)) rfl rfl hd
  exact stp st (k T' h' ⟨e', hn, _, Y', Fr.snoc Y' N ge⟩ W')
theorem i_iadd {x y : Int32} (X : Pn p l e R s m args below meth c T h n0 cells slots) (hx : p.tables.exec = Jvm.exec) (hd : decode c.code pc = .ok (.iadd, 1)) (hp : pc + 1 = pc')
    (k : Go p e s below n0 Q R T (mkF m pc' Ls (.int (x + y) :: S))) : Go p e s below n0 Q R T (mkF m pc Ls (.int y :: .int x :: S)) := by subst hp; exact stp (fun _ q => XS.iadd X.here hx rfl hd rfl q) k
theorem i_isub {x y : Int32} (X : Pn p l e R s m args below meth c T h n0 cells slots) (hx : p.tables.exec = Jvm.exec) (hd : decode c.code pc = .ok (.isub, 1)) (hp : pc + 1 = pc')
    (k : Go p e s below n0 Q R T (mkF m pc' Ls (.int (x - y) :: S))) : Go p e s below n0 Q R T (mkF m pc Ls (.int y :: .int x :: S)) := by subst hp; exact stp (fun _ q => XS.isub X.here hx rfl hd rfl q) k
theorem i_imul {x y : Int32} (X : Pn p l e R s m args below meth c T h n0 cells slots) (hx : p.tables.exec = Jvm.exec) (hd : decode c.code pc = .ok (.imul, 1)) (hp : pc + 1 = pc')
    (k : Go p e s below n0 Q R T (mkF m pc' Ls (.int (x * y) :: S))) : Go p e s below n0 Q R T (mkF m pc Ls (.int y :: .int x :: S)) := by subst hp; exact stp (fun _ q => XS.imul X.here hx rfl hd rfl q) k
theorem i_iand {x y : Int32} (X : Pn p l e R s m args below meth c T h n0 cells slots) (hx : p.tables.exec = Jvm.exec) (hd : decode c.code pc = .ok (.iand, 1)) (hp : pc + 1 = pc')
    (k : Go p e s below n0 Q R T (mkF m pc' Ls (.int (x &&& y) :: S))) : Go p e s below n0 Q R T (mkF m pc Ls (.int y :: .int x :: S)) := by subst hp; exact stp (fun _ q => XS.iand X.here hx rfl hd rfl q) k
theorem i_ior {x y : Int32} (X : Pn p l e R s m args below meth c T h n0 cells slots) (hx : p.tables.exec = Jvm.exec) (hd : decode c.code pc = .ok (.ior, 1)) (hp : pc + 1 = pc')
    (k : Go p e s below n0 Q R T (mkF m pc' Ls (.int (x ||| y) :: S))) : Go p e s below n0 Q R T (mkF m pc Ls (.int y :: .int x :: S)) := by subst hp; exact stp (fun _ q => XT.ior X.here hx rfl hd rfl q) k
theorem i_ixor {x y : Int32} (X : Pn p l e R s m args below meth c T h n0 cells slots) (hx : p.tables.exec = Jvm.exec) (hd : decode c.code pc = .ok (.ixor, 1)) (hp : pc + 1 = pc')
    (k : Go p e s below n0 Q R T (mkF m pc' Ls (.int (x ^^^ y) :: S))) : Go p e s below n0 Q R T (mkF m pc Ls (.int y :: .int x :: S)) := by subst hp; exact stp (fun _ q => XT.ixor X.here hx rfl hd rfl q) k
theorem i_ishl {x y : Int32} (X : Pn p l e R s m args below meth c T h n0 cells slots) (hx : p.tables.exec = Jvm.exec) (hd : decode c.code pc = .ok (.ishl, 1)) (hp : pc + 1 = pc')
    (k : Go p e s below n0 Q R T (mkF m pc' Ls (.int (x <<< (y &&& 31)) :: S))) : Go p e s below n0 Q R T (mkF m pc Ls (.int y :: .int x :: S)) := by subst hp; exact stp (fun _ q => XT.ishl X.here hx rfl hd rfl q) k
theorem i_ishr {x y : Int32} (X : Pn p l e R s m args below meth c T h n0 cells slots) (hx : p.tables.exec = Jvm.exec) (hd : decode c.code pc = .ok (.ishr, 1)) (hp : pc + 1 = pc')
    (k : Go p e s below n0 Q R T (mkF m pc' Ls (.int (x >>> (y &&& 31)) :: S))) : Go p e s below n0 Q R T (mkF m pc Ls (.int y :: .int x :: S)) := by subst hp; exact stp (fun _ q => XT.ishr X.here hx rfl hd rfl q) k
theorem i_iushr {x y : Int32} (X : Pn p l e R s m args below meth c T h n0 cells slots) (hx : p.tables.exec = Jvm.exec) (hd : decode c.code pc = .ok (.iushr, 1)) (hp : pc + 1 = pc')
    (k : Go p e s below n0 Q R T (mkF m pc' Ls (.int (XT.ushr x y) :: S))) : Go p e s below n0 Q R T (mkF m pc Ls (.int y :: .int x :: S)) := by subst hp; exact stp (fun _ q => XT.iushr X.here hx rfl hd rfl q) k
theorem i_ladd {x y : Int64} (X : Pn p l e R s m args below meth c T h n0 cells slots) (hx : p.tables.exec = Jvm.exec) (hd : decode c.code pc = .ok (.ladd, 1)) (hp : pc + 1 = pc')
    (k : Go p e s below n0 Q R T (mkF m pc' Ls (.long (x + y) :: S))) : Go p e s below n0 Q R T (mkF m pc Ls (.long y :: .long x :: S)) := by subst hp; exact stp (fun _ q => XT.ladd X.here hx rfl hd rfl q) k
theorem i_lsub {x y : Int64} (X : Pn p l e R s m args below meth c T h n0 cells slots) (hx : p.tables.exec = Jvm.exec) (hd : decode c.code pc = .ok (.lsub, 1)) (hp : pc + 1 = pc')
    (k : Go p e s below n0 Q R T (mkF m pc' Ls (.long (x - y) :: S))) : Go p e s below n0 Q R T (mkF m pc Ls (.long y :: .long x :: S)) := by subst hp; exact stp (fun _ q => XT.lsub X.here hx rfl hd rfl q) k
theorem i_lmul {x y : Int64} (X : Pn p l e R s m args below meth c T h n0 cells slots) (hx : p.tables.exec = Jvm.exec) (hd : decode c.code pc = .ok (.lmul, 1)) (hp : pc + 1 = pc')
    (k : Go p e s below n0 Q R T (mkF m pc' Ls (.long (x * y) :: S))) : Go p e s below n0 Q R T (mkF m pc Ls (.long y :: .long x :: S)) := by subst hp; exact stp (fun _ q => XT.lmul X.here hx rfl hd rfl q) k
theorem i_land {x y : Int64} (X : Pn p l e R s m args below meth c T h n0 cells slots) (hx : p.tables.exec = Jvm.exec) (hd : decode c.code pc = .ok (.land, 1)) (hp : pc + 1 = pc')
    (k : Go p e s below n0 Q R T (mkF m pc' Ls (.long (x &&& y) :: S))) : Go p e s below n0 Q R T (mkF m pc Ls (.long y :: .long x :: S)) := by subst hp; exact stp (fun _ q => XT.land X.here hx rfl hd rfl q) k
theorem i_lor {x y : Int64} (X : Pn p l e R s m args below meth c T h n0 cells slots) (hx : p.tables.exec = Jvm.exec) (hd : decode c.code pc = .ok (.lor, 1)) (hp : pc + 1 = pc')
    (k : Go p e s below n0 Q R T (mkF m pc' Ls (.long (x ||| y) :: S))) : Go p e s below n0 Q R T (mkF m pc Ls (.long y :: .long x :: S)) := by subst hp; exact stp (fun _ q => XT.lor X.here hx rfl hd rfl q) k
theorem i_lxor {x y : Int64} (X : Pn p l e R s m args below meth c T h n0 cells slots) (hx : p.tables.exec = Jvm.exec) (hd : decode c.code pc = .ok (.lxor, 1)) (hp : pc + 1 = pc')
    (k : Go p e s below n0 Q R T (mkF m pc' Ls (.long (x ^^^ y) :: S))) : Go p e s below n0 Q R T (mkF m pc Ls (.long y :: .long x :: S)) := by subst hp; exact stp (fun _ q => XT.lxor X.here hx rfl hd rfl q) k
theorem i_lshl {x : Int64} {y : Int32} (X : Pn p l e R s m args below meth c T h n0 cells slots) (hx : p.tables.exec = Jvm.exec) (hd : decode c.code pc = .ok (.lshl, 1)) (hp : pc + 1 = pc')
    (k : Go p e s below n0 Q R T (mkF m pc' Ls (.long (x <<< (y.toInt64 &&& 63)) :: S))) : Go p e s below n0 Q R T (mkF m pc Ls (.int y :: .long x :: S)) := by subst hp; exact stp (fun _ q => XT.lshl X.here hx rfl hd rfl q) k
theorem i_lshr {x : Int64} {y : Int32} (X : Pn p l e R s m args below meth c T h n0 cells slots) (hx : p.tables.exec = Jvm.exec) (hd : decode c.code pc = .ok (.lshr, 1)) (hp : pc + 1 = pc')
    (k : Go p e s below n0 Q R T (mkF m pc' Ls (.long (x >>> (y.toInt64 &&& 63)) :: S))) : Go p e s below n0 Q R T (mkF m pc Ls (.int y :: .long x :: S)) := by subst hp; exact stp (fun _ q => XT.lshr X.here hx rfl hd rfl q) k
theorem i_lushr {x : Int64} {y : Int32} (X : Pn p l e R s m args below meth c T h n0 cells slots) (hx : p.tables.exec = Jvm.exec) (hd : decode c.code pc = .ok (.lushr, 1)) (hp : pc + 1 = pc')
    (k : Go p e s below n0 Q R T (mkF m pc' Ls (.long (XT.ushrL x y) :: S))) : Go p e s below n0 Q R T (mkF m pc Ls (.int y :: .long x :: S)) := by subst hp; exact stp (fun _ q => XT.lushr X.here hx rfl hd rfl q) k
theorem i_idiv {x y : Int32} (X : Pn p l e R s m args below meth c T h n0 cells slots) (hx : p.tables.exec = Jvm.exec) (hd : decode c.code pc = .ok (.idiv, 1)) (hp : pc + 1 = pc') (hy : y ≠ 0)
    (k : Go p e s below n0 Q R T (mkF m pc' Ls (.int (x / y) :: S))) : Go p e s below n0 Q R T (mkF m pc Ls (.int y :: .int x :: S)) := by subst hp; exact stp (fun _ q => XS.idiv X.here hx rfl hd rfl hy q) k
theorem i_ldiv {x y : Int64} (X : Pn p l e R s m args below meth c T h n0 cells slots) (hx : p.tables.exec = Jvm.exec) (hd : decode c.code pc = .ok (.ldiv, 1)) (hp : pc + 1 = pc') (hy : y ≠ 0)
    (k : Go p e s below n0 Q R T (mkF m pc' Ls (.long (x / y) :: S))) : Go p e s below n0 Q R T (mkF m pc Ls (.long y :: .long x :: S)) := by subst hp; exact stp (fun _ q => XT.ldiv X.here hx rfl hd rfl hy q) k
theorem i_lrem {x y : Int64} (X : Pn p l e R s m args below meth c T h n0 cells slots) (hx : p.tables.exec = Jvm.exec) (hd : decode c.code pc = .ok (.lrem, 1)) (hp : pc + 1 = pc') (hy : y ≠ 0)
    (k : Go p e s below n0 Q R T (mkF m pc' Ls (.long (x - (x / y) * y) :: S))) : Go p e s below n0 Q R T (mkF m pc Ls (.long y :: .long x :: S)) := by subst hp; exact stp (fun _ q => XT.lrem X.here hx rfl hd rfl hy q) k
theorem i_irem {x y : Int32} (X : Pn p l e R s m args below meth c T h n0 cells slots) (hx : p.tables.exec = Jvm.exec) (hd : decode c.code pc = .ok (.irem, 1)) (hp : pc + 1 = pc') (hy : y ≠ 0)
    (k : Go p e s below n0 Q R T (mkF m pc' Ls (.int (x % y) :: S))) : Go p e s below n0 Q R T (mkF m pc Ls (.int y :: .int x :: S)) := by subst hp; obtain ⟨e0, hn, locs, Y, N⟩ := X; exact stp (fun _ q => iremM Y hx rfl hd rfl hy q) k
theorem i_ineg {x : Int32} (X : Pn p l e R s m args below meth c T h n0 cells slots) (hx : p.tables.exec = Jvm.exec) (hd : decode c.code pc = .ok (.ineg, 1)) (hp : pc + 1 = pc')
    (k : Go p e s below n0 Q R T (mkF m pc' Ls (.int (-x) :: S))) : Go p e s below n0 Q R T (mkF m pc Ls (.int x :: S)) := by subst hp; exact stp (fun _ q => XS.ineg X.here hx rfl hd rfl q) k
theorem i_lneg {x : Int64} (X : Pn p l e R s m args below meth c T h n0 cells slots) (hx : p.tables.exec = Jvm.exec) (hd : decode c.code pc = .ok (.lneg, 1)) (hp : pc + 1 = pc')
    (k : Go p e s below n0 Q R T (mkF m pc' Ls (.long (-x) :: S))) : Go p e s below n0 Q R T (mkF m pc Ls (.long x :: S)) := by subst hp; exact stp (fun _ q => XT.lneg X.here hx rfl hd rfl q) k
theorem i_i2l {x : Int32} (X : Pn p l e R s m args below meth c T h n0 cells slots) (hx : p.tables.exec = Jvm.exec) (hd : decode c.code pc = .ok (.i2l, 1)) (hp : pc + 1 = pc')
    (k : Go p e s below n0 Q R T (mkF m pc' Ls (.long x.toInt64 :: S))) : Go p e s below n0 Q R T (mkF m pc Ls (.int x :: S)) := by subst hp; exact stp (fun _ q => XT.i2l X.here hx rfl hd rfl q) k
theorem i_l2i {x : Int64} (X : Pn p l e R s m args below meth c T h n0 cells slots) (hx : p.tables.exec = Jvm.exec) (hd : decode c.code pc = .ok (.l2i, 1)) (hp : pc + 1 = pc')
    (k : Go p e s below n0 Q R T (mkF m pc' Ls (.int x.toInt32 :: S))) : Go p e s below n0 Q R T (mkF m pc Ls (.long x :: S)) := by subst hp; exact stp (fun _ q => XT.l2i X.here hx rfl hd rfl q) k
theorem i_i2b {x : Int32} (X : Pn p l e R s m args below meth c T h n0 cells slots) (hx : p.tables.exec = Jvm.exec) (hd : decode c.code pc = .ok (.i2b, 1)) (hp : pc + 1 = pc')
    (k : Go p e s below n0 Q R T (mkF m pc' Ls (.int x.toInt8.toInt32 :: S))) : Go p e s below n0 Q R T (mkF m pc Ls (.int x :: S)) := by subst hp; exact stp (fun _ q => XT.i2b X.here hx rfl hd rfl q) k
theorem i_i2c {x : Int32} (X : Pn p l e R s m args below meth c T h n0 cells slots) (hx : p.tables.exec = Jvm.exec) (hd : decode c.code pc = .ok (.i2c, 1)) (hp : pc + 1 = pc')
    (k : Go p e s below n0 Q R T (mkF m pc' Ls (.int x.toUInt32.toUInt16.toUInt32.toInt32 :: S))) : Go p e s below n0 Q R T (mkF m pc Ls (.int x :: S)) := by subst hp; exact stp (fun _ q => XT.i2c X.here hx rfl hd rfl q) k
theorem i_i2s {x : Int32} (X : Pn p l e R s m args below meth c T h n0 cells slots) (hx : p.tables.exec = Jvm.exec) (hd : decode c.code pc = .ok (.i2s, 1)) (hp : pc + 1 = pc')
    (k : Go p e s below n0 Q R T (mkF m pc' Ls (.int x.toInt16.toInt32 :: S))) : Go p e s below n0 Q R T (mkF m pc Ls (.int x :: S)) := by subst hp; exact stp (fun _ q => XT.i2s X.here hx rfl hd rfl q) k
theorem i_lcmp {x y : Int64} (X : Pn p l e R s m args below meth c T h n0 cells slots) (hx : p.tables.exec = Jvm.exec) (hd : decode c.code pc = .ok (.lcmp, 1)) (hp : pc + 1 = pc')
    (k : Go p e s below n0 Q R T (mkF m pc' Ls (.int (XT.cmpL x y) :: S))) : Go p e s below n0 Q R T (mkF m pc Ls (.long y :: .long x :: S)) := by subst hp; exact stp (fun _ q => XT.lcmp X.here hx rfl hd rfl q) k
theorem i_aloadN {k : Fin 4} {v : Value} (X : Pn p l e R s m args below meth c T h n0 cells slots) (hx : p.tables.exec = Jvm.exec) (hd : decode c.code pc = .ok (.aload_n k, 1)) (hp : pc + 1 = pc') (hl : Ls[k.val]? = some (.val v)) (hv : v.isRef = true)
    (k : Go p e s below n0 Q R T (mkF m pc' Ls (v :: S))) : Go p e s below n0 Q R T (mkF m pc Ls S) := by subst hp; exact stp (fun _ q => XS.aloadN X.here hx rfl hd hl hv q) k
theorem i_aload {k : Nat} {v : Value} (X : Pn p l e R s m args below meth c T h n0 cells slots) (hx : p.tables.exec = Jvm.exec) (hd : decode c.code pc = .ok (.aload k, 2)) (hp : pc + 2 = pc') (hl : Ls[k]? = some (.val v)) (hv : v.isRef = true)
    (k : Go p e s below n0 Q R T (mkF m pc' Ls (v :: S))) : Go p e s below n0 Q R T (mkF m pc Ls S) := by subst hp; exact stp (fun _ q => XS.aload X.here hx rfl hd hl hv q) k
theorem i_iloadN {k : Fin 4} {v : Int32} (X : Pn p l e R s m args below meth c T h n0 cells slots) (hx : p.tables.exec = Jvm.exec) (hd : decode c.code pc = .ok (.iload_n k, 1)) (hp : pc + 1 = pc') (hl : Ls[k.val]? = some (.val (.int v)))
    (k : Go p e s below n0 Q R T (mkF m pc' Ls (.int v :: S))) : Go p e s below n0 Q R T (mkF m pc Ls S) := by subst hp; exact stp (fun _ q => XS.iloadN X.here hx rfl hd hl q) k
theorem i_iload {k : Nat} {v : Int32} (X : Pn p l e R s m args below meth c T h n0 cells slots) (hx : p.tables.exec = Jvm.exec) (hd : decode c.code pc = .ok (.iload k, 2)) (hp : pc + 2 = pc') (hl : Ls[k]? = some (.val (.int v)))
    (k : Go p e s below n0 Q R T (mkF m pc' Ls (.int v :: S))) : Go p e s below n0 Q R T (mkF m pc Ls S) := by subst hp; exact stp (fun _ q => XS.iload X.here hx rfl hd hl q) k
theorem i_lloadN {k : Fin 4} {v : Int64} (X : Pn p l e R s m args below meth c T h n0 cells slots) (hx : p.tables.exec = Jvm.exec) (hd : decode c.code pc = .ok (.lload_n k, 1)) (hp : pc + 1 = pc') (hl : Ls[k.val]? = some (.val (.long v)))
    (k : Go p e s below n0 Q R T (mkF m pc' Ls (.long v :: S))) : Go p e s below n0 Q R T (mkF m pc Ls S) := by subst hp; exact stp (fun _ q => XT.lloadN X.here hx rfl hd hl q) k
theorem i_lload {k : Nat} {v : Int64} (X : Pn p l e R s m args below meth c T h n0 cells slots) (hx : p.tables.exec = Jvm.exec) (hd : decode c.code pc = .ok (.lload k, 2)) (hp : pc + 2 = pc') (hl : Ls[k]? = some (.val (.long v)))
    (k : Go p e s below n0 Q R T (mkF m pc' Ls (.long v :: S))) : Go p e s below n0 Q R T (mkF m pc Ls S) := by subst hp; exact stp (fun _ q => XT.lload X.here hx rfl hd hl q) k
theorem i_istoreN {k : Fin 4} {x : Int32} {L' : Array Slot} (X : Pn p l e R s m args below meth c T h n0 cells slots) (hx : p.tables.exec = Jvm.exec) (hd : decode c.code pc = .ok (.istore_n k, 1)) (hp : pc + 1 = pc') (hl : storeLocals Ls k.val (.int x) = some L')
    (k : Go p e s below n0 Q R T (mkF m pc' L' S)) : Go p e s below n0 Q R T (mkF m pc Ls (.int x :: S)) := by subst hp; exact stp (fun _ q => XS.istoreN X.here hx rfl hd rfl hl q) k
theorem i_istore {k : Nat} {x : Int32} {L' : Array Slot} (X : Pn p l e R s m args below meth c T h n0 cells slots) (hx : p.tables.exec = Jvm.exec) (hd : decode c.code pc = .ok (.istore k, 2)) (hp : pc + 2 = pc') (hl : storeLocals Ls k (.int x) = some L')
    (k : Go p e s below n0 Q R T (mkF m pc' L' S)) : Go p e s below n0 Q R T (mkF m pc Ls (.int x :: S)) := by subst hp; exact stp (fun _ q => XS.istore X.here hx rfl hd rfl hl q) k
theorem i_lstoreN {k : Fin 4} {x : Int64} {L' : Array Slot} (X : Pn p l e R s m args below meth c T h n0 cells slots) (hx : p.tables.exec = Jvm.exec) (hd : decode c.code pc = .ok (.lstore_n k, 1)) (hp : pc + 1 = pc') (hl : storeLocals Ls k.val (.long x) = some L')
    (k : Go p e s below n0 Q R T (mkF m pc' L' S)) : Go p e s below n0 Q R T (mkF m pc Ls (.long x :: S)) := by subst hp; exact stp (fun _ q => XT.lstoreN X.here hx rfl hd rfl hl q) k
theorem i_lstore {k : Nat} {x : Int64} {L' : Array Slot} (X : Pn p l e R s m args below meth c T h n0 cells slots) (hx : p.tables.exec = Jvm.exec) (hd : decode c.code pc = .ok (.lstore k, 2)) (hp : pc + 2 = pc') (hl : storeLocals Ls k (.long x) = some L')
    (k : Go p e s below n0 Q R T (mkF m pc' L' S)) : Go p e s below n0 Q R T (mkF m pc Ls (.long x :: S)) := by subst hp; exact stp (fun _ q => XT.lstore X.here hx rfl hd rfl hl q) k
theorem i_astoreN {k : Fin 4} {x : Value} {L' : Array Slot} (X : Pn p l e R s m args below meth c T h n0 cells slots) (hx : p.tables.exec = Jvm.exec) (hd : decode c.code pc = .ok (.astore_n k, 1)) (hp : pc + 1 = pc') (hv : x.isRef = true) (hl : storeLocals Ls k.val x = some L')
    (k : Go p e s below n0 Q R T (mkF m pc' L' S)) : Go p e s below n0 Q R T (mkF m pc Ls (x :: S)) := by subst hp; exact stp (fun _ q => XS.astoreN X.here hx rfl hd rfl hv hl q) k
theorem i_astore {k : Nat} {x : Value} {L' : Array Slot} (X : Pn p l e R s m args below meth c T h n0 cells slots) (hx : p.tables.exec = Jvm.exec) (hd : decode c.code pc = .ok (.astore k, 2)) (hp : pc + 2 = pc') (hv : x.isRef = true) (hl : storeLocals Ls k x = some L')
    (k : Go p e s below n0 Q R T (mkF m pc' L' S)) : Go p e s below n0 Q R T (mkF m pc Ls (x :: S)) := by subst hp; exact stp (fun _ q => XS.astore X.here hx rfl hd rfl hv hl q) k
theorem i_iconst {i : Int} (v : Int32) (X : Pn p l e R s m args below meth c T h n0 cells slots) (hx : p.tables.exec = Jvm.exec) (hd : decode c.code pc = .ok (.iconst i, 1)) (hp : pc + 1 = pc') (hv : Int32.ofInt i = v)
    (k : Go p e s below n0 Q R T (mkF m pc' Ls (.int v :: S))) : Go p e s below n0 Q R T (mkF m pc Ls S) := by subst hp; exact stp (fun _ q => XT.iconstV X.here hx rfl v hd hv q) k
theorem i_bipush {i : Int} (v : Int32) (X : Pn p l e R s m args below meth c T h n0 cells slots) (hx : p.tables.exec = Jvm.exec) (hd : decode c.code pc = .ok (.bipush i, 2)) (hp : pc + 2 = pc') (hv : (Int8.ofInt i).toInt32 = v)
    (k : Go p e s below n0 Q R T (mkF m pc' Ls (.int v :: S))) : Go p e s below n0 Q R T (mkF m pc Ls S) := by subst hp; exact stp (fun _ q => XT.bipushV X.here hx rfl v hd hv q) k
theorem i_sipush {i : Int} (v : Int32) (X : Pn p l e R s m args below meth c T h n0 cells slots) (hx : p.tables.exec = Jvm.exec) (hd : decode c.code pc = .ok (.sipush i, 3)) (hp : pc + 3 = pc') (hv : (Int16.ofInt i).toInt32 = v)
    (k : Go p e s below n0 Q R T (mkF m pc' Ls (.int v :: S))) : Go p e s below n0 Q R T (mkF m pc Ls S) := by subst hp; exact stp (fun _ q => XT.sipushV X.here hx rfl v hd hv q) k
theorem i_lconst {i : Fin 2} (v : Int64) (X : Pn p l e R s m args below meth c T h n0 cells slots) (hx : p.tables.exec = Jvm.exec) (hd : decode c.code pc = .ok (.lconst i, 1)) (hp : pc + 1 = pc') (hv : Int64.ofNat i = v)
    (k : Go p e s below n0 Q R T (mkF m pc' Ls (.long v :: S))) : Go p e s below n0 Q R T (mkF m pc Ls S) := by subst hp; exact stp (fun _ q => XT.lconstV X.here hx rfl v hd hv q) k
theorem i_aconstNull (X : Pn p l e R s m args below meth c T h n0 cells slots) (hx : p.tables.exec = Jvm.exec) (hd : decode c.code pc = .ok (.aconst_null, 1)) (hp : pc + 1 = pc')
    (k : Go p e s below n0 Q R T (mkF m pc' Ls (.null :: S))) : Go p e s below n0 Q R T (mkF m pc Ls S) := by subst hp; exact stp (fun _ q => XS.aconstNull X.here hx rfl hd q) k
theorem i_iinc {i : Nat} {cst : Int} {x : Int32} {L' : Array Slot} (v : Int32) (X : Pn p l e R s m args below meth c T h n0 cells slots) (hx : p.tables.exec = Jvm.exec) (hd : decode c.code pc = .ok (.iinc i cst, 3)) (hp : pc + 3 = pc') (hv : Int32.ofInt cst = v) (hl : Ls[i]? = some (.val (.int x))) (hl' : storeLocals Ls i (.int (x + v)) = some L')
    (k : Go p e s below n0 Q R T (mkF m pc' L' S)) : Go p e s below n0 Q R T (mkF m pc Ls S) := by subst hp; exact stp (fun _ q => XT.iincV X.here hx rfl v hd hv hl hl' q) k
theorem i_ldc {own : String} {i : Nat} (v : Int32) (X : Pn p l e R s m args below meth c T h n0 cells slots) (hx : p.tables.exec = Jvm.exec) (hZ : Z.Warmed39 s.vm) (hown : s.vm.findClass own = some m.cls) (w : (Cond.constant own i v).before a0 Z = true) (hd : decode c.code pc = .ok (.ldc i, 2)) (hp : pc + 2 = pc')
    (k : Go p e s below n0 Q R T (mkF m pc' Ls (.int v :: S))) : Go p e s below n0 Q R T (mkF m pc Ls S) := by subst hp; obtain ⟨e0, hn, locs, Y, N⟩ := X; exact stp (fun _ q => Y.ldcI hx hown (mv hZ w) (g := mkF m pc Ls S) rfl hd q) k
theorem i_ldcW {own : String} {i : Nat} (v : Int32) (X : Pn p l e R s m args below meth c T h n0 cells slots) (hx : p.tables.exec = Jvm.exec) (hZ : Z.Warmed39 s.vm) (hown : s.vm.findClass own = some m.cls) (w : (Cond.constant own i v).before a0 Z = true) (hd : decode c.code pc = .ok (.ldc_w i, 3)) (hp : pc + 3 = pc')
    (k : Go p e s below n0 Q R T (mkF m pc' Ls (.int v :: S))) : Go p e s below n0 Q R T (mkF m pc Ls S) := by subst hp; obtain ⟨e0, hn, locs, Y, N⟩ := X; exact stp (fun _ q => Y.ldcWI hx hown (mv hZ w) (g := mkF m pc Ls S) rfl hd q) k
theorem i_ldc2 {own : String} {i : Nat} (v : Int64) (X : Pn p l e R s m args below meth c T h n0 cells slots) (hx : p.tables.exec = Jvm.exec) (hZ : Z.Warmed39 s.vm) (hown : s.vm.findClass own = some m.cls) (w : (Cond.constantLong own i v).before a0 Z = true) (hd : decode c.code pc = .ok (.ldc2_w i, 3)) (hp : pc + 3 = pc')
    (k : Go p e s below n0 Q R T (mkF m pc' Ls (.long v :: S))) : Go p e s below n0 Q R T (mkF m pc Ls S) := by subst hp; obtain ⟨e0, hn, locs, Y, N⟩ := X; exact stp (fun _ q => Y.ldc2J hx hown (mv hZ w) (g := mkF m pc Ls S) rfl hd q) k
theorem i_dup {x : Value} (X : Pn p l e R s m args below meth c T h n0 cells slots) (hx : p.tables.exec = Jvm.exec) (hd : decode c.code pc = .ok (.dup, 1)) (hp : pc + 1 = pc') (hc : x.category = 1)
    (k : Go p e s below n0 Q R T (mkF m pc' Ls (x :: x :: S))) : Go p e s below n0 Q R T (mkF m pc Ls (x :: S)) := by subst hp; exact stp (fun _ q => XS.dup X.here hx rfl hd rfl hc q) k
theorem i_pop {x : Value} (X : Pn p l e R s m args below meth c T h n0 cells slots) (hx : p.tables.exec = Jvm.exec) (hd : decode c.code pc = .ok (.pop, 1)) (hp : pc + 1 = pc') (hc : x.category = 1)
    (k : Go p e s below n0 Q R T (mkF m pc' Ls S)) : Go p e s below n0 Q R T (mkF m pc Ls (x :: S)) := by subst hp; exact stp (fun _ q => XT.pop X.here hx rfl hd rfl hc q) k
theorem i_dupX1 {x y : Value} (X : Pn p l e R s m args below meth c T h n0 cells slots) (hx : p.tables.exec = Jvm.exec) (hd : decode c.code pc = .ok (.dup_x1, 1)) (hp : pc + 1 = pc') (hc : x.category = 1) (hc' : y.category = 1)
    (k : Go p e s below n0 Q R T (mkF m pc' Ls (x :: y :: x :: S))) : Go p e s below n0 Q R T (mkF m pc Ls (x :: y :: S)) := by subst hp; exact stp (fun _ q => XT.dupX1 X.here hx rfl hd rfl hc hc' q) k
theorem i_dup2 {x y : Value} (X : Pn p l e R s m args below meth c T h n0 cells slots) (hx : p.tables.exec = Jvm.exec) (hd : decode c.code pc = .ok (.dup2, 1)) (hp : pc + 1 = pc') (hc : x.category = 1) (hc' : y.category = 1)
    (k : Go p e s below n0 Q R T (mkF m pc' Ls (x :: y :: x :: y :: S))) : Go p e s below n0 Q R T (mkF m pc Ls (x :: y :: S)) := by subst hp; exact stp (fun _ q => XT.dup2 X.here hx rfl hd rfl hc hc' q) k
theorem i_dup2L {x : Int64} (X : Pn p l e R s m args below meth c T h n0 cells slots) (hx : p.tables.exec = Jvm.exec) (hd : decode c.code pc = .ok (.dup2, 1)) (hp : pc + 1 = pc')
    (k : Go p e s below n0 Q R T (mkF m pc' Ls (.long x :: .long x :: S))) : Go p e s below n0 Q R T (mkF m pc Ls (.long x :: S)) := by subst hp; exact stp (fun _ q => XT.dup2L X.here hx rfl hd rfl q) k
theorem i_goto {o : Int} (X : Pn p l e R s m args below meth c T h n0 cells slots) (hx : p.tables.exec = Jvm.exec) (hd : decode c.code pc = .ok (.goto o, 3)) (ho : 0 ≤ (pc : Int) + o) (hp : ((pc : Int) + o).toNat = pc')
    (k : Go p e s below n0 Q R T (mkF m pc' Ls S)) : Go p e s below n0 Q R T (mkF m pc Ls S) := stp (fun _ q => XS.goto X.here hx rfl rfl hd ho hp q) k
theorem i_ifT {cd : ClassFile.Cond} {o : Int} {x : Int32} (X : Pn p l e R s m args below meth c T h n0 cells slots) (hx : p.tables.exec = Jvm.exec) (hd : decode c.code pc = .ok (.ifCond cd o, 3)) (hc : ifCond.holds cd x = true) (ho : 0 ≤ (pc : Int) + o) (hp : ((pc : Int) + o).toNat = pc')
    (k : Go p e s below n0 Q R T (mkF m pc' Ls S)) : Go p e s below n0 Q R T (mkF m pc Ls (.int x :: S)) := stp (fun _ q => XS.ifYes X.here hx rfl rfl hd rfl hc ho hp q) k
theorem i_ifF {cd : ClassFile.Cond} {o : Int} {x : Int32} (X : Pn p l e R s m args below meth c T h n0 cells slots) (hx : p.tables.exec = Jvm.exec) (hd : decode c.code pc = .ok (.ifCond cd o, 3)) (hp : pc + 3 = pc') (hc : ifCond.holds cd x = false)
    (k : Go p e s below n0 Q R T (mkF m pc' Ls S)) : Go p e s below n0 Q R T (mkF m pc Ls (.int x :: S)) := by subst hp; exact stp (fun _ q => XS.ifNo X.here hx rfl hd rfl hc q) k
theorem i_icT {cd : ClassFile.Cond} {o : Int} {x y : Int32} (X : Pn p l e R s m args below meth c T h n0 cells slots) (hx : p.tables.exec = Jvm.exec) (hd : decode c.code pc = .ok (.if_icmp cd o, 3)) (hc : if_icmp.holds cd x y = true) (ho : 0 ≤ (pc : Int) + o) (hp : ((pc : Int) + o).toNat = pc')
    (k : Go p e s below n0 Q R T (mkF m pc' Ls S)) : Go p e s below n0 Q R T (mkF m pc Ls (.int y :: .int x :: S)) := stp (fun _ q => XS.icmpYes X.here hx rfl rfl hd rfl hc ho hp q) k
theorem i_icF {cd : ClassFile.Cond} {o : Int} {x y : Int32} (X : Pn p l e R s m args below meth c T h n0 cells slots) (hx : p.tables.exec = Jvm.exec) (hd : decode c.code pc = .ok (.if_icmp cd o, 3)) (hp : pc + 3 = pc') (hc : if_icmp.holds cd x y = false)
    (k : Go p e s below n0 Q R T (mkF m pc' Ls S)) : Go p e s below n0 Q R T (mkF m pc Ls (.int y :: .int x :: S)) := by subst hp; exact stp (fun _ q => XS.icmpNo X.here hx rfl hd rfl hc q) k
theorem i_acT {cd : ClassFile.ACond} {o : Int} {x y : Value} (X : Pn p l e R s m args below meth c T h n0 cells slots) (hx : p.tables.exec = Jvm.exec) (hd : decode c.code pc = .ok (.if_acmp cd o, 3)) (hx' : x.isRef = true) (hy' : y.isRef = true) (hc : XT.acmp cd x y = true) (ho : 0 ≤ (pc : Int) + o) (hp : ((pc : Int) + o).toNat = pc')
    (k : Go p e s below n0 Q R T (mkF m pc' Ls S)) : Go p e s below n0 Q R T (mkF m pc Ls (y :: x :: S)) := stp (fun _ q => XT.acmpYes X.here hx rfl rfl hd rfl hx' hy' hc ho hp q) k
theorem i_acF {cd : ClassFile.ACond} {o : Int} {x y : Value} (X : Pn p l e R s m args below meth c T h n0 cells slots) (hx : p.tables.exec = Jvm.exec) (hd : decode c.code pc = .ok (.if_acmp cd o, 3)) (hp : pc + 3 = pc') (hx' : x.isRef = true) (hy' : y.isRef = true) (hc : XT.acmp cd x y = false)
    (k : Go p e s below n0 Q R T (mkF m pc' Ls S)) : Go p e s below n0 Q R T (mkF m pc Ls (y :: x :: S)) := by subst hp; exact stp (fun _ q => XT.acmpNo X.here hx rfl hd rfl hx' hy' hc q) k
theorem i_nuT {o : Int} {x : Value} (X : Pn p l e R s m args below meth c T h n0 cells slots) (hx : p.tables.exec = Jvm.exec) (hd : decode c.code pc = .ok (.ifnull o, 3)) (hv : x = .null) (ho : 0 ≤ (pc : Int) + o) (hp : ((pc : Int) + o).toNat = pc')
    (k : Go p e s below n0 Q R T (mkF m pc' Ls S)) : Go p e s below n0 Q R T (mkF m pc Ls (x :: S)) := stp (fun _ q => XT.nullYes X.here hx rfl rfl hd rfl hv ho hp q) k
theorem i_nuF {o : Int} {x : Value} (X : Pn p l e R s m args below meth c T h n0 cells slots) (hx : p.tables.exec = Jvm.exec) (hd : decode c.code pc = .ok (.ifnull o, 3)) (hp : pc + 3 = pc') (hr : x.isRef = true) (hv : ¬ x = .null)
    (k : Go p e s below n0 Q R T (mkF m pc' Ls S)) : Go p e s below n0 Q R T (mkF m pc Ls (x :: S)) := by subst hp; exact stp (fun _ q => XT.nullNo X.here hx rfl hd rfl hr hv q) k
theorem i_nnT {o : Int} {x : Value} (X : Pn p l e R s m args below meth c T h n0 cells slots) (hx : p.tables.exec = Jvm.exec) (hd : decode c.code pc = .ok (.ifnonnull o, 3)) (hr : x.isRef = true) (hv : ¬ x = .null) (ho : 0 ≤ (pc : Int) + o) (hp : ((pc : Int) + o).toNat = pc')
    (k : Go p e s below n0 Q R T (mkF m pc' Ls S)) : Go p e s below n0 Q R T (mkF m pc Ls (x :: S)) := stp (fun _ q => XT.nonnullYes X.here hx rfl rfl hd rfl hr hv ho hp q) k
theorem i_nnF {o : Int} {x : Value} (X : Pn p l e R s m args below meth c T h n0 cells slots) (hx : p.tables.exec = Jvm.exec) (hd : decode c.code pc = .ok (.ifnonnull o, 3)) (hp : pc + 3 = pc') (hv : x = .null)
    (k : Go p e s below n0 Q R T (mkF m pc' Ls S)) : Go p e s below n0 Q R T (mkF m pc Ls (x :: S)) := by subst hp; exact stp (fun _ q => XT.nonnullNo X.here hx rfl hd rfl hv q) k
theorem i_tsI {dflt low high : Int} {offs : Array Int} {ln : Nat} {o : Int} {x : Int32} (X : Pn p l e R s m args below meth c T h n0 cells slots) (hx : p.tables.exec = Jvm.exec) (hd : decode c.code pc = .ok (.tableswitch dflt low high offs, ln)) (hin : ¬ (x.toInt < low ∨ x.toInt > high)) (hoff : offs[(x.toInt - low).toNat]? = some o) (ho : 0 ≤ (pc : Int) + o) (hp : ((pc : Int) + o).toNat = pc')
    (k : Go p e s below n0 Q R T (mkF m pc' Ls S)) : Go p e s below n0 Q R T (mkF m pc Ls (.int x :: S)) := stp (fun _ q => XS.tswIn X.here hx rfl rfl hd rfl hin hoff ho hp q) k
theorem i_tsO {dflt low high : Int} {offs : Array Int} {ln : Nat} {x : Int32} (X : Pn p l e R s m args below meth c T h n0 cells slots) (hx : p.tables.exec = Jvm.exec) (hd : decode c.code pc = .ok (.tableswitch dflt low high offs, ln)) (hout : x.toInt < low ∨ x.toInt > high) (ho : 0 ≤ (pc : Int) + dflt) (hp : ((pc : Int) + dflt).toNat = pc')
    (k : Go p e s below n0 Q R T (mkF m pc' Ls S)) : Go p e s below n0 Q R T (mkF m pc Ls (.int x :: S)) := stp (fun _ q => XS.tswOut X.here hx rfl rfl hd rfl hout ho hp q) k
theorem own_irr (x : Int32) : ¬ x < x := Int32.lt_irrefl
theorem own_nar {t : FieldType} {w : Value} (h : w.isRef = true) : narrow t w = w := by rcases XT.refc h with rfl | ⟨_, rfl⟩ <;> cases t <;> rfl
theorem own_fitO {C : String} {w : Value} (h : w.isRef = true) : fits (.object C) w = true := by rcases XT.refc h with rfl | ⟨_, rfl⟩ <;> rfl
theorem own_fitA {t : FieldType} {w : Value} (h : w.isRef = true) : fits (.array t) w = true := by rcases XT.refc h with rfl | ⟨_, rfl⟩ <;> rfl
theorem own_sta_keep {h' : Heap} {ws : List Addr} {C n d : String} {v : Value} (F : Sta Z h C n d v) (K : Keep h h' ws) (q : ∀ (a : Addr) (cl : Cell), a ∈ ws → h[a]? = some cl → cl.vm.isStatics = false) : Sta Z h' C n d v := by
  obtain ⟨cf, i, k, f, st, cell, h1, h2, h3, h4, h5, h6, h7⟩ := F
  refine ⟨cf, i, k, f, st, cell, h1, h2, h3, h4, K.2.1 st cell h5 (fun hm => ?_), h6, h7⟩
  rw [q st cell hm h5] at h6; cases h6
theorem own_sw3 {x : Int32} (h0 : ¬ x = (0 : Int32)) (h1 : ¬ x = (1 : Int32)) (h2 : ¬ x = (2 : Int32)) : x.toInt < 0 ∨ x.toInt > 2 := by
  have a : ¬ x.toInt = 0 := fun q => h0 (Int32.toInt_inj.mp q)
  have b : ¬ x.toInt = 1 := fun q => h1 (Int32.toInt_inj.mp q)
  have c : ¬ x.toInt = 2 := fun q => h2 (Int32.toInt_inj.mp q)
  omega
def Two (a b : Slot) : Prop := (a = .unset ∧ b = .unset) ∨ ∃ z, a = .val (.long z) ∧ b = .second
theorem Two.u : Two .unset .unset := Or.inl ⟨rfl, rfl⟩
theorem Two.v (z : Int64) : Two (.val (.long z)) .second := Or.inr ⟨z, rfl, rfl⟩
theorem own_nar1 : nar .boolean 1 = 1 := by decide
theorem own_nar0 : nar .boolean 0 = 0 := by decide
end Own
end Jvm.OwnKit
namespace Jvm.Pilot.@@N@@
open Jvm Jvm.ClassFile Sem Op Lib Jvm.Free Jvm.Stand Jvm.LawKit Jvm.RoadKit Jvm.OwnKit Bundle Jvm.Pilot.@@N@@.Jvm.D
theorem own_lt (x y : Int32) : x < y ↔ x.toInt < y.toInt := Int32.lt_iff_toInt_lt
theorem own_z : (0 : Int32).toInt = 0 := by decide
theorem own_nat {j : Int32} (q : 0 ≤ j.toInt) : (j.toNatClampNeg : Int) = j.toInt := (nat_of (by rw [own_lt, own_z]; omega)).symm
theorem own_ci {x : Int32} (h1 : ¬ x < (-128 : Int32)) (h2 : ¬ (127 : Int32) < x) : ¬ (x + (128 : Int32)) < 0 ∧ (x + (128 : Int32)).toNatClampNeg < 256 := by
  rw [own_lt] at h1 h2
  have c1 : (-128 : Int32).toInt = -128 := by decide
  have c2 : (127 : Int32).toInt = 127 := by decide
  have c3 : (128 : Int32).toInt = 128 := by decide
  have e : (x + (128 : Int32)).toInt = x.toInt + 128 := by rw [XT.add32 (by unfold XT.fits32; omega), c3]
  have n := own_nat (j := x + (128 : Int32)) (by omega)
  exact ⟨by rw [own_lt, own_z]; omega, by omega⟩
def own_cache (Z : State) (h : Heap) (ca : Addr) : Prop := ∃ f : Nat → Value, Av Z h ca (.object "java/lang/Integer") 256 f ∧ ∀ i, i < 256 → ∃ b, f i = .ref b ∧ Exa Z h b "java/lang/Integer"
theorem own_cache_keep {Z : State} {h h' : Heap} {ca : Addr} (F : own_cache Z h ca) (K : Keep h h' []) : own_cache Z h' ca := by
  obtain ⟨f, A, H⟩ := F
  exact ⟨f, A.keep K nin0, fun i hi => by obtain ⟨b, e, E⟩ := H i hi; exact ⟨b, e, E.keep K⟩⟩
theorem own_back {i : Nat} (hi : i < 256) : i.toInt32.toNatClampNeg = i := by
  have e : i.toInt32.toInt = i := len_toInt (by omega)
  have := own_nat (j := i.toInt32) (by omega)
  omega
theorem own_small {args : Array Value} {first s : State} {o : Option Outcome} {idx : List Nat} {t : Term} {v : Value} (h : (Term.length t).eval args first o idx s = some v) :
    ∃ a cell, t.eval args first o idx s = some (.ref a) ∧ s.arrayAt? a = some cell ∧ v = .int cell.slots.size.toInt32 ∧ cell.slots.size < 2 ^ 31 := by
  obtain ⟨a, cell, h1, h2, h3⟩ := Term.length_spec h
  refine ⟨a, cell, h1, h2, h3, ?_⟩
  by_cases q : cell.slots.size < 2 ^ 31
  · exact q
  · simp [Term.eval, h1, h2] at h
    omega
theorem own_fill {args : Array Value} {s : State} {ca : Addr} (et : (Term.static "java/lang/Integer$IntegerCache" "cache" "[Ljava/lang/Integer;").eval args s none [] s = some (.ref ca))
    (h1 : (Jvm.Cond.arrayOf (.static "java/lang/Integer$IntegerCache" "cache" "[Ljava/lang/Integer;") (.object "java/lang/Integer")).value args s none s [] = some true)
    (h2 : (Jvm.Cond.eq (.length (.static "java/lang/Integer$IntegerCache" "cache" "[Ljava/lang/Integer;")) (.int (256 : Int32))).value args s none s [] = some true)
    (h3 : (Jvm.Cond.all (.static "java/lang/Integer$IntegerCache" "cache" "[Ljava/lang/Integer;") (.and (.exactly (.elem (.static "java/lang/Integer$IntegerCache" "cache" "[Ljava/lang/Integer;") (.index 0)) "java/lang/Integer") (.eq (.field (.elem (.static "java/lang/Integer$IntegerCache" "cache" "[Ljava/lang/Integer;") (.index 0)) "java/lang/Integer" "value" "I") (.sub (.index 0) (.int (128 : Int32)))))).value args s none s [] = some true) : own_cache s s.heap ca := by
  obtain ⟨c, A⟩ := Arr.start et h1
  have f3 := A.fin (Vm.Alike.refl _)
  have hl : c.slots.size.toInt32 = 256 ∧ c.slots.size < 2 ^ 31 := by
    obtain ⟨x, y, e1, e2, -, -⟩ := cmp_v (Or.inl h2)
    have e3 : y = .int 256 := Option.some.inj (e2.symm.trans (Term.int_eval 256))
    subst e3
    obtain ⟨a', c', g1, g2, rfl, g3⟩ := own_small e1
    cases g1.symm.trans et
    cases g2.symm.trans f3
    refine ⟨?_, g3⟩
    simpa [Cond.value, e1, e2] using h2
  have hs : c.slots.size = 256 := by
    have e : c.slots.size.toInt32.toInt = c.slots.size := len_toInt hl.2
    rw [hl.1] at e
    have : (256 : Int32).toInt = 256 := by decide
    omega
  have hall := Cond.all_elim et f3 h3
  refine ⟨fun i => (c.slots[i]?).getD .null, ⟨c, A, hs, fun i hi => by rw [← hs] at hi; simp [hi]⟩, fun i hi => ?_⟩
  obtain ⟨q1, q2⟩ := and_e (hall i (by omega))
  obtain ⟨b, eb⟩ := exa_v q1
  have E := exa_at eb q1
  obtain ⟨a', j, c', u1, u2, u3, u4, u5⟩ := Term.elem_spec eb
  have u1' : (Term.static "java/lang/Integer$IntegerCache" "cache" "[Ljava/lang/Integer;").eval args s none [] s = some (.ref a') := u1
  cases u1'.symm.trans et
  cases u3.symm.trans f3
  have u6 : j = i.toInt32 := by
    have := (Term.index_eval (args := args) (first := s) (o := none) (s := s) (idx := []) i)
    have k := u2.symm.trans this
    simpa using k
  subst u6
  rw [own_back hi] at u5
  exact ⟨b, by show (c.slots[i]?).getD .null = _; rw [u5]; rfl, E⟩
theorem d7_0 : decode jdk_18_method_1_code 0 = .ok (.aload_n 0, 1) := by decide +kernel
theorem d7_1 : decode jdk_18_method_1_code 1 = .ok (.invokespecial 1, 3) := by decide +kernel
theorem d7_4 : decode jdk_18_method_1_code 4 = .ok (.return_, 1) := by decide +kernel
theorem pn0 : plainName "java/lang/Number" = true := by first | (simp [plainName, overriddenIn]; done) | decide +kernel
theorem ef_rmNum (m : MethodId) (o : Addr) : entryFrame m #[(.ref o)] 1 = mkF m 0 #[.val (.ref o)] [] := by first | (simp [entryFrame, mkF, argsToLocals, Value.category, maxLocals]; done) | rfl
def QrmNum (Z : State) (o : Addr) (n0 : Nat) (h0 : Heap) (rv : Option Value) (h : Heap) : Prop := rv = none ∧ h0 = h
abbrev RrmNum : Room := { frames := 1, cells := 0, slots := 0, locals := 12 }
set_option maxRecDepth 65536 in
set_option maxHeartbeats 40000000 in
theorem rmNum (l : Launch) (Z : State) (a0 : Array Value) (hw : ∀ d ∈ tables_1, d.before a0 Z = true) (ws : List Jvm.Cond) (o : Addr) (n0 : Nat) (h0 : Heap) (hn : n0 ≤ h0.size)   :
    Con l Z (⟨"java/lang/Number", "<init>", "()V"⟩ : MethodName) jdk_18_method_1_code 1 none ws RrmNum #[(.ref o)] h0 n0 (QrmNum Z o n0 h0) := by
  refine body (y := (⟨"java/lang/Number", "<init>", "()V"⟩ : MethodName)) (Ls := #[.val (.ref o)]) (plainFor_of_name pn0) hn (fun m => ef_rmNum m o) ?_
  intro p e s m below meth c T0 hx hby hml hown hnm hret hlk hZ X0
  refine i_aloadN (v := (.ref o)) (pc' := 1) X0 hx (hb hby d7_0) rfl rfl rfl ?_
  refine oi (pc' := 4) (W := 0) X0 hx hZ hown (hw _ (List.mem_of_getElem? (i := 78) rfl)) (hw _ (List.mem_of_getElem? (i := 33) rfl)) (hw _ (List.mem_of_getElem? (i := 34) rfl)) (by rw [hml]; rfl) (hb hby d7_1) rfl (by decide) (Nat.le_of_eq rfl) (by decide) fun T1 X1 => ?_
  refine rV X1 hx hlk hret (hb hby d7_4) (by decide) (by decide) ?_
  exact ⟨rfl, rfl⟩
theorem d6_0 : decode jdk_33_method_23_code 0 = .ok (.aload_n 0, 1) := by decide +kernel
theorem d6_1 : decode jdk_33_method_23_code 1 = .ok (.invokespecial 202, 3) := by decide +kernel
theorem d6_4 : decode jdk_33_method_23_code 4 = .ok (.aload_n 0, 1) := by decide +kernel
theorem d6_5 : decode jdk_33_method_23_code 5 = .ok (.iload_n 1, 1) := by decide +kernel
theorem d6_6 : decode jdk_33_method_23_code 6 = .ok (.putfield 205, 3) := by decide +kernel
theorem d6_9 : decode jdk_33_method_23_code 9 = .ok (.return_, 1) := by decide +kernel
theorem pn1 : plainName "java/lang/Integer" = true := by first | (simp [plainName, overriddenIn]; done) | decide +kernel
theorem ef_rmInt (m : MethodId) (o : Addr) (x : Int32) : entryFrame m #[(.ref o), (.int x)] 2 = mkF m 0 #[.val (.ref o), .val (.int x)] [] := by first | (simp [entryFrame, mkF, argsToLocals, Value.category, maxLocals]; done) | rfl
def QrmInt (Z : State) (o : Addr) (x : Int32) (n0 : Nat) (h0 : Heap) (rv : Option Value) (h : Heap) : Prop := rv = none ∧ Keep h0 h [o]
theorem pd0 : parseMethodDescriptor "()V" = some ⟨[], none⟩ := by decide +kernel
abbrev RrmInt : Room := { frames := 2, cells := 0, slots := 0, locals := 24 }
set_option maxRecDepth 65536 in
set_option maxHeartbeats 40000000 in
theorem rmInt (l : Launch) (Z : State) (a0 : Array Value) (hw : ∀ d ∈ tables_1, d.before a0 Z = true) (ws : List Jvm.Cond) (o : Addr) (x : Int32) (n0 : Nat) (h0 : Heap) (hn : n0 ≤ h0.size) (H0 : Exa Z h0 o "java/lang/Integer") (H1 : Fld Z h0 o "java/lang/Integer" "value" "I" (.int (0 : Int32))) (H2 : n0 ≤ o)  :
    Con l Z (⟨"java/lang/Integer", "<init>", "(I)V"⟩ : MethodName) jdk_33_method_23_code 2 none ws RrmInt #[(.ref o), (.int x)] h0 n0 (QrmInt Z o x n0 h0) := by
  refine body (y := (⟨"java/lang/Integer", "<init>", "(I)V"⟩ : MethodName)) (Ls := #[.val (.ref o), .val (.int x)]) (plainFor_of_name pn1) hn (fun m => ef_rmInt m o x) ?_
  intro p e s m below meth c T0 hx hby hml hown hnm hret hlk hZ X0
  refine i_aloadN (v := (.ref o)) (pc' := 1) X0 hx (hb hby d6_0) rfl rfl rfl ?_
  refine cI (y := (⟨"java/lang/Number", "<init>", "()V"⟩ : MethodName)) (rest := []) (pc' := 4) (a := o) 0 [] X0 hx hZ hown rfl (hw _ (List.mem_of_getElem? (i := 72) rfl)) (hw _ (List.mem_of_getElem? (i := 73) rfl)) (hw _ (List.mem_of_getElem? (i := 76) rfl)) (hw _ (List.mem_of_getElem? (i := 77) rfl)) (by decide) (rmNum l Z a0 hw [] o n0 h0 X0.le ) (by decide) (by decide) (by rw [hml]; rfl) rfl (lenOf pd0 rfl) rfl (Nat.le_of_eq rfl) (hb hby d6_1) rfl (by decide) (by decide) ?_
  intro r1 T1 h1 X1 q1
  obtain ⟨rfl, eh1⟩ := q1
  subst eh1
  show Go _ _ _ _ _ _ _ T1 (mkF m 4 #[.val (.ref o), .val (.int x)] [])
  refine i_aloadN (v := (.ref o)) (pc' := 5) X1 hx (hb hby d6_4) rfl rfl rfl ?_
  refine i_iloadN (v := x) (pc' := 6) X1 hx (hb hby d6_5) rfl rfl ?_
  refine pf (pc' := 9) (host := "") (ty := .int) X1 hx hZ hown (Or.inl (hw _ (List.mem_of_getElem? (i := 79) rfl))) Via.refl H1 H0 (Or.inr ⟨(hw _ (List.mem_of_getElem? (i := 80) rfl)), rfl, hnm⟩) (hw _ (List.mem_of_getElem? (i := 67) rfl)) (by decide) rfl rfl H2 (hb hby d6_6) rfl fun T2 h2 X2 W2 => ?_
  refine rV X2 hx hlk hret (hb hby d6_9) (by decide) (by decide) ?_
  exact ⟨rfl, ((Keep.refl h0 _).wr W2 (Or.inl (List.mem_of_getElem? (i := 0) rfl)))⟩
theorem d5_0 : decode jdk_33_method_22_code 0 = .ok (.iload_n 0, 1) := by decide +kernel
theorem d5_1 : decode jdk_33_method_22_code 1 = .ok (.bipush (-128), 2) := by decide +kernel
theorem d5_3 : decode jdk_33_method_22_code 3 = .ok (.if_icmp .lt 20, 3) := by decide +kernel
theorem d5_6 : decode jdk_33_method_22_code 6 = .ok (.iload_n 0, 1) := by decide +kernel
theorem d5_7 : decode jdk_33_method_22_code 7 = .ok (.getstatic 191, 3) := by decide +kernel
theorem d5_10 : decode jdk_33_method_22_code 10 = .ok (.if_icmp .gt 13, 3) := by decide +kernel
theorem d5_13 : decode jdk_33_method_22_code 13 = .ok (.getstatic 195, 3) := by decide +kernel
theorem d5_16 : decode jdk_33_method_22_code 16 = .ok (.iload_n 0, 1) := by decide +kernel
theorem d5_17 : decode jdk_33_method_22_code 17 = .ok (.sipush 128, 3) := by decide +kernel
theorem d5_20 : decode jdk_33_method_22_code 20 = .ok (.iadd, 1) := by decide +kernel
theorem d5_21 : decode jdk_33_method_22_code 21 = .ok (.aaload, 1) := by decide +kernel
theorem d5_22 : decode jdk_33_method_22_code 22 = .ok (.areturn, 1) := by decide +kernel
theorem d5_23 : decode jdk_33_method_22_code 23 = .ok (.new 1, 3) := by decide +kernel
theorem d5_26 : decode jdk_33_method_22_code 26 = .ok (.dup, 1) := by decide +kernel
theorem d5_27 : decode jdk_33_method_22_code 27 = .ok (.iload_n 0, 1) := by decide +kernel
theorem d5_28 : decode jdk_33_method_22_code 28 = .ok (.invokespecial 199, 3) := by decide +kernel
theorem d5_31 : decode jdk_33_method_22_code 31 = .ok (.areturn, 1) := by decide +kernel
theorem ef_rmVal (m : MethodId) (x : Int32) : entryFrame m #[(.int x)] 1 = mkF m 0 #[.val (.int x)] [] := by first | (simp [entryFrame, mkF, argsToLocals, Value.category, maxLocals]; done) | rfl
def QrmVal (Z : State) (x : Int32) (ca : Addr) (n0 : Nat) (h0 : Heap) (rv : Option Value) (h : Heap) : Prop := ∃ b : Addr, rv = some (.ref b) ∧ Keep h0 h [] ∧ Exa Z h b "java/lang/Integer"
theorem pd1 : parseMethodDescriptor "(I)V" = some ⟨[.int], none⟩ := by decide +kernel
abbrev RrmVal : Room := { frames := 3, cells := 1, slots := 1, locals := 38 }
set_option maxRecDepth 65536 in
set_option maxHeartbeats 40000000 in
theorem rmVal (l : Launch) (Z : State) (a0 : Array Value) (hw : ∀ d ∈ tables_1, d.before a0 Z = true) (ws : List Jvm.Cond) (x : Int32) (ca : Addr) (n0 : Nat) (h0 : Heap) (hn : n0 ≤ h0.size) (H0 : Sta Z h0 "java/lang/Integer$IntegerCache" "high" "I" (.int (127 : Int32))) (H1 : Sta Z h0 "java/lang/Integer$IntegerCache" "cache" "[Ljava/lang/Integer;" (.ref ca)) (H2 : own_cache Z h0 ca)  :
    Con l Z (⟨"java/lang/Integer", "valueOf", "(I)Ljava/lang/Integer;"⟩ : MethodName) jdk_33_method_22_code 1 (some (.object "java/lang/Integer")) ws RrmVal #[(.int x)] h0 n0 (QrmVal Z x ca n0 h0) := by
  refine body (y := (⟨"java/lang/Integer", "valueOf", "(I)Ljava/lang/Integer;"⟩ : MethodName)) (Ls := #[.val (.int x)]) (plainFor_of_name pn1) hn (fun m => ef_rmVal m x) ?_
  intro p e s m below meth c T0 hx hby hml hown hnm hret hlk hZ X0
  refine i_iloadN (v := x) (pc' := 1) X0 hx (hb hby d5_0) rfl rfl ?_
  refine i_bipush (pc' := 3) (-128 : Int32) X0 hx (hb hby d5_1) rfl (by decide) ?_
  by_cases hc1 : x < (-128 : Int32)
  · skip
    refine i_icT (pc' := 23) X0 hx (hb hby d5_3) (XT.ii_lt_t hc1) (by decide) (by decide) ?_
    refine nw (pc' := 26) X0 hx hZ hown (hw _ (List.mem_of_getElem? (i := 66) rfl)) (hw _ (List.mem_of_getElem? (i := 67) rfl)) (hw _ (List.mem_of_getElem? (i := 58) rfl)) (hb hby d5_23) rfl (by decide) (by decide) fun T2 h2 b2 X2 g2 ge2 E2 A2 D2 => ?_
    have sz_b2 : h0.size ≤ b2 := Nat.le_trans ((Keep.refl h0 _) : Keep h0 h0 []).1 (Nat.le_of_eq g2.symm)
    have K2 : Keep h0 h2 [] := ((Keep.refl h0 _) : Keep h0 h0 []).ext E2
    refine i_dup (pc' := 27) X2 hx (hb hby d5_26) rfl rfl ?_
    refine i_iloadN (v := x) (pc' := 28) X2 hx (hb hby d5_27) rfl rfl ?_
    have F3 : Fld Z h2 b2 "java/lang/Integer" "value" "I" (.int (0 : Int32)) := (D2 (Or.inr (hw _ (List.mem_of_getElem? (i := 80) rfl))) (ty := .int) (by decide))
    refine cI (y := (⟨"java/lang/Integer", "<init>", "(I)V"⟩ : MethodName)) (rest := [(.ref b2)]) (pc' := 31) (a := b2) 1 [(.int x)] X2 hx hZ hown rfl (hw _ (List.mem_of_getElem? (i := 68) rfl)) (hw _ (List.mem_of_getElem? (i := 69) rfl)) (hw _ (List.mem_of_getElem? (i := 58) rfl)) (hw _ (List.mem_of_getElem? (i := 71) rfl)) (by decide) (rmInt l Z a0 hw [] b2 x n0 h2 X2.le A2 F3 ge2) (by decide) (by decide) (by rw [hml]; rfl) rfl (lenOf pd1 rfl) rfl (Nat.le_of_eq rfl) (hb hby d5_28) rfl (by decide) (by decide) ?_
    intro r4 T4 h4 X4 q4
    obtain ⟨rfl, K4c⟩ := q4
    show Go _ _ _ _ _ _ _ T4 (mkF m 31 #[.val (.int x)] [(.ref b2)])
    refine rA X4 hx hlk hret rfl rfl rfl (hb hby d5_31) (by decide) (by decide) ?_
    have F5 : Exa Z h4 b2 "java/lang/Integer" := (A2.keep K4c)
    exact ⟨b2, rfl, ((K2 : Keep h0 h2 []).trans K4c (allS (Or.inr sz_b2) all0)), F5⟩
  · skip
    refine i_icF (pc' := 6) X0 hx (hb hby d5_3) rfl (XT.ii_lt_f hc1) ?_
    refine i_iloadN (v := x) (pc' := 7) X0 hx (hb hby d5_6) rfl rfl ?_
    refine gs (pc' := 10) (host := "") X0 hx hZ hown (Or.inl (hw _ (List.mem_of_getElem? (i := 60) rfl))) Via.refl H0 (hb hby d5_7) rfl fun T6 X6 => ?_
    by_cases hc7 : (127 : Int32) < x
    · skip
      refine i_icT (pc' := 23) X6 hx (hb hby d5_10) (XT.ii_gt_t hc7) (by decide) (by decide) ?_
      refine nw (pc' := 26) X6 hx hZ hown (hw _ (List.mem_of_getElem? (i := 66) rfl)) (hw _ (List.mem_of_getElem? (i := 67) rfl)) (hw _ (List.mem_of_getElem? (i := 58) rfl)) (hb hby d5_23) rfl (by decide) (by decide) fun T8 h8 b8 X8 g8 ge8 E8 A8 D8 => ?_
      have sz_b8 : h0.size ≤ b8 := Nat.le_trans ((Keep.refl h0 _) : Keep h0 h0 []).1 (Nat.le_of_eq g8.symm)
      have K8 : Keep h0 h8 [] := ((Keep.refl h0 _) : Keep h0 h0 []).ext E8
      refine i_dup (pc' := 27) X8 hx (hb hby d5_26) rfl rfl ?_
      refine i_iloadN (v := x) (pc' := 28) X8 hx (hb hby d5_27) rfl rfl ?_
      have F9 : Fld Z h8 b8 "java/lang/Integer" "value" "I" (.int (0 : Int32)) := (D8 (Or.inr (hw _ (List.mem_of_getElem? (i := 80) rfl))) (ty := .int) (by decide))
      refine cI (y := (⟨"java/lang/Integer", "<init>", "(I)V"⟩ : MethodName)) (rest := [(.ref b8)]) (pc' := 31) (a := b8) 1 [(.int x)] X8 hx hZ hown rfl (hw _ (List.mem_of_getElem? (i := 68) rfl)) (hw _ (List.mem_of_getElem? (i := 69) rfl)) (hw _ (List.mem_of_getElem? (i := 58) rfl)) (hw _ (List.mem_of_getElem? (i := 71) rfl)) (by decide) (rmInt l Z a0 hw [] b8 x n0 h8 X8.le A8 F9 ge8) (by decide) (by decide) (by rw [hml]; rfl) rfl (lenOf pd1 rfl) rfl (Nat.le_of_eq rfl) (hb hby d5_28) rfl (by decide) (by decide) ?_
      intro r10 T10 h10 X10 q10
      obtain ⟨rfl, K10c⟩ := q10
      show Go _ _ _ _ _ _ _ T10 (mkF m 31 #[.val (.int x)] [(.ref b8)])
      refine rA X10 hx hlk hret rfl rfl rfl (hb hby d5_31) (by decide) (by decide) ?_
      have F11 : Exa Z h10 b8 "java/lang/Integer" := (A8.keep K10c)
      exact ⟨b8, rfl, ((K8 : Keep h0 h8 []).trans K10c (allS (Or.inr sz_b8) all0)), F11⟩
    · skip
      refine i_icF (pc' := 13) X6 hx (hb hby d5_10) rfl (XT.ii_gt_f hc7) ?_
      refine gs (pc' := 16) (host := "") X6 hx hZ hown (Or.inl (hw _ (List.mem_of_getElem? (i := 62) rfl))) Via.refl H1 (hb hby d5_13) rfl fun T12 X12 => ?_
      refine i_iloadN (v := x) (pc' := 17) X12 hx (hb hby d5_16) rfl rfl ?_
      refine i_sipush (pc' := 20) (128 : Int32) X12 hx (hb hby d5_17) rfl (by decide) ?_
      refine i_iadd (pc' := 21) X12 hx (hb hby d5_20) rfl ?_
      obtain ⟨fc, AC, HC⟩ := H2
      have hi := own_ci hc1 hc7
      obtain ⟨bc, fb, EC⟩ := HC _ hi.2
      refine ldR (v := (.ref bc)) (pc' := 22) X12 hx hZ AC rfl hi.1 hi.2 fb (hb hby d5_21) rfl ?_
      refine rA X12 hx hlk hret rfl rfl rfl (hb hby d5_22) (by decide) (by decide) ?_
      exact ⟨bc, rfl, (Keep.refl h0 _), EC⟩
def own_eq7 (a1 b1 a2 b2 a3 b3 a4 b4 : Int32) (r s : Addr) (a5 b5 a6 b6 : Int32) : Int32 := (if a1 = b1 then (if a2 = b2 then (if a3 = b3 then (if a4 = b4 then (if ((.ref r) : Value) = (.ref s) then (if a5 = b5 then (if a6 = b6 then (1 : Int32) else (0 : Int32)) else (0 : Int32)) else (0 : Int32)) else (0 : Int32)) else (0 : Int32)) else (0 : Int32)) else (0 : Int32))
theorem own_eq7s (a1 b1 a2 b2 a3 b3 a4 b4 : Int32) (r s : Addr) (a5 b5 a6 b6 : Int32) : own_eq7 a1 b1 a2 b2 a3 b3 a4 b4 r s a5 b5 a6 b6 = own_eq7 b1 a1 b2 a2 b3 a3 b4 a4 s r b5 a5 b6 a6 := by unfold own_eq7; simp only [eq_comm]
theorem own_eq7r (a1 b1 a2 b2 a3 b3 a4 b4 : Int32) (r : Addr) (a5 b5 a6 b6 : Int32) : own_eq7 a1 b1 a2 b2 a3 b3 a4 b4 r r a5 b5 a6 b6 = (if a1 = b1 then (if a2 = b2 then (if a3 = b3 then (if a4 = b4 then (if a5 = b5 then (if a6 = b6 then (1 : Int32) else (0 : Int32)) else (0 : Int32)) else (0 : Int32)) else (0 : Int32)) else (0 : Int32)) else (0 : Int32)) := by
  unfold own_eq7; simp only [if_true]
theorem own_rem9 (x : Int32) : 0 ≤ ((x &&& (255 : Int32)) % (9 : Int32)).toInt ∧ ((x &&& (255 : Int32)) % (9 : Int32)).toInt ≤ 8 := by
  have a := c_and x 255 (by decide)
  have b := (c_irem (x &&& 255) 9 9 (by decide)).1 a.1
  rw [b]; omega
theorem own_ix9 {k : Int32} (h : 0 ≤ k.toInt ∧ k.toInt ≤ 8) : ¬ k < 0 ∧ k.toNatClampNeg < 9 := by
  have := own_nat (j := k) h.1
  exact ⟨by rw [own_lt, own_z]; omega, by omega⟩
theorem d1_0 : decode method_2_code 0 = .ok (.bipush 9, 2) := by decide +kernel
theorem d1_2 : decode method_2_code 2 = .ok (.anewarray 7, 3) := by decide +kernel
theorem d1_5 : decode method_2_code 5 = .ok (.dup, 1) := by decide +kernel
theorem d1_6 : decode method_2_code 6 = .ok (.iconst 0, 1) := by decide +kernel
theorem d1_7 : decode method_2_code 7 = .ok (.getstatic 9, 3) := by decide +kernel
theorem d1_10 : decode method_2_code 10 = .ok (.aastore, 1) := by decide +kernel
theorem d1_11 : decode method_2_code 11 = .ok (.dup, 1) := by decide +kernel
theorem d1_12 : decode method_2_code 12 = .ok (.iconst 1, 1) := by decide +kernel
theorem d1_13 : decode method_2_code 13 = .ok (.getstatic 13, 3) := by decide +kernel
theorem d1_16 : decode method_2_code 16 = .ok (.aastore, 1) := by decide +kernel
theorem d1_17 : decode method_2_code 17 = .ok (.dup, 1) := by decide +kernel
theorem d1_18 : decode method_2_code 18 = .ok (.iconst 2, 1) := by decide +kernel
theorem d1_19 : decode method_2_code 19 = .ok (.getstatic 16, 3) := by decide +kernel
theorem d1_22 : decode method_2_code 22 = .ok (.aastore, 1) := by decide +kernel
theorem d1_23 : decode method_2_code 23 = .ok (.dup, 1) := by decide +kernel
theorem d1_24 : decode method_2_code 24 = .ok (.iconst 3, 1) := by decide +kernel
theorem d1_25 : decode method_2_code 25 = .ok (.getstatic 19, 3) := by decide +kernel
theorem d1_28 : decode method_2_code 28 = .ok (.aastore, 1) := by decide +kernel
theorem d1_29 : decode method_2_code 29 = .ok (.dup, 1) := by decide +kernel
theorem d1_30 : decode method_2_code 30 = .ok (.iconst 4, 1) := by decide +kernel
theorem d1_31 : decode method_2_code 31 = .ok (.getstatic 22, 3) := by decide +kernel
theorem d1_34 : decode method_2_code 34 = .ok (.aastore, 1) := by decide +kernel
theorem d1_35 : decode method_2_code 35 = .ok (.dup, 1) := by decide +kernel
theorem d1_36 : decode method_2_code 36 = .ok (.iconst 5, 1) := by decide +kernel
theorem d1_37 : decode method_2_code 37 = .ok (.getstatic 25, 3) := by decide +kernel
theorem d1_40 : decode method_2_code 40 = .ok (.aastore, 1) := by decide +kernel
theorem d1_41 : decode method_2_code 41 = .ok (.dup, 1) := by decide +kernel
theorem d1_42 : decode method_2_code 42 = .ok (.bipush 6, 2) := by decide +kernel
theorem d1_44 : decode method_2_code 44 = .ok (.getstatic 28, 3) := by decide +kernel
theorem d1_47 : decode method_2_code 47 = .ok (.aastore, 1) := by decide +kernel
theorem d1_48 : decode method_2_code 48 = .ok (.dup, 1) := by decide +kernel
theorem d1_49 : decode method_2_code 49 = .ok (.bipush 7, 2) := by decide +kernel
theorem d1_51 : decode method_2_code 51 = .ok (.getstatic 31, 3) := by decide +kernel
theorem d1_54 : decode method_2_code 54 = .ok (.aastore, 1) := by decide +kernel
theorem d1_55 : decode method_2_code 55 = .ok (.dup, 1) := by decide +kernel
theorem d1_56 : decode method_2_code 56 = .ok (.bipush 8, 2) := by decide +kernel
theorem d1_58 : decode method_2_code 58 = .ok (.getstatic 34, 3) := by decide +kernel
theorem d1_61 : decode method_2_code 61 = .ok (.aastore, 1) := by decide +kernel
theorem d1_62 : decode method_2_code 62 = .ok (.astore_n 1, 1) := by decide +kernel
theorem d1_63 : decode method_2_code 63 = .ok (.aload_n 1, 1) := by decide +kernel
theorem d1_64 : decode method_2_code 64 = .ok (.iload_n 0, 1) := by decide +kernel
theorem d1_65 : decode method_2_code 65 = .ok (.aaload, 1) := by decide +kernel
theorem d1_66 : decode method_2_code 66 = .ok (.areturn, 1) := by decide +kernel
theorem pn2 : plainName "com/example/shoal_creek/shoalcreek/StepEqualsPinLaw" = true := by first | (simp [plainName, overriddenIn]; done) | decide +kernel
theorem ef_rmR (m : MethodId) (k : Int32) : entryFrame m #[(.int k)] 2 = mkF m 0 #[.val (.int k), .unset] [] := by first | (simp [entryFrame, mkF, argsToLocals, Value.category, maxLocals]; done) | rfl
def QrmR (Z : State) (k : Int32) (ra0 : Addr) (ra1 : Addr) (ra2 : Addr) (ra3 : Addr) (ra4 : Addr) (ra5 : Addr) (ra6 : Addr) (ra7 : Addr) (ra8 : Addr) (n0 : Nat) (h0 : Heap) (rv : Option Value) (h : Heap) : Prop := ∃ b : Addr, rv = some (.ref b) ∧ Keep h0 h []
abbrev RrmR : Room := { frames := 0, cells := 1, slots := 9, locals := 0 }
set_option maxRecDepth 65536 in
set_option maxHeartbeats 40000000 in
theorem rmR (l : Launch) (Z : State) (a0 : Array Value) (hw : ∀ d ∈ tables_1, d.before a0 Z = true) (ws : List Jvm.Cond) (k : Int32) (ra0 : Addr) (ra1 : Addr) (ra2 : Addr) (ra3 : Addr) (ra4 : Addr) (ra5 : Addr) (ra6 : Addr) (ra7 : Addr) (ra8 : Addr) (n0 : Nat) (h0 : Heap) (hn : n0 ≤ h0.size) (H0 : Sta Z h0 "com/example/shoal_creek/shoalcreek/ShiftRule" "BAD_CHARACTER" "Lcom/example/shoal_creek/shoalcreek/ShiftRule;" (.ref ra0)) (H1 : Sta Z h0 "com/example/shoal_creek/shoalcreek/ShiftRule" "GOOD_SUFFIX" "Lcom/example/shoal_creek/shoalcreek/ShiftRule;" (.ref ra1)) (H2 : Sta Z h0 "com/example/shoal_creek/shoalcreek/ShiftRule" "FULL_MATCH" "Lcom/example/shoal_creek/shoalcreek/ShiftRule;" (.ref ra2)) (H3 : Sta Z h0 "com/example/shoal_creek/shoalcreek/ShiftRule" "NEXT_WINDOW" "Lcom/example/shoal_creek/shoalcreek/ShiftRule;" (.ref ra3)) (H4 : Sta Z h0 "com/example/shoal_creek/shoalcreek/ShiftRule" "BORDER" "Lcom/example/shoal_creek/shoalcreek/ShiftRule;" (.ref ra4)) (H5 : Sta Z h0 "com/example/shoal_creek/shoalcreek/ShiftRule" "ROLLING_HASH" "Lcom/example/shoal_creek/shoalcreek/ShiftRule;" (.ref ra5)) (H6 : Sta Z h0 "com/example/shoal_creek/shoalcreek/ShiftRule" "LAST_CHARS" "Lcom/example/shoal_creek/shoalcreek/ShiftRule;" (.ref ra6)) (H7 : Sta Z h0 "com/example/shoal_creek/shoalcreek/ShiftRule" "BLOCK_END" "Lcom/example/shoal_creek/shoalcreek/ShiftRule;" (.ref ra7)) (H8 : Sta Z h0 "com/example/shoal_creek/shoalcreek/ShiftRule" "NONE" "Lcom/example/shoal_creek/shoalcreek/ShiftRule;" (.ref ra8)) (H9 : Exa Z h0 ra0 "com/example/shoal_creek/shoalcreek/ShiftRule") (H10 : Exa Z h0 ra1 "com/example/shoal_creek/shoalcreek/ShiftRule") (H11 : Exa Z h0 ra2 "com/example/shoal_creek/shoalcreek/ShiftRule") (H12 : Exa Z h0 ra3 "com/example/shoal_creek/shoalcreek/ShiftRule") (H13 : Exa Z h0 ra4 "com/example/shoal_creek/shoalcreek/ShiftRule") (H14 : Exa Z h0 ra5 "com/example/shoal_creek/shoalcreek/ShiftRule") (H15 : Exa Z h0 ra6 "com/example/shoal_creek/shoalcreek/ShiftRule") (H16 : Exa Z h0 ra7 "com/example/shoal_creek/shoalcreek/ShiftRule") (H17 : Exa Z h0 ra8 "com/example/shoal_creek/shoalcreek/ShiftRule") (hk : 0 ≤ k.toInt ∧ k.toInt ≤ 8) :
    Con l Z (⟨"com/example/shoal_creek/shoalcreek/StepEqualsPinLaw", "rule", "(I)Lcom/example/shoal_creek/shoalcreek/ShiftRule;"⟩ : MethodName) method_2_code 2 (some (.object "com/example/shoal_creek/shoalcreek/ShiftRule")) ws RrmR #[(.int k)] h0 n0 (QrmR Z k ra0 ra1 ra2 ra3 ra4 ra5 ra6 ra7 ra8 n0 h0) := by
  refine body (y := (⟨"com/example/shoal_creek/shoalcreek/StepEqualsPinLaw", "rule", "(I)Lcom/example/shoal_creek/shoalcreek/ShiftRule;"⟩ : MethodName)) (Ls := #[.val (.int k), .unset]) (plainFor_of_name pn2) hn (fun m => ef_rmR m k) ?_
  intro p e s m below meth c T0 hx hby hml hown hnm hret hlk hZ X0
  refine i_bipush (pc' := 2) (9 : Int32) X0 hx (hb hby d1_0) rfl (by decide) ?_
  refine nr (pc' := 5) 9 X0 hx hZ hown (hw _ (List.mem_of_getElem? (i := 4) rfl)) (hw _ (List.mem_of_getElem? (i := 5) rfl)) (hb hby d1_2) rfl (by decide) (by decide) (by decide) (by decide) (by decide) fun T1 h1 b1 X1 g1 ge1 E1 V1 => ?_
  have ne_ra0_b1 : ra0 ≠ b1 := Nat.ne_of_lt (Nat.lt_of_lt_of_eq H9.lt g1.symm)
  have ne_ra1_b1 : ra1 ≠ b1 := Nat.ne_of_lt (Nat.lt_of_lt_of_eq H10.lt g1.symm)
  have ne_ra2_b1 : ra2 ≠ b1 := Nat.ne_of_lt (Nat.lt_of_lt_of_eq H11.lt g1.symm)
  have ne_ra3_b1 : ra3 ≠ b1 := Nat.ne_of_lt (Nat.lt_of_lt_of_eq H12.lt g1.symm)
  have ne_ra4_b1 : ra4 ≠ b1 := Nat.ne_of_lt (Nat.lt_of_lt_of_eq H13.lt g1.symm)
  have ne_ra5_b1 : ra5 ≠ b1 := Nat.ne_of_lt (Nat.lt_of_lt_of_eq H14.lt g1.symm)
  have ne_ra6_b1 : ra6 ≠ b1 := Nat.ne_of_lt (Nat.lt_of_lt_of_eq H15.lt g1.symm)
  have ne_ra7_b1 : ra7 ≠ b1 := Nat.ne_of_lt (Nat.lt_of_lt_of_eq H16.lt g1.symm)
  have ne_ra8_b1 : ra8 ≠ b1 := Nat.ne_of_lt (Nat.lt_of_lt_of_eq H17.lt g1.symm)
  have sz_b1 : h0.size ≤ b1 := Nat.le_trans ((Keep.refl h0 _) : Keep h0 h0 []).1 (Nat.le_of_eq g1.symm)
  have K1 : Keep h0 h1 [] := ((Keep.refl h0 _) : Keep h0 h0 []).ext E1
  have A1 : AvR Z h1 b1 "com/example/shoal_creek/shoalcreek/ShiftRule" 9 (fun _ => .null) := V1
  refine i_dup (pc' := 6) X1 hx (hb hby d1_5) rfl rfl ?_
  refine i_iconst (pc' := 7) (0 : Int32) X1 hx (hb hby d1_6) rfl (by decide) ?_
  have F2 : Sta Z h1 "com/example/shoal_creek/shoalcreek/ShiftRule" "BAD_CHARACTER" "Lcom/example/shoal_creek/shoalcreek/ShiftRule;" (.ref ra0) := (Jvm.RoadKit.Sta.ext E1 H0)
  refine gs (pc' := 10) (host := "") X1 hx hZ hown (Or.inl (hw _ (List.mem_of_getElem? (i := 6) rfl))) Via.refl F2 (hb hby d1_7) rfl fun T3 X3 => ?_
  have F4 : Exa Z h1 ra0 "com/example/shoal_creek/shoalcreek/ShiftRule" := (Jvm.RoadKit.Exa.ext E1 H9)
  refine saR (pc' := 11) X3 hx hZ A1 (Ins.self F4) ge1 (by decide) (by decide) (hb hby d1_10) rfl fun T5 h5 X5 W5 => ?_
  refine i_dup (pc' := 12) X5 hx (hb hby d1_11) rfl rfl ?_
  refine i_iconst (pc' := 13) (1 : Int32) X5 hx (hb hby d1_12) rfl (by decide) ?_
  have F6 : Sta Z h5 "com/example/shoal_creek/shoalcreek/ShiftRule" "GOOD_SUFFIX" "Lcom/example/shoal_creek/shoalcreek/ShiftRule;" (.ref ra1) := (Jvm.RoadKit.Sta.wr W5 (Jvm.RoadKit.Sta.ext E1 H1))
  refine gs (pc' := 16) (host := "") X5 hx hZ hown (Or.inl (hw _ (List.mem_of_getElem? (i := 10) rfl))) Via.refl F6 (hb hby d1_13) rfl fun T7 X7 => ?_
  have F8 : AvR Z h5 b1 "com/example/shoal_creek/shoalcreek/ShiftRule" 9 (fun i => if i = 0 then (.ref ra0) else .null) := (AvR.set (k := 0) (by decide) A1 W5)
  have F9 : Exa Z h5 ra1 "com/example/shoal_creek/shoalcreek/ShiftRule" := (Jvm.RoadKit.Exa.wr W5 (Jvm.RoadKit.Exa.ext E1 H10))
  refine saR (pc' := 17) X7 hx hZ F8 (Ins.self F9) ge1 (by decide) (by decide) (hb hby d1_16) rfl fun T10 h10 X10 W10 => ?_
  refine i_dup (pc' := 18) X10 hx (hb hby d1_17) rfl rfl ?_
  refine i_iconst (pc' := 19) (2 : Int32) X10 hx (hb hby d1_18) rfl (by decide) ?_
  have F11 : Sta Z h10 "com/example/shoal_creek/shoalcreek/ShiftRule" "FULL_MATCH" "Lcom/example/shoal_creek/shoalcreek/ShiftRule;" (.ref ra2) := (Jvm.RoadKit.Sta.wr W10 (Jvm.RoadKit.Sta.wr W5 (Jvm.RoadKit.Sta.ext E1 H2)))
  refine gs (pc' := 22) (host := "") X10 hx hZ hown (Or.inl (hw _ (List.mem_of_getElem? (i := 12) rfl))) Via.refl F11 (hb hby d1_19) rfl fun T12 X12 => ?_
  have F13 : AvR Z h10 b1 "com/example/shoal_creek/shoalcreek/ShiftRule" 9 (fun i => if i = 1 then (.ref ra1) else if i = 0 then (.ref ra0) else .null) := (AvR.set (k := 1) (by decide) F8 W10)
  have F14 : Exa Z h10 ra2 "com/example/shoal_creek/shoalcreek/ShiftRule" := (Jvm.RoadKit.Exa.wr W10 (Jvm.RoadKit.Exa.wr W5 (Jvm.RoadKit.Exa.ext E1 H11)))
  refine saR (pc' := 23) X12 hx hZ F13 (Ins.self F14) ge1 (by decide) (by decide) (hb hby d1_22) rfl fun T15 h15 X15 W15 => ?_
  refine i_dup (pc' := 24) X15 hx (hb hby d1_23) rfl rfl ?_
  refine i_iconst (pc' := 25) (3 : Int32) X15 hx (hb hby d1_24) rfl (by decide) ?_
  have F16 : Sta Z h15 "com/example/shoal_creek/shoalcreek/ShiftRule" "NEXT_WINDOW" "Lcom/example/shoal_creek/shoalcreek/ShiftRule;" (.ref ra3) := (Jvm.RoadKit.Sta.wr W15 (Jvm.RoadKit.Sta.wr W10 (Jvm.RoadKit.Sta.wr W5 (Jvm.RoadKit.Sta.ext E1 H3))))
  refine gs (pc' := 28) (host := "") X15 hx hZ hown (Or.inl (hw _ (List.mem_of_getElem? (i := 14) rfl))) Via.refl F16 (hb hby d1_25) rfl fun T17 X17 => ?_
  have F18 : AvR Z h15 b1 "com/example/shoal_creek/shoalcreek/ShiftRule" 9 (fun i => if i = 2 then (.ref ra2) else if i = 1 then (.ref ra1) else if i = 0 then (.ref ra0) else .null) := (AvR.set (k := 2) (by decide) F13 W15)
  have F19 : Exa Z h15 ra3 "com/example/shoal_creek/shoalcreek/ShiftRule" := (Jvm.RoadKit.Exa.wr W15 (Jvm.RoadKit.Exa.wr W10 (Jvm.RoadKit.Exa.wr W5 (Jvm.RoadKit.Exa.ext E1 H12))))
  refine saR (pc' := 29) X17 hx hZ F18 (Ins.self F19) ge1 (by decide) (by decide) (hb hby d1_28) rfl fun T20 h20 X20 W20 => ?_
  refine i_dup (pc' := 30) X20 hx (hb hby d1_29) rfl rfl ?_
  refine i_iconst (pc' := 31) (4 : Int32) X20 hx (hb hby d1_30) rfl (by decide) ?_
  have F21 : Sta Z h20 "com/example/shoal_creek/shoalcreek/ShiftRule" "BORDER" "Lcom/example/shoal_creek/shoalcreek/ShiftRule;" (.ref ra4) := (Jvm.RoadKit.Sta.wr W20 (Jvm.RoadKit.Sta.wr W15 (Jvm.RoadKit.Sta.wr W10 (Jvm.RoadKit.Sta.wr W5 (Jvm.RoadKit.Sta.ext E1 H4)))))
  refine gs (pc' := 34) (host := "") X20 hx hZ hown (Or.inl (hw _ (List.mem_of_getElem? (i := 16) rfl))) Via.refl F21 (hb hby d1_31) rfl fun T22 X22 => ?_
  have F23 : AvR Z h20 b1 "com/example/shoal_creek/shoalcreek/ShiftRule" 9 (fun i => if i = 3 then (.ref ra3) else if i = 2 then (.ref ra2) else if i = 1 then (.ref ra1) else if i = 0 then (.ref ra0) else .null) := (AvR.set (k := 3) (by decide) F18 W20)
  have F24 : Exa Z h20 ra4 "com/example/shoal_creek/shoalcreek/ShiftRule" := (Jvm.RoadKit.Exa.wr W20 (Jvm.RoadKit.Exa.wr W15 (Jvm.RoadKit.Exa.wr W10 (Jvm.RoadKit.Exa.wr W5 (Jvm.RoadKit.Exa.ext E1 H13)))))
  refine saR (pc' := 35) X22 hx hZ F23 (Ins.self F24) ge1 (by decide) (by decide) (hb hby d1_34) rfl fun T25 h25 X25 W25 => ?_
  refine i_dup (pc' := 36) X25 hx (hb hby d1_35) rfl rfl ?_
  refine i_iconst (pc' := 37) (5 : Int32) X25 hx (hb hby d1_36) rfl (by decide) ?_
  have F26 : Sta Z h25 "com/example/shoal_creek/shoalcreek/ShiftRule" "ROLLING_HASH" "Lcom/example/shoal_creek/shoalcreek/ShiftRule;" (.ref ra5) := (Jvm.RoadKit.Sta.wr W25 (Jvm.RoadKit.Sta.wr W20 (Jvm.RoadKit.Sta.wr W15 (Jvm.RoadKit.Sta.wr W10 (Jvm.RoadKit.Sta.wr W5 (Jvm.RoadKit.Sta.ext E1 H5))))))
  refine gs (pc' := 40) (host := "") X25 hx hZ hown (Or.inl (hw _ (List.mem_of_getElem? (i := 18) rfl))) Via.refl F26 (hb hby d1_37) rfl fun T27 X27 => ?_
  have F28 : AvR Z h25 b1 "com/example/shoal_creek/shoalcreek/ShiftRule" 9 (fun i => if i = 4 then (.ref ra4) else if i = 3 then (.ref ra3) else if i = 2 then (.ref ra2) else if i = 1 then (.ref ra1) else if i = 0 then (.ref ra0) else .null) := (AvR.set (k := 4) (by decide) F23 W25)
  have F29 : Exa Z h25 ra5 "com/example/shoal_creek/shoalcreek/ShiftRule" := (Jvm.RoadKit.Exa.wr W25 (Jvm.RoadKit.Exa.wr W20 (Jvm.RoadKit.Exa.wr W15 (Jvm.RoadKit.Exa.wr W10 (Jvm.RoadKit.Exa.wr W5 (Jvm.RoadKit.Exa.ext E1 H14))))))
  refine saR (pc' := 41) X27 hx hZ F28 (Ins.self F29) ge1 (by decide) (by decide) (hb hby d1_40) rfl fun T30 h30 X30 W30 => ?_
  refine i_dup (pc' := 42) X30 hx (hb hby d1_41) rfl rfl ?_
  refine i_bipush (pc' := 44) (6 : Int32) X30 hx (hb hby d1_42) rfl (by decide) ?_
  have F31 : Sta Z h30 "com/example/shoal_creek/shoalcreek/ShiftRule" "LAST_CHARS" "Lcom/example/shoal_creek/shoalcreek/ShiftRule;" (.ref ra6) := (Jvm.RoadKit.Sta.wr W30 (Jvm.RoadKit.Sta.wr W25 (Jvm.RoadKit.Sta.wr W20 (Jvm.RoadKit.Sta.wr W15 (Jvm.RoadKit.Sta.wr W10 (Jvm.RoadKit.Sta.wr W5 (Jvm.RoadKit.Sta.ext E1 H6)))))))
  refine gs (pc' := 47) (host := "") X30 hx hZ hown (Or.inl (hw _ (List.mem_of_getElem? (i := 20) rfl))) Via.refl F31 (hb hby d1_44) rfl fun T32 X32 => ?_
  have F33 : AvR Z h30 b1 "com/example/shoal_creek/shoalcreek/ShiftRule" 9 (fun i => if i = 5 then (.ref ra5) else if i = 4 then (.ref ra4) else if i = 3 then (.ref ra3) else if i = 2 then (.ref ra2) else if i = 1 then (.ref ra1) else if i = 0 then (.ref ra0) else .null) := (AvR.set (k := 5) (by decide) F28 W30)
  have F34 : Exa Z h30 ra6 "com/example/shoal_creek/shoalcreek/ShiftRule" := (Jvm.RoadKit.Exa.wr W30 (Jvm.RoadKit.Exa.wr W25 (Jvm.RoadKit.Exa.wr W20 (Jvm.RoadKit.Exa.wr W15 (Jvm.RoadKit.Exa.wr W10 (Jvm.RoadKit.Exa.wr W5 (Jvm.RoadKit.Exa.ext E1 H15)))))))
  refine saR (pc' := 48) X32 hx hZ F33 (Ins.self F34) ge1 (by decide) (by decide) (hb hby d1_47) rfl fun T35 h35 X35 W35 => ?_
  refine i_dup (pc' := 49) X35 hx (hb hby d1_48) rfl rfl ?_
  refine i_bipush (pc' := 51) (7 : Int32) X35 hx (hb hby d1_49) rfl (by decide) ?_
  have F36 : Sta Z h35 "com/example/shoal_creek/shoalcreek/ShiftRule" "BLOCK_END" "Lcom/example/shoal_creek/shoalcreek/ShiftRule;" (.ref ra7) := (Jvm.RoadKit.Sta.wr W35 (Jvm.RoadKit.Sta.wr W30 (Jvm.RoadKit.Sta.wr W25 (Jvm.RoadKit.Sta.wr W20 (Jvm.RoadKit.Sta.wr W15 (Jvm.RoadKit.Sta.wr W10 (Jvm.RoadKit.Sta.wr W5 (Jvm.RoadKit.Sta.ext E1 H7))))))))
  refine gs (pc' := 54) (host := "") X35 hx hZ hown (Or.inl (hw _ (List.mem_of_getElem? (i := 22) rfl))) Via.refl F36 (hb hby d1_51) rfl fun T37 X37 => ?_
  have F38 : AvR Z h35 b1 "com/example/shoal_creek/shoalcreek/ShiftRule" 9 (fun i => if i = 6 then (.ref ra6) else if i = 5 then (.ref ra5) else if i = 4 then (.ref ra4) else if i = 3 then (.ref ra3) else if i = 2 then (.ref ra2) else if i = 1 then (.ref ra1) else if i = 0 then (.ref ra0) else .null) := (AvR.set (k := 6) (by decide) F33 W35)
  have F39 : Exa Z h35 ra7 "com/example/shoal_creek/shoalcreek/ShiftRule" := (Jvm.RoadKit.Exa.wr W35 (Jvm.RoadKit.Exa.wr W30 (Jvm.RoadKit.Exa.wr W25 (Jvm.RoadKit.Exa.wr W20 (Jvm.RoadKit.Exa.wr W15 (Jvm.RoadKit.Exa.wr W10 (Jvm.RoadKit.Exa.wr W5 (Jvm.RoadKit.Exa.ext E1 H16))))))))
  refine saR (pc' := 55) X37 hx hZ F38 (Ins.self F39) ge1 (by decide) (by decide) (hb hby d1_54) rfl fun T40 h40 X40 W40 => ?_
  refine i_dup (pc' := 56) X40 hx (hb hby d1_55) rfl rfl ?_
  refine i_bipush (pc' := 58) (8 : Int32) X40 hx (hb hby d1_56) rfl (by decide) ?_
  have F41 : Sta Z h40 "com/example/shoal_creek/shoalcreek/ShiftRule" "NONE" "Lcom/example/shoal_creek/shoalcreek/ShiftRule;" (.ref ra8) := (Jvm.RoadKit.Sta.wr W40 (Jvm.RoadKit.Sta.wr W35 (Jvm.RoadKit.Sta.wr W30 (Jvm.RoadKit.Sta.wr W25 (Jvm.RoadKit.Sta.wr W20 (Jvm.RoadKit.Sta.wr W15 (Jvm.RoadKit.Sta.wr W10 (Jvm.RoadKit.Sta.wr W5 (Jvm.RoadKit.Sta.ext E1 H8)))))))))
  refine gs (pc' := 61) (host := "") X40 hx hZ hown (Or.inl (hw _ (List.mem_of_getElem? (i := 24) rfl))) Via.refl F41 (hb hby d1_58) rfl fun T42 X42 => ?_
  have F43 : AvR Z h40 b1 "com/example/shoal_creek/shoalcreek/ShiftRule" 9 (fun i => if i = 7 then (.ref ra7) else if i = 6 then (.ref ra6) else if i = 5 then (.ref ra5) else if i = 4 then (.ref ra4) else if i = 3 then (.ref ra3) else if i = 2 then (.ref ra2) else if i = 1 then (.ref ra1) else if i = 0 then (.ref ra0) else .null) := (AvR.set (k := 7) (by decide) F38 W40)
  have F44 : Exa Z h40 ra8 "com/example/shoal_creek/shoalcreek/ShiftRule" := (Jvm.RoadKit.Exa.wr W40 (Jvm.RoadKit.Exa.wr W35 (Jvm.RoadKit.Exa.wr W30 (Jvm.RoadKit.Exa.wr W25 (Jvm.RoadKit.Exa.wr W20 (Jvm.RoadKit.Exa.wr W15 (Jvm.RoadKit.Exa.wr W10 (Jvm.RoadKit.Exa.wr W5 (Jvm.RoadKit.Exa.ext E1 H17)))))))))
  refine saR (pc' := 62) X42 hx hZ F43 (Ins.self F44) ge1 (by decide) (by decide) (hb hby d1_61) rfl fun T45 h45 X45 W45 => ?_
  refine i_astoreN (L' := #[.val (.int k), .val (.ref b1)]) (pc' := 63) X45 hx (hb hby d1_62) rfl rfl rfl ?_
  refine i_aloadN (v := (.ref b1)) (pc' := 64) X45 hx (hb hby d1_63) rfl rfl rfl ?_
  refine i_iloadN (v := k) (pc' := 65) X45 hx (hb hby d1_64) rfl rfl ?_
  have hi9 := own_ix9 hk
  obtain ⟨bx, hbx⟩ : ∃ b : Addr, (fun i => (if i = 8 then (.ref ra8) else if i = 7 then (.ref ra7) else if i = 6 then (.ref ra6) else if i = 5 then (.ref ra5) else if i = 4 then (.ref ra4) else if i = 3 then (.ref ra3) else if i = 2 then (.ref ra2) else if i = 1 then (.ref ra1) else if i = 0 then (.ref ra0) else .null : Value)) (k.toNatClampNeg) = .ref b := by
    have h9 := hi9.2
    generalize k.toNatClampNeg = i at h9 ⊢
    have : i = 0 ∨ i = 1 ∨ i = 2 ∨ i = 3 ∨ i = 4 ∨ i = 5 ∨ i = 6 ∨ i = 7 ∨ i = 8 := by omega
    rcases this with rfl | rfl | rfl | rfl | rfl | rfl | rfl | rfl | rfl <;> exact ⟨_, rfl⟩
  have F46 : AvR Z h45 b1 "com/example/shoal_creek/shoalcreek/ShiftRule" 9 (fun i => if i = 8 then (.ref ra8) else if i = 7 then (.ref ra7) else if i = 6 then (.ref ra6) else if i = 5 then (.ref ra5) else if i = 4 then (.ref ra4) else if i = 3 then (.ref ra3) else if i = 2 then (.ref ra2) else if i = 1 then (.ref ra1) else if i = 0 then (.ref ra0) else .null) := (AvR.set (k := 8) (by decide) F43 W45)
  refine ldR (v := (.ref bx)) (pc' := 66) X45 hx hZ (F46.av) rfl hi9.1 hi9.2 hbx (hb hby d1_65) rfl ?_
  refine rA X45 hx hlk hret rfl rfl rfl (hb hby d1_66) (by decide) (by decide) ?_
  exact ⟨bx, rfl, (((((((((K1.wr W5 (Or.inr sz_b1)).wr W10 (Or.inr sz_b1)).wr W15 (Or.inr sz_b1)).wr W20 (Or.inr sz_b1)).wr W25 (Or.inr sz_b1)).wr W30 (Or.inr sz_b1)).wr W35 (Or.inr sz_b1)).wr W40 (Or.inr sz_b1)).wr W45 (Or.inr sz_b1))⟩
theorem d2_0 : decode prog_28_method_1_code 0 = .ok (.aload_n 0, 1) := by decide +kernel
theorem d2_1 : decode prog_28_method_1_code 1 = .ok (.invokespecial 1, 3) := by decide +kernel
theorem d2_4 : decode prog_28_method_1_code 4 = .ok (.aload_n 0, 1) := by decide +kernel
theorem d2_5 : decode prog_28_method_1_code 5 = .ok (.iload_n 1, 1) := by decide +kernel
theorem d2_6 : decode prog_28_method_1_code 6 = .ok (.putfield 7, 3) := by decide +kernel
theorem d2_9 : decode prog_28_method_1_code 9 = .ok (.aload_n 0, 1) := by decide +kernel
theorem d2_10 : decode prog_28_method_1_code 10 = .ok (.iload_n 2, 1) := by decide +kernel
theorem d2_11 : decode prog_28_method_1_code 11 = .ok (.putfield 13, 3) := by decide +kernel
theorem d2_14 : decode prog_28_method_1_code 14 = .ok (.aload_n 0, 1) := by decide +kernel
theorem d2_15 : decode prog_28_method_1_code 15 = .ok (.iload_n 3, 1) := by decide +kernel
theorem d2_16 : decode prog_28_method_1_code 16 = .ok (.putfield 16, 3) := by decide +kernel
theorem d2_19 : decode prog_28_method_1_code 19 = .ok (.aload_n 0, 1) := by decide +kernel
theorem d2_20 : decode prog_28_method_1_code 20 = .ok (.iload 4, 2) := by decide +kernel
theorem d2_22 : decode prog_28_method_1_code 22 = .ok (.putfield 19, 3) := by decide +kernel
theorem d2_25 : decode prog_28_method_1_code 25 = .ok (.aload_n 0, 1) := by decide +kernel
theorem d2_26 : decode prog_28_method_1_code 26 = .ok (.aload 5, 2) := by decide +kernel
theorem d2_28 : decode prog_28_method_1_code 28 = .ok (.putfield 22, 3) := by decide +kernel
theorem d2_31 : decode prog_28_method_1_code 31 = .ok (.aload_n 0, 1) := by decide +kernel
theorem d2_32 : decode prog_28_method_1_code 32 = .ok (.iload 6, 2) := by decide +kernel
theorem d2_34 : decode prog_28_method_1_code 34 = .ok (.putfield 26, 3) := by decide +kernel
theorem d2_37 : decode prog_28_method_1_code 37 = .ok (.aload_n 0, 1) := by decide +kernel
theorem d2_38 : decode prog_28_method_1_code 38 = .ok (.iload 7, 2) := by decide +kernel
theorem d2_40 : decode prog_28_method_1_code 40 = .ok (.putfield 29, 3) := by decide +kernel
theorem d2_43 : decode prog_28_method_1_code 43 = .ok (.return_, 1) := by decide +kernel
theorem pn3 : plainName "com/example/shoal_creek/shoalcreek/Step" = true := by first | (simp [plainName, overriddenIn]; done) | decide +kernel
theorem ef_rm2 (m : MethodId) (o : Addr) (x1 : Int32) (x2 : Int32) (x3 : Int32) (x4 : Int32) (xr : Addr) (x5 : Int32) (x6 : Int32) : entryFrame m #[(.ref o), (.int x1), (.int x2), (.int x3), (.int x4), (.ref xr), (.int x5), (.int x6)] 8 = mkF m 0 #[.val (.ref o), .val (.int x1), .val (.int x2), .val (.int x3), .val (.int x4), .val (.ref xr), .val (.int x5), .val (.int x6)] [] := by first | (simp [entryFrame, mkF, argsToLocals, Value.category, maxLocals]; done) | rfl
def Qrm2 (Z : State) (o : Addr) (x1 : Int32) (x2 : Int32) (x3 : Int32) (x4 : Int32) (xr : Addr) (x5 : Int32) (x6 : Int32) (n0 : Nat) (h0 : Heap) (rv : Option Value) (h : Heap) : Prop := rv = none ∧ Keep h0 h [o] ∧ Fld Z h o "com/example/shoal_creek/shoalcreek/Step" "start" "I" (.int x1) ∧ Fld Z h o "com/example/shoal_creek/shoalcreek/Step" "comparisons" "I" (.int x2) ∧ Fld Z h o "com/example/shoal_creek/shoalcreek/Step" "mismatch" "I" (.int x3) ∧ Fld Z h o "com/example/shoal_creek/shoalcreek/Step" "shift" "I" (.int x4) ∧ Fld Z h o "com/example/shoal_creek/shoalcreek/Step" "rule" "Lcom/example/shoal_creek/shoalcreek/ShiftRule;" (.ref xr) ∧ Fld Z h o "com/example/shoal_creek/shoalcreek/Step" "badCharacterShift" "I" (.int x5) ∧ Fld Z h o "com/example/shoal_creek/shoalcreek/Step" "goodSuffixShift" "I" (.int x6)
abbrev Rrm2 : Room := { frames := 1, cells := 0, slots := 0, locals := 12 }
set_option maxRecDepth 65536 in
set_option maxHeartbeats 40000000 in
theorem rm2 (l : Launch) (Z : State) (a0 : Array Value) (hw : ∀ d ∈ tables_1, d.before a0 Z = true) (ws : List Jvm.Cond) (o : Addr) (x1 : Int32) (x2 : Int32) (x3 : Int32) (x4 : Int32) (xr : Addr) (x5 : Int32) (x6 : Int32) (n0 : Nat) (h0 : Heap) (hn : n0 ≤ h0.size) (H0 : Exa Z h0 o "com/example/shoal_creek/shoalcreek/Step") (H1 : Fld Z h0 o "com/example/shoal_creek/shoalcreek/Step" "start" "I" (.int (0 : Int32))) (H2 : Fld Z h0 o "com/example/shoal_creek/shoalcreek/Step" "comparisons" "I" (.int (0 : Int32))) (H3 : Fld Z h0 o "com/example/shoal_creek/shoalcreek/Step" "mismatch" "I" (.int (0 : Int32))) (H4 : Fld Z h0 o "com/example/shoal_creek/shoalcreek/Step" "shift" "I" (.int (0 : Int32))) (H5 : Fld Z h0 o "com/example/shoal_creek/shoalcreek/Step" "rule" "Lcom/example/shoal_creek/shoalcreek/ShiftRule;" .null) (H6 : Fld Z h0 o "com/example/shoal_creek/shoalcreek/Step" "badCharacterShift" "I" (.int (0 : Int32))) (H7 : Fld Z h0 o "com/example/shoal_creek/shoalcreek/Step" "goodSuffixShift" "I" (.int (0 : Int32))) (H8 : n0 ≤ o)  :
    Con l Z (⟨"com/example/shoal_creek/shoalcreek/Step", "<init>", "(IIIILcom/example/shoal_creek/shoalcreek/ShiftRule;II)V"⟩ : MethodName) prog_28_method_1_code 8 none ws Rrm2 #[(.ref o), (.int x1), (.int x2), (.int x3), (.int x4), (.ref xr), (.int x5), (.int x6)] h0 n0 (Qrm2 Z o x1 x2 x3 x4 xr x5 x6 n0 h0) := by
  refine body (y := (⟨"com/example/shoal_creek/shoalcreek/Step", "<init>", "(IIIILcom/example/shoal_creek/shoalcreek/ShiftRule;II)V"⟩ : MethodName)) (Ls := #[.val (.ref o), .val (.int x1), .val (.int x2), .val (.int x3), .val (.int x4), .val (.ref xr), .val (.int x5), .val (.int x6)]) (plainFor_of_name pn3) hn (fun m => ef_rm2 m o x1 x2 x3 x4 xr x5 x6) ?_
  intro p e s m below meth c T0 hx hby hml hown hnm hret hlk hZ X0
  refine i_aloadN (v := (.ref o)) (pc' := 1) X0 hx (hb hby d2_0) rfl rfl rfl ?_
  refine oi (pc' := 4) (W := 0) X0 hx hZ hown (hw _ (List.mem_of_getElem? (i := 32) rfl)) (hw _ (List.mem_of_getElem? (i := 33) rfl)) (hw _ (List.mem_of_getElem? (i := 34) rfl)) (by rw [hml]; rfl) (hb hby d2_1) rfl (by decide) (Nat.le_of_eq rfl) (by decide) fun T1 X1 => ?_
  refine i_aloadN (v := (.ref o)) (pc' := 5) X1 hx (hb hby d2_4) rfl rfl rfl ?_
  refine i_iloadN (v := x1) (pc' := 6) X1 hx (hb hby d2_5) rfl rfl ?_
  refine pf (pc' := 9) (host := "") (ty := .int) X1 hx hZ hown (Or.inl (hw _ (List.mem_of_getElem? (i := 35) rfl))) Via.refl H1 H0 (Or.inr ⟨(hw _ (List.mem_of_getElem? (i := 36) rfl)), rfl, hnm⟩) (hw _ (List.mem_of_getElem? (i := 27) rfl)) (by decide) rfl rfl H8 (hb hby d2_6) rfl fun T2 h2 X2 W2 => ?_
  refine i_aloadN (v := (.ref o)) (pc' := 10) X2 hx (hb hby d2_9) rfl rfl rfl ?_
  refine i_iloadN (v := x2) (pc' := 11) X2 hx (hb hby d2_10) rfl rfl ?_
  have F3 : Fld Z h2 o "com/example/shoal_creek/shoalcreek/Step" "comparisons" "I" (.int (0 : Int32)) := (Jvm.RoadKit.Fld.other W2 H2 (Or.inr (slot_ne (a0 := a0) (Or.inr (hw _ (List.mem_of_getElem? (i := 38) rfl))) (Or.inr (hw _ (List.mem_of_getElem? (i := 36) rfl))) (by decide) (t := .int) (t' := .int) (by decide) (by decide))))
  have F4 : Exa Z h2 o "com/example/shoal_creek/shoalcreek/Step" := (Jvm.RoadKit.Exa.wr W2 H0)
  refine pf (pc' := 14) (host := "") (ty := .int) X2 hx hZ hown (Or.inl (hw _ (List.mem_of_getElem? (i := 37) rfl))) Via.refl F3 F4 (Or.inr ⟨(hw _ (List.mem_of_getElem? (i := 38) rfl)), rfl, hnm⟩) (hw _ (List.mem_of_getElem? (i := 27) rfl)) (by decide) rfl rfl H8 (hb hby d2_11) rfl fun T5 h5 X5 W5 => ?_
  refine i_aloadN (v := (.ref o)) (pc' := 15) X5 hx (hb hby d2_14) rfl rfl rfl ?_
  refine i_iloadN (v := x3) (pc' := 16) X5 hx (hb hby d2_15) rfl rfl ?_
  have F6 : Fld Z h5 o "com/example/shoal_creek/shoalcreek/Step" "mismatch" "I" (.int (0 : Int32)) := (Jvm.RoadKit.Fld.other W5 (Jvm.RoadKit.Fld.other W2 H3 (Or.inr (slot_ne (a0 := a0) (Or.inr (hw _ (List.mem_of_getElem? (i := 40) rfl))) (Or.inr (hw _ (List.mem_of_getElem? (i := 36) rfl))) (by decide) (t := .int) (t' := .int) (by decide) (by decide)))) (Or.inr (slot_ne (a0 := a0) (Or.inr (hw _ (List.mem_of_getElem? (i := 40) rfl))) (Or.inr (hw _ (List.mem_of_getElem? (i := 38) rfl))) (by decide) (t := .int) (t' := .int) (by decide) (by decide))))
  have F7 : Exa Z h5 o "com/example/shoal_creek/shoalcreek/Step" := (Jvm.RoadKit.Exa.wr W5 F4)
  refine pf (pc' := 19) (host := "") (ty := .int) X5 hx hZ hown (Or.inl (hw _ (List.mem_of_getElem? (i := 39) rfl))) Via.refl F6 F7 (Or.inr ⟨(hw _ (List.mem_of_getElem? (i := 40) rfl)), rfl, hnm⟩) (hw _ (List.mem_of_getElem? (i := 27) rfl)) (by decide) rfl rfl H8 (hb hby d2_16) rfl fun T8 h8 X8 W8 => ?_
  refine i_aloadN (v := (.ref o)) (pc' := 20) X8 hx (hb hby d2_19) rfl rfl rfl ?_
  refine i_iload (v := x4) (pc' := 22) X8 hx (hb hby d2_20) rfl rfl ?_
  have F9 : Fld Z h8 o "com/example/shoal_creek/shoalcreek/Step" "shift" "I" (.int (0 : Int32)) := (Jvm.RoadKit.Fld.other W8 (Jvm.RoadKit.Fld.other W5 (Jvm.RoadKit.Fld.other W2 H4 (Or.inr (slot_ne (a0 := a0) (Or.inr (hw _ (List.mem_of_getElem? (i := 42) rfl))) (Or.inr (hw _ (List.mem_of_getElem? (i := 36) rfl))) (by decide) (t := .int) (t' := .int) (by decide) (by decide)))) (Or.inr (slot_ne (a0 := a0) (Or.inr (hw _ (List.mem_of_getElem? (i := 42) rfl))) (Or.inr (hw _ (List.mem_of_getElem? (i := 38) rfl))) (by decide) (t := .int) (t' := .int) (by decide) (by decide)))) (Or.inr (slot_ne (a0 := a0) (Or.inr (hw _ (List.mem_of_getElem? (i := 42) rfl))) (Or.inr (hw _ (List.mem_of_getElem? (i := 40) rfl))) (by decide) (t := .int) (t' := .int) (by decide) (by decide))))
  have F10 : Exa Z h8 o "com/example/shoal_creek/shoalcreek/Step" := (Jvm.RoadKit.Exa.wr W8 F7)
  refine pf (pc' := 25) (host := "") (ty := .int) X8 hx hZ hown (Or.inl (hw _ (List.mem_of_getElem? (i := 41) rfl))) Via.refl F9 F10 (Or.inr ⟨(hw _ (List.mem_of_getElem? (i := 42) rfl)), rfl, hnm⟩) (hw _ (List.mem_of_getElem? (i := 27) rfl)) (by decide) rfl rfl H8 (hb hby d2_22) rfl fun T11 h11 X11 W11 => ?_
  refine i_aloadN (v := (.ref o)) (pc' := 26) X11 hx (hb hby d2_25) rfl rfl rfl ?_
  refine i_aload (v := (.ref xr)) (pc' := 28) X11 hx (hb hby d2_26) rfl rfl rfl ?_
  have F12 : Fld Z h11 o "com/example/shoal_creek/shoalcreek/Step" "rule" "Lcom/example/shoal_creek/shoalcreek/ShiftRule;" .null := (Jvm.RoadKit.Fld.other W11 (Jvm.RoadKit.Fld.other W8 (Jvm.RoadKit.Fld.other W5 (Jvm.RoadKit.Fld.other W2 H5 (Or.inr (slot_ne (a0 := a0) (Or.inr (hw _ (List.mem_of_getElem? (i := 44) rfl))) (Or.inr (hw _ (List.mem_of_getElem? (i := 36) rfl))) (by decide) (t := (.object "com/example/shoal_creek/shoalcreek/ShiftRule")) (t' := .int) (by decide) (by decide)))) (Or.inr (slot_ne (a0 := a0) (Or.inr (hw _ (List.mem_of_getElem? (i := 44) rfl))) (Or.inr (hw _ (List.mem_of_getElem? (i := 38) rfl))) (by decide) (t := (.object "com/example/shoal_creek/shoalcreek/ShiftRule")) (t' := .int) (by decide) (by decide)))) (Or.inr (slot_ne (a0 := a0) (Or.inr (hw _ (List.mem_of_getElem? (i := 44) rfl))) (Or.inr (hw _ (List.mem_of_getElem? (i := 40) rfl))) (by decide) (t := (.object "com/example/shoal_creek/shoalcreek/ShiftRule")) (t' := .int) (by decide) (by decide)))) (Or.inr (slot_ne (a0 := a0) (Or.inr (hw _ (List.mem_of_getElem? (i := 44) rfl))) (Or.inr (hw _ (List.mem_of_getElem? (i := 42) rfl))) (by decide) (t := (.object "com/example/shoal_creek/shoalcreek/ShiftRule")) (t' := .int) (by decide) (by decide))))
  have F13 : Exa Z h11 o "com/example/shoal_creek/shoalcreek/Step" := (Jvm.RoadKit.Exa.wr W11 F10)
  refine pf (pc' := 31) (host := "") (ty := (.object "com/example/shoal_creek/shoalcreek/ShiftRule")) X11 hx hZ hown (Or.inl (hw _ (List.mem_of_getElem? (i := 43) rfl))) Via.refl F12 F13 (Or.inr ⟨(hw _ (List.mem_of_getElem? (i := 44) rfl)), rfl, hnm⟩) (hw _ (List.mem_of_getElem? (i := 27) rfl)) (by decide) rfl rfl H8 (hb hby d2_28) rfl fun T14 h14 X14 W14 => ?_
  refine i_aloadN (v := (.ref o)) (pc' := 32) X14 hx (hb hby d2_31) rfl rfl rfl ?_
  refine i_iload (v := x5) (pc' := 34) X14 hx (hb hby d2_32) rfl rfl ?_
  have F15 : Fld Z h14 o "com/example/shoal_creek/shoalcreek/Step" "badCharacterShift" "I" (.int (0 : Int32)) := (Jvm.RoadKit.Fld.other W14 (Jvm.RoadKit.Fld.other W11 (Jvm.RoadKit.Fld.other W8 (Jvm.RoadKit.Fld.other W5 (Jvm.RoadKit.Fld.other W2 H6 (Or.inr (slot_ne (a0 := a0) (Or.inr (hw _ (List.mem_of_getElem? (i := 46) rfl))) (Or.inr (hw _ (List.mem_of_getElem? (i := 36) rfl))) (by decide) (t := .int) (t' := .int) (by decide) (by decide)))) (Or.inr (slot_ne (a0 := a0) (Or.inr (hw _ (List.mem_of_getElem? (i := 46) rfl))) (Or.inr (hw _ (List.mem_of_getElem? (i := 38) rfl))) (by decide) (t := .int) (t' := .int) (by decide) (by decide)))) (Or.inr (slot_ne (a0 := a0) (Or.inr (hw _ (List.mem_of_getElem? (i := 46) rfl))) (Or.inr (hw _ (List.mem_of_getElem? (i := 40) rfl))) (by decide) (t := .int) (t' := .int) (by decide) (by decide)))) (Or.inr (slot_ne (a0 := a0) (Or.inr (hw _ (List.mem_of_getElem? (i := 46) rfl))) (Or.inr (hw _ (List.mem_of_getElem? (i := 42) rfl))) (by decide) (t := .int) (t' := .int) (by decide) (by decide)))) (Or.inr (slot_ne (a0 := a0) (Or.inr (hw _ (List.mem_of_getElem? (i := 46) rfl))) (Or.inr (hw _ (List.mem_of_getElem? (i := 44) rfl))) (by decide) (t := .int) (t' := (.object "com/example/shoal_creek/shoalcreek/ShiftRule")) (by decide) (by decide))))
  have F16 : Exa Z h14 o "com/example/shoal_creek/shoalcreek/Step" := (Jvm.RoadKit.Exa.wr W14 F13)
  refine pf (pc' := 37) (host := "") (ty := .int) X14 hx hZ hown (Or.inl (hw _ (List.mem_of_getElem? (i := 45) rfl))) Via.refl F15 F16 (Or.inr ⟨(hw _ (List.mem_of_getElem? (i := 46) rfl)), rfl, hnm⟩) (hw _ (List.mem_of_getElem? (i := 27) rfl)) (by decide) rfl rfl H8 (hb hby d2_34) rfl fun T17 h17 X17 W17 => ?_
  refine i_aloadN (v := (.ref o)) (pc' := 38) X17 hx (hb hby d2_37) rfl rfl rfl ?_
  refine i_iload (v := x6) (pc' := 40) X17 hx (hb hby d2_38) rfl rfl ?_
  have F18 : Fld Z h17 o "com/example/shoal_creek/shoalcreek/Step" "goodSuffixShift" "I" (.int (0 : Int32)) := (Jvm.RoadKit.Fld.other W17 (Jvm.RoadKit.Fld.other W14 (Jvm.RoadKit.Fld.other W11 (Jvm.RoadKit.Fld.other W8 (Jvm.RoadKit.Fld.other W5 (Jvm.RoadKit.Fld.other W2 H7 (Or.inr (slot_ne (a0 := a0) (Or.inr (hw _ (List.mem_of_getElem? (i := 48) rfl))) (Or.inr (hw _ (List.mem_of_getElem? (i := 36) rfl))) (by decide) (t := .int) (t' := .int) (by decide) (by decide)))) (Or.inr (slot_ne (a0 := a0) (Or.inr (hw _ (List.mem_of_getElem? (i := 48) rfl))) (Or.inr (hw _ (List.mem_of_getElem? (i := 38) rfl))) (by decide) (t := .int) (t' := .int) (by decide) (by decide)))) (Or.inr (slot_ne (a0 := a0) (Or.inr (hw _ (List.mem_of_getElem? (i := 48) rfl))) (Or.inr (hw _ (List.mem_of_getElem? (i := 40) rfl))) (by decide) (t := .int) (t' := .int) (by decide) (by decide)))) (Or.inr (slot_ne (a0 := a0) (Or.inr (hw _ (List.mem_of_getElem? (i := 48) rfl))) (Or.inr (hw _ (List.mem_of_getElem? (i := 42) rfl))) (by decide) (t := .int) (t' := .int) (by decide) (by decide)))) (Or.inr (slot_ne (a0 := a0) (Or.inr (hw _ (List.mem_of_getElem? (i := 48) rfl))) (Or.inr (hw _ (List.mem_of_getElem? (i := 44) rfl))) (by decide) (t := .int) (t' := (.object "com/example/shoal_creek/shoalcreek/ShiftRule")) (by decide) (by decide)))) (Or.inr (slot_ne (a0 := a0) (Or.inr (hw _ (List.mem_of_getElem? (i := 48) rfl))) (Or.inr (hw _ (List.mem_of_getElem? (i := 46) rfl))) (by decide) (t := .int) (t' := .int) (by decide) (by decide))))
  have F19 : Exa Z h17 o "com/example/shoal_creek/shoalcreek/Step" := (Jvm.RoadKit.Exa.wr W17 F16)
  refine pf (pc' := 43) (host := "") (ty := .int) X17 hx hZ hown (Or.inl (hw _ (List.mem_of_getElem? (i := 47) rfl))) Via.refl F18 F19 (Or.inr ⟨(hw _ (List.mem_of_getElem? (i := 48) rfl)), rfl, hnm⟩) (hw _ (List.mem_of_getElem? (i := 27) rfl)) (by decide) rfl rfl H8 (hb hby d2_40) rfl fun T20 h20 X20 W20 => ?_
  refine rV X20 hx hlk hret (hb hby d2_43) (by decide) (by decide) ?_
  have F21 : Fld Z h20 o "com/example/shoal_creek/shoalcreek/Step" "start" "I" (.int x1) := (Jvm.RoadKit.Fld.other W20 (Jvm.RoadKit.Fld.other W17 (Jvm.RoadKit.Fld.other W14 (Jvm.RoadKit.Fld.other W11 (Jvm.RoadKit.Fld.other W8 (Jvm.RoadKit.Fld.other W5 (Jvm.RoadKit.Fld.same W2 H1) (Or.inr (slot_ne (a0 := a0) (Or.inr (hw _ (List.mem_of_getElem? (i := 36) rfl))) (Or.inr (hw _ (List.mem_of_getElem? (i := 38) rfl))) (by decide) (t := .int) (t' := .int) (by decide) (by decide)))) (Or.inr (slot_ne (a0 := a0) (Or.inr (hw _ (List.mem_of_getElem? (i := 36) rfl))) (Or.inr (hw _ (List.mem_of_getElem? (i := 40) rfl))) (by decide) (t := .int) (t' := .int) (by decide) (by decide)))) (Or.inr (slot_ne (a0 := a0) (Or.inr (hw _ (List.mem_of_getElem? (i := 36) rfl))) (Or.inr (hw _ (List.mem_of_getElem? (i := 42) rfl))) (by decide) (t := .int) (t' := .int) (by decide) (by decide)))) (Or.inr (slot_ne (a0 := a0) (Or.inr (hw _ (List.mem_of_getElem? (i := 36) rfl))) (Or.inr (hw _ (List.mem_of_getElem? (i := 44) rfl))) (by decide) (t := .int) (t' := (.object "com/example/shoal_creek/shoalcreek/ShiftRule")) (by decide) (by decide)))) (Or.inr (slot_ne (a0 := a0) (Or.inr (hw _ (List.mem_of_getElem? (i := 36) rfl))) (Or.inr (hw _ (List.mem_of_getElem? (i := 46) rfl))) (by decide) (t := .int) (t' := .int) (by decide) (by decide)))) (Or.inr (slot_ne (a0 := a0) (Or.inr (hw _ (List.mem_of_getElem? (i := 36) rfl))) (Or.inr (hw _ (List.mem_of_getElem? (i := 48) rfl))) (by decide) (t := .int) (t' := .int) (by decide) (by decide))))
  have F22 : Fld Z h20 o "com/example/shoal_creek/shoalcreek/Step" "comparisons" "I" (.int x2) := (Jvm.RoadKit.Fld.other W20 (Jvm.RoadKit.Fld.other W17 (Jvm.RoadKit.Fld.other W14 (Jvm.RoadKit.Fld.other W11 (Jvm.RoadKit.Fld.other W8 (Jvm.RoadKit.Fld.same W5 F3) (Or.inr (slot_ne (a0 := a0) (Or.inr (hw _ (List.mem_of_getElem? (i := 38) rfl))) (Or.inr (hw _ (List.mem_of_getElem? (i := 40) rfl))) (by decide) (t := .int) (t' := .int) (by decide) (by decide)))) (Or.inr (slot_ne (a0 := a0) (Or.inr (hw _ (List.mem_of_getElem? (i := 38) rfl))) (Or.inr (hw _ (List.mem_of_getElem? (i := 42) rfl))) (by decide) (t := .int) (t' := .int) (by decide) (by decide)))) (Or.inr (slot_ne (a0 := a0) (Or.inr (hw _ (List.mem_of_getElem? (i := 38) rfl))) (Or.inr (hw _ (List.mem_of_getElem? (i := 44) rfl))) (by decide) (t := .int) (t' := (.object "com/example/shoal_creek/shoalcreek/ShiftRule")) (by decide) (by decide)))) (Or.inr (slot_ne (a0 := a0) (Or.inr (hw _ (List.mem_of_getElem? (i := 38) rfl))) (Or.inr (hw _ (List.mem_of_getElem? (i := 46) rfl))) (by decide) (t := .int) (t' := .int) (by decide) (by decide)))) (Or.inr (slot_ne (a0 := a0) (Or.inr (hw _ (List.mem_of_getElem? (i := 38) rfl))) (Or.inr (hw _ (List.mem_of_getElem? (i := 48) rfl))) (by decide) (t := .int) (t' := .int) (by decide) (by decide))))
  have F23 : Fld Z h20 o "com/example/shoal_creek/shoalcreek/Step" "mismatch" "I" (.int x3) := (Jvm.RoadKit.Fld.other W20 (Jvm.RoadKit.Fld.other W17 (Jvm.RoadKit.Fld.other W14 (Jvm.RoadKit.Fld.other W11 (Jvm.RoadKit.Fld.same W8 F6) (Or.inr (slot_ne (a0 := a0) (Or.inr (hw _ (List.mem_of_getElem? (i := 40) rfl))) (Or.inr (hw _ (List.mem_of_getElem? (i := 42) rfl))) (by decide) (t := .int) (t' := .int) (by decide) (by decide)))) (Or.inr (slot_ne (a0 := a0) (Or.inr (hw _ (List.mem_of_getElem? (i := 40) rfl))) (Or.inr (hw _ (List.mem_of_getElem? (i := 44) rfl))) (by decide) (t := .int) (t' := (.object "com/example/shoal_creek/shoalcreek/ShiftRule")) (by decide) (by decide)))) (Or.inr (slot_ne (a0 := a0) (Or.inr (hw _ (List.mem_of_getElem? (i := 40) rfl))) (Or.inr (hw _ (List.mem_of_getElem? (i := 46) rfl))) (by decide) (t := .int) (t' := .int) (by decide) (by decide)))) (Or.inr (slot_ne (a0 := a0) (Or.inr (hw _ (List.mem_of_getElem? (i := 40) rfl))) (Or.inr (hw _ (List.mem_of_getElem? (i := 48) rfl))) (by decide) (t := .int) (t' := .int) (by decide) (by decide))))
  have F24 : Fld Z h20 o "com/example/shoal_creek/shoalcreek/Step" "shift" "I" (.int x4) := (Jvm.RoadKit.Fld.other W20 (Jvm.RoadKit.Fld.other W17 (Jvm.RoadKit.Fld.other W14 (Jvm.RoadKit.Fld.same W11 F9) (Or.inr (slot_ne (a0 := a0) (Or.inr (hw _ (List.mem_of_getElem? (i := 42) rfl))) (Or.inr (hw _ (List.mem_of_getElem? (i := 44) rfl))) (by decide) (t := .int) (t' := (.object "com/example/shoal_creek/shoalcreek/ShiftRule")) (by decide) (by decide)))) (Or.inr (slot_ne (a0 := a0) (Or.inr (hw _ (List.mem_of_getElem? (i := 42) rfl))) (Or.inr (hw _ (List.mem_of_getElem? (i := 46) rfl))) (by decide) (t := .int) (t' := .int) (by decide) (by decide)))) (Or.inr (slot_ne (a0 := a0) (Or.inr (hw _ (List.mem_of_getElem? (i := 42) rfl))) (Or.inr (hw _ (List.mem_of_getElem? (i := 48) rfl))) (by decide) (t := .int) (t' := .int) (by decide) (by decide))))
  have F25 : Fld Z h20 o "com/example/shoal_creek/shoalcreek/Step" "rule" "Lcom/example/shoal_creek/shoalcreek/ShiftRule;" (.ref xr) := (Jvm.RoadKit.Fld.other W20 (Jvm.RoadKit.Fld.other W17 (Jvm.RoadKit.Fld.same W14 F12) (Or.inr (slot_ne (a0 := a0) (Or.inr (hw _ (List.mem_of_getElem? (i := 44) rfl))) (Or.inr (hw _ (List.mem_of_getElem? (i := 46) rfl))) (by decide) (t := (.object "com/example/shoal_creek/shoalcreek/ShiftRule")) (t' := .int) (by decide) (by decide)))) (Or.inr (slot_ne (a0 := a0) (Or.inr (hw _ (List.mem_of_getElem? (i := 44) rfl))) (Or.inr (hw _ (List.mem_of_getElem? (i := 48) rfl))) (by decide) (t := (.object "com/example/shoal_creek/shoalcreek/ShiftRule")) (t' := .int) (by decide) (by decide))))
  have F26 : Fld Z h20 o "com/example/shoal_creek/shoalcreek/Step" "badCharacterShift" "I" (.int x5) := (Jvm.RoadKit.Fld.other W20 (Jvm.RoadKit.Fld.same W17 F15) (Or.inr (slot_ne (a0 := a0) (Or.inr (hw _ (List.mem_of_getElem? (i := 46) rfl))) (Or.inr (hw _ (List.mem_of_getElem? (i := 48) rfl))) (by decide) (t := .int) (t' := .int) (by decide) (by decide))))
  have F27 : Fld Z h20 o "com/example/shoal_creek/shoalcreek/Step" "goodSuffixShift" "I" (.int x6) := (Jvm.RoadKit.Fld.same W20 F18)
  exact ⟨rfl, ((((((((Keep.refl h0 _).wr W2 (Or.inl (List.mem_of_getElem? (i := 0) rfl))).wr W5 (Or.inl (List.mem_of_getElem? (i := 0) rfl))).wr W8 (Or.inl (List.mem_of_getElem? (i := 0) rfl))).wr W11 (Or.inl (List.mem_of_getElem? (i := 0) rfl))).wr W14 (Or.inl (List.mem_of_getElem? (i := 0) rfl))).wr W17 (Or.inl (List.mem_of_getElem? (i := 0) rfl))).wr W20 (Or.inl (List.mem_of_getElem? (i := 0) rfl))), F21, F22, F23, F24, F25, F26, F27⟩
theorem d4_0 : decode prog_28_method_9_code 0 = .ok (.aload_n 1, 1) := by decide +kernel
theorem d4_1 : decode prog_28_method_9_code 1 = .ok (.instanceof 8, 3) := by decide +kernel
theorem d4_4 : decode prog_28_method_9_code 4 = .ok (.ifCond .ne 5, 3) := by decide +kernel
theorem d4_7 : decode prog_28_method_9_code 7 = .ok (.iconst 0, 1) := by decide +kernel
theorem d4_8 : decode prog_28_method_9_code 8 = .ok (.ireturn, 1) := by decide +kernel
theorem d4_9 : decode prog_28_method_9_code 9 = .ok (.aload_n 1, 1) := by decide +kernel
theorem d4_10 : decode prog_28_method_9_code 10 = .ok (.checkcast 8, 3) := by decide +kernel
theorem d4_13 : decode prog_28_method_9_code 13 = .ok (.astore_n 2, 1) := by decide +kernel
theorem d4_14 : decode prog_28_method_9_code 14 = .ok (.aload_n 0, 1) := by decide +kernel
theorem d4_15 : decode prog_28_method_9_code 15 = .ok (.getfield 7, 3) := by decide +kernel
theorem d4_18 : decode prog_28_method_9_code 18 = .ok (.aload_n 2, 1) := by decide +kernel
theorem d4_19 : decode prog_28_method_9_code 19 = .ok (.getfield 7, 3) := by decide +kernel
theorem d4_22 : decode prog_28_method_9_code 22 = .ok (.if_icmp .ne 73, 3) := by decide +kernel
theorem d4_25 : decode prog_28_method_9_code 25 = .ok (.aload_n 0, 1) := by decide +kernel
theorem d4_26 : decode prog_28_method_9_code 26 = .ok (.getfield 13, 3) := by decide +kernel
theorem d4_29 : decode prog_28_method_9_code 29 = .ok (.aload_n 2, 1) := by decide +kernel
theorem d4_30 : decode prog_28_method_9_code 30 = .ok (.getfield 13, 3) := by decide +kernel
theorem d4_33 : decode prog_28_method_9_code 33 = .ok (.if_icmp .ne 62, 3) := by decide +kernel
theorem d4_36 : decode prog_28_method_9_code 36 = .ok (.aload_n 0, 1) := by decide +kernel
theorem d4_37 : decode prog_28_method_9_code 37 = .ok (.getfield 16, 3) := by decide +kernel
theorem d4_40 : decode prog_28_method_9_code 40 = .ok (.aload_n 2, 1) := by decide +kernel
theorem d4_41 : decode prog_28_method_9_code 41 = .ok (.getfield 16, 3) := by decide +kernel
theorem d4_44 : decode prog_28_method_9_code 44 = .ok (.if_icmp .ne 51, 3) := by decide +kernel
theorem d4_47 : decode prog_28_method_9_code 47 = .ok (.aload_n 0, 1) := by decide +kernel
theorem d4_48 : decode prog_28_method_9_code 48 = .ok (.getfield 19, 3) := by decide +kernel
theorem d4_51 : decode prog_28_method_9_code 51 = .ok (.aload_n 2, 1) := by decide +kernel
theorem d4_52 : decode prog_28_method_9_code 52 = .ok (.getfield 19, 3) := by decide +kernel
theorem d4_55 : decode prog_28_method_9_code 55 = .ok (.if_icmp .ne 40, 3) := by decide +kernel
theorem d4_58 : decode prog_28_method_9_code 58 = .ok (.aload_n 0, 1) := by decide +kernel
theorem d4_59 : decode prog_28_method_9_code 59 = .ok (.getfield 22, 3) := by decide +kernel
theorem d4_62 : decode prog_28_method_9_code 62 = .ok (.aload_n 2, 1) := by decide +kernel
theorem d4_63 : decode prog_28_method_9_code 63 = .ok (.getfield 22, 3) := by decide +kernel
theorem d4_66 : decode prog_28_method_9_code 66 = .ok (.if_acmp .ne 29, 3) := by decide +kernel
theorem d4_69 : decode prog_28_method_9_code 69 = .ok (.aload_n 0, 1) := by decide +kernel
theorem d4_70 : decode prog_28_method_9_code 70 = .ok (.getfield 26, 3) := by decide +kernel
theorem d4_73 : decode prog_28_method_9_code 73 = .ok (.aload_n 2, 1) := by decide +kernel
theorem d4_74 : decode prog_28_method_9_code 74 = .ok (.getfield 26, 3) := by decide +kernel
theorem d4_77 : decode prog_28_method_9_code 77 = .ok (.if_icmp .ne 18, 3) := by decide +kernel
theorem d4_80 : decode prog_28_method_9_code 80 = .ok (.aload_n 0, 1) := by decide +kernel
theorem d4_81 : decode prog_28_method_9_code 81 = .ok (.getfield 29, 3) := by decide +kernel
theorem d4_84 : decode prog_28_method_9_code 84 = .ok (.aload_n 2, 1) := by decide +kernel
theorem d4_85 : decode prog_28_method_9_code 85 = .ok (.getfield 29, 3) := by decide +kernel
theorem d4_88 : decode prog_28_method_9_code 88 = .ok (.if_icmp .ne 7, 3) := by decide +kernel
theorem d4_91 : decode prog_28_method_9_code 91 = .ok (.iconst 1, 1) := by decide +kernel
theorem d4_92 : decode prog_28_method_9_code 92 = .ok (.goto 4, 3) := by decide +kernel
theorem d4_95 : decode prog_28_method_9_code 95 = .ok (.iconst 0, 1) := by decide +kernel
theorem d4_96 : decode prog_28_method_9_code 96 = .ok (.ireturn, 1) := by decide +kernel
theorem ef_rmEY (m : MethodId) (o : Addr) (q : Addr) : entryFrame m #[(.ref o), (.ref q)] 3 = mkF m 0 #[.val (.ref o), .val (.ref q), .unset] [] := by first | (simp [entryFrame, mkF, argsToLocals, Value.category, maxLocals]; done) | rfl
def QrmEY (Z : State) (o : Addr) (q : Addr) (x1 : Int32) (x2 : Int32) (x3 : Int32) (x4 : Int32) (xr : Addr) (x5 : Int32) (x6 : Int32) (y1 : Int32) (y2 : Int32) (y3 : Int32) (y4 : Int32) (yr : Addr) (y5 : Int32) (y6 : Int32) (n0 : Nat) (h0 : Heap) (rv : Option Value) (h : Heap) : Prop := rv = some (.int (own_eq7 x1 y1 x2 y2 x3 y3 x4 y4 xr yr x5 y5 x6 y6)) ∧ h0 = h
abbrev RrmEY : Room := { frames := 0, cells := 0, slots := 0, locals := 0 }
set_option maxRecDepth 65536 in
set_option maxHeartbeats 40000000 in
theorem rmEY (l : Launch) (Z : State) (a0 : Array Value) (hw : ∀ d ∈ tables_1, d.before a0 Z = true) (ws : List Jvm.Cond) (o : Addr) (q : Addr) (x1 : Int32) (x2 : Int32) (x3 : Int32) (x4 : Int32) (xr : Addr) (x5 : Int32) (x6 : Int32) (y1 : Int32) (y2 : Int32) (y3 : Int32) (y4 : Int32) (yr : Addr) (y5 : Int32) (y6 : Int32) (n0 : Nat) (h0 : Heap) (hn : n0 ≤ h0.size) (H0 : Fld Z h0 o "com/example/shoal_creek/shoalcreek/Step" "start" "I" (.int x1)) (H1 : Fld Z h0 o "com/example/shoal_creek/shoalcreek/Step" "comparisons" "I" (.int x2)) (H2 : Fld Z h0 o "com/example/shoal_creek/shoalcreek/Step" "mismatch" "I" (.int x3)) (H3 : Fld Z h0 o "com/example/shoal_creek/shoalcreek/Step" "shift" "I" (.int x4)) (H4 : Fld Z h0 o "com/example/shoal_creek/shoalcreek/Step" "rule" "Lcom/example/shoal_creek/shoalcreek/ShiftRule;" (.ref xr)) (H5 : Fld Z h0 o "com/example/shoal_creek/shoalcreek/Step" "badCharacterShift" "I" (.int x5)) (H6 : Fld Z h0 o "com/example/shoal_creek/shoalcreek/Step" "goodSuffixShift" "I" (.int x6)) (H7 : Exa Z h0 q "com/example/shoal_creek/shoalcreek/Step") (H8 : Fld Z h0 q "com/example/shoal_creek/shoalcreek/Step" "start" "I" (.int y1)) (H9 : Fld Z h0 q "com/example/shoal_creek/shoalcreek/Step" "comparisons" "I" (.int y2)) (H10 : Fld Z h0 q "com/example/shoal_creek/shoalcreek/Step" "mismatch" "I" (.int y3)) (H11 : Fld Z h0 q "com/example/shoal_creek/shoalcreek/Step" "shift" "I" (.int y4)) (H12 : Fld Z h0 q "com/example/shoal_creek/shoalcreek/Step" "rule" "Lcom/example/shoal_creek/shoalcreek/ShiftRule;" (.ref yr)) (H13 : Fld Z h0 q "com/example/shoal_creek/shoalcreek/Step" "badCharacterShift" "I" (.int y5)) (H14 : Fld Z h0 q "com/example/shoal_creek/shoalcreek/Step" "goodSuffixShift" "I" (.int y6))  :
    Con l Z (⟨"com/example/shoal_creek/shoalcreek/Step", "equals", "(Ljava/lang/Object;)Z"⟩ : MethodName) prog_28_method_9_code 3 (some .boolean) ws RrmEY #[(.ref o), (.ref q)] h0 n0 (QrmEY Z o q x1 x2 x3 x4 xr x5 x6 y1 y2 y3 y4 yr y5 y6 n0 h0) := by
  refine body (y := (⟨"com/example/shoal_creek/shoalcreek/Step", "equals", "(Ljava/lang/Object;)Z"⟩ : MethodName)) (Ls := #[.val (.ref o), .val (.ref q), .unset]) (plainFor_of_name pn3) hn (fun m => ef_rmEY m o q) ?_
  intro p e s m below meth c T0 hx hby hml hown hnm hret hlk hZ X0
  refine i_aloadN (v := (.ref q)) (pc' := 1) X0 hx (hb hby d4_0) rfl rfl rfl ?_
  refine ioY (pc' := 4) X0 hx hZ hown (hw _ (List.mem_of_getElem? (i := 54) rfl)) (Ins.self H7) (hb hby d4_1) rfl fun T1 X1 => ?_
  show Go _ _ _ _ _ _ _ T1 (mkF m 4 #[.val (.ref o), .val (.ref q), .unset] [(.int (1 : Int32))])
  refine i_ifT (pc' := 9) X1 hx (hb hby d4_4) (XT.i0_ne_t (by decide)) (by decide) (by decide) ?_
  refine i_aloadN (v := (.ref q)) (pc' := 10) X1 hx (hb hby d4_9) rfl rfl rfl ?_
  refine ccY (pc' := 13) X1 hx hZ hown (hw _ (List.mem_of_getElem? (i := 54) rfl)) (Ins.self H7) (hb hby d4_10) rfl fun T2 X2 => ?_
  show Go _ _ _ _ _ _ _ T2 (mkF m 13 #[.val (.ref o), .val (.ref q), .unset] [(.ref q)])
  refine i_astoreN (L' := #[.val (.ref o), .val (.ref q), .val (.ref q)]) (pc' := 14) X2 hx (hb hby d4_13) rfl rfl rfl ?_
  refine i_aloadN (v := (.ref o)) (pc' := 15) X2 hx (hb hby d4_14) rfl rfl rfl ?_
  refine gf (pc' := 18) (host := "") X2 hx hZ hown (Or.inl (hw _ (List.mem_of_getElem? (i := 35) rfl))) Via.refl H0 (hb hby d4_15) rfl fun T3 X3 => ?_
  refine i_aloadN (v := (.ref q)) (pc' := 19) X3 hx (hb hby d4_18) rfl rfl rfl ?_
  refine gf (pc' := 22) (host := "") X3 hx hZ hown (Or.inl (hw _ (List.mem_of_getElem? (i := 35) rfl))) Via.refl H8 (hb hby d4_19) rfl fun T4 X4 => ?_
  by_cases hc5 : x1 = y1
  · skip
    refine i_icF (pc' := 25) X4 hx (hb hby d4_22) rfl (XT.ii_ne_f hc5) ?_
    refine i_aloadN (v := (.ref o)) (pc' := 26) X4 hx (hb hby d4_25) rfl rfl rfl ?_
    refine gf (pc' := 29) (host := "") X4 hx hZ hown (Or.inl (hw _ (List.mem_of_getElem? (i := 37) rfl))) Via.refl H1 (hb hby d4_26) rfl fun T6 X6 => ?_
    refine i_aloadN (v := (.ref q)) (pc' := 30) X6 hx (hb hby d4_29) rfl rfl rfl ?_
    refine gf (pc' := 33) (host := "") X6 hx hZ hown (Or.inl (hw _ (List.mem_of_getElem? (i := 37) rfl))) Via.refl H9 (hb hby d4_30) rfl fun T7 X7 => ?_
    by_cases hc8 : x2 = y2
    · skip
      refine i_icF (pc' := 36) X7 hx (hb hby d4_33) rfl (XT.ii_ne_f hc8) ?_
      refine i_aloadN (v := (.ref o)) (pc' := 37) X7 hx (hb hby d4_36) rfl rfl rfl ?_
      refine gf (pc' := 40) (host := "") X7 hx hZ hown (Or.inl (hw _ (List.mem_of_getElem? (i := 39) rfl))) Via.refl H2 (hb hby d4_37) rfl fun T9 X9 => ?_
      refine i_aloadN (v := (.ref q)) (pc' := 41) X9 hx (hb hby d4_40) rfl rfl rfl ?_
      refine gf (pc' := 44) (host := "") X9 hx hZ hown (Or.inl (hw _ (List.mem_of_getElem? (i := 39) rfl))) Via.refl H10 (hb hby d4_41) rfl fun T10 X10 => ?_
      by_cases hc11 : x3 = y3
      · skip
        refine i_icF (pc' := 47) X10 hx (hb hby d4_44) rfl (XT.ii_ne_f hc11) ?_
        refine i_aloadN (v := (.ref o)) (pc' := 48) X10 hx (hb hby d4_47) rfl rfl rfl ?_
        refine gf (pc' := 51) (host := "") X10 hx hZ hown (Or.inl (hw _ (List.mem_of_getElem? (i := 41) rfl))) Via.refl H3 (hb hby d4_48) rfl fun T12 X12 => ?_
        refine i_aloadN (v := (.ref q)) (pc' := 52) X12 hx (hb hby d4_51) rfl rfl rfl ?_
        refine gf (pc' := 55) (host := "") X12 hx hZ hown (Or.inl (hw _ (List.mem_of_getElem? (i := 41) rfl))) Via.refl H11 (hb hby d4_52) rfl fun T13 X13 => ?_
        by_cases hc14 : x4 = y4
        · skip
          refine i_icF (pc' := 58) X13 hx (hb hby d4_55) rfl (XT.ii_ne_f hc14) ?_
          refine i_aloadN (v := (.ref o)) (pc' := 59) X13 hx (hb hby d4_58) rfl rfl rfl ?_
          refine gf (pc' := 62) (host := "") X13 hx hZ hown (Or.inl (hw _ (List.mem_of_getElem? (i := 43) rfl))) Via.refl H4 (hb hby d4_59) rfl fun T15 X15 => ?_
          refine i_aloadN (v := (.ref q)) (pc' := 63) X15 hx (hb hby d4_62) rfl rfl rfl ?_
          refine gf (pc' := 66) (host := "") X15 hx hZ hown (Or.inl (hw _ (List.mem_of_getElem? (i := 43) rfl))) Via.refl H12 (hb hby d4_63) rfl fun T16 X16 => ?_
          by_cases hc17 : ((.ref xr) : Value) = (.ref yr)
          · skip
            refine i_acF (pc' := 69) X16 hx (hb hby d4_66) rfl rfl rfl (XT.aa_ne_f hc17) ?_
            refine i_aloadN (v := (.ref o)) (pc' := 70) X16 hx (hb hby d4_69) rfl rfl rfl ?_
            refine gf (pc' := 73) (host := "") X16 hx hZ hown (Or.inl (hw _ (List.mem_of_getElem? (i := 45) rfl))) Via.refl H5 (hb hby d4_70) rfl fun T18 X18 => ?_
            refine i_aloadN (v := (.ref q)) (pc' := 74) X18 hx (hb hby d4_73) rfl rfl rfl ?_
            refine gf (pc' := 77) (host := "") X18 hx hZ hown (Or.inl (hw _ (List.mem_of_getElem? (i := 45) rfl))) Via.refl H13 (hb hby d4_74) rfl fun T19 X19 => ?_
            by_cases hc20 : x5 = y5
            · skip
              refine i_icF (pc' := 80) X19 hx (hb hby d4_77) rfl (XT.ii_ne_f hc20) ?_
              refine i_aloadN (v := (.ref o)) (pc' := 81) X19 hx (hb hby d4_80) rfl rfl rfl ?_
              refine gf (pc' := 84) (host := "") X19 hx hZ hown (Or.inl (hw _ (List.mem_of_getElem? (i := 47) rfl))) Via.refl H6 (hb hby d4_81) rfl fun T21 X21 => ?_
              refine i_aloadN (v := (.ref q)) (pc' := 85) X21 hx (hb hby d4_84) rfl rfl rfl ?_
              refine gf (pc' := 88) (host := "") X21 hx hZ hown (Or.inl (hw _ (List.mem_of_getElem? (i := 47) rfl))) Via.refl H14 (hb hby d4_85) rfl fun T22 X22 => ?_
              by_cases hc23 : x6 = y6
              · skip
                refine i_icF (pc' := 91) X22 hx (hb hby d4_88) rfl (XT.ii_ne_f hc23) ?_
                refine i_iconst (pc' := 92) (1 : Int32) X22 hx (hb hby d4_91) rfl (by decide) ?_
                refine i_goto (pc' := 96) X22 hx (hb hby d4_92) (by decide) (by decide) ?_
                refine rN X22 hx hlk hret (by simp) (hb hby d4_96) (by decide) (by decide) ?_
                exact ⟨(by simp only [own_eq7, own_nar1, own_nar0, hc5, hc8, hc11, hc14, hc17, hc20, hc23, if_true, if_false]), rfl⟩
              · skip
                refine i_icT (pc' := 95) X22 hx (hb hby d4_88) (XT.ii_ne_t hc23) (by decide) (by decide) ?_
                refine i_iconst (pc' := 96) (0 : Int32) X22 hx (hb hby d4_95) rfl (by decide) ?_
                refine rN X22 hx hlk hret (by simp) (hb hby d4_96) (by decide) (by decide) ?_
                exact ⟨(by simp only [own_eq7, own_nar1, own_nar0, hc5, hc8, hc11, hc14, hc17, hc20, hc23, if_true, if_false]), rfl⟩
            · skip
              refine i_icT (pc' := 95) X19 hx (hb hby d4_77) (XT.ii_ne_t hc20) (by decide) (by decide) ?_
              refine i_iconst (pc' := 96) (0 : Int32) X19 hx (hb hby d4_95) rfl (by decide) ?_
              refine rN X19 hx hlk hret (by simp) (hb hby d4_96) (by decide) (by decide) ?_
              exact ⟨(by simp only [own_eq7, own_nar1, own_nar0, hc5, hc8, hc11, hc14, hc17, hc20, if_true, if_false]), rfl⟩
          · skip
            refine i_acT (pc' := 95) X16 hx (hb hby d4_66) rfl rfl (XT.aa_ne_t hc17) (by decide) (by decide) ?_
            refine i_iconst (pc' := 96) (0 : Int32) X16 hx (hb hby d4_95) rfl (by decide) ?_
            refine rN X16 hx hlk hret (by simp) (hb hby d4_96) (by decide) (by decide) ?_
            exact ⟨(by simp only [own_eq7, own_nar1, own_nar0, hc5, hc8, hc11, hc14, hc17, if_true, if_false]), rfl⟩
        · skip
          refine i_icT (pc' := 95) X13 hx (hb hby d4_55) (XT.ii_ne_t hc14) (by decide) (by decide) ?_
          refine i_iconst (pc' := 96) (0 : Int32) X13 hx (hb hby d4_95) rfl (by decide) ?_
          refine rN X13 hx hlk hret (by simp) (hb hby d4_96) (by decide) (by decide) ?_
          exact ⟨(by simp only [own_eq7, own_nar1, own_nar0, hc5, hc8, hc11, hc14, if_true, if_false]), rfl⟩
      · skip
        refine i_icT (pc' := 95) X10 hx (hb hby d4_44) (XT.ii_ne_t hc11) (by decide) (by decide) ?_
        refine i_iconst (pc' := 96) (0 : Int32) X10 hx (hb hby d4_95) rfl (by decide) ?_
        refine rN X10 hx hlk hret (by simp) (hb hby d4_96) (by decide) (by decide) ?_
        exact ⟨(by simp only [own_eq7, own_nar1, own_nar0, hc5, hc8, hc11, if_true, if_false]), rfl⟩
    · skip
      refine i_icT (pc' := 95) X7 hx (hb hby d4_33) (XT.ii_ne_t hc8) (by decide) (by decide) ?_
      refine i_iconst (pc' := 96) (0 : Int32) X7 hx (hb hby d4_95) rfl (by decide) ?_
      refine rN X7 hx hlk hret (by simp) (hb hby d4_96) (by decide) (by decide) ?_
      exact ⟨(by simp only [own_eq7, own_nar1, own_nar0, hc5, hc8, if_true, if_false]), rfl⟩
  · skip
    refine i_icT (pc' := 95) X4 hx (hb hby d4_22) (XT.ii_ne_t hc5) (by decide) (by decide) ?_
    refine i_iconst (pc' := 96) (0 : Int32) X4 hx (hb hby d4_95) rfl (by decide) ?_
    refine rN X4 hx hlk hret (by simp) (hb hby d4_96) (by decide) (by decide) ?_
    exact ⟨(by simp only [own_eq7, own_nar1, own_nar0, hc5, if_true, if_false]), rfl⟩
theorem ef_rmEN (m : MethodId) (o : Addr) (q : Addr) : entryFrame m #[(.ref o), (.ref q)] 3 = mkF m 0 #[.val (.ref o), .val (.ref q), .unset] [] := by first | (simp [entryFrame, mkF, argsToLocals, Value.category, maxLocals]; done) | rfl
def QrmEN (Z : State) (o : Addr) (q : Addr) (n0 : Nat) (h0 : Heap) (rv : Option Value) (h : Heap) : Prop := rv = some (.int (0 : Int32)) ∧ h0 = h
abbrev RrmEN : Room := { frames := 0, cells := 0, slots := 0, locals := 0 }
set_option maxRecDepth 65536 in
set_option maxHeartbeats 40000000 in
theorem rmEN (l : Launch) (Z : State) (a0 : Array Value) (hw : ∀ d ∈ tables_1, d.before a0 Z = true) (ws : List Jvm.Cond) (o : Addr) (q : Addr) (n0 : Nat) (h0 : Heap) (hn : n0 ≤ h0.size) (H0 : Exa Z h0 q "java/lang/Integer")  :
    Con l Z (⟨"com/example/shoal_creek/shoalcreek/Step", "equals", "(Ljava/lang/Object;)Z"⟩ : MethodName) prog_28_method_9_code 3 (some .boolean) ws RrmEN #[(.ref o), (.ref q)] h0 n0 (QrmEN Z o q n0 h0) := by
  refine body (y := (⟨"com/example/shoal_creek/shoalcreek/Step", "equals", "(Ljava/lang/Object;)Z"⟩ : MethodName)) (Ls := #[.val (.ref o), .val (.ref q), .unset]) (plainFor_of_name pn3) hn (fun m => ef_rmEN m o q) ?_
  intro p e s m below meth c T0 hx hby hml hown hnm hret hlk hZ X0
  refine i_aloadN (v := (.ref q)) (pc' := 1) X0 hx (hb hby d4_0) rfl rfl rfl ?_
  refine ioN (pc' := 4) X0 hx hZ hown (hw _ (List.mem_of_getElem? (i := 54) rfl)) H0 (own_nsNo (hw _ (List.mem_of_getElem? (i := 63) rfl)) (hw _ (List.mem_of_getElem? (i := 27) rfl)) (NS.step (hw _ (List.mem_of_getElem? (i := 63) rfl)) (NS.step (hw _ (List.mem_of_getElem? (i := 64) rfl)) (own_nsRoot (hw _ (List.mem_of_getElem? (i := 65) rfl)) (hw _ (List.mem_of_getElem? (i := 27) rfl)) (by decide)) (by decide)) (by decide)) (by decide)) (hb hby d4_1) rfl fun T1 X1 => ?_
  show Go _ _ _ _ _ _ _ T1 (mkF m 4 #[.val (.ref o), .val (.ref q), .unset] [(.int (0 : Int32))])
  refine i_ifF (pc' := 7) X1 hx (hb hby d4_4) rfl (XT.i0_ne_f (by decide)) ?_
  refine i_iconst (pc' := 8) (0 : Int32) X1 hx (hb hby d4_7) rfl (by decide) ?_
  refine rN X1 hx hlk hret (by simp) (hb hby d4_8) (by decide) (by decide) ?_
  exact ⟨(by decide), rfl⟩
theorem ef_rmEZ (m : MethodId) (o : Addr) : entryFrame m #[(.ref o), .null] 3 = mkF m 0 #[.val (.ref o), .val .null, .unset] [] := by first | (simp [entryFrame, mkF, argsToLocals, Value.category, maxLocals]; done) | rfl
def QrmEZ (Z : State) (o : Addr) (n0 : Nat) (h0 : Heap) (rv : Option Value) (h : Heap) : Prop := rv = some (.int (0 : Int32)) ∧ h0 = h
abbrev RrmEZ : Room := { frames := 0, cells := 0, slots := 0, locals := 0 }
set_option maxRecDepth 65536 in
set_option maxHeartbeats 40000000 in
theorem rmEZ (l : Launch) (Z : State) (a0 : Array Value) (hw : ∀ d ∈ tables_1, d.before a0 Z = true) (ws : List Jvm.Cond) (o : Addr) (n0 : Nat) (h0 : Heap) (hn : n0 ≤ h0.size)   :
    Con l Z (⟨"com/example/shoal_creek/shoalcreek/Step", "equals", "(Ljava/lang/Object;)Z"⟩ : MethodName) prog_28_method_9_code 3 (some .boolean) ws RrmEZ #[(.ref o), .null] h0 n0 (QrmEZ Z o n0 h0) := by
  refine body (y := (⟨"com/example/shoal_creek/shoalcreek/Step", "equals", "(Ljava/lang/Object;)Z"⟩ : MethodName)) (Ls := #[.val (.ref o), .val .null, .unset]) (plainFor_of_name pn3) hn (fun m => ef_rmEZ m o) ?_
  intro p e s m below meth c T0 hx hby hml hown hnm hret hlk hZ X0
  refine i_aloadN (v := .null) (pc' := 1) X0 hx (hb hby d4_0) rfl rfl rfl ?_
  refine ioZ (pc' := 4) X0 hx (hb hby d4_1) rfl ?_
  show Go _ _ _ _ _ _ _ T0 (mkF m 4 #[.val (.ref o), .val .null, .unset] [(.int (0 : Int32))])
  refine i_ifF (pc' := 7) X0 hx (hb hby d4_4) rfl (XT.i0_ne_f (by decide)) ?_
  refine i_iconst (pc' := 8) (0 : Int32) X0 hx (hb hby d4_7) rfl (by decide) ?_
  refine rN X0 hx hlk hret (by simp) (hb hby d4_8) (by decide) (by decide) ?_
  exact ⟨(by decide), rfl⟩
theorem ef_rm0 (m : MethodId) (p1 : Int64) (p2 : Int64) (p3 : Int64) (p4 : Int64) (p5 : Int32) (p6 : Int32) : entryFrame m #[(.long p1), (.long p2), (.long p3), (.long p4), (.int p5), (.int p6)] maxLocals = mkF m 0 #[.val (.long p1), .second, .val (.long p2), .second, .val (.long p3), .second, .val (.long p4), .second, .val (.int p5), .val (.int p6), .unset, .unset, .unset, .unset, .unset, .unset, .unset, .unset, .unset, .unset, .unset, .unset, .unset, .unset, .unset, .unset, .unset, .unset, .unset, .unset, .unset] [] := by first | (simp [entryFrame, mkF, argsToLocals, Value.category, maxLocals]; done) | rfl
abbrev Q0 : Option Value → Heap → Prop := fun v _ => v = some (.int 1)
theorem pd2 : parseMethodDescriptor "(I)Lcom/example/shoal_creek/shoalcreek/ShiftRule;" = some ⟨[.int], some (.object "com/example/shoal_creek/shoalcreek/ShiftRule")⟩ := by decide +kernel
theorem pd3 : parseMethodDescriptor "(IIIILcom/example/shoal_creek/shoalcreek/ShiftRule;II)V" = some ⟨[.int, .int, .int, .int, (.object "com/example/shoal_creek/shoalcreek/ShiftRule"), .int, .int], none⟩ := by decide +kernel
theorem pd4 : parseMethodDescriptor "(Ljava/lang/Object;)Z" = some ⟨[(.object "java/lang/Object")], some .boolean⟩ := by decide +kernel
theorem pd5 : parseMethodDescriptor "(I)Ljava/lang/Integer;" = some ⟨[.int], some (.object "java/lang/Integer")⟩ := by decide +kernel
set_option maxRecDepth 65536 in
set_option maxHeartbeats 40000000 in
theorem rm0 (l : Launch) (Z : State) (a0 : Array Value) (hw : ∀ d ∈ tables_1, d.before a0 Z = true) (ws : List Jvm.Cond) (p1 : Int64) (p2 : Int64) (p3 : Int64) (p4 : Int64) (p5 : Int32) (p6 : Int32) (n0 : Nat) (h0 : Heap) (hn : n0 ≤ h0.size) (ra0 ra1 ra2 ra3 ra4 ra5 ra6 ra7 ra8 ca : Addr) (H0 : Sta Z h0 "com/example/shoal_creek/shoalcreek/ShiftRule" "BAD_CHARACTER" "Lcom/example/shoal_creek/shoalcreek/ShiftRule;" (.ref ra0)) (H1 : Sta Z h0 "com/example/shoal_creek/shoalcreek/ShiftRule" "GOOD_SUFFIX" "Lcom/example/shoal_creek/shoalcreek/ShiftRule;" (.ref ra1)) (H2 : Sta Z h0 "com/example/shoal_creek/shoalcreek/ShiftRule" "FULL_MATCH" "Lcom/example/shoal_creek/shoalcreek/ShiftRule;" (.ref ra2)) (H3 : Sta Z h0 "com/example/shoal_creek/shoalcreek/ShiftRule" "NEXT_WINDOW" "Lcom/example/shoal_creek/shoalcreek/ShiftRule;" (.ref ra3)) (H4 : Sta Z h0 "com/example/shoal_creek/shoalcreek/ShiftRule" "BORDER" "Lcom/example/shoal_creek/shoalcreek/ShiftRule;" (.ref ra4)) (H5 : Sta Z h0 "com/example/shoal_creek/shoalcreek/ShiftRule" "ROLLING_HASH" "Lcom/example/shoal_creek/shoalcreek/ShiftRule;" (.ref ra5)) (H6 : Sta Z h0 "com/example/shoal_creek/shoalcreek/ShiftRule" "LAST_CHARS" "Lcom/example/shoal_creek/shoalcreek/ShiftRule;" (.ref ra6)) (H7 : Sta Z h0 "com/example/shoal_creek/shoalcreek/ShiftRule" "BLOCK_END" "Lcom/example/shoal_creek/shoalcreek/ShiftRule;" (.ref ra7)) (H8 : Sta Z h0 "com/example/shoal_creek/shoalcreek/ShiftRule" "NONE" "Lcom/example/shoal_creek/shoalcreek/ShiftRule;" (.ref ra8)) (H9 : Exa Z h0 ra0 "com/example/shoal_creek/shoalcreek/ShiftRule") (H10 : Exa Z h0 ra1 "com/example/shoal_creek/shoalcreek/ShiftRule") (H11 : Exa Z h0 ra2 "com/example/shoal_creek/shoalcreek/ShiftRule") (H12 : Exa Z h0 ra3 "com/example/shoal_creek/shoalcreek/ShiftRule") (H13 : Exa Z h0 ra4 "com/example/shoal_creek/shoalcreek/ShiftRule") (H14 : Exa Z h0 ra5 "com/example/shoal_creek/shoalcreek/ShiftRule") (H15 : Exa Z h0 ra6 "com/example/shoal_creek/shoalcreek/ShiftRule") (H16 : Exa Z h0 ra7 "com/example/shoal_creek/shoalcreek/ShiftRule") (H17 : Exa Z h0 ra8 "com/example/shoal_creek/shoalcreek/ShiftRule") (H18 : Sta Z h0 "java/lang/Integer$IntegerCache" "high" "I" (.int (127 : Int32))) (H19 : Sta Z h0 "java/lang/Integer$IntegerCache" "cache" "[Ljava/lang/Integer;" (.ref ca)) (H20 : own_cache Z h0 ca) :
    Con l Z x code maxLocals ret ws room_1 #[(.long p1), (.long p2), (.long p3), (.long p4), (.int p5), (.int p6)] h0 n0 Q0 := by
  refine body (y := x) (Ls := #[.val (.long p1), .second, .val (.long p2), .second, .val (.long p3), .second, .val (.long p4), .second, .val (.int p5), .val (.int p6), .unset, .unset, .unset, .unset, .unset, .unset, .unset, .unset, .unset, .unset, .unset, .unset, .unset, .unset, .unset, .unset, .unset, .unset, .unset, .unset, .unset]) (plainFor_of_name pn2) hn (fun m => ef_rm0 m p1 p2 p3 p4 p5 p6) ?_
  intro p e s m below meth c T0 hx hby hml hown hnm hret hlk hZ X0
  replace hown : s.vm.findClass "com/example/shoal_creek/shoalcreek/StepEqualsPinLaw" = some m.cls := hown
  replace hml : c.maxLocals = 31 := hml
  replace hret : meth.sig.returnType = (some .boolean) := hret
  refine i_lloadN (v := p1) (pc' := 1) X0 hx (hb hby at_0) rfl rfl ?_
  refine i_l2i (pc' := 2) X0 hx (hb hby at_1) rfl ?_
  obtain ⟨v1, hv1⟩ : ∃ zz : Int32, zz = (p1.toInt32) := ⟨_, rfl⟩
  rw [← hv1]
  refine i_istore (L' := #[.val (.long p1), .second, .val (.long p2), .second, .val (.long p3), .second, .val (.long p4), .second, .val (.int p5), .val (.int p6), .val (.int v1), .unset, .unset, .unset, .unset, .unset, .unset, .unset, .unset, .unset, .unset, .unset, .unset, .unset, .unset, .unset, .unset, .unset, .unset, .unset, .unset]) (pc' := 4) X0 hx (hb hby at_2) rfl rfl ?_
  refine i_lloadN (v := p1) (pc' := 5) X0 hx (hb hby at_4) rfl rfl ?_
  refine i_bipush (pc' := 7) (32 : Int32) X0 hx (hb hby at_5) rfl (by decide) ?_
  refine i_lushr (pc' := 8) X0 hx (hb hby at_7) rfl ?_
  refine i_l2i (pc' := 9) X0 hx (hb hby at_8) rfl ?_
  obtain ⟨v2, hv2⟩ : ∃ zz : Int32, zz = ((XT.ushrL p1 (32 : Int32)).toInt32) := ⟨_, rfl⟩
  rw [← hv2]
  refine i_istore (L' := #[.val (.long p1), .second, .val (.long p2), .second, .val (.long p3), .second, .val (.long p4), .second, .val (.int p5), .val (.int p6), .val (.int v1), .val (.int v2), .unset, .unset, .unset, .unset, .unset, .unset, .unset, .unset, .unset, .unset, .unset, .unset, .unset, .unset, .unset, .unset, .unset, .unset, .unset]) (pc' := 11) X0 hx (hb hby at_9) rfl rfl ?_
  refine i_lloadN (v := p2) (pc' := 12) X0 hx (hb hby at_11) rfl rfl ?_
  refine i_l2i (pc' := 13) X0 hx (hb hby at_12) rfl ?_
  obtain ⟨v3, hv3⟩ : ∃ zz : Int32, zz = (p2.toInt32) := ⟨_, rfl⟩
  rw [← hv3]
  refine i_istore (L' := #[.val (.long p1), .second, .val (.long p2), .second, .val (.long p3), .second, .val (.long p4), .second, .val (.int p5), .val (.int p6), .val (.int v1), .val (.int v2), .val (.int v3), .unset, .unset, .unset, .unset, .unset, .unset, .unset, .unset, .unset, .unset, .unset, .unset, .unset, .unset, .unset, .unset, .unset, .unset]) (pc' := 15) X0 hx (hb hby at_13) rfl rfl ?_
  refine i_lloadN (v := p2) (pc' := 16) X0 hx (hb hby at_15) rfl rfl ?_
  refine i_bipush (pc' := 18) (32 : Int32) X0 hx (hb hby at_16) rfl (by decide) ?_
  refine i_lushr (pc' := 19) X0 hx (hb hby at_18) rfl ?_
  refine i_l2i (pc' := 20) X0 hx (hb hby at_19) rfl ?_
  obtain ⟨v4, hv4⟩ : ∃ zz : Int32, zz = ((XT.ushrL p2 (32 : Int32)).toInt32) := ⟨_, rfl⟩
  rw [← hv4]
  refine i_istore (L' := #[.val (.long p1), .second, .val (.long p2), .second, .val (.long p3), .second, .val (.long p4), .second, .val (.int p5), .val (.int p6), .val (.int v1), .val (.int v2), .val (.int v3), .val (.int v4), .unset, .unset, .unset, .unset, .unset, .unset, .unset, .unset, .unset, .unset, .unset, .unset, .unset, .unset, .unset, .unset, .unset]) (pc' := 22) X0 hx (hb hby at_20) rfl rfl ?_
  refine i_lload (v := p3) (pc' := 24) X0 hx (hb hby at_22) rfl rfl ?_
  refine i_l2i (pc' := 25) X0 hx (hb hby at_24) rfl ?_
  obtain ⟨v5, hv5⟩ : ∃ zz : Int32, zz = (p3.toInt32) := ⟨_, rfl⟩
  rw [← hv5]
  refine i_istore (L' := #[.val (.long p1), .second, .val (.long p2), .second, .val (.long p3), .second, .val (.long p4), .second, .val (.int p5), .val (.int p6), .val (.int v1), .val (.int v2), .val (.int v3), .val (.int v4), .val (.int v5), .unset, .unset, .unset, .unset, .unset, .unset, .unset, .unset, .unset, .unset, .unset, .unset, .unset, .unset, .unset, .unset]) (pc' := 27) X0 hx (hb hby at_25) rfl rfl ?_
  refine i_lload (v := p3) (pc' := 29) X0 hx (hb hby at_27) rfl rfl ?_
  refine i_bipush (pc' := 31) (32 : Int32) X0 hx (hb hby at_29) rfl (by decide) ?_
  refine i_lushr (pc' := 32) X0 hx (hb hby at_31) rfl ?_
  refine i_l2i (pc' := 33) X0 hx (hb hby at_32) rfl ?_
  obtain ⟨v6, hv6⟩ : ∃ zz : Int32, zz = ((XT.ushrL p3 (32 : Int32)).toInt32) := ⟨_, rfl⟩
  rw [← hv6]
  refine i_istore (L' := #[.val (.long p1), .second, .val (.long p2), .second, .val (.long p3), .second, .val (.long p4), .second, .val (.int p5), .val (.int p6), .val (.int v1), .val (.int v2), .val (.int v3), .val (.int v4), .val (.int v5), .val (.int v6), .unset, .unset, .unset, .unset, .unset, .unset, .unset, .unset, .unset, .unset, .unset, .unset, .unset, .unset, .unset]) (pc' := 35) X0 hx (hb hby at_33) rfl rfl ?_
  refine i_iload (v := p5) (pc' := 37) X0 hx (hb hby at_35) rfl rfl ?_
  refine i_sipush (pc' := 40) (255 : Int32) X0 hx (hb hby at_37) rfl (by decide) ?_
  refine i_iand (pc' := 41) X0 hx (hb hby at_40) rfl ?_
  refine i_bipush (pc' := 43) (9 : Int32) X0 hx (hb hby at_41) rfl (by decide) ?_
  refine i_irem (pc' := 44) X0 hx (hb hby at_43) rfl (by decide) ?_
  refine cS (y := (⟨"com/example/shoal_creek/shoalcreek/StepEqualsPinLaw", "rule", "(I)Lcom/example/shoal_creek/shoalcreek/ShiftRule;"⟩ : MethodName)) (rest := []) (pc' := 47) 0 [(.int ((p5 &&& (255 : Int32)) % (9 : Int32)))] X0 hx hZ hown (hw _ (List.mem_of_getElem? (i := 0) rfl)) (hw _ (List.mem_of_getElem? (i := 1) rfl)) (hw _ (List.mem_of_getElem? (i := 2) rfl)) (hw _ (List.mem_of_getElem? (i := 3) rfl)) (by decide) (rmR l Z a0 hw [] ((p5 &&& (255 : Int32)) % (9 : Int32)) ra0 ra1 ra2 ra3 ra4 ra5 ra6 ra7 ra8 n0 h0 X0.le H0 H1 H2 H3 H4 H5 H6 H7 H8 H9 H10 H11 H12 H13 H14 H15 H16 H17 (own_rem9 _)) (by decide) (by decide) (by rw [hml]; rfl) rfl (lenOf pd2 rfl) rfl (Nat.le_of_eq rfl) (hb hby at_44) rfl (by decide) (by decide) ?_
  intro r7 T7 h7 X7 q7
  obtain ⟨b7, rfl, K7c⟩ := q7
  show Go _ _ _ _ _ _ _ T7 (mkF m 47 #[.val (.long p1), .second, .val (.long p2), .second, .val (.long p3), .second, .val (.long p4), .second, .val (.int p5), .val (.int p6), .val (.int v1), .val (.int v2), .val (.int v3), .val (.int v4), .val (.int v5), .val (.int v6), .unset, .unset, .unset, .unset, .unset, .unset, .unset, .unset, .unset, .unset, .unset, .unset, .unset, .unset, .unset] [(.ref b7)])
  refine i_astore (L' := #[.val (.long p1), .second, .val (.long p2), .second, .val (.long p3), .second, .val (.long p4), .second, .val (.int p5), .val (.int p6), .val (.int v1), .val (.int v2), .val (.int v3), .val (.int v4), .val (.int v5), .val (.int v6), .val (.ref b7), .unset, .unset, .unset, .unset, .unset, .unset, .unset, .unset, .unset, .unset, .unset, .unset, .unset, .unset]) (pc' := 49) X7 hx (hb hby at_47) rfl rfl rfl ?_
  refine i_lload (v := p4) (pc' := 51) X7 hx (hb hby at_49) rfl rfl ?_
  refine i_l2i (pc' := 52) X7 hx (hb hby at_51) rfl ?_
  obtain ⟨v8, hv8⟩ : ∃ zz : Int32, zz = (p4.toInt32) := ⟨_, rfl⟩
  rw [← hv8]
  refine i_istore (L' := #[.val (.long p1), .second, .val (.long p2), .second, .val (.long p3), .second, .val (.long p4), .second, .val (.int p5), .val (.int p6), .val (.int v1), .val (.int v2), .val (.int v3), .val (.int v4), .val (.int v5), .val (.int v6), .val (.ref b7), .val (.int v8), .unset, .unset, .unset, .unset, .unset, .unset, .unset, .unset, .unset, .unset, .unset, .unset, .unset]) (pc' := 54) X7 hx (hb hby at_52) rfl rfl ?_
  refine i_lload (v := p4) (pc' := 56) X7 hx (hb hby at_54) rfl rfl ?_
  refine i_bipush (pc' := 58) (32 : Int32) X7 hx (hb hby at_56) rfl (by decide) ?_
  refine i_lushr (pc' := 59) X7 hx (hb hby at_58) rfl ?_
  refine i_l2i (pc' := 60) X7 hx (hb hby at_59) rfl ?_
  obtain ⟨v9, hv9⟩ : ∃ zz : Int32, zz = ((XT.ushrL p4 (32 : Int32)).toInt32) := ⟨_, rfl⟩
  rw [← hv9]
  refine i_istore (L' := #[.val (.long p1), .second, .val (.long p2), .second, .val (.long p3), .second, .val (.long p4), .second, .val (.int p5), .val (.int p6), .val (.int v1), .val (.int v2), .val (.int v3), .val (.int v4), .val (.int v5), .val (.int v6), .val (.ref b7), .val (.int v8), .val (.int v9), .unset, .unset, .unset, .unset, .unset, .unset, .unset, .unset, .unset, .unset, .unset, .unset]) (pc' := 62) X7 hx (hb hby at_60) rfl rfl ?_
  refine i_iload (v := p6) (pc' := 64) X7 hx (hb hby at_62) rfl rfl ?_
  refine i_iconst (pc' := 65) (1 : Int32) X7 hx (hb hby at_64) rfl (by decide) ?_
  refine i_iand (pc' := 66) X7 hx (hb hby at_65) rfl ?_
  obtain ⟨v10, hv10⟩ : ∃ zz : Int32, zz = (if (p6 &&& (1 : Int32)) = 0 then v1 else (v1 + v8)) := ⟨_, rfl⟩
  have J11 : ∀ (T : State), Pn p l e room_1 s m #[(.long p1), (.long p2), (.long p3), (.long p4), (.int p5), (.int p6)] below meth c T h7 n0 (0 + 1) (0 + 9) → Go p e s below n0 Q0 room_1 T (mkF m 79 #[.val (.long p1), .second, .val (.long p2), .second, .val (.long p3), .second, .val (.long p4), .second, .val (.int p5), .val (.int p6), .val (.int v1), .val (.int v2), .val (.int v3), .val (.int v4), .val (.int v5), .val (.int v6), .val (.ref b7), .val (.int v8), .val (.int v9), .unset, .unset, .unset, .unset, .unset, .unset, .unset, .unset, .unset, .unset, .unset, .unset] [(.int v10)]) := by
    intro T11 X11
    refine i_istore (L' := #[.val (.long p1), .second, .val (.long p2), .second, .val (.long p3), .second, .val (.long p4), .second, .val (.int p5), .val (.int p6), .val (.int v1), .val (.int v2), .val (.int v3), .val (.int v4), .val (.int v5), .val (.int v6), .val (.ref b7), .val (.int v8), .val (.int v9), .val (.int v10), .unset, .unset, .unset, .unset, .unset, .unset, .unset, .unset, .unset, .unset, .unset]) (pc' := 81) X11 hx (hb hby at_79) rfl rfl ?_
    refine i_iload (v := p6) (pc' := 83) X11 hx (hb hby at_81) rfl rfl ?_
    refine i_iconst (pc' := 84) (2 : Int32) X11 hx (hb hby at_83) rfl (by decide) ?_
    refine i_iand (pc' := 85) X11 hx (hb hby at_84) rfl ?_
    obtain ⟨v12, hv12⟩ : ∃ zz : Int32, zz = (if (p6 &&& (2 : Int32)) = 0 then v2 else (v2 + v9)) := ⟨_, rfl⟩
    have J13 : ∀ (T : State), Pn p l e room_1 s m #[(.long p1), (.long p2), (.long p3), (.long p4), (.int p5), (.int p6)] below meth c T h7 n0 (0 + 1) (0 + 9) → Go p e s below n0 Q0 room_1 T (mkF m 98 #[.val (.long p1), .second, .val (.long p2), .second, .val (.long p3), .second, .val (.long p4), .second, .val (.int p5), .val (.int p6), .val (.int v1), .val (.int v2), .val (.int v3), .val (.int v4), .val (.int v5), .val (.int v6), .val (.ref b7), .val (.int v8), .val (.int v9), .val (.int v10), .unset, .unset, .unset, .unset, .unset, .unset, .unset, .unset, .unset, .unset, .unset] [(.int v12)]) := by
      intro T13 X13
      refine i_istore (L' := #[.val (.long p1), .second, .val (.long p2), .second, .val (.long p3), .second, .val (.long p4), .second, .val (.int p5), .val (.int p6), .val (.int v1), .val (.int v2), .val (.int v3), .val (.int v4), .val (.int v5), .val (.int v6), .val (.ref b7), .val (.int v8), .val (.int v9), .val (.int v10), .val (.int v12), .unset, .unset, .unset, .unset, .unset, .unset, .unset, .unset, .unset, .unset]) (pc' := 100) X13 hx (hb hby at_98) rfl rfl ?_
      refine i_iload (v := p6) (pc' := 102) X13 hx (hb hby at_100) rfl rfl ?_
      refine i_iconst (pc' := 103) (4 : Int32) X13 hx (hb hby at_102) rfl (by decide) ?_
      refine i_iand (pc' := 104) X13 hx (hb hby at_103) rfl ?_
      obtain ⟨v14, hv14⟩ : ∃ zz : Int32, zz = (if (p6 &&& (4 : Int32)) = 0 then v3 else (v3 + v8)) := ⟨_, rfl⟩
      have J15 : ∀ (T : State), Pn p l e room_1 s m #[(.long p1), (.long p2), (.long p3), (.long p4), (.int p5), (.int p6)] below meth c T h7 n0 (0 + 1) (0 + 9) → Go p e s below n0 Q0 room_1 T (mkF m 117 #[.val (.long p1), .second, .val (.long p2), .second, .val (.long p3), .second, .val (.long p4), .second, .val (.int p5), .val (.int p6), .val (.int v1), .val (.int v2), .val (.int v3), .val (.int v4), .val (.int v5), .val (.int v6), .val (.ref b7), .val (.int v8), .val (.int v9), .val (.int v10), .val (.int v12), .unset, .unset, .unset, .unset, .unset, .unset, .unset, .unset, .unset, .unset] [(.int v14)]) := by
        intro T15 X15
        refine i_istore (L' := #[.val (.long p1), .second, .val (.long p2), .second, .val (.long p3), .second, .val (.long p4), .second, .val (.int p5), .val (.int p6), .val (.int v1), .val (.int v2), .val (.int v3), .val (.int v4), .val (.int v5), .val (.int v6), .val (.ref b7), .val (.int v8), .val (.int v9), .val (.int v10), .val (.int v12), .val (.int v14), .unset, .unset, .unset, .unset, .unset, .unset, .unset, .unset, .unset]) (pc' := 119) X15 hx (hb hby at_117) rfl rfl ?_
        refine i_iload (v := p6) (pc' := 121) X15 hx (hb hby at_119) rfl rfl ?_
        refine i_bipush (pc' := 123) (8 : Int32) X15 hx (hb hby at_121) rfl (by decide) ?_
        refine i_iand (pc' := 124) X15 hx (hb hby at_123) rfl ?_
        obtain ⟨v16, hv16⟩ : ∃ zz : Int32, zz = (if (p6 &&& (8 : Int32)) = 0 then v4 else (v4 + v9)) := ⟨_, rfl⟩
        have J17 : ∀ (T : State), Pn p l e room_1 s m #[(.long p1), (.long p2), (.long p3), (.long p4), (.int p5), (.int p6)] below meth c T h7 n0 (0 + 1) (0 + 9) → Go p e s below n0 Q0 room_1 T (mkF m 137 #[.val (.long p1), .second, .val (.long p2), .second, .val (.long p3), .second, .val (.long p4), .second, .val (.int p5), .val (.int p6), .val (.int v1), .val (.int v2), .val (.int v3), .val (.int v4), .val (.int v5), .val (.int v6), .val (.ref b7), .val (.int v8), .val (.int v9), .val (.int v10), .val (.int v12), .val (.int v14), .unset, .unset, .unset, .unset, .unset, .unset, .unset, .unset, .unset] [(.int v16)]) := by
          intro T17 X17
          refine i_istore (L' := #[.val (.long p1), .second, .val (.long p2), .second, .val (.long p3), .second, .val (.long p4), .second, .val (.int p5), .val (.int p6), .val (.int v1), .val (.int v2), .val (.int v3), .val (.int v4), .val (.int v5), .val (.int v6), .val (.ref b7), .val (.int v8), .val (.int v9), .val (.int v10), .val (.int v12), .val (.int v14), .val (.int v16), .unset, .unset, .unset, .unset, .unset, .unset, .unset, .unset]) (pc' := 139) X17 hx (hb hby at_137) rfl rfl ?_
          refine i_iload (v := p6) (pc' := 141) X17 hx (hb hby at_139) rfl rfl ?_
          refine i_bipush (pc' := 143) (16 : Int32) X17 hx (hb hby at_141) rfl (by decide) ?_
          refine i_iand (pc' := 144) X17 hx (hb hby at_143) rfl ?_
          by_cases hc18 : (p6 &&& (16 : Int32)) = 0
          · skip
            refine i_ifT (pc' := 165) X17 hx (hb hby at_144) (XT.i0_eq_t hc18) (by decide) (by decide) ?_
            refine i_aload (v := (.ref b7)) (pc' := 167) X17 hx (hb hby at_165) rfl rfl rfl ?_
            refine i_astore (L' := #[.val (.long p1), .second, .val (.long p2), .second, .val (.long p3), .second, .val (.long p4), .second, .val (.int p5), .val (.int p6), .val (.int v1), .val (.int v2), .val (.int v3), .val (.int v4), .val (.int v5), .val (.int v6), .val (.ref b7), .val (.int v8), .val (.int v9), .val (.int v10), .val (.int v12), .val (.int v14), .val (.int v16), .val (.ref b7), .unset, .unset, .unset, .unset, .unset, .unset, .unset]) (pc' := 169) X17 hx (hb hby at_167) rfl rfl rfl ?_
            refine i_iload (v := p6) (pc' := 171) X17 hx (hb hby at_169) rfl rfl ?_
            refine i_bipush (pc' := 173) (32 : Int32) X17 hx (hb hby at_171) rfl (by decide) ?_
            refine i_iand (pc' := 174) X17 hx (hb hby at_173) rfl ?_
            obtain ⟨v19, hv19⟩ : ∃ zz : Int32, zz = (if (p6 &&& (32 : Int32)) = 0 then v5 else (v5 + v8)) := ⟨_, rfl⟩
            have J20 : ∀ (T : State), Pn p l e room_1 s m #[(.long p1), (.long p2), (.long p3), (.long p4), (.int p5), (.int p6)] below meth c T h7 n0 (0 + 1) (0 + 9) → Go p e s below n0 Q0 room_1 T (mkF m 187 #[.val (.long p1), .second, .val (.long p2), .second, .val (.long p3), .second, .val (.long p4), .second, .val (.int p5), .val (.int p6), .val (.int v1), .val (.int v2), .val (.int v3), .val (.int v4), .val (.int v5), .val (.int v6), .val (.ref b7), .val (.int v8), .val (.int v9), .val (.int v10), .val (.int v12), .val (.int v14), .val (.int v16), .val (.ref b7), .unset, .unset, .unset, .unset, .unset, .unset, .unset] [(.int v19)]) := by
              intro T20 X20
              refine i_istore (L' := #[.val (.long p1), .second, .val (.long p2), .second, .val (.long p3), .second, .val (.long p4), .second, .val (.int p5), .val (.int p6), .val (.int v1), .val (.int v2), .val (.int v3), .val (.int v4), .val (.int v5), .val (.int v6), .val (.ref b7), .val (.int v8), .val (.int v9), .val (.int v10), .val (.int v12), .val (.int v14), .val (.int v16), .val (.ref b7), .val (.int v19), .unset, .unset, .unset, .unset, .unset, .unset]) (pc' := 189) X20 hx (hb hby at_187) rfl rfl ?_
              refine i_iload (v := p6) (pc' := 191) X20 hx (hb hby at_189) rfl rfl ?_
              refine i_bipush (pc' := 193) (64 : Int32) X20 hx (hb hby at_191) rfl (by decide) ?_
              refine i_iand (pc' := 194) X20 hx (hb hby at_193) rfl ?_
              obtain ⟨v21, hv21⟩ : ∃ zz : Int32, zz = (if (p6 &&& (64 : Int32)) = 0 then v6 else (v6 + v9)) := ⟨_, rfl⟩
              have J22 : ∀ (T : State), Pn p l e room_1 s m #[(.long p1), (.long p2), (.long p3), (.long p4), (.int p5), (.int p6)] below meth c T h7 n0 (0 + 1) (0 + 9) → Go p e s below n0 Q0 room_1 T (mkF m 207 #[.val (.long p1), .second, .val (.long p2), .second, .val (.long p3), .second, .val (.long p4), .second, .val (.int p5), .val (.int p6), .val (.int v1), .val (.int v2), .val (.int v3), .val (.int v4), .val (.int v5), .val (.int v6), .val (.ref b7), .val (.int v8), .val (.int v9), .val (.int v10), .val (.int v12), .val (.int v14), .val (.int v16), .val (.ref b7), .val (.int v19), .unset, .unset, .unset, .unset, .unset, .unset] [(.int v21)]) := by
                intro T22 X22
                refine i_istore (L' := #[.val (.long p1), .second, .val (.long p2), .second, .val (.long p3), .second, .val (.long p4), .second, .val (.int p5), .val (.int p6), .val (.int v1), .val (.int v2), .val (.int v3), .val (.int v4), .val (.int v5), .val (.int v6), .val (.ref b7), .val (.int v8), .val (.int v9), .val (.int v10), .val (.int v12), .val (.int v14), .val (.int v16), .val (.ref b7), .val (.int v19), .val (.int v21), .unset, .unset, .unset, .unset, .unset]) (pc' := 209) X22 hx (hb hby at_207) rfl rfl ?_
                refine nw (pc' := 212) X22 hx hZ hown (hw _ (List.mem_of_getElem? (i := 26) rfl)) (hw _ (List.mem_of_getElem? (i := 27) rfl)) (hw _ (List.mem_of_getElem? (i := 28) rfl)) (hb hby at_209) rfl (by decide) (by decide) fun T23 h23 b23 X23 g23 ge23 E23 A23 D23 => ?_
                have F24 : Exa Z h7 ra0 "com/example/shoal_creek/shoalcreek/ShiftRule" := (H9.keep K7c)
                have ne_ra0_b23 : ra0 ≠ b23 := Nat.ne_of_lt (Nat.lt_of_lt_of_eq F24.lt g23.symm)
                have F25 : Exa Z h7 ra1 "com/example/shoal_creek/shoalcreek/ShiftRule" := (H10.keep K7c)
                have ne_ra1_b23 : ra1 ≠ b23 := Nat.ne_of_lt (Nat.lt_of_lt_of_eq F25.lt g23.symm)
                have F26 : Exa Z h7 ra2 "com/example/shoal_creek/shoalcreek/ShiftRule" := (H11.keep K7c)
                have ne_ra2_b23 : ra2 ≠ b23 := Nat.ne_of_lt (Nat.lt_of_lt_of_eq F26.lt g23.symm)
                have F27 : Exa Z h7 ra3 "com/example/shoal_creek/shoalcreek/ShiftRule" := (H12.keep K7c)
                have ne_ra3_b23 : ra3 ≠ b23 := Nat.ne_of_lt (Nat.lt_of_lt_of_eq F27.lt g23.symm)
                have F28 : Exa Z h7 ra4 "com/example/shoal_creek/shoalcreek/ShiftRule" := (H13.keep K7c)
                have ne_ra4_b23 : ra4 ≠ b23 := Nat.ne_of_lt (Nat.lt_of_lt_of_eq F28.lt g23.symm)
                have F29 : Exa Z h7 ra5 "com/example/shoal_creek/shoalcreek/ShiftRule" := (H14.keep K7c)
                have ne_ra5_b23 : ra5 ≠ b23 := Nat.ne_of_lt (Nat.lt_of_lt_of_eq F29.lt g23.symm)
                have F30 : Exa Z h7 ra6 "com/example/shoal_creek/shoalcreek/ShiftRule" := (H15.keep K7c)
                have ne_ra6_b23 : ra6 ≠ b23 := Nat.ne_of_lt (Nat.lt_of_lt_of_eq F30.lt g23.symm)
                have F31 : Exa Z h7 ra7 "com/example/shoal_creek/shoalcreek/ShiftRule" := (H16.keep K7c)
                have ne_ra7_b23 : ra7 ≠ b23 := Nat.ne_of_lt (Nat.lt_of_lt_of_eq F31.lt g23.symm)
                have F32 : Exa Z h7 ra8 "com/example/shoal_creek/shoalcreek/ShiftRule" := (H17.keep K7c)
                have ne_ra8_b23 : ra8 ≠ b23 := Nat.ne_of_lt (Nat.lt_of_lt_of_eq F32.lt g23.symm)
                have sz_b23 : h0.size ≤ b23 := Nat.le_trans ((((Keep.refl h0 _) : Keep h0 h0 []).trans K7c all0) : Keep h0 h7 []).1 (Nat.le_of_eq g23.symm)
                have K23 : Keep h0 h23 [] := ((((Keep.refl h0 _) : Keep h0 h0 []).trans K7c all0) : Keep h0 h7 []).ext E23
                refine i_dup (pc' := 213) X23 hx (hb hby at_212) rfl rfl ?_
                refine i_iload (v := v1) (pc' := 215) X23 hx (hb hby at_213) rfl rfl ?_
                refine i_iload (v := v2) (pc' := 217) X23 hx (hb hby at_215) rfl rfl ?_
                refine i_iload (v := v3) (pc' := 219) X23 hx (hb hby at_217) rfl rfl ?_
                refine i_iload (v := v4) (pc' := 221) X23 hx (hb hby at_219) rfl rfl ?_
                refine i_aload (v := (.ref b7)) (pc' := 223) X23 hx (hb hby at_221) rfl rfl rfl ?_
                refine i_iload (v := v5) (pc' := 225) X23 hx (hb hby at_223) rfl rfl ?_
                refine i_iload (v := v6) (pc' := 227) X23 hx (hb hby at_225) rfl rfl ?_
                have F33 : Fld Z h23 b23 "com/example/shoal_creek/shoalcreek/Step" "start" "I" (.int (0 : Int32)) := (D23 (Or.inr (hw _ (List.mem_of_getElem? (i := 36) rfl))) (ty := .int) (by decide))
                have F34 : Fld Z h23 b23 "com/example/shoal_creek/shoalcreek/Step" "comparisons" "I" (.int (0 : Int32)) := (D23 (Or.inr (hw _ (List.mem_of_getElem? (i := 38) rfl))) (ty := .int) (by decide))
                have F35 : Fld Z h23 b23 "com/example/shoal_creek/shoalcreek/Step" "mismatch" "I" (.int (0 : Int32)) := (D23 (Or.inr (hw _ (List.mem_of_getElem? (i := 40) rfl))) (ty := .int) (by decide))
                have F36 : Fld Z h23 b23 "com/example/shoal_creek/shoalcreek/Step" "shift" "I" (.int (0 : Int32)) := (D23 (Or.inr (hw _ (List.mem_of_getElem? (i := 42) rfl))) (ty := .int) (by decide))
                have F37 : Fld Z h23 b23 "com/example/shoal_creek/shoalcreek/Step" "rule" "Lcom/example/shoal_creek/shoalcreek/ShiftRule;" .null := (D23 (Or.inr (hw _ (List.mem_of_getElem? (i := 44) rfl))) (ty := (.object "com/example/shoal_creek/shoalcreek/ShiftRule")) (by decide))
                have F38 : Fld Z h23 b23 "com/example/shoal_creek/shoalcreek/Step" "badCharacterShift" "I" (.int (0 : Int32)) := (D23 (Or.inr (hw _ (List.mem_of_getElem? (i := 46) rfl))) (ty := .int) (by decide))
                have F39 : Fld Z h23 b23 "com/example/shoal_creek/shoalcreek/Step" "goodSuffixShift" "I" (.int (0 : Int32)) := (D23 (Or.inr (hw _ (List.mem_of_getElem? (i := 48) rfl))) (ty := .int) (by decide))
                refine cI (y := (⟨"com/example/shoal_creek/shoalcreek/Step", "<init>", "(IIIILcom/example/shoal_creek/shoalcreek/ShiftRule;II)V"⟩ : MethodName)) (rest := [(.ref b23)]) (pc' := 230) (a := b23) 1 [(.int v1), (.int v2), (.int v3), (.int v4), (.ref b7), (.int v5), (.int v6)] X23 hx hZ hown rfl (hw _ (List.mem_of_getElem? (i := 29) rfl)) (hw _ (List.mem_of_getElem? (i := 30) rfl)) (hw _ (List.mem_of_getElem? (i := 28) rfl)) (hw _ (List.mem_of_getElem? (i := 31) rfl)) (by decide) (rm2 l Z a0 hw [] b23 v1 v2 v3 v4 b7 v5 v6 n0 h23 X23.le A23 F33 F34 F35 F36 F37 F38 F39 ge23) (by decide) (by decide) (by rw [hml]; rfl) rfl (lenOf pd3 rfl) rfl (Nat.le_of_eq rfl) (hb hby at_227) rfl (by decide) (by decide) ?_
                intro r40 T40 h40 X40 q40
                obtain ⟨rfl, K40c, P40_0, P40_1, P40_2, P40_3, P40_4, P40_5, P40_6⟩ := q40
                show Go _ _ _ _ _ _ _ T40 (mkF m 230 #[.val (.long p1), .second, .val (.long p2), .second, .val (.long p3), .second, .val (.long p4), .second, .val (.int p5), .val (.int p6), .val (.int v1), .val (.int v2), .val (.int v3), .val (.int v4), .val (.int v5), .val (.int v6), .val (.ref b7), .val (.int v8), .val (.int v9), .val (.int v10), .val (.int v12), .val (.int v14), .val (.int v16), .val (.ref b7), .val (.int v19), .val (.int v21), .unset, .unset, .unset, .unset, .unset] [(.ref b23)])
                refine i_astore (L' := #[.val (.long p1), .second, .val (.long p2), .second, .val (.long p3), .second, .val (.long p4), .second, .val (.int p5), .val (.int p6), .val (.int v1), .val (.int v2), .val (.int v3), .val (.int v4), .val (.int v5), .val (.int v6), .val (.ref b7), .val (.int v8), .val (.int v9), .val (.int v10), .val (.int v12), .val (.int v14), .val (.int v16), .val (.ref b7), .val (.int v19), .val (.int v21), .val (.ref b23), .unset, .unset, .unset, .unset]) (pc' := 232) X40 hx (hb hby at_230) rfl rfl rfl ?_
                refine nw (pc' := 235) X40 hx hZ hown (hw _ (List.mem_of_getElem? (i := 26) rfl)) (hw _ (List.mem_of_getElem? (i := 27) rfl)) (hw _ (List.mem_of_getElem? (i := 28) rfl)) (hb hby at_232) rfl (by decide) (by decide) fun T41 h41 b41 X41 g41 ge41 E41 A41 D41 => ?_
                have F42 : Exa Z h40 ra0 "com/example/shoal_creek/shoalcreek/ShiftRule" := ((Jvm.RoadKit.Exa.ext E23 F24).keep K40c)
                have ne_ra0_b41 : ra0 ≠ b41 := Nat.ne_of_lt (Nat.lt_of_lt_of_eq F42.lt g41.symm)
                have F43 : Exa Z h40 ra1 "com/example/shoal_creek/shoalcreek/ShiftRule" := ((Jvm.RoadKit.Exa.ext E23 F25).keep K40c)
                have ne_ra1_b41 : ra1 ≠ b41 := Nat.ne_of_lt (Nat.lt_of_lt_of_eq F43.lt g41.symm)
                have F44 : Exa Z h40 ra2 "com/example/shoal_creek/shoalcreek/ShiftRule" := ((Jvm.RoadKit.Exa.ext E23 F26).keep K40c)
                have ne_ra2_b41 : ra2 ≠ b41 := Nat.ne_of_lt (Nat.lt_of_lt_of_eq F44.lt g41.symm)
                have F45 : Exa Z h40 ra3 "com/example/shoal_creek/shoalcreek/ShiftRule" := ((Jvm.RoadKit.Exa.ext E23 F27).keep K40c)
                have ne_ra3_b41 : ra3 ≠ b41 := Nat.ne_of_lt (Nat.lt_of_lt_of_eq F45.lt g41.symm)
                have F46 : Exa Z h40 ra4 "com/example/shoal_creek/shoalcreek/ShiftRule" := ((Jvm.RoadKit.Exa.ext E23 F28).keep K40c)
                have ne_ra4_b41 : ra4 ≠ b41 := Nat.ne_of_lt (Nat.lt_of_lt_of_eq F46.lt g41.symm)
                have F47 : Exa Z h40 ra5 "com/example/shoal_creek/shoalcreek/ShiftRule" := ((Jvm.RoadKit.Exa.ext E23 F29).keep K40c)
                have ne_ra5_b41 : ra5 ≠ b41 := Nat.ne_of_lt (Nat.lt_of_lt_of_eq F47.lt g41.symm)
                have F48 : Exa Z h40 ra6 "com/example/shoal_creek/shoalcreek/ShiftRule" := ((Jvm.RoadKit.Exa.ext E23 F30).keep K40c)
                have ne_ra6_b41 : ra6 ≠ b41 := Nat.ne_of_lt (Nat.lt_of_lt_of_eq F48.lt g41.symm)
                have F49 : Exa Z h40 ra7 "com/example/shoal_creek/shoalcreek/ShiftRule" := ((Jvm.RoadKit.Exa.ext E23 F31).keep K40c)
                have ne_ra7_b41 : ra7 ≠ b41 := Nat.ne_of_lt (Nat.lt_of_lt_of_eq F49.lt g41.symm)
                have F50 : Exa Z h40 ra8 "com/example/shoal_creek/shoalcreek/ShiftRule" := ((Jvm.RoadKit.Exa.ext E23 F32).keep K40c)
                have ne_ra8_b41 : ra8 ≠ b41 := Nat.ne_of_lt (Nat.lt_of_lt_of_eq F50.lt g41.symm)
                have F51 : Exa Z h40 b23 "com/example/shoal_creek/shoalcreek/Step" := (A23.keep K40c)
                have ne_b23_b41 : b23 ≠ b41 := Nat.ne_of_lt (Nat.lt_of_lt_of_eq F51.lt g41.symm)
                have sz_b41 : h0.size ≤ b41 := Nat.le_trans (((K23 : Keep h0 h23 []).trans K40c (allS (Or.inr sz_b23) all0)) : Keep h0 h40 []).1 (Nat.le_of_eq g41.symm)
                have K41 : Keep h0 h41 [] := (((K23 : Keep h0 h23 []).trans K40c (allS (Or.inr sz_b23) all0)) : Keep h0 h40 []).ext E41
                refine i_dup (pc' := 236) X41 hx (hb hby at_235) rfl rfl ?_
                refine i_iload (v := v10) (pc' := 238) X41 hx (hb hby at_236) rfl rfl ?_
                refine i_iload (v := v12) (pc' := 240) X41 hx (hb hby at_238) rfl rfl ?_
                refine i_iload (v := v14) (pc' := 242) X41 hx (hb hby at_240) rfl rfl ?_
                refine i_iload (v := v16) (pc' := 244) X41 hx (hb hby at_242) rfl rfl ?_
                refine i_aload (v := (.ref b7)) (pc' := 246) X41 hx (hb hby at_244) rfl rfl rfl ?_
                refine i_iload (v := v19) (pc' := 248) X41 hx (hb hby at_246) rfl rfl ?_
                refine i_iload (v := v21) (pc' := 250) X41 hx (hb hby at_248) rfl rfl ?_
                have F52 : Fld Z h41 b41 "com/example/shoal_creek/shoalcreek/Step" "start" "I" (.int (0 : Int32)) := (D41 (Or.inr (hw _ (List.mem_of_getElem? (i := 36) rfl))) (ty := .int) (by decide))
                have F53 : Fld Z h41 b41 "com/example/shoal_creek/shoalcreek/Step" "comparisons" "I" (.int (0 : Int32)) := (D41 (Or.inr (hw _ (List.mem_of_getElem? (i := 38) rfl))) (ty := .int) (by decide))
                have F54 : Fld Z h41 b41 "com/example/shoal_creek/shoalcreek/Step" "mismatch" "I" (.int (0 : Int32)) := (D41 (Or.inr (hw _ (List.mem_of_getElem? (i := 40) rfl))) (ty := .int) (by decide))
                have F55 : Fld Z h41 b41 "com/example/shoal_creek/shoalcreek/Step" "shift" "I" (.int (0 : Int32)) := (D41 (Or.inr (hw _ (List.mem_of_getElem? (i := 42) rfl))) (ty := .int) (by decide))
                have F56 : Fld Z h41 b41 "com/example/shoal_creek/shoalcreek/Step" "rule" "Lcom/example/shoal_creek/shoalcreek/ShiftRule;" .null := (D41 (Or.inr (hw _ (List.mem_of_getElem? (i := 44) rfl))) (ty := (.object "com/example/shoal_creek/shoalcreek/ShiftRule")) (by decide))
                have F57 : Fld Z h41 b41 "com/example/shoal_creek/shoalcreek/Step" "badCharacterShift" "I" (.int (0 : Int32)) := (D41 (Or.inr (hw _ (List.mem_of_getElem? (i := 46) rfl))) (ty := .int) (by decide))
                have F58 : Fld Z h41 b41 "com/example/shoal_creek/shoalcreek/Step" "goodSuffixShift" "I" (.int (0 : Int32)) := (D41 (Or.inr (hw _ (List.mem_of_getElem? (i := 48) rfl))) (ty := .int) (by decide))
                refine cI (y := (⟨"com/example/shoal_creek/shoalcreek/Step", "<init>", "(IIIILcom/example/shoal_creek/shoalcreek/ShiftRule;II)V"⟩ : MethodName)) (rest := [(.ref b41)]) (pc' := 253) (a := b41) 1 [(.int v10), (.int v12), (.int v14), (.int v16), (.ref b7), (.int v19), (.int v21)] X41 hx hZ hown rfl (hw _ (List.mem_of_getElem? (i := 29) rfl)) (hw _ (List.mem_of_getElem? (i := 30) rfl)) (hw _ (List.mem_of_getElem? (i := 28) rfl)) (hw _ (List.mem_of_getElem? (i := 31) rfl)) (by decide) (rm2 l Z a0 hw [] b41 v10 v12 v14 v16 b7 v19 v21 n0 h41 X41.le A41 F52 F53 F54 F55 F56 F57 F58 ge41) (by decide) (by decide) (by rw [hml]; rfl) rfl (lenOf pd3 rfl) rfl (Nat.le_of_eq rfl) (hb hby at_250) rfl (by decide) (by decide) ?_
                intro r59 T59 h59 X59 q59
                obtain ⟨rfl, K59c, P59_0, P59_1, P59_2, P59_3, P59_4, P59_5, P59_6⟩ := q59
                show Go _ _ _ _ _ _ _ T59 (mkF m 253 #[.val (.long p1), .second, .val (.long p2), .second, .val (.long p3), .second, .val (.long p4), .second, .val (.int p5), .val (.int p6), .val (.int v1), .val (.int v2), .val (.int v3), .val (.int v4), .val (.int v5), .val (.int v6), .val (.ref b7), .val (.int v8), .val (.int v9), .val (.int v10), .val (.int v12), .val (.int v14), .val (.int v16), .val (.ref b7), .val (.int v19), .val (.int v21), .val (.ref b23), .unset, .unset, .unset, .unset] [(.ref b41)])
                refine i_astore (L' := #[.val (.long p1), .second, .val (.long p2), .second, .val (.long p3), .second, .val (.long p4), .second, .val (.int p5), .val (.int p6), .val (.int v1), .val (.int v2), .val (.int v3), .val (.int v4), .val (.int v5), .val (.int v6), .val (.ref b7), .val (.int v8), .val (.int v9), .val (.int v10), .val (.int v12), .val (.int v14), .val (.int v16), .val (.ref b7), .val (.int v19), .val (.int v21), .val (.ref b23), .val (.ref b41), .unset, .unset, .unset]) (pc' := 255) X59 hx (hb hby at_253) rfl rfl rfl ?_
                refine i_aload (v := (.ref b23)) (pc' := 257) X59 hx (hb hby at_255) rfl rfl rfl ?_
                refine i_aload (v := (.ref b23)) (pc' := 259) X59 hx (hb hby at_257) rfl rfl rfl ?_
                have F60 : Fld Z h59 b23 "com/example/shoal_creek/shoalcreek/Step" "start" "I" (.int v1) := ((Jvm.RoadKit.Fld.ext E41 P40_0).keep K59c (ninS ne_b23_b41 nin0))
                have F61 : Fld Z h59 b23 "com/example/shoal_creek/shoalcreek/Step" "comparisons" "I" (.int v2) := ((Jvm.RoadKit.Fld.ext E41 P40_1).keep K59c (ninS ne_b23_b41 nin0))
                have F62 : Fld Z h59 b23 "com/example/shoal_creek/shoalcreek/Step" "mismatch" "I" (.int v3) := ((Jvm.RoadKit.Fld.ext E41 P40_2).keep K59c (ninS ne_b23_b41 nin0))
                have F63 : Fld Z h59 b23 "com/example/shoal_creek/shoalcreek/Step" "shift" "I" (.int v4) := ((Jvm.RoadKit.Fld.ext E41 P40_3).keep K59c (ninS ne_b23_b41 nin0))
                have F64 : Fld Z h59 b23 "com/example/shoal_creek/shoalcreek/Step" "rule" "Lcom/example/shoal_creek/shoalcreek/ShiftRule;" (.ref b7) := ((Jvm.RoadKit.Fld.ext E41 P40_4).keep K59c (ninS ne_b23_b41 nin0))
                have F65 : Fld Z h59 b23 "com/example/shoal_creek/shoalcreek/Step" "badCharacterShift" "I" (.int v5) := ((Jvm.RoadKit.Fld.ext E41 P40_5).keep K59c (ninS ne_b23_b41 nin0))
                have F66 : Fld Z h59 b23 "com/example/shoal_creek/shoalcreek/Step" "goodSuffixShift" "I" (.int v6) := ((Jvm.RoadKit.Fld.ext E41 P40_6).keep K59c (ninS ne_b23_b41 nin0))
                have F67 : Exa Z h59 b23 "com/example/shoal_creek/shoalcreek/Step" := ((Jvm.RoadKit.Exa.ext E41 F51).keep K59c)
                refine cV (y := (⟨"com/example/shoal_creek/shoalcreek/Step", "equals", "(Ljava/lang/Object;)Z"⟩ : MethodName)) (C := "com/example/shoal_creek/shoalcreek/Step") (rest := []) (pc' := 262) 0 [(.ref b23)] X59 hx hZ hown (hw _ (List.mem_of_getElem? (i := 49) rfl)) (hw _ (List.mem_of_getElem? (i := 50) rfl)) (hw _ (List.mem_of_getElem? (i := 52) rfl)) (hw _ (List.mem_of_getElem? (i := 51) rfl)) (hw _ (List.mem_of_getElem? (i := 28) rfl)) (hw _ (List.mem_of_getElem? (i := 53) rfl)) (by decide) F67 (rmEY l Z a0 hw [] b23 b23 v1 v2 v3 v4 b7 v5 v6 v1 v2 v3 v4 b7 v5 v6 n0 h59 X59.le F60 F61 F62 F63 F64 F65 F66 F67 F60 F61 F62 F63 F64 F65 F66) (by decide) (by decide) (by rw [hml]; rfl) rfl (lenOf pd4 rfl) rfl (Nat.le_of_eq rfl) (hb hby at_259) rfl (by decide) (by decide) ?_
                intro r68 T68 h68 X68 q68
                obtain ⟨rfl, eh68⟩ := q68
                subst eh68
                show Go _ _ _ _ _ _ _ T68 (mkF m 262 #[.val (.long p1), .second, .val (.long p2), .second, .val (.long p3), .second, .val (.long p4), .second, .val (.int p5), .val (.int p6), .val (.int v1), .val (.int v2), .val (.int v3), .val (.int v4), .val (.int v5), .val (.int v6), .val (.ref b7), .val (.int v8), .val (.int v9), .val (.int v10), .val (.int v12), .val (.int v14), .val (.int v16), .val (.ref b7), .val (.int v19), .val (.int v21), .val (.ref b23), .val (.ref b41), .unset, .unset, .unset] [(.int (own_eq7 v1 v1 v2 v2 v3 v3 v4 v4 b7 b7 v5 v5 v6 v6))])
                obtain ⟨v69, hv69⟩ : ∃ zz : Int32, zz = (own_eq7 v1 v1 v2 v2 v3 v3 v4 v4 b7 b7 v5 v5 v6 v6) := ⟨_, rfl⟩
                rw [← hv69]
                refine i_istore (L' := #[.val (.long p1), .second, .val (.long p2), .second, .val (.long p3), .second, .val (.long p4), .second, .val (.int p5), .val (.int p6), .val (.int v1), .val (.int v2), .val (.int v3), .val (.int v4), .val (.int v5), .val (.int v6), .val (.ref b7), .val (.int v8), .val (.int v9), .val (.int v10), .val (.int v12), .val (.int v14), .val (.int v16), .val (.ref b7), .val (.int v19), .val (.int v21), .val (.ref b23), .val (.ref b41), .val (.int v69), .unset, .unset]) (pc' := 264) X68 hx (hb hby at_262) rfl rfl ?_
                refine i_iload (v := p6) (pc' := 266) X68 hx (hb hby at_264) rfl rfl ?_
                refine i_bipush (pc' := 268) (7 : Int32) X68 hx (hb hby at_266) rfl (by decide) ?_
                refine i_iushr (pc' := 269) X68 hx (hb hby at_268) rfl ?_
                refine i_iconst (pc' := 270) (3 : Int32) X68 hx (hb hby at_269) rfl (by decide) ?_
                refine i_iand (pc' := 271) X68 hx (hb hby at_270) rfl ?_
                obtain ⟨v70, hv70⟩ : ∃ zz : Int32, zz = ((XT.ushr p6 (7 : Int32)) &&& (3 : Int32)) := ⟨_, rfl⟩
                rw [← hv70]
                refine i_istore (L' := #[.val (.long p1), .second, .val (.long p2), .second, .val (.long p3), .second, .val (.long p4), .second, .val (.int p5), .val (.int p6), .val (.int v1), .val (.int v2), .val (.int v3), .val (.int v4), .val (.int v5), .val (.int v6), .val (.ref b7), .val (.int v8), .val (.int v9), .val (.int v10), .val (.int v12), .val (.int v14), .val (.int v16), .val (.ref b7), .val (.int v19), .val (.int v21), .val (.ref b23), .val (.ref b41), .val (.int v69), .val (.int v70), .unset]) (pc' := 273) X68 hx (hb hby at_271) rfl rfl ?_
                refine i_iload (v := v70) (pc' := 275) X68 hx (hb hby at_273) rfl rfl ?_
                refine i_iconst (pc' := 276) (2 : Int32) X68 hx (hb hby at_275) rfl (by decide) ?_
                by_cases hc71 : v70 = (2 : Int32)
                · skip
                  refine i_icF (pc' := 279) X68 hx (hb hby at_276) rfl (XT.ii_ne_f hc71) ?_
                  refine i_iload (v := v69) (pc' := 281) X68 hx (hb hby at_279) rfl rfl ?_
                  refine i_ifF (pc' := 284) X68 hx (hb hby at_281) rfl (XT.i0_eq_f (by rw [hv69]; simp [own_eq7])) ?_
                  refine i_aload (v := (.ref b23)) (pc' := 286) X68 hx (hb hby at_284) rfl rfl rfl ?_
                  refine i_aconstNull (pc' := 287) X68 hx (hb hby at_286) rfl ?_
                  refine cV (y := (⟨"com/example/shoal_creek/shoalcreek/Step", "equals", "(Ljava/lang/Object;)Z"⟩ : MethodName)) (C := "com/example/shoal_creek/shoalcreek/Step") (rest := []) (pc' := 290) 0 [.null] X68 hx hZ hown (hw _ (List.mem_of_getElem? (i := 49) rfl)) (hw _ (List.mem_of_getElem? (i := 50) rfl)) (hw _ (List.mem_of_getElem? (i := 52) rfl)) (hw _ (List.mem_of_getElem? (i := 51) rfl)) (hw _ (List.mem_of_getElem? (i := 28) rfl)) (hw _ (List.mem_of_getElem? (i := 53) rfl)) (by decide) F67 (rmEZ l Z a0 hw [] b23 n0 h59 X68.le ) (by decide) (by decide) (by rw [hml]; rfl) rfl (lenOf pd4 rfl) rfl (Nat.le_of_eq rfl) (hb hby at_287) rfl (by decide) (by decide) ?_
                  intro r72 T72 h72 X72 q72
                  obtain ⟨rfl, eh72⟩ := q72
                  subst eh72
                  show Go _ _ _ _ _ _ _ T72 (mkF m 290 #[.val (.long p1), .second, .val (.long p2), .second, .val (.long p3), .second, .val (.long p4), .second, .val (.int p5), .val (.int p6), .val (.int v1), .val (.int v2), .val (.int v3), .val (.int v4), .val (.int v5), .val (.int v6), .val (.ref b7), .val (.int v8), .val (.int v9), .val (.int v10), .val (.int v12), .val (.int v14), .val (.int v16), .val (.ref b7), .val (.int v19), .val (.int v21), .val (.ref b23), .val (.ref b41), .val (.int v69), .val (.int v70), .unset] [(.int (0 : Int32))])
                  refine i_ifF (pc' := 293) X72 hx (hb hby at_290) rfl (XT.i0_ne_f (by decide)) ?_
                  refine i_iconst (pc' := 294) (1 : Int32) X72 hx (hb hby at_293) rfl (by decide) ?_
                  refine i_goto (pc' := 298) X72 hx (hb hby at_294) (by decide) (by decide) ?_
                  refine rN X72 hx hlk hret (by simp) (hb hby at_298) (by decide) (by decide) ?_
                  exact rfl
                · skip
                  refine i_icT (pc' := 299) X68 hx (hb hby at_276) (XT.ii_ne_t hc71) (by decide) (by decide) ?_
                  refine i_iload (v := v70) (pc' := 301) X68 hx (hb hby at_299) rfl rfl ?_
                  refine i_iconst (pc' := 302) (3 : Int32) X68 hx (hb hby at_301) rfl (by decide) ?_
                  by_cases hc73 : v70 = (3 : Int32)
                  · skip
                    refine i_icF (pc' := 305) X68 hx (hb hby at_302) rfl (XT.ii_ne_f hc73) ?_
                    refine i_iload (v := v69) (pc' := 307) X68 hx (hb hby at_305) rfl rfl ?_
                    refine i_ifF (pc' := 310) X68 hx (hb hby at_307) rfl (XT.i0_eq_f (by rw [hv69]; simp [own_eq7])) ?_
                    refine i_aload (v := (.ref b23)) (pc' := 312) X68 hx (hb hby at_310) rfl rfl rfl ?_
                    refine i_iload (v := v1) (pc' := 314) X68 hx (hb hby at_312) rfl rfl ?_
                    have F74 : Sta Z h59 "java/lang/Integer$IntegerCache" "high" "I" (.int (127 : Int32)) := (own_sta_keep H18 (((K41 : Keep h0 h41 []).trans K59c (allS (Or.inr sz_b41) all0)) : Keep h0 h59 []) (fun _ _ q => nomatch q))
                    have F75 : Sta Z h59 "java/lang/Integer$IntegerCache" "cache" "[Ljava/lang/Integer;" (.ref ca) := (own_sta_keep H19 (((K41 : Keep h0 h41 []).trans K59c (allS (Or.inr sz_b41) all0)) : Keep h0 h59 []) (fun _ _ q => nomatch q))
                    refine cS (y := (⟨"java/lang/Integer", "valueOf", "(I)Ljava/lang/Integer;"⟩ : MethodName)) (rest := [(.ref b23)]) (pc' := 317) 1 [(.int v1)] X68 hx hZ hown (hw _ (List.mem_of_getElem? (i := 56) rfl)) (hw _ (List.mem_of_getElem? (i := 57) rfl)) (hw _ (List.mem_of_getElem? (i := 58) rfl)) (hw _ (List.mem_of_getElem? (i := 59) rfl)) (by decide) (rmVal l Z a0 hw [] v1 ca n0 h59 X68.le F74 F75 (own_cache_keep H20 (((K41 : Keep h0 h41 []).trans K59c (allS (Or.inr sz_b41) all0)) : Keep h0 h59 []))) (by decide) (by decide) (by rw [hml]; rfl) rfl (lenOf pd5 rfl) rfl (Nat.le_of_eq rfl) (hb hby at_314) rfl (by decide) (by decide) ?_
                    intro r76 T76 h76 X76 q76
                    obtain ⟨b76, rfl, K76c, P76_0⟩ := q76
                    show Go _ _ _ _ _ _ _ T76 (mkF m 317 #[.val (.long p1), .second, .val (.long p2), .second, .val (.long p3), .second, .val (.long p4), .second, .val (.int p5), .val (.int p6), .val (.int v1), .val (.int v2), .val (.int v3), .val (.int v4), .val (.int v5), .val (.int v6), .val (.ref b7), .val (.int v8), .val (.int v9), .val (.int v10), .val (.int v12), .val (.int v14), .val (.int v16), .val (.ref b7), .val (.int v19), .val (.int v21), .val (.ref b23), .val (.ref b41), .val (.int v69), .val (.int v70), .unset] [(.ref b76), (.ref b23)])
                    have F78 : Exa Z h76 b23 "com/example/shoal_creek/shoalcreek/Step" := (F67.keep K76c)
                    refine cV (y := (⟨"com/example/shoal_creek/shoalcreek/Step", "equals", "(Ljava/lang/Object;)Z"⟩ : MethodName)) (C := "com/example/shoal_creek/shoalcreek/Step") (rest := []) (pc' := 320) 0 [(.ref b76)] X76 hx hZ hown (hw _ (List.mem_of_getElem? (i := 49) rfl)) (hw _ (List.mem_of_getElem? (i := 50) rfl)) (hw _ (List.mem_of_getElem? (i := 52) rfl)) (hw _ (List.mem_of_getElem? (i := 51) rfl)) (hw _ (List.mem_of_getElem? (i := 28) rfl)) (hw _ (List.mem_of_getElem? (i := 53) rfl)) (by decide) F78 (rmEN l Z a0 hw [] b23 b76 n0 h76 X76.le P76_0) (by decide) (by decide) (by rw [hml]; rfl) rfl (lenOf pd4 rfl) rfl (Nat.le_of_eq rfl) (hb hby at_317) rfl (by decide) (by decide) ?_
                    intro r77 T77 h77 X77 q77
                    obtain ⟨rfl, eh77⟩ := q77
                    subst eh77
                    show Go _ _ _ _ _ _ _ T77 (mkF m 320 #[.val (.long p1), .second, .val (.long p2), .second, .val (.long p3), .second, .val (.long p4), .second, .val (.int p5), .val (.int p6), .val (.int v1), .val (.int v2), .val (.int v3), .val (.int v4), .val (.int v5), .val (.int v6), .val (.ref b7), .val (.int v8), .val (.int v9), .val (.int v10), .val (.int v12), .val (.int v14), .val (.int v16), .val (.ref b7), .val (.int v19), .val (.int v21), .val (.ref b23), .val (.ref b41), .val (.int v69), .val (.int v70), .unset] [(.int (0 : Int32))])
                    refine i_ifF (pc' := 323) X77 hx (hb hby at_320) rfl (XT.i0_ne_f (by decide)) ?_
                    refine i_iconst (pc' := 324) (1 : Int32) X77 hx (hb hby at_323) rfl (by decide) ?_
                    refine i_goto (pc' := 328) X77 hx (hb hby at_324) (by decide) (by decide) ?_
                    refine rN X77 hx hlk hret (by simp) (hb hby at_328) (by decide) (by decide) ?_
                    exact rfl
                  · skip
                    refine i_icT (pc' := 329) X68 hx (hb hby at_302) (XT.ii_ne_t hc73) (by decide) (by decide) ?_
                    refine i_iload (v := v10) (pc' := 331) X68 hx (hb hby at_329) rfl rfl ?_
                    refine i_iload (v := v1) (pc' := 333) X68 hx (hb hby at_331) rfl rfl ?_
                    obtain ⟨v79, hv79⟩ : ∃ zz : Int32, zz = (if v10 = v1 then (if v12 = v2 then (if v14 = v3 then (if v16 = v4 then (if v19 = v5 then (if v21 = v6 then (1 : Int32) else (0 : Int32)) else (0 : Int32)) else (0 : Int32)) else (0 : Int32)) else (0 : Int32)) else (0 : Int32)) := ⟨_, rfl⟩
                    have J80 : ∀ (T : State), Pn p l e room_1 s m #[(.long p1), (.long p2), (.long p3), (.long p4), (.int p5), (.int p6)] below meth c T h59 n0 (0 + 1 + 1 + 0 + 1 + 0 + 0) (0 + 9 + 7 + 0 + 7 + 0 + 0) → Go p e s below n0 Q0 room_1 T (mkF m 383 #[.val (.long p1), .second, .val (.long p2), .second, .val (.long p3), .second, .val (.long p4), .second, .val (.int p5), .val (.int p6), .val (.int v1), .val (.int v2), .val (.int v3), .val (.int v4), .val (.int v5), .val (.int v6), .val (.ref b7), .val (.int v8), .val (.int v9), .val (.int v10), .val (.int v12), .val (.int v14), .val (.int v16), .val (.ref b7), .val (.int v19), .val (.int v21), .val (.ref b23), .val (.ref b41), .val (.int v69), .val (.int v70), .unset] [(.int v79)]) := by
                      intro T80 X80
                      refine i_istore (L' := #[.val (.long p1), .second, .val (.long p2), .second, .val (.long p3), .second, .val (.long p4), .second, .val (.int p5), .val (.int p6), .val (.int v1), .val (.int v2), .val (.int v3), .val (.int v4), .val (.int v5), .val (.int v6), .val (.ref b7), .val (.int v8), .val (.int v9), .val (.int v10), .val (.int v12), .val (.int v14), .val (.int v16), .val (.ref b7), .val (.int v19), .val (.int v21), .val (.ref b23), .val (.ref b41), .val (.int v69), .val (.int v70), .val (.int v79)]) (pc' := 385) X80 hx (hb hby at_383) rfl rfl ?_
                      refine i_iload (v := v69) (pc' := 387) X80 hx (hb hby at_385) rfl rfl ?_
                      refine i_ifF (pc' := 390) X80 hx (hb hby at_387) rfl (XT.i0_eq_f (by rw [hv69]; simp [own_eq7])) ?_
                      refine i_aload (v := (.ref b23)) (pc' := 392) X80 hx (hb hby at_390) rfl rfl rfl ?_
                      refine i_aload (v := (.ref b41)) (pc' := 394) X80 hx (hb hby at_392) rfl rfl rfl ?_
                      have F81 : Exa Z h59 b41 "com/example/shoal_creek/shoalcreek/Step" := (A41.keep K59c)
                      refine cV (y := (⟨"com/example/shoal_creek/shoalcreek/Step", "equals", "(Ljava/lang/Object;)Z"⟩ : MethodName)) (C := "com/example/shoal_creek/shoalcreek/Step") (rest := []) (pc' := 397) 0 [(.ref b41)] X80 hx hZ hown (hw _ (List.mem_of_getElem? (i := 49) rfl)) (hw _ (List.mem_of_getElem? (i := 50) rfl)) (hw _ (List.mem_of_getElem? (i := 52) rfl)) (hw _ (List.mem_of_getElem? (i := 51) rfl)) (hw _ (List.mem_of_getElem? (i := 28) rfl)) (hw _ (List.mem_of_getElem? (i := 53) rfl)) (by decide) F67 (rmEY l Z a0 hw [] b23 b41 v1 v2 v3 v4 b7 v5 v6 v10 v12 v14 v16 b7 v19 v21 n0 h59 X80.le F60 F61 F62 F63 F64 F65 F66 F81 P59_0 P59_1 P59_2 P59_3 P59_4 P59_5 P59_6) (by decide) (by decide) (by rw [hml]; rfl) rfl (lenOf pd4 rfl) rfl (Nat.le_of_eq rfl) (hb hby at_394) rfl (by decide) (by decide) ?_
                      intro r82 T82 h82 X82 q82
                      obtain ⟨rfl, eh82⟩ := q82
                      subst eh82
                      show Go _ _ _ _ _ _ _ T82 (mkF m 397 #[.val (.long p1), .second, .val (.long p2), .second, .val (.long p3), .second, .val (.long p4), .second, .val (.int p5), .val (.int p6), .val (.int v1), .val (.int v2), .val (.int v3), .val (.int v4), .val (.int v5), .val (.int v6), .val (.ref b7), .val (.int v8), .val (.int v9), .val (.int v10), .val (.int v12), .val (.int v14), .val (.int v16), .val (.ref b7), .val (.int v19), .val (.int v21), .val (.ref b23), .val (.ref b41), .val (.int v69), .val (.int v70), .val (.int v79)] [(.int (own_eq7 v1 v10 v2 v12 v3 v14 v4 v16 b7 b7 v5 v19 v6 v21))])
                      refine i_iload (v := v79) (pc' := 399) X82 hx (hb hby at_397) rfl rfl ?_
                      refine i_icF (pc' := 402) X82 hx (hb hby at_399) rfl (XT.ii_ne_f (by rw [hv79]; first | exact own_eq7s _ _ _ _ _ _ _ _ _ _ _ _ _ _ | exact (own_eq7s _ _ _ _ _ _ _ _ _ _ _ _ _ _).trans (own_eq7r _ _ _ _ _ _ _ _ _ _ _ _ _))) ?_
                      refine i_aload (v := (.ref b41)) (pc' := 404) X82 hx (hb hby at_402) rfl rfl rfl ?_
                      refine i_aload (v := (.ref b23)) (pc' := 406) X82 hx (hb hby at_404) rfl rfl rfl ?_
                      refine cV (y := (⟨"com/example/shoal_creek/shoalcreek/Step", "equals", "(Ljava/lang/Object;)Z"⟩ : MethodName)) (C := "com/example/shoal_creek/shoalcreek/Step") (rest := []) (pc' := 409) 0 [(.ref b23)] X82 hx hZ hown (hw _ (List.mem_of_getElem? (i := 49) rfl)) (hw _ (List.mem_of_getElem? (i := 50) rfl)) (hw _ (List.mem_of_getElem? (i := 52) rfl)) (hw _ (List.mem_of_getElem? (i := 51) rfl)) (hw _ (List.mem_of_getElem? (i := 28) rfl)) (hw _ (List.mem_of_getElem? (i := 53) rfl)) (by decide) F81 (rmEY l Z a0 hw [] b41 b23 v10 v12 v14 v16 b7 v19 v21 v1 v2 v3 v4 b7 v5 v6 n0 h59 X82.le P59_0 P59_1 P59_2 P59_3 P59_4 P59_5 P59_6 F67 F60 F61 F62 F63 F64 F65 F66) (by decide) (by decide) (by rw [hml]; rfl) rfl (lenOf pd4 rfl) rfl (Nat.le_of_eq rfl) (hb hby at_406) rfl (by decide) (by decide) ?_
                      intro r83 T83 h83 X83 q83
                      obtain ⟨rfl, eh83⟩ := q83
                      subst eh83
                      show Go _ _ _ _ _ _ _ T83 (mkF m 409 #[.val (.long p1), .second, .val (.long p2), .second, .val (.long p3), .second, .val (.long p4), .second, .val (.int p5), .val (.int p6), .val (.int v1), .val (.int v2), .val (.int v3), .val (.int v4), .val (.int v5), .val (.int v6), .val (.ref b7), .val (.int v8), .val (.int v9), .val (.int v10), .val (.int v12), .val (.int v14), .val (.int v16), .val (.ref b7), .val (.int v19), .val (.int v21), .val (.ref b23), .val (.ref b41), .val (.int v69), .val (.int v70), .val (.int v79)] [(.int (own_eq7 v10 v1 v12 v2 v14 v3 v16 v4 b7 b7 v19 v5 v21 v6))])
                      refine i_iload (v := v79) (pc' := 411) X83 hx (hb hby at_409) rfl rfl ?_
                      refine i_icF (pc' := 414) X83 hx (hb hby at_411) rfl (XT.ii_ne_f (by rw [hv79]; first | rfl | exact own_eq7r _ _ _ _ _ _ _ _ _ _ _ _ _)) ?_
                      refine i_iconst (pc' := 415) (1 : Int32) X83 hx (hb hby at_414) rfl (by decide) ?_
                      refine i_goto (pc' := 419) X83 hx (hb hby at_415) (by decide) (by decide) ?_
                      refine rN X83 hx hlk hret (by simp) (hb hby at_419) (by decide) (by decide) ?_
                      exact rfl
                    by_cases hc84 : v10 = v1
                    · skip
                      refine i_icF (pc' := 336) X68 hx (hb hby at_333) rfl (XT.ii_ne_f hc84) ?_
                      refine i_iload (v := v12) (pc' := 338) X68 hx (hb hby at_336) rfl rfl ?_
                      refine i_iload (v := v2) (pc' := 340) X68 hx (hb hby at_338) rfl rfl ?_
                      by_cases hc85 : v12 = v2
                      · skip
                        refine i_icF (pc' := 343) X68 hx (hb hby at_340) rfl (XT.ii_ne_f hc85) ?_
                        refine i_iload (v := v14) (pc' := 345) X68 hx (hb hby at_343) rfl rfl ?_
                        refine i_iload (v := v3) (pc' := 347) X68 hx (hb hby at_345) rfl rfl ?_
                        by_cases hc86 : v14 = v3
                        · skip
                          refine i_icF (pc' := 350) X68 hx (hb hby at_347) rfl (XT.ii_ne_f hc86) ?_
                          refine i_iload (v := v16) (pc' := 352) X68 hx (hb hby at_350) rfl rfl ?_
                          refine i_iload (v := v4) (pc' := 354) X68 hx (hb hby at_352) rfl rfl ?_
                          by_cases hc87 : v16 = v4
                          · skip
                            refine i_icF (pc' := 357) X68 hx (hb hby at_354) rfl (XT.ii_ne_f hc87) ?_
                            refine i_aload (v := (.ref b7)) (pc' := 359) X68 hx (hb hby at_357) rfl rfl rfl ?_
                            refine i_aload (v := (.ref b7)) (pc' := 361) X68 hx (hb hby at_359) rfl rfl rfl ?_
                            refine i_acF (pc' := 364) X68 hx (hb hby at_361) rfl rfl rfl (XT.aa_ne_f rfl) ?_
                            refine i_iload (v := v19) (pc' := 366) X68 hx (hb hby at_364) rfl rfl ?_
                            refine i_iload (v := v5) (pc' := 368) X68 hx (hb hby at_366) rfl rfl ?_
                            by_cases hc88 : v19 = v5
                            · skip
                              refine i_icF (pc' := 371) X68 hx (hb hby at_368) rfl (XT.ii_ne_f hc88) ?_
                              refine i_iload (v := v21) (pc' := 373) X68 hx (hb hby at_371) rfl rfl ?_
                              refine i_iload (v := v6) (pc' := 375) X68 hx (hb hby at_373) rfl rfl ?_
                              by_cases hc89 : v21 = v6
                              · skip
                                refine i_icF (pc' := 378) X68 hx (hb hby at_375) rfl (XT.ii_ne_f hc89) ?_
                                refine i_iconst (pc' := 379) (1 : Int32) X68 hx (hb hby at_378) rfl (by decide) ?_
                                refine i_goto (pc' := 383) X68 hx (hb hby at_379) (by decide) (by decide) ?_
                                have ev79 := hv79
                                simp only [if_pos hc84, if_pos hc85, if_pos hc86, if_pos hc87, if_pos hc88, if_pos hc89] at ev79
                                rw [ev79] at J80
                                exact J80 _ (X68.mono (by decide) (by decide))
                              · skip
                                refine i_icT (pc' := 382) X68 hx (hb hby at_375) (XT.ii_ne_t hc89) (by decide) (by decide) ?_
                                refine i_iconst (pc' := 383) (0 : Int32) X68 hx (hb hby at_382) rfl (by decide) ?_
                                have ev79 := hv79
                                simp only [if_pos hc84, if_pos hc85, if_pos hc86, if_pos hc87, if_pos hc88, if_neg hc89] at ev79
                                rw [ev79] at J80
                                exact J80 _ (X68.mono (by decide) (by decide))
                            · skip
                              refine i_icT (pc' := 382) X68 hx (hb hby at_368) (XT.ii_ne_t hc88) (by decide) (by decide) ?_
                              refine i_iconst (pc' := 383) (0 : Int32) X68 hx (hb hby at_382) rfl (by decide) ?_
                              have ev79 := hv79
                              simp only [if_pos hc84, if_pos hc85, if_pos hc86, if_pos hc87, if_neg hc88] at ev79
                              rw [ev79] at J80
                              exact J80 _ (X68.mono (by decide) (by decide))
                          · skip
                            refine i_icT (pc' := 382) X68 hx (hb hby at_354) (XT.ii_ne_t hc87) (by decide) (by decide) ?_
                            refine i_iconst (pc' := 383) (0 : Int32) X68 hx (hb hby at_382) rfl (by decide) ?_
                            have ev79 := hv79
                            simp only [if_pos hc84, if_pos hc85, if_pos hc86, if_neg hc87] at ev79
                            rw [ev79] at J80
                            exact J80 _ (X68.mono (by decide) (by decide))
                        · skip
                          refine i_icT (pc' := 382) X68 hx (hb hby at_347) (XT.ii_ne_t hc86) (by decide) (by decide) ?_
                          refine i_iconst (pc' := 383) (0 : Int32) X68 hx (hb hby at_382) rfl (by decide) ?_
                          have ev79 := hv79
                          simp only [if_pos hc84, if_pos hc85, if_neg hc86] at ev79
                          rw [ev79] at J80
                          exact J80 _ (X68.mono (by decide) (by decide))
                      · skip
                        refine i_icT (pc' := 382) X68 hx (hb hby at_340) (XT.ii_ne_t hc85) (by decide) (by decide) ?_
                        refine i_iconst (pc' := 383) (0 : Int32) X68 hx (hb hby at_382) rfl (by decide) ?_
                        have ev79 := hv79
                        simp only [if_pos hc84, if_neg hc85] at ev79
                        rw [ev79] at J80
                        exact J80 _ (X68.mono (by decide) (by decide))
                    · skip
                      refine i_icT (pc' := 382) X68 hx (hb hby at_333) (XT.ii_ne_t hc84) (by decide) (by decide) ?_
                      refine i_iconst (pc' := 383) (0 : Int32) X68 hx (hb hby at_382) rfl (by decide) ?_
                      have ev79 := hv79
                      simp only [if_neg hc84] at ev79
                      rw [ev79] at J80
                      exact J80 _ (X68.mono (by decide) (by decide))
              by_cases hc90 : (p6 &&& (64 : Int32)) = 0
              · skip
                refine i_ifT (pc' := 205) X20 hx (hb hby at_194) (XT.i0_eq_t hc90) (by decide) (by decide) ?_
                refine i_iload (v := v6) (pc' := 207) X20 hx (hb hby at_205) rfl rfl ?_
                have ev21 := hv21
                simp only [if_pos hc90] at ev21
                rw [ev21] at J22
                exact J22 _ (X20.mono (by decide) (by decide))
              · skip
                refine i_ifF (pc' := 197) X20 hx (hb hby at_194) rfl (XT.i0_eq_f hc90) ?_
                refine i_iload (v := v6) (pc' := 199) X20 hx (hb hby at_197) rfl rfl ?_
                refine i_iload (v := v9) (pc' := 201) X20 hx (hb hby at_199) rfl rfl ?_
                refine i_iadd (pc' := 202) X20 hx (hb hby at_201) rfl ?_
                refine i_goto (pc' := 207) X20 hx (hb hby at_202) (by decide) (by decide) ?_
                have ev21 := hv21
                simp only [if_neg hc90] at ev21
                rw [ev21] at J22
                exact J22 _ (X20.mono (by decide) (by decide))
            by_cases hc91 : (p6 &&& (32 : Int32)) = 0
            · skip
              refine i_ifT (pc' := 185) X17 hx (hb hby at_174) (XT.i0_eq_t hc91) (by decide) (by decide) ?_
              refine i_iload (v := v5) (pc' := 187) X17 hx (hb hby at_185) rfl rfl ?_
              have ev19 := hv19
              simp only [if_pos hc91] at ev19
              rw [ev19] at J20
              exact J20 _ (X17.mono (by decide) (by decide))
            · skip
              refine i_ifF (pc' := 177) X17 hx (hb hby at_174) rfl (XT.i0_eq_f hc91) ?_
              refine i_iload (v := v5) (pc' := 179) X17 hx (hb hby at_177) rfl rfl ?_
              refine i_iload (v := v8) (pc' := 181) X17 hx (hb hby at_179) rfl rfl ?_
              refine i_iadd (pc' := 182) X17 hx (hb hby at_181) rfl ?_
              refine i_goto (pc' := 187) X17 hx (hb hby at_182) (by decide) (by decide) ?_
              have ev19 := hv19
              simp only [if_neg hc91] at ev19
              rw [ev19] at J20
              exact J20 _ (X17.mono (by decide) (by decide))
          · skip
            refine i_ifF (pc' := 147) X17 hx (hb hby at_144) rfl (XT.i0_eq_f hc18) ?_
            refine i_iload (v := p5) (pc' := 149) X17 hx (hb hby at_147) rfl rfl ?_
            refine i_bipush (pc' := 151) (8 : Int32) X17 hx (hb hby at_149) rfl (by decide) ?_
            refine i_iushr (pc' := 152) X17 hx (hb hby at_151) rfl ?_
            refine i_sipush (pc' := 155) (255 : Int32) X17 hx (hb hby at_152) rfl (by decide) ?_
            refine i_iand (pc' := 156) X17 hx (hb hby at_155) rfl ?_
            refine i_bipush (pc' := 158) (9 : Int32) X17 hx (hb hby at_156) rfl (by decide) ?_
            refine i_irem (pc' := 159) X17 hx (hb hby at_158) rfl (by decide) ?_
            have F92 : Sta Z h7 "com/example/shoal_creek/shoalcreek/ShiftRule" "BAD_CHARACTER" "Lcom/example/shoal_creek/shoalcreek/ShiftRule;" (.ref ra0) := (own_sta_keep H0 ((((Keep.refl h0 _) : Keep h0 h0 []).trans K7c all0) : Keep h0 h7 []) (fun _ _ q => nomatch q))
            have F93 : Sta Z h7 "com/example/shoal_creek/shoalcreek/ShiftRule" "GOOD_SUFFIX" "Lcom/example/shoal_creek/shoalcreek/ShiftRule;" (.ref ra1) := (own_sta_keep H1 ((((Keep.refl h0 _) : Keep h0 h0 []).trans K7c all0) : Keep h0 h7 []) (fun _ _ q => nomatch q))
            have F94 : Sta Z h7 "com/example/shoal_creek/shoalcreek/ShiftRule" "FULL_MATCH" "Lcom/example/shoal_creek/shoalcreek/ShiftRule;" (.ref ra2) := (own_sta_keep H2 ((((Keep.refl h0 _) : Keep h0 h0 []).trans K7c all0) : Keep h0 h7 []) (fun _ _ q => nomatch q))
            have F95 : Sta Z h7 "com/example/shoal_creek/shoalcreek/ShiftRule" "NEXT_WINDOW" "Lcom/example/shoal_creek/shoalcreek/ShiftRule;" (.ref ra3) := (own_sta_keep H3 ((((Keep.refl h0 _) : Keep h0 h0 []).trans K7c all0) : Keep h0 h7 []) (fun _ _ q => nomatch q))
            have F96 : Sta Z h7 "com/example/shoal_creek/shoalcreek/ShiftRule" "BORDER" "Lcom/example/shoal_creek/shoalcreek/ShiftRule;" (.ref ra4) := (own_sta_keep H4 ((((Keep.refl h0 _) : Keep h0 h0 []).trans K7c all0) : Keep h0 h7 []) (fun _ _ q => nomatch q))
            have F97 : Sta Z h7 "com/example/shoal_creek/shoalcreek/ShiftRule" "ROLLING_HASH" "Lcom/example/shoal_creek/shoalcreek/ShiftRule;" (.ref ra5) := (own_sta_keep H5 ((((Keep.refl h0 _) : Keep h0 h0 []).trans K7c all0) : Keep h0 h7 []) (fun _ _ q => nomatch q))
            have F98 : Sta Z h7 "com/example/shoal_creek/shoalcreek/ShiftRule" "LAST_CHARS" "Lcom/example/shoal_creek/shoalcreek/ShiftRule;" (.ref ra6) := (own_sta_keep H6 ((((Keep.refl h0 _) : Keep h0 h0 []).trans K7c all0) : Keep h0 h7 []) (fun _ _ q => nomatch q))
            have F99 : Sta Z h7 "com/example/shoal_creek/shoalcreek/ShiftRule" "BLOCK_END" "Lcom/example/shoal_creek/shoalcreek/ShiftRule;" (.ref ra7) := (own_sta_keep H7 ((((Keep.refl h0 _) : Keep h0 h0 []).trans K7c all0) : Keep h0 h7 []) (fun _ _ q => nomatch q))
            have F100 : Sta Z h7 "com/example/shoal_creek/shoalcreek/ShiftRule" "NONE" "Lcom/example/shoal_creek/shoalcreek/ShiftRule;" (.ref ra8) := (own_sta_keep H8 ((((Keep.refl h0 _) : Keep h0 h0 []).trans K7c all0) : Keep h0 h7 []) (fun _ _ q => nomatch q))
            have F101 : Exa Z h7 ra0 "com/example/shoal_creek/shoalcreek/ShiftRule" := (H9.keep K7c)
            have F102 : Exa Z h7 ra1 "com/example/shoal_creek/shoalcreek/ShiftRule" := (H10.keep K7c)
            have F103 : Exa Z h7 ra2 "com/example/shoal_creek/shoalcreek/ShiftRule" := (H11.keep K7c)
            have F104 : Exa Z h7 ra3 "com/example/shoal_creek/shoalcreek/ShiftRule" := (H12.keep K7c)
            have F105 : Exa Z h7 ra4 "com/example/shoal_creek/shoalcreek/ShiftRule" := (H13.keep K7c)
            have F106 : Exa Z h7 ra5 "com/example/shoal_creek/shoalcreek/ShiftRule" := (H14.keep K7c)
            have F107 : Exa Z h7 ra6 "com/example/shoal_creek/shoalcreek/ShiftRule" := (H15.keep K7c)
            have F108 : Exa Z h7 ra7 "com/example/shoal_creek/shoalcreek/ShiftRule" := (H16.keep K7c)
            have F109 : Exa Z h7 ra8 "com/example/shoal_creek/shoalcreek/ShiftRule" := (H17.keep K7c)
            refine cS (y := (⟨"com/example/shoal_creek/shoalcreek/StepEqualsPinLaw", "rule", "(I)Lcom/example/shoal_creek/shoalcreek/ShiftRule;"⟩ : MethodName)) (rest := []) (pc' := 162) 0 [(.int (((XT.ushr p5 (8 : Int32)) &&& (255 : Int32)) % (9 : Int32)))] X17 hx hZ hown (hw _ (List.mem_of_getElem? (i := 0) rfl)) (hw _ (List.mem_of_getElem? (i := 1) rfl)) (hw _ (List.mem_of_getElem? (i := 2) rfl)) (hw _ (List.mem_of_getElem? (i := 3) rfl)) (by decide) (rmR l Z a0 hw [] (((XT.ushr p5 (8 : Int32)) &&& (255 : Int32)) % (9 : Int32)) ra0 ra1 ra2 ra3 ra4 ra5 ra6 ra7 ra8 n0 h7 X17.le F92 F93 F94 F95 F96 F97 F98 F99 F100 F101 F102 F103 F104 F105 F106 F107 F108 F109 (own_rem9 _)) (by decide) (by decide) (by rw [hml]; rfl) rfl (lenOf pd2 rfl) rfl (Nat.le_of_eq rfl) (hb hby at_159) rfl (by decide) (by decide) ?_
            intro r110 T110 h110 X110 q110
            obtain ⟨b110, rfl, K110c⟩ := q110
            show Go _ _ _ _ _ _ _ T110 (mkF m 162 #[.val (.long p1), .second, .val (.long p2), .second, .val (.long p3), .second, .val (.long p4), .second, .val (.int p5), .val (.int p6), .val (.int v1), .val (.int v2), .val (.int v3), .val (.int v4), .val (.int v5), .val (.int v6), .val (.ref b7), .val (.int v8), .val (.int v9), .val (.int v10), .val (.int v12), .val (.int v14), .val (.int v16), .unset, .unset, .unset, .unset, .unset, .unset, .unset, .unset] [(.ref b110)])
            refine i_goto (pc' := 167) X110 hx (hb hby at_162) (by decide) (by decide) ?_
            refine i_astore (L' := #[.val (.long p1), .second, .val (.long p2), .second, .val (.long p3), .second, .val (.long p4), .second, .val (.int p5), .val (.int p6), .val (.int v1), .val (.int v2), .val (.int v3), .val (.int v4), .val (.int v5), .val (.int v6), .val (.ref b7), .val (.int v8), .val (.int v9), .val (.int v10), .val (.int v12), .val (.int v14), .val (.int v16), .val (.ref b110), .unset, .unset, .unset, .unset, .unset, .unset, .unset]) (pc' := 169) X110 hx (hb hby at_167) rfl rfl rfl ?_
            refine i_iload (v := p6) (pc' := 171) X110 hx (hb hby at_169) rfl rfl ?_
            refine i_bipush (pc' := 173) (32 : Int32) X110 hx (hb hby at_171) rfl (by decide) ?_
            refine i_iand (pc' := 174) X110 hx (hb hby at_173) rfl ?_
            obtain ⟨v111, hv111⟩ : ∃ zz : Int32, zz = (if (p6 &&& (32 : Int32)) = 0 then v5 else (v5 + v8)) := ⟨_, rfl⟩
            have J112 : ∀ (T : State), Pn p l e room_1 s m #[(.long p1), (.long p2), (.long p3), (.long p4), (.int p5), (.int p6)] below meth c T h110 n0 (0 + 1 + 1) (0 + 9 + 9) → Go p e s below n0 Q0 room_1 T (mkF m 187 #[.val (.long p1), .second, .val (.long p2), .second, .val (.long p3), .second, .val (.long p4), .second, .val (.int p5), .val (.int p6), .val (.int v1), .val (.int v2), .val (.int v3), .val (.int v4), .val (.int v5), .val (.int v6), .val (.ref b7), .val (.int v8), .val (.int v9), .val (.int v10), .val (.int v12), .val (.int v14), .val (.int v16), .val (.ref b110), .unset, .unset, .unset, .unset, .unset, .unset, .unset] [(.int v111)]) := by
              intro T112 X112
              refine i_istore (L' := #[.val (.long p1), .second, .val (.long p2), .second, .val (.long p3), .second, .val (.long p4), .second, .val (.int p5), .val (.int p6), .val (.int v1), .val (.int v2), .val (.int v3), .val (.int v4), .val (.int v5), .val (.int v6), .val (.ref b7), .val (.int v8), .val (.int v9), .val (.int v10), .val (.int v12), .val (.int v14), .val (.int v16), .val (.ref b110), .val (.int v111), .unset, .unset, .unset, .unset, .unset, .unset]) (pc' := 189) X112 hx (hb hby at_187) rfl rfl ?_
              refine i_iload (v := p6) (pc' := 191) X112 hx (hb hby at_189) rfl rfl ?_
              refine i_bipush (pc' := 193) (64 : Int32) X112 hx (hb hby at_191) rfl (by decide) ?_
              refine i_iand (pc' := 194) X112 hx (hb hby at_193) rfl ?_
              obtain ⟨v113, hv113⟩ : ∃ zz : Int32, zz = (if (p6 &&& (64 : Int32)) = 0 then v6 else (v6 + v9)) := ⟨_, rfl⟩
              have J114 : ∀ (T : State), Pn p l e room_1 s m #[(.long p1), (.long p2), (.long p3), (.long p4), (.int p5), (.int p6)] below meth c T h110 n0 (0 + 1 + 1) (0 + 9 + 9) → Go p e s below n0 Q0 room_1 T (mkF m 207 #[.val (.long p1), .second, .val (.long p2), .second, .val (.long p3), .second, .val (.long p4), .second, .val (.int p5), .val (.int p6), .val (.int v1), .val (.int v2), .val (.int v3), .val (.int v4), .val (.int v5), .val (.int v6), .val (.ref b7), .val (.int v8), .val (.int v9), .val (.int v10), .val (.int v12), .val (.int v14), .val (.int v16), .val (.ref b110), .val (.int v111), .unset, .unset, .unset, .unset, .unset, .unset] [(.int v113)]) := by
                intro T114 X114
                refine i_istore (L' := #[.val (.long p1), .second, .val (.long p2), .second, .val (.long p3), .second, .val (.long p4), .second, .val (.int p5), .val (.int p6), .val (.int v1), .val (.int v2), .val (.int v3), .val (.int v4), .val (.int v5), .val (.int v6), .val (.ref b7), .val (.int v8), .val (.int v9), .val (.int v10), .val (.int v12), .val (.int v14), .val (.int v16), .val (.ref b110), .val (.int v111), .val (.int v113), .unset, .unset, .unset, .unset, .unset]) (pc' := 209) X114 hx (hb hby at_207) rfl rfl ?_
                refine nw (pc' := 212) X114 hx hZ hown (hw _ (List.mem_of_getElem? (i := 26) rfl)) (hw _ (List.mem_of_getElem? (i := 27) rfl)) (hw _ (List.mem_of_getElem? (i := 28) rfl)) (hb hby at_209) rfl (by decide) (by decide) fun T115 h115 b115 X115 g115 ge115 E115 A115 D115 => ?_
                have F116 : Exa Z h110 ra0 "com/example/shoal_creek/shoalcreek/ShiftRule" := (F101.keep K110c)
                have ne_ra0_b115 : ra0 ≠ b115 := Nat.ne_of_lt (Nat.lt_of_lt_of_eq F116.lt g115.symm)
                have F117 : Exa Z h110 ra1 "com/example/shoal_creek/shoalcreek/ShiftRule" := (F102.keep K110c)
                have ne_ra1_b115 : ra1 ≠ b115 := Nat.ne_of_lt (Nat.lt_of_lt_of_eq F117.lt g115.symm)
                have F118 : Exa Z h110 ra2 "com/example/shoal_creek/shoalcreek/ShiftRule" := (F103.keep K110c)
                have ne_ra2_b115 : ra2 ≠ b115 := Nat.ne_of_lt (Nat.lt_of_lt_of_eq F118.lt g115.symm)
                have F119 : Exa Z h110 ra3 "com/example/shoal_creek/shoalcreek/ShiftRule" := (F104.keep K110c)
                have ne_ra3_b115 : ra3 ≠ b115 := Nat.ne_of_lt (Nat.lt_of_lt_of_eq F119.lt g115.symm)
                have F120 : Exa Z h110 ra4 "com/example/shoal_creek/shoalcreek/ShiftRule" := (F105.keep K110c)
                have ne_ra4_b115 : ra4 ≠ b115 := Nat.ne_of_lt (Nat.lt_of_lt_of_eq F120.lt g115.symm)
                have F121 : Exa Z h110 ra5 "com/example/shoal_creek/shoalcreek/ShiftRule" := (F106.keep K110c)
                have ne_ra5_b115 : ra5 ≠ b115 := Nat.ne_of_lt (Nat.lt_of_lt_of_eq F121.lt g115.symm)
                have F122 : Exa Z h110 ra6 "com/example/shoal_creek/shoalcreek/ShiftRule" := (F107.keep K110c)
                have ne_ra6_b115 : ra6 ≠ b115 := Nat.ne_of_lt (Nat.lt_of_lt_of_eq F122.lt g115.symm)
                have F123 : Exa Z h110 ra7 "com/example/shoal_creek/shoalcreek/ShiftRule" := (F108.keep K110c)
                have ne_ra7_b115 : ra7 ≠ b115 := Nat.ne_of_lt (Nat.lt_of_lt_of_eq F123.lt g115.symm)
                have F124 : Exa Z h110 ra8 "com/example/shoal_creek/shoalcreek/ShiftRule" := (F109.keep K110c)
                have ne_ra8_b115 : ra8 ≠ b115 := Nat.ne_of_lt (Nat.lt_of_lt_of_eq F124.lt g115.symm)
                have sz_b115 : h0.size ≤ b115 := Nat.le_trans ((((((Keep.refl h0 _) : Keep h0 h0 []).trans K7c all0) : Keep h0 h7 []).trans K110c all0) : Keep h0 h110 []).1 (Nat.le_of_eq g115.symm)
                have K115 : Keep h0 h115 [] := ((((((Keep.refl h0 _) : Keep h0 h0 []).trans K7c all0) : Keep h0 h7 []).trans K110c all0) : Keep h0 h110 []).ext E115
                refine i_dup (pc' := 213) X115 hx (hb hby at_212) rfl rfl ?_
                refine i_iload (v := v1) (pc' := 215) X115 hx (hb hby at_213) rfl rfl ?_
                refine i_iload (v := v2) (pc' := 217) X115 hx (hb hby at_215) rfl rfl ?_
                refine i_iload (v := v3) (pc' := 219) X115 hx (hb hby at_217) rfl rfl ?_
                refine i_iload (v := v4) (pc' := 221) X115 hx (hb hby at_219) rfl rfl ?_
                refine i_aload (v := (.ref b7)) (pc' := 223) X115 hx (hb hby at_221) rfl rfl rfl ?_
                refine i_iload (v := v5) (pc' := 225) X115 hx (hb hby at_223) rfl rfl ?_
                refine i_iload (v := v6) (pc' := 227) X115 hx (hb hby at_225) rfl rfl ?_
                have F125 : Fld Z h115 b115 "com/example/shoal_creek/shoalcreek/Step" "start" "I" (.int (0 : Int32)) := (D115 (Or.inr (hw _ (List.mem_of_getElem? (i := 36) rfl))) (ty := .int) (by decide))
                have F126 : Fld Z h115 b115 "com/example/shoal_creek/shoalcreek/Step" "comparisons" "I" (.int (0 : Int32)) := (D115 (Or.inr (hw _ (List.mem_of_getElem? (i := 38) rfl))) (ty := .int) (by decide))
                have F127 : Fld Z h115 b115 "com/example/shoal_creek/shoalcreek/Step" "mismatch" "I" (.int (0 : Int32)) := (D115 (Or.inr (hw _ (List.mem_of_getElem? (i := 40) rfl))) (ty := .int) (by decide))
                have F128 : Fld Z h115 b115 "com/example/shoal_creek/shoalcreek/Step" "shift" "I" (.int (0 : Int32)) := (D115 (Or.inr (hw _ (List.mem_of_getElem? (i := 42) rfl))) (ty := .int) (by decide))
                have F129 : Fld Z h115 b115 "com/example/shoal_creek/shoalcreek/Step" "rule" "Lcom/example/shoal_creek/shoalcreek/ShiftRule;" .null := (D115 (Or.inr (hw _ (List.mem_of_getElem? (i := 44) rfl))) (ty := (.object "com/example/shoal_creek/shoalcreek/ShiftRule")) (by decide))
                have F130 : Fld Z h115 b115 "com/example/shoal_creek/shoalcreek/Step" "badCharacterShift" "I" (.int (0 : Int32)) := (D115 (Or.inr (hw _ (List.mem_of_getElem? (i := 46) rfl))) (ty := .int) (by decide))
                have F131 : Fld Z h115 b115 "com/example/shoal_creek/shoalcreek/Step" "goodSuffixShift" "I" (.int (0 : Int32)) := (D115 (Or.inr (hw _ (List.mem_of_getElem? (i := 48) rfl))) (ty := .int) (by decide))
                refine cI (y := (⟨"com/example/shoal_creek/shoalcreek/Step", "<init>", "(IIIILcom/example/shoal_creek/shoalcreek/ShiftRule;II)V"⟩ : MethodName)) (rest := [(.ref b115)]) (pc' := 230) (a := b115) 1 [(.int v1), (.int v2), (.int v3), (.int v4), (.ref b7), (.int v5), (.int v6)] X115 hx hZ hown rfl (hw _ (List.mem_of_getElem? (i := 29) rfl)) (hw _ (List.mem_of_getElem? (i := 30) rfl)) (hw _ (List.mem_of_getElem? (i := 28) rfl)) (hw _ (List.mem_of_getElem? (i := 31) rfl)) (by decide) (rm2 l Z a0 hw [] b115 v1 v2 v3 v4 b7 v5 v6 n0 h115 X115.le A115 F125 F126 F127 F128 F129 F130 F131 ge115) (by decide) (by decide) (by rw [hml]; rfl) rfl (lenOf pd3 rfl) rfl (Nat.le_of_eq rfl) (hb hby at_227) rfl (by decide) (by decide) ?_
                intro r132 T132 h132 X132 q132
                obtain ⟨rfl, K132c, P132_0, P132_1, P132_2, P132_3, P132_4, P132_5, P132_6⟩ := q132
                show Go _ _ _ _ _ _ _ T132 (mkF m 230 #[.val (.long p1), .second, .val (.long p2), .second, .val (.long p3), .second, .val (.long p4), .second, .val (.int p5), .val (.int p6), .val (.int v1), .val (.int v2), .val (.int v3), .val (.int v4), .val (.int v5), .val (.int v6), .val (.ref b7), .val (.int v8), .val (.int v9), .val (.int v10), .val (.int v12), .val (.int v14), .val (.int v16), .val (.ref b110), .val (.int v111), .val (.int v113), .unset, .unset, .unset, .unset, .unset] [(.ref b115)])
                refine i_astore (L' := #[.val (.long p1), .second, .val (.long p2), .second, .val (.long p3), .second, .val (.long p4), .second, .val (.int p5), .val (.int p6), .val (.int v1), .val (.int v2), .val (.int v3), .val (.int v4), .val (.int v5), .val (.int v6), .val (.ref b7), .val (.int v8), .val (.int v9), .val (.int v10), .val (.int v12), .val (.int v14), .val (.int v16), .val (.ref b110), .val (.int v111), .val (.int v113), .val (.ref b115), .unset, .unset, .unset, .unset]) (pc' := 232) X132 hx (hb hby at_230) rfl rfl rfl ?_
                refine nw (pc' := 235) X132 hx hZ hown (hw _ (List.mem_of_getElem? (i := 26) rfl)) (hw _ (List.mem_of_getElem? (i := 27) rfl)) (hw _ (List.mem_of_getElem? (i := 28) rfl)) (hb hby at_232) rfl (by decide) (by decide) fun T133 h133 b133 X133 g133 ge133 E133 A133 D133 => ?_
                have F134 : Exa Z h132 ra0 "com/example/shoal_creek/shoalcreek/ShiftRule" := ((Jvm.RoadKit.Exa.ext E115 F116).keep K132c)
                have ne_ra0_b133 : ra0 ≠ b133 := Nat.ne_of_lt (Nat.lt_of_lt_of_eq F134.lt g133.symm)
                have F135 : Exa Z h132 ra1 "com/example/shoal_creek/shoalcreek/ShiftRule" := ((Jvm.RoadKit.Exa.ext E115 F117).keep K132c)
                have ne_ra1_b133 : ra1 ≠ b133 := Nat.ne_of_lt (Nat.lt_of_lt_of_eq F135.lt g133.symm)
                have F136 : Exa Z h132 ra2 "com/example/shoal_creek/shoalcreek/ShiftRule" := ((Jvm.RoadKit.Exa.ext E115 F118).keep K132c)
                have ne_ra2_b133 : ra2 ≠ b133 := Nat.ne_of_lt (Nat.lt_of_lt_of_eq F136.lt g133.symm)
                have F137 : Exa Z h132 ra3 "com/example/shoal_creek/shoalcreek/ShiftRule" := ((Jvm.RoadKit.Exa.ext E115 F119).keep K132c)
                have ne_ra3_b133 : ra3 ≠ b133 := Nat.ne_of_lt (Nat.lt_of_lt_of_eq F137.lt g133.symm)
                have F138 : Exa Z h132 ra4 "com/example/shoal_creek/shoalcreek/ShiftRule" := ((Jvm.RoadKit.Exa.ext E115 F120).keep K132c)
                have ne_ra4_b133 : ra4 ≠ b133 := Nat.ne_of_lt (Nat.lt_of_lt_of_eq F138.lt g133.symm)
                have F139 : Exa Z h132 ra5 "com/example/shoal_creek/shoalcreek/ShiftRule" := ((Jvm.RoadKit.Exa.ext E115 F121).keep K132c)
                have ne_ra5_b133 : ra5 ≠ b133 := Nat.ne_of_lt (Nat.lt_of_lt_of_eq F139.lt g133.symm)
                have F140 : Exa Z h132 ra6 "com/example/shoal_creek/shoalcreek/ShiftRule" := ((Jvm.RoadKit.Exa.ext E115 F122).keep K132c)
                have ne_ra6_b133 : ra6 ≠ b133 := Nat.ne_of_lt (Nat.lt_of_lt_of_eq F140.lt g133.symm)
                have F141 : Exa Z h132 ra7 "com/example/shoal_creek/shoalcreek/ShiftRule" := ((Jvm.RoadKit.Exa.ext E115 F123).keep K132c)
                have ne_ra7_b133 : ra7 ≠ b133 := Nat.ne_of_lt (Nat.lt_of_lt_of_eq F141.lt g133.symm)
                have F142 : Exa Z h132 ra8 "com/example/shoal_creek/shoalcreek/ShiftRule" := ((Jvm.RoadKit.Exa.ext E115 F124).keep K132c)
                have ne_ra8_b133 : ra8 ≠ b133 := Nat.ne_of_lt (Nat.lt_of_lt_of_eq F142.lt g133.symm)
                have F143 : Exa Z h132 b115 "com/example/shoal_creek/shoalcreek/Step" := (A115.keep K132c)
                have ne_b115_b133 : b115 ≠ b133 := Nat.ne_of_lt (Nat.lt_of_lt_of_eq F143.lt g133.symm)
                have sz_b133 : h0.size ≤ b133 := Nat.le_trans (((K115 : Keep h0 h115 []).trans K132c (allS (Or.inr sz_b115) all0)) : Keep h0 h132 []).1 (Nat.le_of_eq g133.symm)
                have K133 : Keep h0 h133 [] := (((K115 : Keep h0 h115 []).trans K132c (allS (Or.inr sz_b115) all0)) : Keep h0 h132 []).ext E133
                refine i_dup (pc' := 236) X133 hx (hb hby at_235) rfl rfl ?_
                refine i_iload (v := v10) (pc' := 238) X133 hx (hb hby at_236) rfl rfl ?_
                refine i_iload (v := v12) (pc' := 240) X133 hx (hb hby at_238) rfl rfl ?_
                refine i_iload (v := v14) (pc' := 242) X133 hx (hb hby at_240) rfl rfl ?_
                refine i_iload (v := v16) (pc' := 244) X133 hx (hb hby at_242) rfl rfl ?_
                refine i_aload (v := (.ref b110)) (pc' := 246) X133 hx (hb hby at_244) rfl rfl rfl ?_
                refine i_iload (v := v111) (pc' := 248) X133 hx (hb hby at_246) rfl rfl ?_
                refine i_iload (v := v113) (pc' := 250) X133 hx (hb hby at_248) rfl rfl ?_
                have F144 : Fld Z h133 b133 "com/example/shoal_creek/shoalcreek/Step" "start" "I" (.int (0 : Int32)) := (D133 (Or.inr (hw _ (List.mem_of_getElem? (i := 36) rfl))) (ty := .int) (by decide))
                have F145 : Fld Z h133 b133 "com/example/shoal_creek/shoalcreek/Step" "comparisons" "I" (.int (0 : Int32)) := (D133 (Or.inr (hw _ (List.mem_of_getElem? (i := 38) rfl))) (ty := .int) (by decide))
                have F146 : Fld Z h133 b133 "com/example/shoal_creek/shoalcreek/Step" "mismatch" "I" (.int (0 : Int32)) := (D133 (Or.inr (hw _ (List.mem_of_getElem? (i := 40) rfl))) (ty := .int) (by decide))
                have F147 : Fld Z h133 b133 "com/example/shoal_creek/shoalcreek/Step" "shift" "I" (.int (0 : Int32)) := (D133 (Or.inr (hw _ (List.mem_of_getElem? (i := 42) rfl))) (ty := .int) (by decide))
                have F148 : Fld Z h133 b133 "com/example/shoal_creek/shoalcreek/Step" "rule" "Lcom/example/shoal_creek/shoalcreek/ShiftRule;" .null := (D133 (Or.inr (hw _ (List.mem_of_getElem? (i := 44) rfl))) (ty := (.object "com/example/shoal_creek/shoalcreek/ShiftRule")) (by decide))
                have F149 : Fld Z h133 b133 "com/example/shoal_creek/shoalcreek/Step" "badCharacterShift" "I" (.int (0 : Int32)) := (D133 (Or.inr (hw _ (List.mem_of_getElem? (i := 46) rfl))) (ty := .int) (by decide))
                have F150 : Fld Z h133 b133 "com/example/shoal_creek/shoalcreek/Step" "goodSuffixShift" "I" (.int (0 : Int32)) := (D133 (Or.inr (hw _ (List.mem_of_getElem? (i := 48) rfl))) (ty := .int) (by decide))
                refine cI (y := (⟨"com/example/shoal_creek/shoalcreek/Step", "<init>", "(IIIILcom/example/shoal_creek/shoalcreek/ShiftRule;II)V"⟩ : MethodName)) (rest := [(.ref b133)]) (pc' := 253) (a := b133) 1 [(.int v10), (.int v12), (.int v14), (.int v16), (.ref b110), (.int v111), (.int v113)] X133 hx hZ hown rfl (hw _ (List.mem_of_getElem? (i := 29) rfl)) (hw _ (List.mem_of_getElem? (i := 30) rfl)) (hw _ (List.mem_of_getElem? (i := 28) rfl)) (hw _ (List.mem_of_getElem? (i := 31) rfl)) (by decide) (rm2 l Z a0 hw [] b133 v10 v12 v14 v16 b110 v111 v113 n0 h133 X133.le A133 F144 F145 F146 F147 F148 F149 F150 ge133) (by decide) (by decide) (by rw [hml]; rfl) rfl (lenOf pd3 rfl) rfl (Nat.le_of_eq rfl) (hb hby at_250) rfl (by decide) (by decide) ?_
                intro r151 T151 h151 X151 q151
                obtain ⟨rfl, K151c, P151_0, P151_1, P151_2, P151_3, P151_4, P151_5, P151_6⟩ := q151
                show Go _ _ _ _ _ _ _ T151 (mkF m 253 #[.val (.long p1), .second, .val (.long p2), .second, .val (.long p3), .second, .val (.long p4), .second, .val (.int p5), .val (.int p6), .val (.int v1), .val (.int v2), .val (.int v3), .val (.int v4), .val (.int v5), .val (.int v6), .val (.ref b7), .val (.int v8), .val (.int v9), .val (.int v10), .val (.int v12), .val (.int v14), .val (.int v16), .val (.ref b110), .val (.int v111), .val (.int v113), .val (.ref b115), .unset, .unset, .unset, .unset] [(.ref b133)])
                refine i_astore (L' := #[.val (.long p1), .second, .val (.long p2), .second, .val (.long p3), .second, .val (.long p4), .second, .val (.int p5), .val (.int p6), .val (.int v1), .val (.int v2), .val (.int v3), .val (.int v4), .val (.int v5), .val (.int v6), .val (.ref b7), .val (.int v8), .val (.int v9), .val (.int v10), .val (.int v12), .val (.int v14), .val (.int v16), .val (.ref b110), .val (.int v111), .val (.int v113), .val (.ref b115), .val (.ref b133), .unset, .unset, .unset]) (pc' := 255) X151 hx (hb hby at_253) rfl rfl rfl ?_
                refine i_aload (v := (.ref b115)) (pc' := 257) X151 hx (hb hby at_255) rfl rfl rfl ?_
                refine i_aload (v := (.ref b115)) (pc' := 259) X151 hx (hb hby at_257) rfl rfl rfl ?_
                have F152 : Fld Z h151 b115 "com/example/shoal_creek/shoalcreek/Step" "start" "I" (.int v1) := ((Jvm.RoadKit.Fld.ext E133 P132_0).keep K151c (ninS ne_b115_b133 nin0))
                have F153 : Fld Z h151 b115 "com/example/shoal_creek/shoalcreek/Step" "comparisons" "I" (.int v2) := ((Jvm.RoadKit.Fld.ext E133 P132_1).keep K151c (ninS ne_b115_b133 nin0))
                have F154 : Fld Z h151 b115 "com/example/shoal_creek/shoalcreek/Step" "mismatch" "I" (.int v3) := ((Jvm.RoadKit.Fld.ext E133 P132_2).keep K151c (ninS ne_b115_b133 nin0))
                have F155 : Fld Z h151 b115 "com/example/shoal_creek/shoalcreek/Step" "shift" "I" (.int v4) := ((Jvm.RoadKit.Fld.ext E133 P132_3).keep K151c (ninS ne_b115_b133 nin0))
                have F156 : Fld Z h151 b115 "com/example/shoal_creek/shoalcreek/Step" "rule" "Lcom/example/shoal_creek/shoalcreek/ShiftRule;" (.ref b7) := ((Jvm.RoadKit.Fld.ext E133 P132_4).keep K151c (ninS ne_b115_b133 nin0))
                have F157 : Fld Z h151 b115 "com/example/shoal_creek/shoalcreek/Step" "badCharacterShift" "I" (.int v5) := ((Jvm.RoadKit.Fld.ext E133 P132_5).keep K151c (ninS ne_b115_b133 nin0))
                have F158 : Fld Z h151 b115 "com/example/shoal_creek/shoalcreek/Step" "goodSuffixShift" "I" (.int v6) := ((Jvm.RoadKit.Fld.ext E133 P132_6).keep K151c (ninS ne_b115_b133 nin0))
                have F159 : Exa Z h151 b115 "com/example/shoal_creek/shoalcreek/Step" := ((Jvm.RoadKit.Exa.ext E133 F143).keep K151c)
                refine cV (y := (⟨"com/example/shoal_creek/shoalcreek/Step", "equals", "(Ljava/lang/Object;)Z"⟩ : MethodName)) (C := "com/example/shoal_creek/shoalcreek/Step") (rest := []) (pc' := 262) 0 [(.ref b115)] X151 hx hZ hown (hw _ (List.mem_of_getElem? (i := 49) rfl)) (hw _ (List.mem_of_getElem? (i := 50) rfl)) (hw _ (List.mem_of_getElem? (i := 52) rfl)) (hw _ (List.mem_of_getElem? (i := 51) rfl)) (hw _ (List.mem_of_getElem? (i := 28) rfl)) (hw _ (List.mem_of_getElem? (i := 53) rfl)) (by decide) F159 (rmEY l Z a0 hw [] b115 b115 v1 v2 v3 v4 b7 v5 v6 v1 v2 v3 v4 b7 v5 v6 n0 h151 X151.le F152 F153 F154 F155 F156 F157 F158 F159 F152 F153 F154 F155 F156 F157 F158) (by decide) (by decide) (by rw [hml]; rfl) rfl (lenOf pd4 rfl) rfl (Nat.le_of_eq rfl) (hb hby at_259) rfl (by decide) (by decide) ?_
                intro r160 T160 h160 X160 q160
                obtain ⟨rfl, eh160⟩ := q160
                subst eh160
                show Go _ _ _ _ _ _ _ T160 (mkF m 262 #[.val (.long p1), .second, .val (.long p2), .second, .val (.long p3), .second, .val (.long p4), .second, .val (.int p5), .val (.int p6), .val (.int v1), .val (.int v2), .val (.int v3), .val (.int v4), .val (.int v5), .val (.int v6), .val (.ref b7), .val (.int v8), .val (.int v9), .val (.int v10), .val (.int v12), .val (.int v14), .val (.int v16), .val (.ref b110), .val (.int v111), .val (.int v113), .val (.ref b115), .val (.ref b133), .unset, .unset, .unset] [(.int (own_eq7 v1 v1 v2 v2 v3 v3 v4 v4 b7 b7 v5 v5 v6 v6))])
                obtain ⟨v161, hv161⟩ : ∃ zz : Int32, zz = (own_eq7 v1 v1 v2 v2 v3 v3 v4 v4 b7 b7 v5 v5 v6 v6) := ⟨_, rfl⟩
                rw [← hv161]
                refine i_istore (L' := #[.val (.long p1), .second, .val (.long p2), .second, .val (.long p3), .second, .val (.long p4), .second, .val (.int p5), .val (.int p6), .val (.int v1), .val (.int v2), .val (.int v3), .val (.int v4), .val (.int v5), .val (.int v6), .val (.ref b7), .val (.int v8), .val (.int v9), .val (.int v10), .val (.int v12), .val (.int v14), .val (.int v16), .val (.ref b110), .val (.int v111), .val (.int v113), .val (.ref b115), .val (.ref b133), .val (.int v161), .unset, .unset]) (pc' := 264) X160 hx (hb hby at_262) rfl rfl ?_
                refine i_iload (v := p6) (pc' := 266) X160 hx (hb hby at_264) rfl rfl ?_
                refine i_bipush (pc' := 268) (7 : Int32) X160 hx (hb hby at_266) rfl (by decide) ?_
                refine i_iushr (pc' := 269) X160 hx (hb hby at_268) rfl ?_
                refine i_iconst (pc' := 270) (3 : Int32) X160 hx (hb hby at_269) rfl (by decide) ?_
                refine i_iand (pc' := 271) X160 hx (hb hby at_270) rfl ?_
                obtain ⟨v162, hv162⟩ : ∃ zz : Int32, zz = ((XT.ushr p6 (7 : Int32)) &&& (3 : Int32)) := ⟨_, rfl⟩
                rw [← hv162]
                refine i_istore (L' := #[.val (.long p1), .second, .val (.long p2), .second, .val (.long p3), .second, .val (.long p4), .second, .val (.int p5), .val (.int p6), .val (.int v1), .val (.int v2), .val (.int v3), .val (.int v4), .val (.int v5), .val (.int v6), .val (.ref b7), .val (.int v8), .val (.int v9), .val (.int v10), .val (.int v12), .val (.int v14), .val (.int v16), .val (.ref b110), .val (.int v111), .val (.int v113), .val (.ref b115), .val (.ref b133), .val (.int v161), .val (.int v162), .unset]) (pc' := 273) X160 hx (hb hby at_271) rfl rfl ?_
                refine i_iload (v := v162) (pc' := 275) X160 hx (hb hby at_273) rfl rfl ?_
                refine i_iconst (pc' := 276) (2 : Int32) X160 hx (hb hby at_275) rfl (by decide) ?_
                by_cases hc163 : v162 = (2 : Int32)
                · skip
                  refine i_icF (pc' := 279) X160 hx (hb hby at_276) rfl (XT.ii_ne_f hc163) ?_
                  refine i_iload (v := v161) (pc' := 281) X160 hx (hb hby at_279) rfl rfl ?_
                  refine i_ifF (pc' := 284) X160 hx (hb hby at_281) rfl (XT.i0_eq_f (by rw [hv161]; simp [own_eq7])) ?_
                  refine i_aload (v := (.ref b115)) (pc' := 286) X160 hx (hb hby at_284) rfl rfl rfl ?_
                  refine i_aconstNull (pc' := 287) X160 hx (hb hby at_286) rfl ?_
                  refine cV (y := (⟨"com/example/shoal_creek/shoalcreek/Step", "equals", "(Ljava/lang/Object;)Z"⟩ : MethodName)) (C := "com/example/shoal_creek/shoalcreek/Step") (rest := []) (pc' := 290) 0 [.null] X160 hx hZ hown (hw _ (List.mem_of_getElem? (i := 49) rfl)) (hw _ (List.mem_of_getElem? (i := 50) rfl)) (hw _ (List.mem_of_getElem? (i := 52) rfl)) (hw _ (List.mem_of_getElem? (i := 51) rfl)) (hw _ (List.mem_of_getElem? (i := 28) rfl)) (hw _ (List.mem_of_getElem? (i := 53) rfl)) (by decide) F159 (rmEZ l Z a0 hw [] b115 n0 h151 X160.le ) (by decide) (by decide) (by rw [hml]; rfl) rfl (lenOf pd4 rfl) rfl (Nat.le_of_eq rfl) (hb hby at_287) rfl (by decide) (by decide) ?_
                  intro r164 T164 h164 X164 q164
                  obtain ⟨rfl, eh164⟩ := q164
                  subst eh164
                  show Go _ _ _ _ _ _ _ T164 (mkF m 290 #[.val (.long p1), .second, .val (.long p2), .second, .val (.long p3), .second, .val (.long p4), .second, .val (.int p5), .val (.int p6), .val (.int v1), .val (.int v2), .val (.int v3), .val (.int v4), .val (.int v5), .val (.int v6), .val (.ref b7), .val (.int v8), .val (.int v9), .val (.int v10), .val (.int v12), .val (.int v14), .val (.int v16), .val (.ref b110), .val (.int v111), .val (.int v113), .val (.ref b115), .val (.ref b133), .val (.int v161), .val (.int v162), .unset] [(.int (0 : Int32))])
                  refine i_ifF (pc' := 293) X164 hx (hb hby at_290) rfl (XT.i0_ne_f (by decide)) ?_
                  refine i_iconst (pc' := 294) (1 : Int32) X164 hx (hb hby at_293) rfl (by decide) ?_
                  refine i_goto (pc' := 298) X164 hx (hb hby at_294) (by decide) (by decide) ?_
                  refine rN X164 hx hlk hret (by simp) (hb hby at_298) (by decide) (by decide) ?_
                  exact rfl
                · skip
                  refine i_icT (pc' := 299) X160 hx (hb hby at_276) (XT.ii_ne_t hc163) (by decide) (by decide) ?_
                  refine i_iload (v := v162) (pc' := 301) X160 hx (hb hby at_299) rfl rfl ?_
                  refine i_iconst (pc' := 302) (3 : Int32) X160 hx (hb hby at_301) rfl (by decide) ?_
                  by_cases hc165 : v162 = (3 : Int32)
                  · skip
                    refine i_icF (pc' := 305) X160 hx (hb hby at_302) rfl (XT.ii_ne_f hc165) ?_
                    refine i_iload (v := v161) (pc' := 307) X160 hx (hb hby at_305) rfl rfl ?_
                    refine i_ifF (pc' := 310) X160 hx (hb hby at_307) rfl (XT.i0_eq_f (by rw [hv161]; simp [own_eq7])) ?_
                    refine i_aload (v := (.ref b115)) (pc' := 312) X160 hx (hb hby at_310) rfl rfl rfl ?_
                    refine i_iload (v := v1) (pc' := 314) X160 hx (hb hby at_312) rfl rfl ?_
                    have F166 : Sta Z h151 "java/lang/Integer$IntegerCache" "high" "I" (.int (127 : Int32)) := (own_sta_keep H18 (((K133 : Keep h0 h133 []).trans K151c (allS (Or.inr sz_b133) all0)) : Keep h0 h151 []) (fun _ _ q => nomatch q))
                    have F167 : Sta Z h151 "java/lang/Integer$IntegerCache" "cache" "[Ljava/lang/Integer;" (.ref ca) := (own_sta_keep H19 (((K133 : Keep h0 h133 []).trans K151c (allS (Or.inr sz_b133) all0)) : Keep h0 h151 []) (fun _ _ q => nomatch q))
                    refine cS (y := (⟨"java/lang/Integer", "valueOf", "(I)Ljava/lang/Integer;"⟩ : MethodName)) (rest := [(.ref b115)]) (pc' := 317) 1 [(.int v1)] X160 hx hZ hown (hw _ (List.mem_of_getElem? (i := 56) rfl)) (hw _ (List.mem_of_getElem? (i := 57) rfl)) (hw _ (List.mem_of_getElem? (i := 58) rfl)) (hw _ (List.mem_of_getElem? (i := 59) rfl)) (by decide) (rmVal l Z a0 hw [] v1 ca n0 h151 X160.le F166 F167 (own_cache_keep H20 (((K133 : Keep h0 h133 []).trans K151c (allS (Or.inr sz_b133) all0)) : Keep h0 h151 []))) (by decide) (by decide) (by rw [hml]; rfl) rfl (lenOf pd5 rfl) rfl (Nat.le_of_eq rfl) (hb hby at_314) rfl (by decide) (by decide) ?_
                    intro r168 T168 h168 X168 q168
                    obtain ⟨b168, rfl, K168c, P168_0⟩ := q168
                    show Go _ _ _ _ _ _ _ T168 (mkF m 317 #[.val (.long p1), .second, .val (.long p2), .second, .val (.long p3), .second, .val (.long p4), .second, .val (.int p5), .val (.int p6), .val (.int v1), .val (.int v2), .val (.int v3), .val (.int v4), .val (.int v5), .val (.int v6), .val (.ref b7), .val (.int v8), .val (.int v9), .val (.int v10), .val (.int v12), .val (.int v14), .val (.int v16), .val (.ref b110), .val (.int v111), .val (.int v113), .val (.ref b115), .val (.ref b133), .val (.int v161), .val (.int v162), .unset] [(.ref b168), (.ref b115)])
                    have F170 : Exa Z h168 b115 "com/example/shoal_creek/shoalcreek/Step" := (F159.keep K168c)
                    refine cV (y := (⟨"com/example/shoal_creek/shoalcreek/Step", "equals", "(Ljava/lang/Object;)Z"⟩ : MethodName)) (C := "com/example/shoal_creek/shoalcreek/Step") (rest := []) (pc' := 320) 0 [(.ref b168)] X168 hx hZ hown (hw _ (List.mem_of_getElem? (i := 49) rfl)) (hw _ (List.mem_of_getElem? (i := 50) rfl)) (hw _ (List.mem_of_getElem? (i := 52) rfl)) (hw _ (List.mem_of_getElem? (i := 51) rfl)) (hw _ (List.mem_of_getElem? (i := 28) rfl)) (hw _ (List.mem_of_getElem? (i := 53) rfl)) (by decide) F170 (rmEN l Z a0 hw [] b115 b168 n0 h168 X168.le P168_0) (by decide) (by decide) (by rw [hml]; rfl) rfl (lenOf pd4 rfl) rfl (Nat.le_of_eq rfl) (hb hby at_317) rfl (by decide) (by decide) ?_
                    intro r169 T169 h169 X169 q169
                    obtain ⟨rfl, eh169⟩ := q169
                    subst eh169
                    show Go _ _ _ _ _ _ _ T169 (mkF m 320 #[.val (.long p1), .second, .val (.long p2), .second, .val (.long p3), .second, .val (.long p4), .second, .val (.int p5), .val (.int p6), .val (.int v1), .val (.int v2), .val (.int v3), .val (.int v4), .val (.int v5), .val (.int v6), .val (.ref b7), .val (.int v8), .val (.int v9), .val (.int v10), .val (.int v12), .val (.int v14), .val (.int v16), .val (.ref b110), .val (.int v111), .val (.int v113), .val (.ref b115), .val (.ref b133), .val (.int v161), .val (.int v162), .unset] [(.int (0 : Int32))])
                    refine i_ifF (pc' := 323) X169 hx (hb hby at_320) rfl (XT.i0_ne_f (by decide)) ?_
                    refine i_iconst (pc' := 324) (1 : Int32) X169 hx (hb hby at_323) rfl (by decide) ?_
                    refine i_goto (pc' := 328) X169 hx (hb hby at_324) (by decide) (by decide) ?_
                    refine rN X169 hx hlk hret (by simp) (hb hby at_328) (by decide) (by decide) ?_
                    exact rfl
                  · skip
                    refine i_icT (pc' := 329) X160 hx (hb hby at_302) (XT.ii_ne_t hc165) (by decide) (by decide) ?_
                    refine i_iload (v := v10) (pc' := 331) X160 hx (hb hby at_329) rfl rfl ?_
                    refine i_iload (v := v1) (pc' := 333) X160 hx (hb hby at_331) rfl rfl ?_
                    obtain ⟨v171, hv171⟩ : ∃ zz : Int32, zz = (if v10 = v1 then (if v12 = v2 then (if v14 = v3 then (if v16 = v4 then (if ((.ref b110) : Value) = (.ref b7) then (if v111 = v5 then (if v113 = v6 then (1 : Int32) else (0 : Int32)) else (0 : Int32)) else (0 : Int32)) else (0 : Int32)) else (0 : Int32)) else (0 : Int32)) else (0 : Int32)) := ⟨_, rfl⟩
                    have J172 : ∀ (T : State), Pn p l e room_1 s m #[(.long p1), (.long p2), (.long p3), (.long p4), (.int p5), (.int p6)] below meth c T h151 n0 (0 + 1 + 1 + 1 + 0 + 1 + 0 + 0) (0 + 9 + 9 + 7 + 0 + 7 + 0 + 0) → Go p e s below n0 Q0 room_1 T (mkF m 383 #[.val (.long p1), .second, .val (.long p2), .second, .val (.long p3), .second, .val (.long p4), .second, .val (.int p5), .val (.int p6), .val (.int v1), .val (.int v2), .val (.int v3), .val (.int v4), .val (.int v5), .val (.int v6), .val (.ref b7), .val (.int v8), .val (.int v9), .val (.int v10), .val (.int v12), .val (.int v14), .val (.int v16), .val (.ref b110), .val (.int v111), .val (.int v113), .val (.ref b115), .val (.ref b133), .val (.int v161), .val (.int v162), .unset] [(.int v171)]) := by
                      intro T172 X172
                      refine i_istore (L' := #[.val (.long p1), .second, .val (.long p2), .second, .val (.long p3), .second, .val (.long p4), .second, .val (.int p5), .val (.int p6), .val (.int v1), .val (.int v2), .val (.int v3), .val (.int v4), .val (.int v5), .val (.int v6), .val (.ref b7), .val (.int v8), .val (.int v9), .val (.int v10), .val (.int v12), .val (.int v14), .val (.int v16), .val (.ref b110), .val (.int v111), .val (.int v113), .val (.ref b115), .val (.ref b133), .val (.int v161), .val (.int v162), .val (.int v171)]) (pc' := 385) X172 hx (hb hby at_383) rfl rfl ?_
                      refine i_iload (v := v161) (pc' := 387) X172 hx (hb hby at_385) rfl rfl ?_
                      refine i_ifF (pc' := 390) X172 hx (hb hby at_387) rfl (XT.i0_eq_f (by rw [hv161]; simp [own_eq7])) ?_
                      refine i_aload (v := (.ref b115)) (pc' := 392) X172 hx (hb hby at_390) rfl rfl rfl ?_
                      refine i_aload (v := (.ref b133)) (pc' := 394) X172 hx (hb hby at_392) rfl rfl rfl ?_
                      have F173 : Exa Z h151 b133 "com/example/shoal_creek/shoalcreek/Step" := (A133.keep K151c)
                      refine cV (y := (⟨"com/example/shoal_creek/shoalcreek/Step", "equals", "(Ljava/lang/Object;)Z"⟩ : MethodName)) (C := "com/example/shoal_creek/shoalcreek/Step") (rest := []) (pc' := 397) 0 [(.ref b133)] X172 hx hZ hown (hw _ (List.mem_of_getElem? (i := 49) rfl)) (hw _ (List.mem_of_getElem? (i := 50) rfl)) (hw _ (List.mem_of_getElem? (i := 52) rfl)) (hw _ (List.mem_of_getElem? (i := 51) rfl)) (hw _ (List.mem_of_getElem? (i := 28) rfl)) (hw _ (List.mem_of_getElem? (i := 53) rfl)) (by decide) F159 (rmEY l Z a0 hw [] b115 b133 v1 v2 v3 v4 b7 v5 v6 v10 v12 v14 v16 b110 v111 v113 n0 h151 X172.le F152 F153 F154 F155 F156 F157 F158 F173 P151_0 P151_1 P151_2 P151_3 P151_4 P151_5 P151_6) (by decide) (by decide) (by rw [hml]; rfl) rfl (lenOf pd4 rfl) rfl (Nat.le_of_eq rfl) (hb hby at_394) rfl (by decide) (by decide) ?_
                      intro r174 T174 h174 X174 q174
                      obtain ⟨rfl, eh174⟩ := q174
                      subst eh174
                      show Go _ _ _ _ _ _ _ T174 (mkF m 397 #[.val (.long p1), .second, .val (.long p2), .second, .val (.long p3), .second, .val (.long p4), .second, .val (.int p5), .val (.int p6), .val (.int v1), .val (.int v2), .val (.int v3), .val (.int v4), .val (.int v5), .val (.int v6), .val (.ref b7), .val (.int v8), .val (.int v9), .val (.int v10), .val (.int v12), .val (.int v14), .val (.int v16), .val (.ref b110), .val (.int v111), .val (.int v113), .val (.ref b115), .val (.ref b133), .val (.int v161), .val (.int v162), .val (.int v171)] [(.int (own_eq7 v1 v10 v2 v12 v3 v14 v4 v16 b7 b110 v5 v111 v6 v113))])
                      refine i_iload (v := v171) (pc' := 399) X174 hx (hb hby at_397) rfl rfl ?_
                      refine i_icF (pc' := 402) X174 hx (hb hby at_399) rfl (XT.ii_ne_f (by rw [hv171]; first | exact own_eq7s _ _ _ _ _ _ _ _ _ _ _ _ _ _ | exact (own_eq7s _ _ _ _ _ _ _ _ _ _ _ _ _ _).trans (own_eq7r _ _ _ _ _ _ _ _ _ _ _ _ _))) ?_
                      refine i_aload (v := (.ref b133)) (pc' := 404) X174 hx (hb hby at_402) rfl rfl rfl ?_
                      refine i_aload (v := (.ref b115)) (pc' := 406) X174 hx (hb hby at_404) rfl rfl rfl ?_
                      refine cV (y := (⟨"com/example/shoal_creek/shoalcreek/Step", "equals", "(Ljava/lang/Object;)Z"⟩ : MethodName)) (C := "com/example/shoal_creek/shoalcreek/Step") (rest := []) (pc' := 409) 0 [(.ref b115)] X174 hx hZ hown (hw _ (List.mem_of_getElem? (i := 49) rfl)) (hw _ (List.mem_of_getElem? (i := 50) rfl)) (hw _ (List.mem_of_getElem? (i := 52) rfl)) (hw _ (List.mem_of_getElem? (i := 51) rfl)) (hw _ (List.mem_of_getElem? (i := 28) rfl)) (hw _ (List.mem_of_getElem? (i := 53) rfl)) (by decide) F173 (rmEY l Z a0 hw [] b133 b115 v10 v12 v14 v16 b110 v111 v113 v1 v2 v3 v4 b7 v5 v6 n0 h151 X174.le P151_0 P151_1 P151_2 P151_3 P151_4 P151_5 P151_6 F159 F152 F153 F154 F155 F156 F157 F158) (by decide) (by decide) (by rw [hml]; rfl) rfl (lenOf pd4 rfl) rfl (Nat.le_of_eq rfl) (hb hby at_406) rfl (by decide) (by decide) ?_
                      intro r175 T175 h175 X175 q175
                      obtain ⟨rfl, eh175⟩ := q175
                      subst eh175
                      show Go _ _ _ _ _ _ _ T175 (mkF m 409 #[.val (.long p1), .second, .val (.long p2), .second, .val (.long p3), .second, .val (.long p4), .second, .val (.int p5), .val (.int p6), .val (.int v1), .val (.int v2), .val (.int v3), .val (.int v4), .val (.int v5), .val (.int v6), .val (.ref b7), .val (.int v8), .val (.int v9), .val (.int v10), .val (.int v12), .val (.int v14), .val (.int v16), .val (.ref b110), .val (.int v111), .val (.int v113), .val (.ref b115), .val (.ref b133), .val (.int v161), .val (.int v162), .val (.int v171)] [(.int (own_eq7 v10 v1 v12 v2 v14 v3 v16 v4 b110 b7 v111 v5 v113 v6))])
                      refine i_iload (v := v171) (pc' := 411) X175 hx (hb hby at_409) rfl rfl ?_
                      refine i_icF (pc' := 414) X175 hx (hb hby at_411) rfl (XT.ii_ne_f (by rw [hv171]; first | rfl | exact own_eq7r _ _ _ _ _ _ _ _ _ _ _ _ _)) ?_
                      refine i_iconst (pc' := 415) (1 : Int32) X175 hx (hb hby at_414) rfl (by decide) ?_
                      refine i_goto (pc' := 419) X175 hx (hb hby at_415) (by decide) (by decide) ?_
                      refine rN X175 hx hlk hret (by simp) (hb hby at_419) (by decide) (by decide) ?_
                      exact rfl
                    by_cases hc176 : v10 = v1
                    · skip
                      refine i_icF (pc' := 336) X160 hx (hb hby at_333) rfl (XT.ii_ne_f hc176) ?_
                      refine i_iload (v := v12) (pc' := 338) X160 hx (hb hby at_336) rfl rfl ?_
                      refine i_iload (v := v2) (pc' := 340) X160 hx (hb hby at_338) rfl rfl ?_
                      by_cases hc177 : v12 = v2
                      · skip
                        refine i_icF (pc' := 343) X160 hx (hb hby at_340) rfl (XT.ii_ne_f hc177) ?_
                        refine i_iload (v := v14) (pc' := 345) X160 hx (hb hby at_343) rfl rfl ?_
                        refine i_iload (v := v3) (pc' := 347) X160 hx (hb hby at_345) rfl rfl ?_
                        by_cases hc178 : v14 = v3
                        · skip
                          refine i_icF (pc' := 350) X160 hx (hb hby at_347) rfl (XT.ii_ne_f hc178) ?_
                          refine i_iload (v := v16) (pc' := 352) X160 hx (hb hby at_350) rfl rfl ?_
                          refine i_iload (v := v4) (pc' := 354) X160 hx (hb hby at_352) rfl rfl ?_
                          by_cases hc179 : v16 = v4
                          · skip
                            refine i_icF (pc' := 357) X160 hx (hb hby at_354) rfl (XT.ii_ne_f hc179) ?_
                            refine i_aload (v := (.ref b110)) (pc' := 359) X160 hx (hb hby at_357) rfl rfl rfl ?_
                            refine i_aload (v := (.ref b7)) (pc' := 361) X160 hx (hb hby at_359) rfl rfl rfl ?_
                            by_cases hc180 : ((.ref b110) : Value) = (.ref b7)
                            · skip
                              refine i_acF (pc' := 364) X160 hx (hb hby at_361) rfl rfl rfl (XT.aa_ne_f hc180) ?_
                              refine i_iload (v := v111) (pc' := 366) X160 hx (hb hby at_364) rfl rfl ?_
                              refine i_iload (v := v5) (pc' := 368) X160 hx (hb hby at_366) rfl rfl ?_
                              by_cases hc181 : v111 = v5
                              · skip
                                refine i_icF (pc' := 371) X160 hx (hb hby at_368) rfl (XT.ii_ne_f hc181) ?_
                                refine i_iload (v := v113) (pc' := 373) X160 hx (hb hby at_371) rfl rfl ?_
                                refine i_iload (v := v6) (pc' := 375) X160 hx (hb hby at_373) rfl rfl ?_
                                by_cases hc182 : v113 = v6
                                · skip
                                  refine i_icF (pc' := 378) X160 hx (hb hby at_375) rfl (XT.ii_ne_f hc182) ?_
                                  refine i_iconst (pc' := 379) (1 : Int32) X160 hx (hb hby at_378) rfl (by decide) ?_
                                  refine i_goto (pc' := 383) X160 hx (hb hby at_379) (by decide) (by decide) ?_
                                  have ev171 := hv171
                                  simp only [if_pos hc176, if_pos hc177, if_pos hc178, if_pos hc179, if_pos hc180, if_pos hc181, if_pos hc182] at ev171
                                  rw [ev171] at J172
                                  exact J172 _ (X160.mono (by decide) (by decide))
                                · skip
                                  refine i_icT (pc' := 382) X160 hx (hb hby at_375) (XT.ii_ne_t hc182) (by decide) (by decide) ?_
                                  refine i_iconst (pc' := 383) (0 : Int32) X160 hx (hb hby at_382) rfl (by decide) ?_
                                  have ev171 := hv171
                                  simp only [if_pos hc176, if_pos hc177, if_pos hc178, if_pos hc179, if_pos hc180, if_pos hc181, if_neg hc182] at ev171
                                  rw [ev171] at J172
                                  exact J172 _ (X160.mono (by decide) (by decide))
                              · skip
                                refine i_icT (pc' := 382) X160 hx (hb hby at_368) (XT.ii_ne_t hc181) (by decide) (by decide) ?_
                                refine i_iconst (pc' := 383) (0 : Int32) X160 hx (hb hby at_382) rfl (by decide) ?_
                                have ev171 := hv171
                                simp only [if_pos hc176, if_pos hc177, if_pos hc178, if_pos hc179, if_pos hc180, if_neg hc181] at ev171
                                rw [ev171] at J172
                                exact J172 _ (X160.mono (by decide) (by decide))
                            · skip
                              refine i_acT (pc' := 382) X160 hx (hb hby at_361) rfl rfl (XT.aa_ne_t hc180) (by decide) (by decide) ?_
                              refine i_iconst (pc' := 383) (0 : Int32) X160 hx (hb hby at_382) rfl (by decide) ?_
                              have ev171 := hv171
                              simp only [if_pos hc176, if_pos hc177, if_pos hc178, if_pos hc179, if_neg hc180] at ev171
                              rw [ev171] at J172
                              exact J172 _ (X160.mono (by decide) (by decide))
                          · skip
                            refine i_icT (pc' := 382) X160 hx (hb hby at_354) (XT.ii_ne_t hc179) (by decide) (by decide) ?_
                            refine i_iconst (pc' := 383) (0 : Int32) X160 hx (hb hby at_382) rfl (by decide) ?_
                            have ev171 := hv171
                            simp only [if_pos hc176, if_pos hc177, if_pos hc178, if_neg hc179] at ev171
                            rw [ev171] at J172
                            exact J172 _ (X160.mono (by decide) (by decide))
                        · skip
                          refine i_icT (pc' := 382) X160 hx (hb hby at_347) (XT.ii_ne_t hc178) (by decide) (by decide) ?_
                          refine i_iconst (pc' := 383) (0 : Int32) X160 hx (hb hby at_382) rfl (by decide) ?_
                          have ev171 := hv171
                          simp only [if_pos hc176, if_pos hc177, if_neg hc178] at ev171
                          rw [ev171] at J172
                          exact J172 _ (X160.mono (by decide) (by decide))
                      · skip
                        refine i_icT (pc' := 382) X160 hx (hb hby at_340) (XT.ii_ne_t hc177) (by decide) (by decide) ?_
                        refine i_iconst (pc' := 383) (0 : Int32) X160 hx (hb hby at_382) rfl (by decide) ?_
                        have ev171 := hv171
                        simp only [if_pos hc176, if_neg hc177] at ev171
                        rw [ev171] at J172
                        exact J172 _ (X160.mono (by decide) (by decide))
                    · skip
                      refine i_icT (pc' := 382) X160 hx (hb hby at_333) (XT.ii_ne_t hc176) (by decide) (by decide) ?_
                      refine i_iconst (pc' := 383) (0 : Int32) X160 hx (hb hby at_382) rfl (by decide) ?_
                      have ev171 := hv171
                      simp only [if_neg hc176] at ev171
                      rw [ev171] at J172
                      exact J172 _ (X160.mono (by decide) (by decide))
              by_cases hc183 : (p6 &&& (64 : Int32)) = 0
              · skip
                refine i_ifT (pc' := 205) X112 hx (hb hby at_194) (XT.i0_eq_t hc183) (by decide) (by decide) ?_
                refine i_iload (v := v6) (pc' := 207) X112 hx (hb hby at_205) rfl rfl ?_
                have ev113 := hv113
                simp only [if_pos hc183] at ev113
                rw [ev113] at J114
                exact J114 _ (X112.mono (by decide) (by decide))
              · skip
                refine i_ifF (pc' := 197) X112 hx (hb hby at_194) rfl (XT.i0_eq_f hc183) ?_
                refine i_iload (v := v6) (pc' := 199) X112 hx (hb hby at_197) rfl rfl ?_
                refine i_iload (v := v9) (pc' := 201) X112 hx (hb hby at_199) rfl rfl ?_
                refine i_iadd (pc' := 202) X112 hx (hb hby at_201) rfl ?_
                refine i_goto (pc' := 207) X112 hx (hb hby at_202) (by decide) (by decide) ?_
                have ev113 := hv113
                simp only [if_neg hc183] at ev113
                rw [ev113] at J114
                exact J114 _ (X112.mono (by decide) (by decide))
            by_cases hc184 : (p6 &&& (32 : Int32)) = 0
            · skip
              refine i_ifT (pc' := 185) X110 hx (hb hby at_174) (XT.i0_eq_t hc184) (by decide) (by decide) ?_
              refine i_iload (v := v5) (pc' := 187) X110 hx (hb hby at_185) rfl rfl ?_
              have ev111 := hv111
              simp only [if_pos hc184] at ev111
              rw [ev111] at J112
              exact J112 _ (X110.mono (by decide) (by decide))
            · skip
              refine i_ifF (pc' := 177) X110 hx (hb hby at_174) rfl (XT.i0_eq_f hc184) ?_
              refine i_iload (v := v5) (pc' := 179) X110 hx (hb hby at_177) rfl rfl ?_
              refine i_iload (v := v8) (pc' := 181) X110 hx (hb hby at_179) rfl rfl ?_
              refine i_iadd (pc' := 182) X110 hx (hb hby at_181) rfl ?_
              refine i_goto (pc' := 187) X110 hx (hb hby at_182) (by decide) (by decide) ?_
              have ev111 := hv111
              simp only [if_neg hc184] at ev111
              rw [ev111] at J112
              exact J112 _ (X110.mono (by decide) (by decide))
        by_cases hc185 : (p6 &&& (8 : Int32)) = 0
        · skip
          refine i_ifT (pc' := 135) X15 hx (hb hby at_124) (XT.i0_eq_t hc185) (by decide) (by decide) ?_
          refine i_iload (v := v4) (pc' := 137) X15 hx (hb hby at_135) rfl rfl ?_
          have ev16 := hv16
          simp only [if_pos hc185] at ev16
          rw [ev16] at J17
          exact J17 _ (X15.mono (by decide) (by decide))
        · skip
          refine i_ifF (pc' := 127) X15 hx (hb hby at_124) rfl (XT.i0_eq_f hc185) ?_
          refine i_iload (v := v4) (pc' := 129) X15 hx (hb hby at_127) rfl rfl ?_
          refine i_iload (v := v9) (pc' := 131) X15 hx (hb hby at_129) rfl rfl ?_
          refine i_iadd (pc' := 132) X15 hx (hb hby at_131) rfl ?_
          refine i_goto (pc' := 137) X15 hx (hb hby at_132) (by decide) (by decide) ?_
          have ev16 := hv16
          simp only [if_neg hc185] at ev16
          rw [ev16] at J17
          exact J17 _ (X15.mono (by decide) (by decide))
      by_cases hc186 : (p6 &&& (4 : Int32)) = 0
      · skip
        refine i_ifT (pc' := 115) X13 hx (hb hby at_104) (XT.i0_eq_t hc186) (by decide) (by decide) ?_
        refine i_iload (v := v3) (pc' := 117) X13 hx (hb hby at_115) rfl rfl ?_
        have ev14 := hv14
        simp only [if_pos hc186] at ev14
        rw [ev14] at J15
        exact J15 _ (X13.mono (by decide) (by decide))
      · skip
        refine i_ifF (pc' := 107) X13 hx (hb hby at_104) rfl (XT.i0_eq_f hc186) ?_
        refine i_iload (v := v3) (pc' := 109) X13 hx (hb hby at_107) rfl rfl ?_
        refine i_iload (v := v8) (pc' := 111) X13 hx (hb hby at_109) rfl rfl ?_
        refine i_iadd (pc' := 112) X13 hx (hb hby at_111) rfl ?_
        refine i_goto (pc' := 117) X13 hx (hb hby at_112) (by decide) (by decide) ?_
        have ev14 := hv14
        simp only [if_neg hc186] at ev14
        rw [ev14] at J15
        exact J15 _ (X13.mono (by decide) (by decide))
    by_cases hc187 : (p6 &&& (2 : Int32)) = 0
    · skip
      refine i_ifT (pc' := 96) X11 hx (hb hby at_85) (XT.i0_eq_t hc187) (by decide) (by decide) ?_
      refine i_iload (v := v2) (pc' := 98) X11 hx (hb hby at_96) rfl rfl ?_
      have ev12 := hv12
      simp only [if_pos hc187] at ev12
      rw [ev12] at J13
      exact J13 _ (X11.mono (by decide) (by decide))
    · skip
      refine i_ifF (pc' := 88) X11 hx (hb hby at_85) rfl (XT.i0_eq_f hc187) ?_
      refine i_iload (v := v2) (pc' := 90) X11 hx (hb hby at_88) rfl rfl ?_
      refine i_iload (v := v9) (pc' := 92) X11 hx (hb hby at_90) rfl rfl ?_
      refine i_iadd (pc' := 93) X11 hx (hb hby at_92) rfl ?_
      refine i_goto (pc' := 98) X11 hx (hb hby at_93) (by decide) (by decide) ?_
      have ev12 := hv12
      simp only [if_neg hc187] at ev12
      rw [ev12] at J13
      exact J13 _ (X11.mono (by decide) (by decide))
  by_cases hc188 : (p6 &&& (1 : Int32)) = 0
  · skip
    refine i_ifT (pc' := 77) X7 hx (hb hby at_66) (XT.i0_eq_t hc188) (by decide) (by decide) ?_
    refine i_iload (v := v1) (pc' := 79) X7 hx (hb hby at_77) rfl rfl ?_
    have ev10 := hv10
    simp only [if_pos hc188] at ev10
    rw [ev10] at J11
    exact J11 _ (X7.mono (by decide) (by decide))
  · skip
    refine i_ifF (pc' := 69) X7 hx (hb hby at_66) rfl (XT.i0_eq_f hc188) ?_
    refine i_iload (v := v1) (pc' := 71) X7 hx (hb hby at_69) rfl rfl ?_
    refine i_iload (v := v8) (pc' := 73) X7 hx (hb hby at_71) rfl rfl ?_
    refine i_iadd (pc' := 74) X7 hx (hb hby at_73) rfl ?_
    refine i_goto (pc' := 79) X7 hx (hb hby at_74) (by decide) (by decide) ?_
    have ev10 := hv10
    simp only [if_neg hc188] at ev10
    rw [ev10] at J11
    exact J11 _ (X7.mono (by decide) (by decide))
set_option maxRecDepth 65536 in
set_option maxHeartbeats 40000000 in
theorem comes_1 {Post : Tables → Env → Array Value → State → Outcome → State → Prop} (hpost : ∀ tb e args s v u, (limb_1_1.after args s (.returned v) u = true ∧ limb_1_2.after args s (.returned v) u = true ∧ True) → FrameEnd s (.returned v) u (Jvm.fieldLocs frame_1_writes args s ++ Jvm.arrayLocs frame_1_arrays args s ++ Jvm.staticLocs frame_1_statics s) 24 192 → Post tb e args s (.returned v) u) :
    ArmFor flags0 classFile x code maxLocals ret World_1 tables_1 room_1 Calls_1 rest_1 Pre_1 Post := by
  intro l hfl _ _ p e ha hc hk s m args below hf hA hF happ hP
  obtain ⟨hcalls, hrest, hpre⟩ := hP
  obtain ⟨-, -, -, hnamed, -, -, -, hat⟩ := (Spec.applies_iff hf).mp happ
  obtain ⟨hg, hn⟩ := and_e (Cond.before_iff.mp (show (Jvm.Cond.and given_1 narrow_1).before args s = true from hpre))
  obtain ⟨g0, k0⟩ := and_e hg
  obtain ⟨g1, k1⟩ := and_e k0
  obtain ⟨g2, k2⟩ := and_e k1
  obtain ⟨g3, k3⟩ := and_e k2
  obtain ⟨g4, k4⟩ := and_e k3
  obtain ⟨g5, k5⟩ := and_e k4
  obtain ⟨w0, w1, w2, w3, w4, w5, rfl⟩ : ∃ w0 w1 w2 w3 w4 w5 : Value, args = #[w0, w1, w2, w3, w4, w5] := by
    have hs : args.size = 6 := by simpa [Cond.value, given_1] using g0
    obtain ⟨L⟩ := args
    match L, hs with
    | [w0, w1, w2, w3, w4, w5], _ => exact ⟨w0, w1, w2, w3, w4, w5, rfl⟩
  have hw := fun d (hd : d ∈ tables_1) => atoms_spec (ws := Jvm.Cond.code x code maxLocals ret :: tables_1) hat d (List.mem_cons_of_mem _ hd)
  have hfit : Fit s := fun {y c} hc i hi => by
    obtain ⟨ha, rfl⟩ := Array.getElem?_eq_some_iff.mp hc
    have q := List.all_eq_true.mp ((Array.all_eq_true_iff_forall_mem.mp hF) _ (Array.getElem_mem ha)) i (List.mem_range.mpr hi)
    simpa [Array.getElem?_eq_getElem hi] using q
  obtain ⟨i0, ei0⟩ := isL_v g1
  obtain rfl : w0 = (.long i0) := Option.some.inj ei0
  obtain ⟨i1, ei1⟩ := isL_v g2
  obtain rfl : w1 = (.long i1) := Option.some.inj ei1
  obtain ⟨i2, ei2⟩ := isL_v g3
  obtain rfl : w2 = (.long i2) := Option.some.inj ei2
  obtain ⟨i3, ei3⟩ := isL_v g4
  obtain rfl : w3 = (.long i3) := Option.some.inj ei3
  obtain ⟨i4, ei4⟩ := is_v g5
  obtain rfl : w4 = (.int i4) := Option.some.inj ei4
  obtain ⟨i5, ei5⟩ := is_v k5
  obtain rfl : w5 = (.int i5) := Option.some.inj ei5
  obtain ⟨c0, d0⟩ := and_e hn
  obtain ⟨c1, d1⟩ := and_e d0
  obtain ⟨c2, d2⟩ := and_e d1
  obtain ⟨c3, d3⟩ := and_e d2
  obtain ⟨c4, d4⟩ := and_e d3
  obtain ⟨c5, d5⟩ := and_e d4
  obtain ⟨c6, d6⟩ := and_e d5
  obtain ⟨c7, d7⟩ := and_e d6
  obtain ⟨c8, d8⟩ := and_e d7
  obtain ⟨r0, er0⟩ := exa_v c0
  have S0 := Sta.start er0 (Or.inr ⟨(hw _ (List.mem_of_getElem? (i := 7) rfl)), (hw _ (List.mem_of_getElem? (i := 8) rfl))⟩)
  have ER0 := Exa.start er0 c0
  obtain ⟨r1, er1⟩ := exa_v c1
  have S1 := Sta.start er1 (Or.inr ⟨(hw _ (List.mem_of_getElem? (i := 7) rfl)), (hw _ (List.mem_of_getElem? (i := 11) rfl))⟩)
  have ER1 := Exa.start er1 c1
  obtain ⟨r2, er2⟩ := exa_v c2
  have S2 := Sta.start er2 (Or.inr ⟨(hw _ (List.mem_of_getElem? (i := 7) rfl)), (hw _ (List.mem_of_getElem? (i := 13) rfl))⟩)
  have ER2 := Exa.start er2 c2
  obtain ⟨r3, er3⟩ := exa_v c3
  have S3 := Sta.start er3 (Or.inr ⟨(hw _ (List.mem_of_getElem? (i := 7) rfl)), (hw _ (List.mem_of_getElem? (i := 15) rfl))⟩)
  have ER3 := Exa.start er3 c3
  obtain ⟨r4, er4⟩ := exa_v c4
  have S4 := Sta.start er4 (Or.inr ⟨(hw _ (List.mem_of_getElem? (i := 7) rfl)), (hw _ (List.mem_of_getElem? (i := 17) rfl))⟩)
  have ER4 := Exa.start er4 c4
  obtain ⟨r5, er5⟩ := exa_v c5
  have S5 := Sta.start er5 (Or.inr ⟨(hw _ (List.mem_of_getElem? (i := 7) rfl)), (hw _ (List.mem_of_getElem? (i := 19) rfl))⟩)
  have ER5 := Exa.start er5 c5
  obtain ⟨r6, er6⟩ := exa_v c6
  have S6 := Sta.start er6 (Or.inr ⟨(hw _ (List.mem_of_getElem? (i := 7) rfl)), (hw _ (List.mem_of_getElem? (i := 21) rfl))⟩)
  have ER6 := Exa.start er6 c6
  obtain ⟨r7, er7⟩ := exa_v c7
  have S7 := Sta.start er7 (Or.inr ⟨(hw _ (List.mem_of_getElem? (i := 7) rfl)), (hw _ (List.mem_of_getElem? (i := 23) rfl))⟩)
  have ER7 := Exa.start er7 c7
  obtain ⟨r8, er8⟩ := exa_v c8
  have S8 := Sta.start er8 (Or.inr ⟨(hw _ (List.mem_of_getElem? (i := 7) rfl)), (hw _ (List.mem_of_getElem? (i := 25) rfl))⟩)
  have ER8 := Exa.start er8 c8
  obtain ⟨hsets, hown0⟩ := atoms_of _ (rest_1_c_eq ▸ (show rest_1_c.before _ s = true from hrest))
  obtain ⟨ih, eh⟩ : ∃ ih, (Term.static "java/lang/Integer$IntegerCache" "high" "I").eval _ s none [] s = some (.int ih) := by
    obtain ⟨x, y, e1, e2, -, -⟩ := cmp_v (Or.inl (Cond.before_iff.mp (hsets _ (List.mem_of_getElem? (i := 3) rfl))))
    have q := Cond.before_iff.mp (hsets _ (List.mem_of_getElem? (i := 3) rfl))
    rw [show y = .int 127 from Option.some.inj (e2.symm.trans (Term.int_eval 127))] at e2
    cases x <;> simp [Cond.value, e1, e2] at q
    exact ⟨_, e1⟩
  have eh2 : ih = 127 := gotT (Cond.eq_ints eh (Term.int_eval (127))) (Cond.before_iff.mp (hsets _ (List.mem_of_getElem? (i := 3) rfl)))
  subst eh2
  have SH := Sta.start eh (Or.inl (hsets _ (List.mem_of_getElem? (i := 1) rfl)))
  obtain ⟨ca, ec⟩ := arr_v (Cond.before_iff.mp (hsets _ (List.mem_of_getElem? (i := 4) rfl)))
  have SC := Sta.start ec (Or.inr ⟨hw _ (List.mem_of_getElem? (i := 61) rfl), (hsets _ (List.mem_of_getElem? (i := 2) rfl))⟩)
  have HC := own_fill ec (Cond.before_iff.mp (hsets _ (List.mem_of_getElem? (i := 4) rfl))) (Cond.before_iff.mp (hsets _ (List.mem_of_getElem? (i := 6) rfl))) (Cond.before_iff.mp (hsets _ (List.mem_of_getElem? (i := 7) rfl)))
  obtain ⟨n, o, h1, h2, h3, _, L, rfl, ⟨rfl, N⟩, hq⟩ := rm0 l s _ hw tables_1 i0 i1 i2 i3 i4 i5 s.heap.size s.heap (Nat.le_refl _) r0 r1 r2 r3 r4 r5 r6 r7 r8 ca S0 S1 S2 S3 S4 S5 S6 S7 S8 ER0 ER1 ER2 ER3 ER4 ER5 ER6 ER7 ER8 SH SC HC p e ha hc hk s m _ below hf ((Spec.applies_iff_loose hf).mp happ).1 ⟨rfl, State.Warmed39.refl s, rfl⟩ trivial
  refine ⟨n, _, h1, h2, h3, hpost _ _ _ _ _ _ ⟨Cond.after_iff.mpr rfl, Cond.after_iff.mpr (eq_i res_at (Term.int_eval (1)) rfl), trivial⟩ ⟨hq.1, hq.2.1, (hq.2.2.sift fun y hy => Or.inr (N y hy)).mono (by decide) (by decide)⟩⟩
theorem main_1_1 : Claimed_1_1 := comes_1 fun _ _ _ _ _ _ h hF => ⟨h.1, hF⟩
theorem main_1_2 : Claimed_1_2 := comes_1 fun _ _ _ _ _ _ h hF => ⟨h.2.1, hF⟩
end Jvm.Pilot.@@N@@
namespace Jvm.Pilot.@@N@@
open Jvm Jvm.ClassFile Sem Op Lib Jvm.Free Jvm.Stand Jvm.Pilot.@@N@@.Jvm.D
/-! MADE BY PROGRAM (witnessworld.py) out of the Statement's table words and the real class files: 19 classes; the members and pool entries that the words name. The judged class is class 1, her method 2. -/
namespace start1
open Jvm.ClassFile
def u (s : String) : CpInfo := .utf8 (stringToUtf16 s)
/-- a pool by its gaps: so many unusable entries, then the entry; so many at the end -/
def gap : Nat → List CpInfo → List CpInfo
  | 0, r => r
  | n + 1, r => .unusable :: gap n r
def poolList (es : List (Nat × CpInfo)) (last : Nat) : List CpInfo := es.foldr (fun e r => gap e.1 (e.2 :: r)) (gap last [])
def pool (es : List (Nat × CpInfo)) (last : Nat) : Array CpInfo := ⟨poolList es last⟩
def fileOf (pool : Array CpInfo) (this : Nat) (attrs : Array Attribute := #[]) (ms : Array MethodInfo := #[]) (fl : Nat := 33) (sup : Nat := 0) (ifs : Array Nat := #[]) (fds : Array FieldInfo := #[]) : ClassFile where
  minorVersion := 0
  majorVersion := 65
  constantPool := pool
  accessFlags := fl
  thisClass := this
  superClass := sup
  interfaces := ifs
  fields := fds
  methods := ms
  attributes := attrs
def plain (name : String) (sup : Option ClassId) : Class where
  name := name
  kind := .ordinary
  loader := none
  accessFlags := 33
  super := sup
  interfaces := #[]
  cf := none
  fields := #[]
  methods := #[]
  instanceTypes := #[]
  staticTypes := #[]
  resolved := #[]
  callSites := []
  init := .initialized
  statics := none
  mirror := none

def pool0 : Array CpInfo := pool [(5, u "<init>"), (0, u "()V"), (1, .class_ 10), (1, u "java/lang/Object")] 113

def k0c0 : Code := { maxStack := 0, maxLocals := 1, code := object_method_1_code, exceptionTable := #[], attributes := #[] }
def k0m0 : Method := { name := "<init>", desc := "()V", sig := { parameters := [], returnType := none }, accessFlags := 1, code := some k0c0 }
/-- java/lang/Object -/
def k0 : Class := { plain "java/lang/Object" none with
  accessFlags := 33
  interfaces := #[]
  cf := some (fileOf pool0 8 #[] #[{ accessFlags := 1, nameIndex := 5, descriptorIndex := 6, attributes := #[] }] 33 0 #[] #[])
  fields := #[]
  methods := #[k0m0]
  instanceTypes := #[]
  staticTypes := #[]
  resolved := Array.replicate 124 none
  statics := none }

def pool1 : Array CpInfo := pool [(2, .class_ 4), (1, u "java/lang/Object"), (0, u "<init>"), (0, u "()V"), (0, .class_ 8), (0, u "com/example/shoal_creek/shoalcreek/ShiftRule"), (0, .fieldref 7 10), (0, .nameAndType 11 12), (0, u "BAD_CHARACTER"), (0, u "Lcom/example/shoal_creek/shoalcreek/ShiftRule;"), (0, .fieldref 7 14), (0, .nameAndType 15 12), (0, u "GOOD_SUFFIX"), (0, .fieldref 7 17), (0, .nameAndType 18 12), (0, u "FULL_MATCH"), (0, .fieldref 7 20), (0, .nameAndType 21 12), (0, u "NEXT_WINDOW"), (0, .fieldref 7 23), (0, .nameAndType 24 12), (0, u "BORDER"), (0, .fieldref 7 26), (0, .nameAndType 27 12), (0, u "ROLLING_HASH"), (0, .fieldref 7 29), (0, .nameAndType 30 12), (0, u "LAST_CHARS"), (0, .fieldref 7 32), (0, .nameAndType 33 12), (0, u "BLOCK_END"), (0, .fieldref 7 35), (0, .nameAndType 36 12), (0, u "NONE"), (0, .methodref 38 39), (0, .class_ 40), (0, .nameAndType 41 42), (0, u "com/example/shoal_creek/shoalcreek/StepEqualsPinLaw"), (0, u "rule"), (0, u "(I)Lcom/example/shoal_creek/shoalcreek/ShiftRule;"), (0, .class_ 44), (0, u "com/example/shoal_creek/shoalcreek/Step"), (0, .methodref 43 46), (0, .nameAndType 5 47), (0, u "(IIIILcom/example/shoal_creek/shoalcreek/ShiftRule;II)V"), (0, .methodref 43 49), (0, .nameAndType 50 51), (0, u "equals"), (0, u "(Ljava/lang/Object;)Z"), (0, .methodref 53 54), (0, .class_ 55), (0, .nameAndType 56 57), (0, u "java/lang/Integer"), (0, u "valueOf"), (0, u "(I)Ljava/lang/Integer;"), (2, u "law"), (0, u "(JJJJII)Z")] 3

def k1m0 : Method := { name := "<init>", desc := "()V", sig := { parameters := [], returnType := none }, accessFlags := 1, code := none }
def k1c1 : Code := { maxStack := 4, maxLocals := 2, code := method_2_code, exceptionTable := #[], attributes := #[] }
def k1m1 : Method := { name := "rule", desc := "(I)Lcom/example/shoal_creek/shoalcreek/ShiftRule;", sig := { parameters := [.int], returnType := some (.object "com/example/shoal_creek/shoalcreek/ShiftRule") }, accessFlags := 10, code := some k1c1 }
def k1c2 : Code := { maxStack := 9, maxLocals := 31, code := code, exceptionTable := #[], attributes := #[] }
def k1m2 : Method := { name := "law", desc := "(JJJJII)Z", sig := { parameters := [.long, .long, .long, .long, .int, .int], returnType := some .boolean }, accessFlags := 9, code := some k1c2 }
/-- com/example/shoal_creek/shoalcreek/StepEqualsPinLaw -/
def k1 : Class := { plain "com/example/shoal_creek/shoalcreek/StepEqualsPinLaw" (some 0) with
  accessFlags := 49
  interfaces := #[]
  cf := some (fileOf pool1 38 #[] #[{ accessFlags := 1, nameIndex := 5, descriptorIndex := 6, attributes := #[] }, { accessFlags := 10, nameIndex := 41, descriptorIndex := 42, attributes := #[] }, { accessFlags := 9, nameIndex := 60, descriptorIndex := 61, attributes := #[] }] 49 2 #[] #[])
  fields := #[]
  methods := #[k1m0, k1m1, k1m2]
  instanceTypes := #[]
  staticTypes := #[]
  resolved := Array.replicate 65 none
  statics := none }

def pool2 : Array CpInfo := pool [(1, .class_ 2), (0, u "java/lang/constant/Constable"), (0, .class_ 4), (0, u "java/lang/Object")] 6

/-- java/lang/constant/Constable -/
def k2 : Class := { plain "java/lang/constant/Constable" (some 0) with
  accessFlags := 1537
  interfaces := #[]
  cf := some (fileOf pool2 1 #[] #[] 1537 3 #[] #[])
  fields := #[]
  methods := #[]
  instanceTypes := #[]
  staticTypes := #[]
  resolved := Array.replicate 11 none
  statics := none }

def pool3 : Array CpInfo := pool [(1, .class_ 2), (0, u "java/lang/Comparable"), (0, .class_ 4), (0, u "java/lang/Object")] 7

/-- java/lang/Comparable -/
def k3 : Class := { plain "java/lang/Comparable" (some 0) with
  accessFlags := 1537
  interfaces := #[]
  cf := some (fileOf pool3 1 #[] #[] 1537 3 #[] #[])
  fields := #[]
  methods := #[]
  instanceTypes := #[]
  staticTypes := #[]
  resolved := Array.replicate 12 none
  statics := none }

def pool4 : Array CpInfo := pool [(1, .class_ 2), (0, u "java/io/Serializable"), (0, .class_ 4), (0, u "java/lang/Object")] 2

/-- java/io/Serializable -/
def k4 : Class := { plain "java/io/Serializable" (some 0) with
  accessFlags := 1537
  interfaces := #[]
  cf := some (fileOf pool4 1 #[] #[] 1537 3 #[] #[])
  fields := #[]
  methods := #[]
  instanceTypes := #[]
  staticTypes := #[]
  resolved := Array.replicate 7 none
  statics := none }

def pool5 : Array CpInfo := pool [(2, .class_ 4), (1, u "java/lang/Enum"), (0, u "name"), (0, u "Ljava/lang/String;"), (2, u "ordinal"), (0, u "I"), (1, .class_ 14), (1, u "java/lang/Object"), (4, u "hash"), (86, .class_ 108), (1, u "java/lang/Enum$EnumDesc"), (2, .class_ 112), (0, u "java/lang/constant/Constable"), (0, .class_ 114), (0, u "java/lang/Comparable"), (0, .class_ 116), (0, u "java/io/Serializable")] 87

/-- java/lang/Enum -/
def k5 : Class := { plain "java/lang/Enum" (some 0) with
  accessFlags := 1057
  interfaces := #[2, 3, 4]
  cf := some (fileOf pool5 2 #[.nestMembers #[106]] #[] 1057 12 #[111, 113, 115] #[{ accessFlags := 18, nameIndex := 5, descriptorIndex := 6, attributes := #[] }, { accessFlags := 18, nameIndex := 9, descriptorIndex := 10, attributes := #[] }, { accessFlags := 2, nameIndex := 19, descriptorIndex := 10, attributes := #[] }])
  fields := #[{ name := "name", type := (.object "java/lang/String"), accessFlags := 18, slot := 0, constantValue := 0 }, { name := "ordinal", type := .int, accessFlags := 18, slot := 1, constantValue := 0 }, { name := "hash", type := .int, accessFlags := 2, slot := 2, constantValue := 0 }]
  methods := #[]
  instanceTypes := #[(.object "java/lang/String"), .int, .int]
  staticTypes := #[]
  resolved := Array.replicate 204 none
  statics := none }

def pool6 : Array CpInfo := pool [(1, .class_ 2), (0, u "com/example/shoal_creek/shoalcreek/ShiftRule"), (2, u "BAD_CHARACTER"), (0, u "Lcom/example/shoal_creek/shoalcreek/ShiftRule;"), (2, u "GOOD_SUFFIX"), (2, u "FULL_MATCH"), (2, u "NEXT_WINDOW"), (2, u "BORDER"), (2, u "ROLLING_HASH"), (2, u "LAST_CHARS"), (2, u "BLOCK_END"), (2, u "NONE"), (2, u "$VALUES"), (0, u "[Lcom/example/shoal_creek/shoalcreek/ShiftRule;"), (6, .class_ 43), (1, u "java/lang/Enum")] 31

/-- com/example/shoal_creek/shoalcreek/ShiftRule -/
def k6 : Class := { plain "com/example/shoal_creek/shoalcreek/ShiftRule" (some 5) with
  accessFlags := 16433
  interfaces := #[]
  cf := some (fileOf pool6 1 #[] #[] 16433 41 #[] #[{ accessFlags := 16409, nameIndex := 5, descriptorIndex := 6, attributes := #[] }, { accessFlags := 16409, nameIndex := 9, descriptorIndex := 6, attributes := #[] }, { accessFlags := 16409, nameIndex := 12, descriptorIndex := 6, attributes := #[] }, { accessFlags := 16409, nameIndex := 15, descriptorIndex := 6, attributes := #[] }, { accessFlags := 16409, nameIndex := 18, descriptorIndex := 6, attributes := #[] }, { accessFlags := 16409, nameIndex := 21, descriptorIndex := 6, attributes := #[] }, { accessFlags := 16409, nameIndex := 24, descriptorIndex := 6, attributes := #[] }, { accessFlags := 16409, nameIndex := 27, descriptorIndex := 6, attributes := #[] }, { accessFlags := 16409, nameIndex := 30, descriptorIndex := 6, attributes := #[] }, { accessFlags := 4122, nameIndex := 33, descriptorIndex := 34, attributes := #[] }])
  fields := #[{ name := "BAD_CHARACTER", type := (.object "com/example/shoal_creek/shoalcreek/ShiftRule"), accessFlags := 16409, slot := 0, constantValue := 0 }, { name := "GOOD_SUFFIX", type := (.object "com/example/shoal_creek/shoalcreek/ShiftRule"), accessFlags := 16409, slot := 1, constantValue := 0 }, { name := "FULL_MATCH", type := (.object "com/example/shoal_creek/shoalcreek/ShiftRule"), accessFlags := 16409, slot := 2, constantValue := 0 }, { name := "NEXT_WINDOW", type := (.object "com/example/shoal_creek/shoalcreek/ShiftRule"), accessFlags := 16409, slot := 3, constantValue := 0 }, { name := "BORDER", type := (.object "com/example/shoal_creek/shoalcreek/ShiftRule"), accessFlags := 16409, slot := 4, constantValue := 0 }, { name := "ROLLING_HASH", type := (.object "com/example/shoal_creek/shoalcreek/ShiftRule"), accessFlags := 16409, slot := 5, constantValue := 0 }, { name := "LAST_CHARS", type := (.object "com/example/shoal_creek/shoalcreek/ShiftRule"), accessFlags := 16409, slot := 6, constantValue := 0 }, { name := "BLOCK_END", type := (.object "com/example/shoal_creek/shoalcreek/ShiftRule"), accessFlags := 16409, slot := 7, constantValue := 0 }, { name := "NONE", type := (.object "com/example/shoal_creek/shoalcreek/ShiftRule"), accessFlags := 16409, slot := 8, constantValue := 0 }, { name := "$VALUES", type := (.array (.object "com/example/shoal_creek/shoalcreek/ShiftRule")), accessFlags := 4122, slot := 9, constantValue := 0 }]
  methods := #[]
  instanceTypes := #[(.object "java/lang/String"), .int, .int]
  staticTypes := #[(.object "com/example/shoal_creek/shoalcreek/ShiftRule"), (.object "com/example/shoal_creek/shoalcreek/ShiftRule"), (.object "com/example/shoal_creek/shoalcreek/ShiftRule"), (.object "com/example/shoal_creek/shoalcreek/ShiftRule"), (.object "com/example/shoal_creek/shoalcreek/ShiftRule"), (.object "com/example/shoal_creek/shoalcreek/ShiftRule"), (.object "com/example/shoal_creek/shoalcreek/ShiftRule"), (.object "com/example/shoal_creek/shoalcreek/ShiftRule"), (.object "com/example/shoal_creek/shoalcreek/ShiftRule"), (.array (.object "com/example/shoal_creek/shoalcreek/ShiftRule"))]
  resolved := Array.replicate 75 none
  statics := some 0 }

def pool7 : Array CpInfo := pool [(1, .methodref 2 3), (0, .class_ 4), (0, .nameAndType 5 6), (0, u "java/lang/Object"), (0, u "<init>"), (0, u "()V"), (0, .fieldref 8 9), (0, .class_ 10), (0, .nameAndType 11 12), (0, u "com/example/shoal_creek/shoalcreek/Step"), (0, u "start"), (0, u "I"), (0, .fieldref 8 14), (0, .nameAndType 15 12), (0, u "comparisons"), (0, .fieldref 8 17), (0, .nameAndType 18 12), (0, u "mismatch"), (0, .fieldref 8 20), (0, .nameAndType 21 12), (0, u "shift"), (0, .fieldref 8 23), (0, .nameAndType 24 25), (0, u "rule"), (0, u "Lcom/example/shoal_creek/shoalcreek/ShiftRule;"), (0, .fieldref 8 27), (0, .nameAndType 28 12), (0, u "badCharacterShift"), (0, .fieldref 8 30), (0, .nameAndType 31 12), (0, u "goodSuffixShift"), (75, u "(IIIILcom/example/shoal_creek/shoalcreek/ShiftRule;II)V"), (4, u "equals"), (0, u "(Ljava/lang/Object;)Z")] 4

def k7c0 : Code := { maxStack := 2, maxLocals := 8, code := prog_28_method_1_code, exceptionTable := #[], attributes := #[] }
def k7m0 : Method := { name := "<init>", desc := "(IIIILcom/example/shoal_creek/shoalcreek/ShiftRule;II)V", sig := { parameters := [.int, .int, .int, .int, (.object "com/example/shoal_creek/shoalcreek/ShiftRule"), .int, .int], returnType := none }, accessFlags := 0, code := some k7c0 }
def k7c1 : Code := { maxStack := 2, maxLocals := 3, code := prog_28_method_9_code, exceptionTable := #[], attributes := #[] }
def k7m1 : Method := { name := "equals", desc := "(Ljava/lang/Object;)Z", sig := { parameters := [(.object "java/lang/Object")], returnType := some .boolean }, accessFlags := 1, code := some k7c1 }
/-- com/example/shoal_creek/shoalcreek/Step -/
def k7 : Class := { plain "com/example/shoal_creek/shoalcreek/Step" (some 0) with
  accessFlags := 49
  interfaces := #[]
  cf := some (fileOf pool7 8 #[] #[{ accessFlags := 0, nameIndex := 5, descriptorIndex := 107, attributes := #[] }, { accessFlags := 1, nameIndex := 112, descriptorIndex := 113, attributes := #[] }] 49 2 #[] #[{ accessFlags := 18, nameIndex := 11, descriptorIndex := 12, attributes := #[] }, { accessFlags := 18, nameIndex := 15, descriptorIndex := 12, attributes := #[] }, { accessFlags := 18, nameIndex := 18, descriptorIndex := 12, attributes := #[] }, { accessFlags := 18, nameIndex := 21, descriptorIndex := 12, attributes := #[] }, { accessFlags := 18, nameIndex := 24, descriptorIndex := 25, attributes := #[] }, { accessFlags := 18, nameIndex := 28, descriptorIndex := 12, attributes := #[] }, { accessFlags := 18, nameIndex := 31, descriptorIndex := 12, attributes := #[] }])
  fields := #[{ name := "start", type := .int, accessFlags := 18, slot := 0, constantValue := 0 }, { name := "comparisons", type := .int, accessFlags := 18, slot := 1, constantValue := 0 }, { name := "mismatch", type := .int, accessFlags := 18, slot := 2, constantValue := 0 }, { name := "shift", type := .int, accessFlags := 18, slot := 3, constantValue := 0 }, { name := "rule", type := (.object "com/example/shoal_creek/shoalcreek/ShiftRule"), accessFlags := 18, slot := 4, constantValue := 0 }, { name := "badCharacterShift", type := .int, accessFlags := 18, slot := 5, constantValue := 0 }, { name := "goodSuffixShift", type := .int, accessFlags := 18, slot := 6, constantValue := 0 }]
  methods := #[k7m0, k7m1]
  instanceTypes := #[.int, .int, .int, .int, (.object "com/example/shoal_creek/shoalcreek/ShiftRule"), .int, .int]
  staticTypes := #[]
  resolved := Array.replicate 118 none
  statics := none }

def pool8 : Array CpInfo := pool [(1, .methodref 2 3), (0, .class_ 4), (0, .nameAndType 5 6), (0, u "java/lang/Object"), (0, u "<init>"), (0, u "()V"), (1, .class_ 10), (1, u "java/lang/Number"), (2, .class_ 14), (0, u "java/io/Serializable"), (0, u "serialVersionUID"), (0, u "J")] 20

def k8c0 : Code := { maxStack := 1, maxLocals := 1, code := jdk_18_method_1_code, exceptionTable := #[], attributes := #[] }
def k8m0 : Method := { name := "<init>", desc := "()V", sig := { parameters := [], returnType := none }, accessFlags := 1, code := some k8c0 }
/-- java/lang/Number -/
def k8 : Class := { plain "java/lang/Number" (some 0) with
  accessFlags := 1057
  interfaces := #[4]
  cf := some (fileOf pool8 8 #[] #[{ accessFlags := 1, nameIndex := 5, descriptorIndex := 6, attributes := #[] }] 1057 2 #[13] #[{ accessFlags := 26, nameIndex := 15, descriptorIndex := 16, attributes := #[] }])
  fields := #[{ name := "serialVersionUID", type := .long, accessFlags := 26, slot := 0, constantValue := 0 }]
  methods := #[k8m0]
  instanceTypes := #[]
  staticTypes := #[.long]
  resolved := Array.replicate 37 none
  statics := none }

def pool9 : Array CpInfo := pool [(1, .class_ 2), (0, u "java/lang/constant/ConstantDesc"), (0, .class_ 4), (0, u "java/lang/Object")] 32

/-- java/lang/constant/ConstantDesc -/
def k9 : Class := { plain "java/lang/constant/ConstantDesc" (some 0) with
  accessFlags := 1537
  interfaces := #[]
  cf := some (fileOf pool9 1 #[] #[] 1537 3 #[] #[])
  fields := #[]
  methods := #[]
  instanceTypes := #[]
  staticTypes := #[]
  resolved := Array.replicate 37 none
  statics := none }

def pool10 : Array CpInfo := pool [(1, .class_ 2), (0, u "java/lang/Integer"), (16, u "digits"), (0, u "[C"), (46, u "<init>"), (17, u "DigitOnes"), (0, u "[B"), (2, u "DigitTens"), (10, .nameAndType 67 101), (0, u "()V"), (85, u "valueOf"), (0, u "(I)Ljava/lang/Integer;"), (0, .class_ 190), (0, u "java/lang/Integer$IntegerCache"), (0, .fieldref 189 192), (0, .nameAndType 193 194), (0, u "high"), (0, u "I"), (0, .fieldref 189 196), (0, .nameAndType 197 198), (0, u "cache"), (0, u "[Ljava/lang/Integer;"), (0, .methodref 1 200), (0, .nameAndType 67 201), (0, u "(I)V"), (0, .methodref 203 100), (0, .class_ 204), (0, u "java/lang/Number"), (0, .fieldref 1 206), (0, .nameAndType 207 194), (0, u "value"), (94, u "TYPE"), (0, u "Ljava/lang/Class;"), (0, .class_ 305), (0, u "java/lang/Comparable"), (0, .class_ 307), (0, u "java/lang/constant/Constable"), (0, .class_ 309), (0, u "java/lang/constant/ConstantDesc"), (0, u "MIN_VALUE"), (1, u "MAX_VALUE"), (3, u "SIZE"), (1, u "BYTES"), (1, u "serialVersionUID"), (0, u "J")] 131

def k10c0 : Code := { maxStack := 3, maxLocals := 1, code := jdk_33_method_22_code, exceptionTable := #[], attributes := #[] }
def k10m0 : Method := { name := "valueOf", desc := "(I)Ljava/lang/Integer;", sig := { parameters := [.int], returnType := some (.object "java/lang/Integer") }, accessFlags := 9, code := some k10c0 }
def k10c1 : Code := { maxStack := 2, maxLocals := 2, code := jdk_33_method_23_code, exceptionTable := #[], attributes := #[] }
def k10m1 : Method := { name := "<init>", desc := "(I)V", sig := { parameters := [.int], returnType := none }, accessFlags := 1, code := some k10c1 }
/-- java/lang/Integer -/
def k10 : Class := { plain "java/lang/Integer" (some 8) with
  accessFlags := 49
  interfaces := #[3, 2, 9]
  cf := some (fileOf pool10 1 #[.nestMembers #[189]] #[{ accessFlags := 9, nameIndex := 187, descriptorIndex := 188, attributes := #[] }, { accessFlags := 1, nameIndex := 67, descriptorIndex := 201, attributes := #[] }] 49 203 #[304, 306, 308] #[{ accessFlags := 25, nameIndex := 310, descriptorIndex := 194, attributes := #[] }, { accessFlags := 25, nameIndex := 312, descriptorIndex := 194, attributes := #[] }, { accessFlags := 25, nameIndex := 302, descriptorIndex := 303, attributes := #[] }, { accessFlags := 24, nameIndex := 19, descriptorIndex := 20, attributes := #[] }, { accessFlags := 24, nameIndex := 89, descriptorIndex := 86, attributes := #[] }, { accessFlags := 24, nameIndex := 85, descriptorIndex := 86, attributes := #[] }, { accessFlags := 18, nameIndex := 207, descriptorIndex := 194, attributes := #[] }, { accessFlags := 25, nameIndex := 316, descriptorIndex := 194, attributes := #[] }, { accessFlags := 25, nameIndex := 318, descriptorIndex := 194, attributes := #[] }, { accessFlags := 26, nameIndex := 320, descriptorIndex := 321, attributes := #[] }])
  fields := #[{ name := "MIN_VALUE", type := .int, accessFlags := 25, slot := 0, constantValue := 0 }, { name := "MAX_VALUE", type := .int, accessFlags := 25, slot := 1, constantValue := 0 }, { name := "TYPE", type := (.object "java/lang/Class"), accessFlags := 25, slot := 2, constantValue := 0 }, { name := "digits", type := (.array .char), accessFlags := 24, slot := 3, constantValue := 0 }, { name := "DigitTens", type := (.array .byte), accessFlags := 24, slot := 4, constantValue := 0 }, { name := "DigitOnes", type := (.array .byte), accessFlags := 24, slot := 5, constantValue := 0 }, { name := "value", type := .int, accessFlags := 18, slot := 0, constantValue := 0 }, { name := "SIZE", type := .int, accessFlags := 25, slot := 6, constantValue := 0 }, { name := "BYTES", type := .int, accessFlags := 25, slot := 7, constantValue := 0 }, { name := "serialVersionUID", type := .long, accessFlags := 26, slot := 8, constantValue := 0 }]
  methods := #[k10m0, k10m1]
  instanceTypes := #[.int]
  staticTypes := #[.int, .int, (.object "java/lang/Class"), (.array .char), (.array .byte), (.array .byte), .int, .int, .long]
  resolved := Array.replicate 453 none
  statics := none }

def pool11 : Array CpInfo := pool [(2, .class_ 4), (1, u "java/lang/Object"), (0, u "<init>"), (0, u "()V"), (0, .class_ 8), (0, u "java/lang/Integer"), (7, .class_ 18), (1, u "java/lang/Integer$IntegerCache"), (0, u "$assertionsDisabled"), (0, u "Z"), (26, u "high"), (0, u "I"), (8, u "archivedCache"), (0, u "[Ljava/lang/Integer;"), (12, u "cache"), (0, u "low")] 27

def k11m0 : Method := { name := "<init>", desc := "()V", sig := { parameters := [], returnType := none }, accessFlags := 2, code := none }
/-- java/lang/Integer$IntegerCache -/
def k11 : Class := { plain "java/lang/Integer$IntegerCache" (some 0) with
  accessFlags := 48
  interfaces := #[]
  cf := some (fileOf pool11 16 #[.nestHost 7] #[{ accessFlags := 2, nameIndex := 5, descriptorIndex := 6, attributes := #[] }] 48 2 #[] #[{ accessFlags := 24, nameIndex := 72, descriptorIndex := 48, attributes := #[] }, { accessFlags := 24, nameIndex := 47, descriptorIndex := 48, attributes := #[] }, { accessFlags := 24, nameIndex := 71, descriptorIndex := 58, attributes := #[] }, { accessFlags := 8, nameIndex := 57, descriptorIndex := 58, attributes := #[] }, { accessFlags := 4120, nameIndex := 19, descriptorIndex := 20, attributes := #[] }])
  fields := #[{ name := "low", type := .int, accessFlags := 24, slot := 0, constantValue := 0 }, { name := "high", type := .int, accessFlags := 24, slot := 1, constantValue := 0 }, { name := "cache", type := (.array (.object "java/lang/Integer")), accessFlags := 24, slot := 2, constantValue := 0 }, { name := "archivedCache", type := (.array (.object "java/lang/Integer")), accessFlags := 8, slot := 3, constantValue := 0 }, { name := "$assertionsDisabled", type := .boolean, accessFlags := 4120, slot := 4, constantValue := 0 }]
  methods := #[k11m0]
  instanceTypes := #[]
  staticTypes := #[.int, .int, (.array (.object "java/lang/Integer")), (.array (.object "java/lang/Integer")), .boolean]
  resolved := Array.replicate 100 none
  statics := some 1 }

def pool12 : Array CpInfo := pool [(1, u "java/lang/Cloneable"), (0, .class_ 1), (0, u "java/lang/Object"), (0, .class_ 3)] 3

/-- java/lang/Cloneable -/
def k12 : Class := { plain "java/lang/Cloneable" (some 0) with
  accessFlags := 1537
  interfaces := #[]
  cf := some (fileOf pool12 2 #[] #[] 1537 4 #[] #[])
  fields := #[]
  methods := #[]
  instanceTypes := #[]
  staticTypes := #[]
  resolved := Array.replicate 8 none
  statics := none }

/-- the primitive byte -/
def k13 : Class := { plain "byte" none with kind := .primitive 'B', accessFlags := 0x411 }
/-- [B -/
def k14 : Class := { plain "[B" (some 0) with kind := .array 13 .byte, interfaces := #[12, 4], accessFlags := 1041 }

/-- the primitive int -/
def k15 : Class := { plain "int" none with kind := .primitive 'I', accessFlags := 0x411 }
/-- [I -/
def k16 : Class := { plain "[I" (some 0) with kind := .array 15 .int, interfaces := #[12, 4], accessFlags := 1041 }

/-- [Lcom/example/shoal_creek/shoalcreek/ShiftRule; -/
def k17 : Class := { plain "[Lcom/example/shoal_creek/shoalcreek/ShiftRule;" (some 0) with kind := .array 6 (.object "com/example/shoal_creek/shoalcreek/ShiftRule"), interfaces := #[12, 4], accessFlags := 1041 }

/-- [Ljava/lang/Integer; -/
def k18 : Class := { plain "[Ljava/lang/Integer;" (some 0) with kind := .array 10 (.object "java/lang/Integer"), interfaces := #[12, 4], accessFlags := 1041 }

def heap : Heap := #[{ cls := 6, slots := #[.ref 259, .ref 260, .ref 261, .ref 262, .ref 263, .ref 264, .ref 265, .ref 266, .ref 267, .null], vm := .statics 6 },
  { cls := 11, slots := #[.int 0, .int 127, .ref 2, .null, .int 0], vm := .statics 11 },
  { cls := 18, slots := #[.ref 3, .ref 4, .ref 5, .ref 6, .ref 7, .ref 8, .ref 9, .ref 10, .ref 11, .ref 12, .ref 13, .ref 14, .ref 15, .ref 16, .ref 17, .ref 18, .ref 19, .ref 20, .ref 21, .ref 22, .ref 23, .ref 24, .ref 25, .ref 26, .ref 27, .ref 28, .ref 29, .ref 30, .ref 31, .ref 32, .ref 33, .ref 34, .ref 35, .ref 36, .ref 37, .ref 38, .ref 39, .ref 40, .ref 41, .ref 42, .ref 43, .ref 44, .ref 45, .ref 46, .ref 47, .ref 48, .ref 49, .ref 50, .ref 51, .ref 52, .ref 53, .ref 54, .ref 55, .ref 56, .ref 57, .ref 58, .ref 59, .ref 60, .ref 61, .ref 62, .ref 63, .ref 64, .ref 65, .ref 66, .ref 67, .ref 68, .ref 69, .ref 70, .ref 71, .ref 72, .ref 73, .ref 74, .ref 75, .ref 76, .ref 77, .ref 78, .ref 79, .ref 80, .ref 81, .ref 82, .ref 83, .ref 84, .ref 85, .ref 86, .ref 87, .ref 88, .ref 89, .ref 90, .ref 91, .ref 92, .ref 93, .ref 94, .ref 95, .ref 96, .ref 97, .ref 98, .ref 99, .ref 100, .ref 101, .ref 102, .ref 103, .ref 104, .ref 105, .ref 106, .ref 107, .ref 108, .ref 109, .ref 110, .ref 111, .ref 112, .ref 113, .ref 114, .ref 115, .ref 116, .ref 117, .ref 118, .ref 119, .ref 120, .ref 121, .ref 122, .ref 123, .ref 124, .ref 125, .ref 126, .ref 127, .ref 128, .ref 129, .ref 130, .ref 131, .ref 132, .ref 133, .ref 134, .ref 135, .ref 136, .ref 137, .ref 138, .ref 139, .ref 140, .ref 141, .ref 142, .ref 143, .ref 144, .ref 145, .ref 146, .ref 147, .ref 148, .ref 149, .ref 150, .ref 151, .ref 152, .ref 153, .ref 154, .ref 155, .ref 156, .ref 157, .ref 158, .ref 159, .ref 160, .ref 161, .ref 162, .ref 163, .ref 164, .ref 165, .ref 166, .ref 167, .ref 168, .ref 169, .ref 170, .ref 171, .ref 172, .ref 173, .ref 174, .ref 175, .ref 176, .ref 177, .ref 178, .ref 179, .ref 180, .ref 181, .ref 182, .ref 183, .ref 184, .ref 185, .ref 186, .ref 187, .ref 188, .ref 189, .ref 190, .ref 191, .ref 192, .ref 193, .ref 194, .ref 195, .ref 196, .ref 197, .ref 198, .ref 199, .ref 200, .ref 201, .ref 202, .ref 203, .ref 204, .ref 205, .ref 206, .ref 207, .ref 208, .ref 209, .ref 210, .ref 211, .ref 212, .ref 213, .ref 214, .ref 215, .ref 216, .ref 217, .ref 218, .ref 219, .ref 220, .ref 221, .ref 222, .ref 223, .ref 224, .ref 225, .ref 226, .ref 227, .ref 228, .ref 229, .ref 230, .ref 231, .ref 232, .ref 233, .ref 234, .ref 235, .ref 236, .ref 237, .ref 238, .ref 239, .ref 240, .ref 241, .ref 242, .ref 243, .ref 244, .ref 245, .ref 246, .ref 247, .ref 248, .ref 249, .ref 250, .ref 251, .ref 252, .ref 253, .ref 254, .ref 255, .ref 256, .ref 257, .ref 258], vm := .none },
  { cls := 10, slots := #[.int (-128)], vm := .none },
  { cls := 10, slots := #[.int (-127)], vm := .none },
  { cls := 10, slots := #[.int (-126)], vm := .none },
  { cls := 10, slots := #[.int (-125)], vm := .none },
  { cls := 10, slots := #[.int (-124)], vm := .none },
  { cls := 10, slots := #[.int (-123)], vm := .none },
  { cls := 10, slots := #[.int (-122)], vm := .none },
  { cls := 10, slots := #[.int (-121)], vm := .none },
  { cls := 10, slots := #[.int (-120)], vm := .none },
  { cls := 10, slots := #[.int (-119)], vm := .none },
  { cls := 10, slots := #[.int (-118)], vm := .none },
  { cls := 10, slots := #[.int (-117)], vm := .none },
  { cls := 10, slots := #[.int (-116)], vm := .none },
  { cls := 10, slots := #[.int (-115)], vm := .none },
  { cls := 10, slots := #[.int (-114)], vm := .none },
  { cls := 10, slots := #[.int (-113)], vm := .none },
  { cls := 10, slots := #[.int (-112)], vm := .none },
  { cls := 10, slots := #[.int (-111)], vm := .none },
  { cls := 10, slots := #[.int (-110)], vm := .none },
  { cls := 10, slots := #[.int (-109)], vm := .none },
  { cls := 10, slots := #[.int (-108)], vm := .none },
  { cls := 10, slots := #[.int (-107)], vm := .none },
  { cls := 10, slots := #[.int (-106)], vm := .none },
  { cls := 10, slots := #[.int (-105)], vm := .none },
  { cls := 10, slots := #[.int (-104)], vm := .none },
  { cls := 10, slots := #[.int (-103)], vm := .none },
  { cls := 10, slots := #[.int (-102)], vm := .none },
  { cls := 10, slots := #[.int (-101)], vm := .none },
  { cls := 10, slots := #[.int (-100)], vm := .none },
  { cls := 10, slots := #[.int (-99)], vm := .none },
  { cls := 10, slots := #[.int (-98)], vm := .none },
  { cls := 10, slots := #[.int (-97)], vm := .none },
  { cls := 10, slots := #[.int (-96)], vm := .none },
  { cls := 10, slots := #[.int (-95)], vm := .none },
  { cls := 10, slots := #[.int (-94)], vm := .none },
  { cls := 10, slots := #[.int (-93)], vm := .none },
  { cls := 10, slots := #[.int (-92)], vm := .none },
  { cls := 10, slots := #[.int (-91)], vm := .none },
  { cls := 10, slots := #[.int (-90)], vm := .none },
  { cls := 10, slots := #[.int (-89)], vm := .none },
  { cls := 10, slots := #[.int (-88)], vm := .none },
  { cls := 10, slots := #[.int (-87)], vm := .none },
  { cls := 10, slots := #[.int (-86)], vm := .none },
  { cls := 10, slots := #[.int (-85)], vm := .none },
  { cls := 10, slots := #[.int (-84)], vm := .none },
  { cls := 10, slots := #[.int (-83)], vm := .none },
  { cls := 10, slots := #[.int (-82)], vm := .none },
  { cls := 10, slots := #[.int (-81)], vm := .none },
  { cls := 10, slots := #[.int (-80)], vm := .none },
  { cls := 10, slots := #[.int (-79)], vm := .none },
  { cls := 10, slots := #[.int (-78)], vm := .none },
  { cls := 10, slots := #[.int (-77)], vm := .none },
  { cls := 10, slots := #[.int (-76)], vm := .none },
  { cls := 10, slots := #[.int (-75)], vm := .none },
  { cls := 10, slots := #[.int (-74)], vm := .none },
  { cls := 10, slots := #[.int (-73)], vm := .none },
  { cls := 10, slots := #[.int (-72)], vm := .none },
  { cls := 10, slots := #[.int (-71)], vm := .none },
  { cls := 10, slots := #[.int (-70)], vm := .none },
  { cls := 10, slots := #[.int (-69)], vm := .none },
  { cls := 10, slots := #[.int (-68)], vm := .none },
  { cls := 10, slots := #[.int (-67)], vm := .none },
  { cls := 10, slots := #[.int (-66)], vm := .none },
  { cls := 10, slots := #[.int (-65)], vm := .none },
  { cls := 10, slots := #[.int (-64)], vm := .none },
  { cls := 10, slots := #[.int (-63)], vm := .none },
  { cls := 10, slots := #[.int (-62)], vm := .none },
  { cls := 10, slots := #[.int (-61)], vm := .none },
  { cls := 10, slots := #[.int (-60)], vm := .none },
  { cls := 10, slots := #[.int (-59)], vm := .none },
  { cls := 10, slots := #[.int (-58)], vm := .none },
  { cls := 10, slots := #[.int (-57)], vm := .none },
  { cls := 10, slots := #[.int (-56)], vm := .none },
  { cls := 10, slots := #[.int (-55)], vm := .none },
  { cls := 10, slots := #[.int (-54)], vm := .none },
  { cls := 10, slots := #[.int (-53)], vm := .none },
  { cls := 10, slots := #[.int (-52)], vm := .none },
  { cls := 10, slots := #[.int (-51)], vm := .none },
  { cls := 10, slots := #[.int (-50)], vm := .none },
  { cls := 10, slots := #[.int (-49)], vm := .none },
  { cls := 10, slots := #[.int (-48)], vm := .none },
  { cls := 10, slots := #[.int (-47)], vm := .none },
  { cls := 10, slots := #[.int (-46)], vm := .none },
  { cls := 10, slots := #[.int (-45)], vm := .none },
  { cls := 10, slots := #[.int (-44)], vm := .none },
  { cls := 10, slots := #[.int (-43)], vm := .none },
  { cls := 10, slots := #[.int (-42)], vm := .none },
  { cls := 10, slots := #[.int (-41)], vm := .none },
  { cls := 10, slots := #[.int (-40)], vm := .none },
  { cls := 10, slots := #[.int (-39)], vm := .none },
  { cls := 10, slots := #[.int (-38)], vm := .none },
  { cls := 10, slots := #[.int (-37)], vm := .none },
  { cls := 10, slots := #[.int (-36)], vm := .none },
  { cls := 10, slots := #[.int (-35)], vm := .none },
  { cls := 10, slots := #[.int (-34)], vm := .none },
  { cls := 10, slots := #[.int (-33)], vm := .none },
  { cls := 10, slots := #[.int (-32)], vm := .none },
  { cls := 10, slots := #[.int (-31)], vm := .none },
  { cls := 10, slots := #[.int (-30)], vm := .none },
  { cls := 10, slots := #[.int (-29)], vm := .none },
  { cls := 10, slots := #[.int (-28)], vm := .none },
  { cls := 10, slots := #[.int (-27)], vm := .none },
  { cls := 10, slots := #[.int (-26)], vm := .none },
  { cls := 10, slots := #[.int (-25)], vm := .none },
  { cls := 10, slots := #[.int (-24)], vm := .none },
  { cls := 10, slots := #[.int (-23)], vm := .none },
  { cls := 10, slots := #[.int (-22)], vm := .none },
  { cls := 10, slots := #[.int (-21)], vm := .none },
  { cls := 10, slots := #[.int (-20)], vm := .none },
  { cls := 10, slots := #[.int (-19)], vm := .none },
  { cls := 10, slots := #[.int (-18)], vm := .none },
  { cls := 10, slots := #[.int (-17)], vm := .none },
  { cls := 10, slots := #[.int (-16)], vm := .none },
  { cls := 10, slots := #[.int (-15)], vm := .none },
  { cls := 10, slots := #[.int (-14)], vm := .none },
  { cls := 10, slots := #[.int (-13)], vm := .none },
  { cls := 10, slots := #[.int (-12)], vm := .none },
  { cls := 10, slots := #[.int (-11)], vm := .none },
  { cls := 10, slots := #[.int (-10)], vm := .none },
  { cls := 10, slots := #[.int (-9)], vm := .none },
  { cls := 10, slots := #[.int (-8)], vm := .none },
  { cls := 10, slots := #[.int (-7)], vm := .none },
  { cls := 10, slots := #[.int (-6)], vm := .none },
  { cls := 10, slots := #[.int (-5)], vm := .none },
  { cls := 10, slots := #[.int (-4)], vm := .none },
  { cls := 10, slots := #[.int (-3)], vm := .none },
  { cls := 10, slots := #[.int (-2)], vm := .none },
  { cls := 10, slots := #[.int (-1)], vm := .none },
  { cls := 10, slots := #[.int 0], vm := .none },
  { cls := 10, slots := #[.int 1], vm := .none },
  { cls := 10, slots := #[.int 2], vm := .none },
  { cls := 10, slots := #[.int 3], vm := .none },
  { cls := 10, slots := #[.int 4], vm := .none },
  { cls := 10, slots := #[.int 5], vm := .none },
  { cls := 10, slots := #[.int 6], vm := .none },
  { cls := 10, slots := #[.int 7], vm := .none },
  { cls := 10, slots := #[.int 8], vm := .none },
  { cls := 10, slots := #[.int 9], vm := .none },
  { cls := 10, slots := #[.int 10], vm := .none },
  { cls := 10, slots := #[.int 11], vm := .none },
  { cls := 10, slots := #[.int 12], vm := .none },
  { cls := 10, slots := #[.int 13], vm := .none },
  { cls := 10, slots := #[.int 14], vm := .none },
  { cls := 10, slots := #[.int 15], vm := .none },
  { cls := 10, slots := #[.int 16], vm := .none },
  { cls := 10, slots := #[.int 17], vm := .none },
  { cls := 10, slots := #[.int 18], vm := .none },
  { cls := 10, slots := #[.int 19], vm := .none },
  { cls := 10, slots := #[.int 20], vm := .none },
  { cls := 10, slots := #[.int 21], vm := .none },
  { cls := 10, slots := #[.int 22], vm := .none },
  { cls := 10, slots := #[.int 23], vm := .none },
  { cls := 10, slots := #[.int 24], vm := .none },
  { cls := 10, slots := #[.int 25], vm := .none },
  { cls := 10, slots := #[.int 26], vm := .none },
  { cls := 10, slots := #[.int 27], vm := .none },
  { cls := 10, slots := #[.int 28], vm := .none },
  { cls := 10, slots := #[.int 29], vm := .none },
  { cls := 10, slots := #[.int 30], vm := .none },
  { cls := 10, slots := #[.int 31], vm := .none },
  { cls := 10, slots := #[.int 32], vm := .none },
  { cls := 10, slots := #[.int 33], vm := .none },
  { cls := 10, slots := #[.int 34], vm := .none },
  { cls := 10, slots := #[.int 35], vm := .none },
  { cls := 10, slots := #[.int 36], vm := .none },
  { cls := 10, slots := #[.int 37], vm := .none },
  { cls := 10, slots := #[.int 38], vm := .none },
  { cls := 10, slots := #[.int 39], vm := .none },
  { cls := 10, slots := #[.int 40], vm := .none },
  { cls := 10, slots := #[.int 41], vm := .none },
  { cls := 10, slots := #[.int 42], vm := .none },
  { cls := 10, slots := #[.int 43], vm := .none },
  { cls := 10, slots := #[.int 44], vm := .none },
  { cls := 10, slots := #[.int 45], vm := .none },
  { cls := 10, slots := #[.int 46], vm := .none },
  { cls := 10, slots := #[.int 47], vm := .none },
  { cls := 10, slots := #[.int 48], vm := .none },
  { cls := 10, slots := #[.int 49], vm := .none },
  { cls := 10, slots := #[.int 50], vm := .none },
  { cls := 10, slots := #[.int 51], vm := .none },
  { cls := 10, slots := #[.int 52], vm := .none },
  { cls := 10, slots := #[.int 53], vm := .none },
  { cls := 10, slots := #[.int 54], vm := .none },
  { cls := 10, slots := #[.int 55], vm := .none },
  { cls := 10, slots := #[.int 56], vm := .none },
  { cls := 10, slots := #[.int 57], vm := .none },
  { cls := 10, slots := #[.int 58], vm := .none },
  { cls := 10, slots := #[.int 59], vm := .none },
  { cls := 10, slots := #[.int 60], vm := .none },
  { cls := 10, slots := #[.int 61], vm := .none },
  { cls := 10, slots := #[.int 62], vm := .none },
  { cls := 10, slots := #[.int 63], vm := .none },
  { cls := 10, slots := #[.int 64], vm := .none },
  { cls := 10, slots := #[.int 65], vm := .none },
  { cls := 10, slots := #[.int 66], vm := .none },
  { cls := 10, slots := #[.int 67], vm := .none },
  { cls := 10, slots := #[.int 68], vm := .none },
  { cls := 10, slots := #[.int 69], vm := .none },
  { cls := 10, slots := #[.int 70], vm := .none },
  { cls := 10, slots := #[.int 71], vm := .none },
  { cls := 10, slots := #[.int 72], vm := .none },
  { cls := 10, slots := #[.int 73], vm := .none },
  { cls := 10, slots := #[.int 74], vm := .none },
  { cls := 10, slots := #[.int 75], vm := .none },
  { cls := 10, slots := #[.int 76], vm := .none },
  { cls := 10, slots := #[.int 77], vm := .none },
  { cls := 10, slots := #[.int 78], vm := .none },
  { cls := 10, slots := #[.int 79], vm := .none },
  { cls := 10, slots := #[.int 80], vm := .none },
  { cls := 10, slots := #[.int 81], vm := .none },
  { cls := 10, slots := #[.int 82], vm := .none },
  { cls := 10, slots := #[.int 83], vm := .none },
  { cls := 10, slots := #[.int 84], vm := .none },
  { cls := 10, slots := #[.int 85], vm := .none },
  { cls := 10, slots := #[.int 86], vm := .none },
  { cls := 10, slots := #[.int 87], vm := .none },
  { cls := 10, slots := #[.int 88], vm := .none },
  { cls := 10, slots := #[.int 89], vm := .none },
  { cls := 10, slots := #[.int 90], vm := .none },
  { cls := 10, slots := #[.int 91], vm := .none },
  { cls := 10, slots := #[.int 92], vm := .none },
  { cls := 10, slots := #[.int 93], vm := .none },
  { cls := 10, slots := #[.int 94], vm := .none },
  { cls := 10, slots := #[.int 95], vm := .none },
  { cls := 10, slots := #[.int 96], vm := .none },
  { cls := 10, slots := #[.int 97], vm := .none },
  { cls := 10, slots := #[.int 98], vm := .none },
  { cls := 10, slots := #[.int 99], vm := .none },
  { cls := 10, slots := #[.int 100], vm := .none },
  { cls := 10, slots := #[.int 101], vm := .none },
  { cls := 10, slots := #[.int 102], vm := .none },
  { cls := 10, slots := #[.int 103], vm := .none },
  { cls := 10, slots := #[.int 104], vm := .none },
  { cls := 10, slots := #[.int 105], vm := .none },
  { cls := 10, slots := #[.int 106], vm := .none },
  { cls := 10, slots := #[.int 107], vm := .none },
  { cls := 10, slots := #[.int 108], vm := .none },
  { cls := 10, slots := #[.int 109], vm := .none },
  { cls := 10, slots := #[.int 110], vm := .none },
  { cls := 10, slots := #[.int 111], vm := .none },
  { cls := 10, slots := #[.int 112], vm := .none },
  { cls := 10, slots := #[.int 113], vm := .none },
  { cls := 10, slots := #[.int 114], vm := .none },
  { cls := 10, slots := #[.int 115], vm := .none },
  { cls := 10, slots := #[.int 116], vm := .none },
  { cls := 10, slots := #[.int 117], vm := .none },
  { cls := 10, slots := #[.int 118], vm := .none },
  { cls := 10, slots := #[.int 119], vm := .none },
  { cls := 10, slots := #[.int 120], vm := .none },
  { cls := 10, slots := #[.int 121], vm := .none },
  { cls := 10, slots := #[.int 122], vm := .none },
  { cls := 10, slots := #[.int 123], vm := .none },
  { cls := 10, slots := #[.int 124], vm := .none },
  { cls := 10, slots := #[.int 125], vm := .none },
  { cls := 10, slots := #[.int 126], vm := .none },
  { cls := 10, slots := #[.int 127], vm := .none },
  { cls := 6, slots := #[.null, .int 0, .int 0], vm := .none },
  { cls := 6, slots := #[.null, .int 1, .int 0], vm := .none },
  { cls := 6, slots := #[.null, .int 2, .int 0], vm := .none },
  { cls := 6, slots := #[.null, .int 3, .int 0], vm := .none },
  { cls := 6, slots := #[.null, .int 4, .int 0], vm := .none },
  { cls := 6, slots := #[.null, .int 5, .int 0], vm := .none },
  { cls := 6, slots := #[.null, .int 6, .int 0], vm := .none },
  { cls := 6, slots := #[.null, .int 7, .int 0], vm := .none },
  { cls := 6, slots := #[.null, .int 8, .int 0], vm := .none }]
def classes : Array Class := #[k0, k1, k2, k3, k4, k5, k6, k7, k8, k9, k10, k11, k12, k13, k14, k15, k16, k17, k18]
def interned : List (Array UInt16 × Addr) := []
def slotsUsed : Nat := 554
def theMethod : MethodId := ⟨1, 2⟩
def args0 : Array Value := #[.long 3, .long 4, .long 5, .long 6, .int 1, .int 9]
def aboutOver (below : List Frame) : State where
  vm := { classes := classes, interned := interned.toArray }
  heap := heap
  slotsUsed := slotsUsed
  threads := #[{ frames := .invoking theMethod args0 :: below }]
def below0 : List Frame := [.native { method := ⟨0, 0⟩, args := #[] }]
def about1 : State := aboutOver below0
def p0 : Program := .bare "" "" ""
def e0 : Env := launch0.env 0 0 0
theorem w_frames : about1.frames = Frame.invoking theMethod args0 :: below0 := rfl
set_option maxRecDepth 65536 in
theorem w_args : argsFit about1.vm theMethod args0 = true := by decide +kernel
set_option maxRecDepth 65536 in
theorem w_heap : heapFits about1 = true := by decide +kernel
set_option maxRecDepth 65536 in
theorem w_runnable : about1.curStatus? = some .runnable := by decide +kernel
set_option maxRecDepth 65536 in
theorem w_alone : about1.alone = true := by decide +kernel
set_option maxRecDepth 65536 in
theorem w_named : about1.methodNamed? x = some theMethod := by decide +kernel
set_option maxRecDepth 65536 in
theorem w_hears : about1.hears theMethod below0 = true := by decide +kernel
set_option maxRecDepth 65536 in
theorem w_ripe : about1.ripe theMethod args0 below0 = true := by decide +kernel
theorem w_running : about1.status = .running := rfl
set_option maxRecDepth 65536 in
theorem w_room : about1.hasRoom e0.platform room_1 = true :=
  launch0.hasRoom_least _ room_1 (by decide +kernel) (by decide +kernel) (by decide +kernel) (by decide +kernel) (by decide +kernel) (by decide +kernel)
theorem allAtoms_all (ts : List Jvm.Cond) (a : Array Jvm.Value) (st : Jvm.State) : (allAtoms ts).before a st = ts.all (fun c => c.before a st) := by
  induction ts with
  | nil => rfl
  | cons c t ih =>
    show (Jvm.Cond.and c (allAtoms t)).before a st = _
    rw [Jvm.Cond.before_and, ih, List.all_cons]
def words1 : List Jvm.Cond := Jvm.Cond.code x code maxLocals ret :: tables_1
/-- a 'code' word, met by the world's own term for the bytes: nothing is compared byte by byte -/
theorem code_word {y : MethodName} {bytes : ByteArray} {mx : Nat} {rt : Option FieldType} {a : Array Value} {s : State} {m : MethodId} {meth : Method} {c : Code} (h1 : s.methodNamed? y = some m) (h2 : s.vm.method? m = some meth) (h3 : meth.code = some c) (h4 : c.code = bytes)
    (h5 : (c.maxLocals == mx && c.exceptionTable.isEmpty && decide (c.maxStack ≤ mostOperands) && decide (meth.sig.returnType = rt) && !meth.locks && decide (parseMethodDescriptor y.desc = some meth.sig)) = true) : (Jvm.Cond.code y bytes mx rt).before a s = true := by
  simp only [Bool.and_eq_true, beq_iff_eq, Bool.not_eq_true', decide_eq_true_eq] at h5
  obtain ⟨⟨⟨⟨⟨g1, g2⟩, g3⟩, g4⟩, g5⟩, g6⟩ := h5
  simp [Cond.before, Cond.holds, Cond.value, h1, h2, h3, h4, g1, g2, g3, g4, g5, g6]
def isCode : Jvm.Cond → Bool
  | .code _ _ _ _ => true
  | _ => false
theorem all_split {L : List Jvm.Cond} {P : Jvm.Cond → Bool} (h1 : L.all (fun c => isCode c || P c) = true) (h2 : ∀ c ∈ L.filter isCode, P c = true) : L.all P = true := by
  refine List.all_eq_true.mpr fun c hc => ?_
  have h := List.all_eq_true.mp h1 c hc
  rcases Bool.eq_false_or_eq_true (isCode c) with hi | hi
  · exact h2 c (List.mem_filter.mpr ⟨hc, hi⟩)
  · simpa [hi] using h
set_option maxRecDepth 65536 in
theorem w_c0 : (Jvm.Cond.code x code maxLocals ret).before args0 about1 = true := code_word (m := ⟨1, 2⟩) (meth := k1m2) (c := k1c2) (by decide +kernel) rfl rfl rfl (by decide +kernel)
set_option maxRecDepth 65536 in
theorem w_c1 : (Jvm.Cond.code ({ cls := "com/example/shoal_creek/shoalcreek/StepEqualsPinLaw", name := "rule", desc := "(I)Lcom/example/shoal_creek/shoalcreek/ShiftRule;" } : Jvm.MethodName) method_2_code (2 : Nat) (Option.some (Jvm.ClassFile.FieldType.object "com/example/shoal_creek/shoalcreek/ShiftRule"))).before args0 about1 = true := code_word (m := ⟨1, 1⟩) (meth := k1m1) (c := k1c1) (by decide +kernel) rfl rfl rfl (by decide +kernel)
set_option maxRecDepth 65536 in
theorem w_c2 : (Jvm.Cond.code ({ cls := "com/example/shoal_creek/shoalcreek/Step", name := "<init>", desc := "(IIIILcom/example/shoal_creek/shoalcreek/ShiftRule;II)V" } : Jvm.MethodName) prog_28_method_1_code (8 : Nat) (Option.none : Option Jvm.ClassFile.FieldType)).before args0 about1 = true := code_word (m := ⟨7, 0⟩) (meth := k7m0) (c := k7c0) (by decide +kernel) rfl rfl rfl (by decide +kernel)
set_option maxRecDepth 65536 in
theorem w_c3 : (Jvm.Cond.code ({ cls := "java/lang/Object", name := "<init>", desc := "()V" } : Jvm.MethodName) object_method_1_code (1 : Nat) (Option.none : Option Jvm.ClassFile.FieldType)).before args0 about1 = true := code_word (m := ⟨0, 0⟩) (meth := k0m0) (c := k0c0) (by decide +kernel) rfl rfl rfl (by decide +kernel)
set_option maxRecDepth 65536 in
theorem w_c4 : (Jvm.Cond.code ({ cls := "com/example/shoal_creek/shoalcreek/Step", name := "equals", desc := "(Ljava/lang/Object;)Z" } : Jvm.MethodName) prog_28_method_9_code (3 : Nat) (Option.some Jvm.ClassFile.FieldType.boolean)).before args0 about1 = true := code_word (m := ⟨7, 1⟩) (meth := k7m1) (c := k7c1) (by decide +kernel) rfl rfl rfl (by decide +kernel)
set_option maxRecDepth 65536 in
theorem w_c5 : (Jvm.Cond.code ({ cls := "java/lang/Integer", name := "valueOf", desc := "(I)Ljava/lang/Integer;" } : Jvm.MethodName) jdk_33_method_22_code (1 : Nat) (Option.some (Jvm.ClassFile.FieldType.object "java/lang/Integer"))).before args0 about1 = true := code_word (m := ⟨10, 0⟩) (meth := k10m0) (c := k10c0) (by decide +kernel) rfl rfl rfl (by decide +kernel)
set_option maxRecDepth 65536 in
theorem w_c6 : (Jvm.Cond.code ({ cls := "java/lang/Integer", name := "<init>", desc := "(I)V" } : Jvm.MethodName) jdk_33_method_23_code (2 : Nat) (Option.none : Option Jvm.ClassFile.FieldType)).before args0 about1 = true := code_word (m := ⟨10, 1⟩) (meth := k10m1) (c := k10c1) (by decide +kernel) rfl rfl rfl (by decide +kernel)
set_option maxRecDepth 65536 in
theorem w_c7 : (Jvm.Cond.code ({ cls := "java/lang/Number", name := "<init>", desc := "()V" } : Jvm.MethodName) jdk_18_method_1_code (1 : Nat) (Option.none : Option Jvm.ClassFile.FieldType)).before args0 about1 = true := code_word (m := ⟨8, 0⟩) (meth := k8m0) (c := k8c0) (by decide +kernel) rfl rfl rfl (by decide +kernel)
def codes1 : List Jvm.Cond := [Jvm.Cond.code x code maxLocals ret, Jvm.Cond.code ({ cls := "com/example/shoal_creek/shoalcreek/StepEqualsPinLaw", name := "rule", desc := "(I)Lcom/example/shoal_creek/shoalcreek/ShiftRule;" } : Jvm.MethodName) method_2_code (2 : Nat) (Option.some (Jvm.ClassFile.FieldType.object "com/example/shoal_creek/shoalcreek/ShiftRule")), Jvm.Cond.code ({ cls := "com/example/shoal_creek/shoalcreek/Step", name := "<init>", desc := "(IIIILcom/example/shoal_creek/shoalcreek/ShiftRule;II)V" } : Jvm.MethodName) prog_28_method_1_code (8 : Nat) (Option.none : Option Jvm.ClassFile.FieldType), Jvm.Cond.code ({ cls := "java/lang/Object", name := "<init>", desc := "()V" } : Jvm.MethodName) object_method_1_code (1 : Nat) (Option.none : Option Jvm.ClassFile.FieldType), Jvm.Cond.code ({ cls := "com/example/shoal_creek/shoalcreek/Step", name := "equals", desc := "(Ljava/lang/Object;)Z" } : Jvm.MethodName) prog_28_method_9_code (3 : Nat) (Option.some Jvm.ClassFile.FieldType.boolean), Jvm.Cond.code ({ cls := "java/lang/Integer", name := "valueOf", desc := "(I)Ljava/lang/Integer;" } : Jvm.MethodName) jdk_33_method_22_code (1 : Nat) (Option.some (Jvm.ClassFile.FieldType.object "java/lang/Integer")), Jvm.Cond.code ({ cls := "java/lang/Integer", name := "<init>", desc := "(I)V" } : Jvm.MethodName) jdk_33_method_23_code (2 : Nat) (Option.none : Option Jvm.ClassFile.FieldType), Jvm.Cond.code ({ cls := "java/lang/Number", name := "<init>", desc := "()V" } : Jvm.MethodName) jdk_18_method_1_code (1 : Nat) (Option.none : Option Jvm.ClassFile.FieldType)]
set_option maxRecDepth 65536 in
theorem codes_eq : words1.filter isCode = codes1 := rfl
theorem w_codes : ∀ c ∈ words1.filter isCode, c.before args0 about1 = true := by
  rw [codes_eq]
  intro c hc
  simp only [codes1, List.mem_cons, List.not_mem_nil, or_false] at hc
  rcases hc with rfl | rfl | rfl | rfl | rfl | rfl | rfl | rfl
  · exact w_c0
  · exact w_c1
  · exact w_c2
  · exact w_c3
  · exact w_c4
  · exact w_c5
  · exact w_c6
  · exact w_c7
set_option maxRecDepth 65536 in
theorem w_t1 : (words1.take 24).all (fun c => isCode c || c.before args0 about1) = true := by decide +kernel
set_option maxRecDepth 65536 in
theorem w_t2 : ((words1.drop 24).take 24).all (fun c => isCode c || c.before args0 about1) = true := by decide +kernel
set_option maxRecDepth 65536 in
theorem w_t3 : (((words1.drop 24).drop 24).take 24).all (fun c => isCode c || c.before args0 about1) = true := by decide +kernel
set_option maxRecDepth 65536 in
theorem w_t4 : (((words1.drop 24).drop 24).drop 24).all (fun c => isCode c || c.before args0 about1) = true := by decide +kernel
theorem w_tables : (allAtoms (Jvm.Cond.code x code maxLocals ret :: tables_1)).before args0 about1 = true := by
  rw [allAtoms_all]
  show words1.all (fun c => c.before args0 about1) = true
  refine all_split ?_ w_codes
  rw [← List.take_append_drop 24 words1, List.all_append, w_t1, ← List.take_append_drop 24 (words1.drop 24), List.all_append, w_t2, ← List.take_append_drop 24 ((words1.drop 24).drop 24), List.all_append, w_t3, w_t4]
  rfl
set_option maxRecDepth 65536 in
theorem w_rest : rest_1_c.before args0 about1 = true := by decide +kernel
set_option maxRecDepth 65536 in
theorem w_case : (Jvm.Cond.and given_1 narrow_1).before args0 about1 = true := by decide +kernel
theorem w_applies : (headSpec (Jvm.Cond.code x code maxLocals ret :: tables_1) room_1).applies x e0.platform about1 = true :=
  (Spec.applies_iff w_frames).mpr ⟨w_running, w_runnable, w_alone, w_named, w_hears, w_ripe, w_room, w_tables⟩
theorem atStart : AtStart classFile x code maxLocals ret World_1 tables_1 room_1 Calls_1 rest_1 Pre_1 launch0 p0 e0 about1 theMethod args0 below0 :=
  ⟨lists_1, trivial, launch0.admits_env _ _ _, launch0.least_env, fairChoices_fair.cas, fairChoices_fair.clock, w_frames, w_args, w_heap, w_applies, trivial, w_rest, w_case⟩
end start1
theorem witness_1 : WitnessClaimed_1 := ⟨start1.p0, start1.e0, start1.about1, start1.theMethod, start1.args0, start1.below0, start1.atStart⟩
end Jvm.Pilot.@@N@@
