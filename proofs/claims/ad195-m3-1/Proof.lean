import JvmDerived
import JvmDerived.Pilot.@@N@@Statement
import JvmDerived.Pilot.@@N@@Code
set_option linter.unusedVariables false
set_option linter.unusedSimpArgs false
namespace Jvm.OwnKit
open Sem ClassFile Op Lib Jvm.Stand Jvm.Free Jvm.LawKit Jvm.RoadKit
section Own
variable {p : Program} {l : Launch} {e : Env} {R : Room} {s : State} {m : MethodId} {args : Array Value} {below : List Frame} {meth : Method} {c : Code} {T : State} {h : Heap} {n0 cells slots : Nat} {Z : State} {a0 : Array Value} {Q : Option Value → Heap → Prop} {pc pc' : Nat} {Ls : Array Slot} {S rest : List Value}
/-- where the walk stands: over T, whose heap is h; nothing older than n0 was written -/
def Pn (p : Program) (l : Launch) (e : Env) (R : Room) (s : State) (m : MethodId) (args : Array Value) (below : List Frame) (meth : Method) (c : Code) (T : State) (h : Heap) (n0 cells slots : Nat) : Prop :=
  T.heap = h ∧ n0 ≤ s.heap.size ∧ ∃ locs, Stand p l e R s m args below meth c T locs cells slots ∧ Fr n0 locs
theorem Pn.here (X : Pn p l e R s m args below meth c T h n0 cells slots) : At T m c below := by obtain ⟨_, _, _, X, _⟩ := X; exact X.here
theorem Pn.le (X : Pn p l e R s m args below meth c T h n0 cells slots) : n0 ≤ h.size := by
  obtain ⟨e0, hn, _, X, _⟩ := X
  have q : s.heap.size ≤ T.heap.size := X.same.2.1
  rw [← e0]; exact Nat.le_trans hn q
theorem Pn.mono (X : Pn p l e R s m args below meth c T h n0 cells slots) {cells' slots' : Nat} (hc : cells ≤ cells') (hs : slots ≤ slots') : Pn p l e R s m args below meth c T h n0 cells' slots' := by
  obtain ⟨e0, hn, L, X, N⟩ := X
  exact ⟨e0, hn, L, ⟨X.admits, X.cas, X.clock, X.frames, X.room, X.hears, X.method, X.code, X.here, X.tail, X.warmed, X.limits, X.bytes, X.same.mono hc hs⟩, N⟩
/-- from here the run comes to a return that Q speaks of -/
def Go (p : Program) (e : Env) (s : State) (below : List Frame) (n0 : Nat) (Q : Option Value → Heap → Prop) (R : Room) (T : State) (f : JFrame) : Prop :=
  ∃ V, Steps p.tables e below (T.setTop f) V ∧ V.status = .running ∧ ∃ v L, Ended V below (.returned v) ∧ Q v V.heap ∧ Fr n0 L ∧ FrameEnd s (.returned v) V L R.cells R.slots
theorem stp {T' : State} {f f' : JFrame} (k : ∀ t, Steps p.tables e below (T'.setTop f') t → Steps p.tables e below (T.setTop f) t) (g : Go p e s below n0 Q R T' f') : Go p e s below n0 Q R T f := by
  obtain ⟨V, h1, h2⟩ := g; exact ⟨V, k V h1, h2⟩
def Con (l : Launch) (Z : State) (y : MethodName) (bytes : ByteArray) (maxL : Nat) (ret : Option FieldType) (ws : List Jvm.Cond) (rm : Room) (as : Array Value) (h0 : Heap) (n0 : Nat) (Q : Option Value → Heap → Prop) : Prop :=
  MetFree l y (head1 (Jvm.Cond.code y bytes maxL ret :: ws) rm) (fun a U => a = as ∧ Z.Warmed39 U.vm ∧ U.heap = h0) (fun _ _ _ _ _ => True) (fun _ U o U' => ∃ v L, o = .returned v ∧ (Q v U'.heap ∧ Fr n0 L) ∧ FrameEnd U o U' L rm.cells rm.slots)
theorem body {y : MethodName} {bytes : ByteArray} {maxL : Nat} {ret : Option FieldType} {ws : List Jvm.Cond} {rm : Room} {as : Array Value} {h0 : Heap} (hp : plainFor y = true) (hn : n0 ≤ h0.size) (ent : ∀ m, entryFrame m as maxL = mkF m 0 Ls [])
    (walk : ∀ (p : Program) (e : Env) (s : State) (m : MethodId) (below : List Frame) (meth : Method) (c : Code) (T : State), p.tables.exec = Jvm.exec → c.code = bytes → c.maxLocals = maxL → s.vm.findClass y.cls = some m.cls → meth.name = y.name → meth.sig.returnType = ret → meth.locks = false → Z.Warmed39 s.vm →
      Pn p l e rm s m as below meth c T h0 n0 0 0 → Go p e s below n0 Q rm T (mkF m 0 Ls [])) : Con l Z y bytes maxL ret ws rm as h0 n0 Q := by
  refine MetFree.of_bodySF hp hisR ?_
  intro p e s m args below meth c s₁ Bd hml0 hP hK
  obtain ⟨rfl, hZ, hh⟩ := hP
  have hown : s.vm.findClass y.cls = some m.cls := findClass_of_methodNamed Bd.named
  have hnm := (name_of_methodNamed Bd.named Bd.method).1
  have X0 : Stand p l e rm s m _ below meth c s₁ [] 0 0 := Stand.of_body Bd
  have e0 : s₁.heap = h0 := by rw [← hh, Bd.state]; rfl
  obtain ⟨V, h1, h2, v, L, h3, h4, h5, h6⟩ := walk p e s m below meth c s₁ Bd.exec Bd.bytes hml0 hown hnm Bd.returns Bd.notSynchronized hZ ⟨e0, by rw [hh]; exact hn, [], X0, Fr.nil n0⟩
  exact ⟨V, _, castTop (ent m) h1, h2, h3, v, L, rfl, ⟨h4, h5⟩, h6⟩
/-! the ends -/
theorem fin (X : Pn p l e R s m args below meth c T h n0 cells slots) (hlk : meth.locks = false) {v : Option Value} (hv : meth.sig.returnType = none → v = none) (hc : cells ≤ R.cells) (hs : slots ≤ R.slots) (hq : Q v h) {f : JFrame}
    (k : ∀ locs, Stand p l e R s m args below meth c T locs cells slots → ∀ fs, (∀ (f : JFrame) (acts : List Action), f.method = m → f.locked = none → f.entered = [] → (doReturn e (T.setTop f) acts v).1 = T.setFrames fs) → Steps p.tables e below (T.setTop f) (T.setFrames fs)) : Go p e s below n0 Q R T f := by
  obtain ⟨e0, hn, locs, Y, N⟩ := X
  obtain ⟨fs, hr, hrun, hended, hW, hsame⟩ := Y.leave hv hlk
  refine ⟨_, k locs Y fs hr, hrun, v, locs, hended, ?_, N, ⟨_, rfl⟩, hW, hsame.mono hc hs⟩
  show Q v T.heap
  rw [e0]; exact hq
theorem rI {z : Int32} (X : Pn p l e R s m args below meth c T h n0 cells slots) (hx : p.tables.exec = Jvm.exec) (hlk : meth.locks = false) (hret : meth.sig.returnType = some .int) (hd : decode c.code pc = .ok (.ireturn, 1)) (hc : cells ≤ R.cells) (hs : slots ≤ R.slots) (hq : Q (some (.int z)) h) :
    Go p e s below n0 Q R T (mkF m pc Ls (.int z :: S)) :=
  fin X hlk (fun q => by rw [hret] at q; cases q) hc hs hq fun _ Y fs hr => retOut Y hx hret rfl (Or.inl ⟨rfl, Or.inl rfl, z, rfl⟩) hd hr
theorem rN {z : Int32} {t : FieldType} (X : Pn p l e R s m args below meth c T h n0 cells slots) (hx : p.tables.exec = Jvm.exec) (hlk : meth.locks = false) (hret : meth.sig.returnType = some t) (ht : t = .boolean ∨ t = .byte ∨ t = .char ∨ t = .short) (hd : decode c.code pc = .ok (.ireturn, 1)) (hc : cells ≤ R.cells) (hs : slots ≤ R.slots) (hq : Q (some (.int (nar t z))) h) :
    Go p e s below n0 Q R T (mkF m pc Ls (.int z :: S)) :=
  fin X hlk (fun q => by rw [hret] at q; cases q) hc hs hq fun _ Y fs hr => retN Y hx hret ht hd hr
theorem rL {z : Int64} (X : Pn p l e R s m args below meth c T h n0 cells slots) (hx : p.tables.exec = Jvm.exec) (hlk : meth.locks = false) (hret : meth.sig.returnType = some .long) (hd : decode c.code pc = .ok (.lreturn, 1)) (hc : cells ≤ R.cells) (hs : slots ≤ R.slots) (hq : Q (some (.long z)) h) :
    Go p e s below n0 Q R T (mkF m pc Ls (.long z :: S)) :=
  fin X hlk (fun q => by rw [hret] at q; cases q) hc hs hq fun _ Y fs hr => retOut Y hx hret rfl (Or.inr (Or.inl ⟨rfl, rfl, z, rfl⟩)) hd hr
theorem rA {w : Value} {t : FieldType} (X : Pn p l e R s m args below meth c T h n0 cells slots) (hx : p.tables.exec = Jvm.exec) (hlk : meth.locks = false) (hret : meth.sig.returnType = some t) (ht : t.isReference = true) (hw : w.isRef = true) (hn : narrow t w = w) (hd : decode c.code pc = .ok (.areturn, 1)) (hc : cells ≤ R.cells) (hs : slots ≤ R.slots) (hq : Q (some w) h) :
    Go p e s below n0 Q R T (mkF m pc Ls (w :: S)) :=
  fin X hlk (fun q => by rw [hret] at q; cases q) hc hs hq fun _ Y fs hr => retOut Y hx hret hn (Or.inr (Or.inr (Or.inr (Or.inr ⟨rfl, ht, hw⟩)))) hd hr
theorem rV (X : Pn p l e R s m args below meth c T h n0 cells slots) (hx : p.tables.exec = Jvm.exec) (hlk : meth.locks = false) (hret : meth.sig.returnType = none) (hd : decode c.code pc = .ok (.return_, 1)) (hc : cells ≤ R.cells) (hs : slots ≤ R.slots) (hq : Q none h) :
    Go p e s below n0 Q R T (mkF m pc Ls []) :=
  fin X hlk (fun _ => rfl) hc hs hq fun _ Y fs hr => Y.returnOut hx hret hd hr
/-! heap and tables -/
theorem gf {own R0 O n d host : String} {index : Nat} {a : Addr} {v : Value} (X : Pn p l e R s m args below meth c T h n0 cells slots) (hx : p.tables.exec = Jvm.exec) (hZ : Z.Warmed39 s.vm) (hown : s.vm.findClass own = some m.cls) (w : (Cond.fieldLink own index R0 n d).before a0 Z = true ∨ (Cond.fieldLinkNest own index R0 n d host).before a0 Z = true) (via : Via Z R0 O n d)
    (F : Fld Z h a O n d v) (hd : decode c.code pc = .ok (.getfield index, 3)) (hp : pc + 3 = pc') (k : ∀ T', Pn p l e R s m args below meth c T' h n0 cells slots → Go p e s below n0 Q R T' (mkF m pc' Ls (v :: S))) : Go p e s below n0 Q R T (mkF m pc Ls (.ref a :: S)) := by
  subst hp
  obtain ⟨e0, hn, locs, Y, N⟩ := X
  obtain ⟨T', Y', e', st⟩ := getF Y hx hZ hown w via e0 F (g := mkF m pc Ls (.ref a :: S)) rfl rfl hd
  exact stp st (k T' ⟨e', hn, locs, Y', N⟩)
theorem gs {own R0 O n d host : String} {index : Nat} {v : Value} (X : Pn p l e R s m args below meth c T h n0 cells slots) (hx : p.tables.exec = Jvm.exec) (hZ : Z.Warmed39 s.vm) (hown : s.vm.findClass own = some m.cls) (w : (Cond.fieldLink own index R0 n d).before a0 Z = true ∨ (Cond.fieldLinkNest own index R0 n d host).before a0 Z = true) (via : Via Z R0 O n d)
    (F : Sta Z h O n d v) (hd : decode c.code pc = .ok (.getstatic index, 3)) (hp : pc + 3 = pc') (k : ∀ T', Pn p l e R s m args below meth c T' h n0 cells slots → Go p e s below n0 Q R T' (mkF m pc' Ls (v :: S))) : Go p e s below n0 Q R T (mkF m pc Ls S) := by
  subst hp
  obtain ⟨e0, hn, locs, Y, N⟩ := X
  obtain ⟨T', Y', e', st⟩ := getS2 Y hx hZ hown w via e0 F (g := mkF m pc Ls S) rfl hd
  exact stp st (k T' ⟨e', hn, locs, Y', N⟩)
theorem pf {own R0 O n d host C : String} {index kk : Nat} {ty : FieldType} {a : Addr} {v old : Value} (X : Pn p l e R s m args below meth c T h n0 cells slots) (hx : p.tables.exec = Jvm.exec) (hZ : Z.Warmed39 s.vm) (hown : s.vm.findClass own = some m.cls) (w : (Cond.fieldLink own index R0 n d).before a0 Z = true ∨ (Cond.fieldLinkNest own index R0 n d host).before a0 Z = true) (via : Via Z R0 O n d)
    (F : Fld Z h a O n d old) (E : Exa Z h a C) (L : (Cond.lays C O n d).before a0 Z = true ∨ ((Cond.laysFinal C O n d).before a0 Z = true ∧ own = O ∧ meth.name = "<init>")) (wi : (Cond.instantiable C kk).before a0 Z = true)
    (hty : parseFieldDescriptor d = some ty) (hn : narrow ty v = v) (hf : fits ty v = true) (ge : n0 ≤ a) (hd : decode c.code pc = .ok (.putfield index, 3)) (hp : pc + 3 = pc')
    (k : ∀ T' h', Pn p l e R s m args below meth c T' h' n0 cells slots → Wr h h' a (Jvm.RoadKit.slotOf Z O n d) v → Go p e s below n0 Q R T' (mkF m pc' Ls S)) : Go p e s below n0 Q R T (mkF m pc Ls (v :: .ref a :: S)) := by
  subst hp
  obtain ⟨e0, hm, locs, Y, N⟩ := X
  obtain ⟨T', h', Y', e', W, st⟩ := putF Y hx hZ hown w via e0 F E L wi hty hn hf (g := mkF m pc Ls (v :: .ref a :: S)) rfl rfl hd
  exact stp st (k T' h' ⟨e', hm, _, Y', Fr.snoc Y' N ge⟩ W)
theorem nw {own C : String} {index n : Nat} (X : Pn p l e R s m args below meth c T h n0 cells slots) (hx : p.tables.exec = Jvm.exec) (hZ : Z.Warmed39 s.vm) (hown : s.vm.findClass own = some m.cls) (w : (Cond.classLink own index C).before a0 Z = true) (wi : (Cond.instantiable C n).before a0 Z = true) (wz : (Cond.initialized C).before a0 Z = true)
    (hd : decode c.code pc = .ok (.new index, 3)) (hp : pc + 3 = pc') (hc : cells + 1 ≤ R.cells) (hl : slots + n ≤ R.slots)
    (k : ∀ T' h' b, Pn p l e R s m args below meth c T' h' n0 (cells + 1) (slots + n) → b = h.size → n0 ≤ b → Ext h h' → Exa Z h' b C → (∀ {O nm d : String} {ty : FieldType}, Laid Z a0 C O nm d → parseFieldDescriptor d = some ty → Fld Z h' b O nm d (defaultValue ty)) → Go p e s below n0 Q R T' (mkF m pc' Ls (.ref b :: S))) :
    Go p e s below n0 Q R T (mkF m pc Ls S) := by
  subst hp
  have q := X.le
  obtain ⟨e0, hn, locs, Y, N⟩ := X
  obtain ⟨T', h', Y', e', E', A', D', -, st⟩ := newO Y hx hZ hown w wi wz e0 (g := mkF m pc Ls S) rfl hd hc hl
  exact stp st (k T' h' _ ⟨e', hn, _, Y', N⟩ rfl q E' A' D')
theorem oi {own : String} {idx : Nat} {a : Addr} {W : Nat} (X : Pn p l e R s m args below meth c T h n0 cells slots) (hx : p.tables.exec = Jvm.exec) (hZ : Z.Warmed39 s.vm) (hown : s.vm.findClass own = some m.cls) (w1 : (Cond.methodLink own idx Lib.objectInit).before a0 Z = true) (w2 : (Cond.instanceMethod Lib.objectInit).before a0 Z = true) (w3 : (Cond.code Lib.objectInit ⟨#[0xb1]⟩ 1 none).before a0 Z = true)
    (hsize : Ls.size = c.maxLocals) (hd : decode c.code pc = .ok (.invokespecial idx, 3)) (hp : pc + 3 = pc') (hf : 1 ≤ R.frames) (hW : (S.map fun v => v.category).sum ≤ W) (hl : W + 12 ≤ R.locals)
    (k : ∀ T', Pn p l e R s m args below meth c T' h n0 cells slots → Go p e s below n0 Q R T' (mkF m pc' Ls S)) : Go p e s below n0 Q R T (mkF m pc Ls (.ref a :: S)) := by
  subst hp
  obtain ⟨e0, hn, locs, Y, N⟩ := X
  obtain ⟨T', Y', e', st⟩ := initO Y hx hZ hown w1 w2 w3 e0 (g := mkF m pc Ls (.ref a :: S)) rfl hsize rfl hd hf (W := W) (by show 2 * 0 + _ ≤ _; omega) hl
  exact stp st (k T' ⟨e', hn, locs, Y', N⟩)
/-! calls by their contracts -/
theorem cS {own : String} {index : Nat} {y : MethodName} {bytes : ByteArray} {maxL : Nat} {ret : Option FieldType} {rm : Room} {as : Array Value} {Q' : Option Value → Heap → Prop} (W : Nat) (argsL : List Value) (X : Pn p l e R s m args below meth c T h n0 cells slots) (hx : p.tables.exec = Jvm.exec) (hZ : Z.Warmed39 s.vm) (hown : s.vm.findClass own = some m.cls)
    (w1 : (Cond.methodLink own index y).before a0 Z = true) (w2 : (Cond.static y).before a0 Z = true) (w3 : (Cond.initialized y.cls).before a0 Z = true) (w4 : (Cond.code y bytes maxL ret).before a0 Z = true) (hy : y.cls ≠ "java/lang/invoke/MethodHandle" ∧ y.cls ≠ "java/lang/invoke/VarHandle")
    (hM : Con l Z y bytes maxL ret [] rm as h n0 Q') (hf : rm.frames + 1 ≤ R.frames) (hl : W + (maxL + 11) + rm.locals ≤ R.locals) (hsz : Ls.size = c.maxLocals) (has : as = argsL.toArray) (hlen : ∀ sig, parseMethodDescriptor y.desc = some sig → argsL.length = sig.parameters.length) (hst : S = argsL.reverse ++ rest) (hW : (rest.map fun v => v.category).sum ≤ W)
    (hd : decode c.code pc = .ok (.invokestatic index, 3)) (hp : pc + 3 = pc') (hc : cells + rm.cells ≤ R.cells) (hs : slots + rm.slots ≤ R.slots)
    (k : ∀ v T' h', Pn p l e R s m args below meth c T' h' n0 (cells + rm.cells) (slots + rm.slots) → Q' v h' → Go p e s below n0 Q R T' (mkF m pc' Ls (v.toList ++ rest))) : Go p e s below n0 Q R T (mkF m pc Ls S) := by
  subst hp has
  obtain ⟨e0, hn, locs, Y, N⟩ := X
  obtain ⟨v, _, ⟨T', L', k', n'⟩, -, Y', ⟨Lc, ⟨hq, hN⟩, l', y', z'⟩, st⟩ := Jvm.LawKit.callS Y hx (y := y) hown (mvT hZ w1) (mvT hZ w2) (mvT hZ w3) (mvT hZ w4) hy (backOf (W := W) (Q := fun v h L => Q' v h ∧ Fr n0 L) hM hZ w4 w3 hf hl) (g := mkF m pc Ls S) rfl hsz (argsL := argsL) (rest := rest) hlen hst (by show 2 * 0 + _ ≤ _; omega) hd (fun _ _ => ⟨rfl, e0, hc, hs⟩)
  dsimp only [Pt.U, Pt.locs, Pt.cells, Pt.slots] at Y' l' y' z' st hq
  subst l' y' z'
  exact stp st (k v T' _ ⟨rfl, hn, _, Y', N.app hN⟩ hq)
theorem cI {own : String} {index : Nat} {y : MethodName} {bytes : ByteArray} {maxL : Nat} {rm : Room} {as : Array Value} {a : Addr} {Q' : Option Value → Heap → Prop} (W : Nat) (argsL : List Value) (X : Pn p l e R s m args below meth c T h n0 cells slots) (hx : p.tables.exec = Jvm.exec) (hZ : Z.Warmed39 s.vm) (hown : s.vm.findClass own = some m.cls) (hy1 : y.name = "<init>")
    (w1 : (Cond.methodLink own index y).before a0 Z = true) (w2 : (Cond.instanceMethod y).before a0 Z = true) (w3 : (Cond.initialized y.cls).before a0 Z = true) (w4 : (Cond.code y bytes maxL none).before a0 Z = true) (hy : y.cls ≠ "java/lang/invoke/MethodHandle" ∧ y.cls ≠ "java/lang/invoke/VarHandle")
    (hM : Con l Z y bytes maxL none [] rm as h n0 Q') (hf : rm.frames + 1 ≤ R.frames) (hl : W + (maxL + 11) + rm.locals ≤ R.locals) (hsz : Ls.size = c.maxLocals) (has : as = (.ref a :: argsL).toArray) (hlen : ∀ sig, parseMethodDescriptor y.desc = some sig → argsL.length = sig.parameters.length) (hst : S = argsL.reverse ++ .ref a :: rest) (hW : (rest.map fun v => v.category).sum ≤ W)
    (hd : decode c.code pc = .ok (.invokespecial index, 3)) (hp : pc + 3 = pc') (hc : cells + rm.cells ≤ R.cells) (hs : slots + rm.slots ≤ R.slots)
    (k : ∀ v T' h', Pn p l e R s m args below meth c T' h' n0 (cells + rm.cells) (slots + rm.slots) → Q' v h' → Go p e s below n0 Q R T' (mkF m pc' Ls (v.toList ++ rest))) : Go p e s below n0 Q R T (mkF m pc Ls S) := by
  subst hp has
  obtain ⟨e0, hn, locs, Y, N⟩ := X
  obtain ⟨v, _, ⟨T', L', k', n'⟩, -, Y', ⟨Lc, ⟨hq, hN⟩, l', y', z'⟩, st⟩ := Y.specialBack hx (y := y) hy1 hown (mvT hZ w1) (mvT hZ w2) (mvT hZ w4) hy (backOf (W := W) (Q := fun v h L => Q' v h ∧ Fr n0 L) hM hZ w4 w3 hf hl) (g := mkF m pc Ls S) rfl hsz (Steps.refl _) (a := a) (argsL := argsL) (rest := rest) hlen hst (by show 2 * 0 + _ ≤ _; omega) hd (fun _ _ => ⟨rfl, e0, hc, hs⟩)
  dsimp only [Pt.U, Pt.locs, Pt.cells, Pt.slots] at Y' l' y' z' st hq
  subst l' y' z'
  exact stp (fun _ q => st.trans q) (k v T' _ ⟨rfl, hn, _, Y', N.app hN⟩ hq)
theorem cV {own C : String} {index : Nat} {y : MethodName} {bytes : ByteArray} {maxL : Nat} {ret : Option FieldType} {rm : Room} {as : Array Value} {a : Addr} {Q' : Option Value → Heap → Prop} (W : Nat) (argsL : List Value) (X : Pn p l e R s m args below meth c T h n0 cells slots) (hx : p.tables.exec = Jvm.exec) (hZ : Z.Warmed39 s.vm) (hown : s.vm.findClass own = some m.cls)
    (w1 : (Cond.methodLink own index y).before a0 Z = true) (w2 : (Cond.declares y).before a0 Z = true) (w5 : (Cond.selects C y y).before a0 Z = true) (w6 : (Cond.instanceMethod y).before a0 Z = true) (w3 : (Cond.initialized y.cls).before a0 Z = true) (w4 : (Cond.code y bytes maxL ret).before a0 Z = true) (hy : y.cls ≠ "java/lang/invoke/MethodHandle" ∧ y.cls ≠ "java/lang/invoke/VarHandle")
    (hE : Exa Z h a C) (hM : Con l Z y bytes maxL ret [] rm as h n0 Q') (hf : rm.frames + 1 ≤ R.frames) (hl : W + (maxL + 11) + rm.locals ≤ R.locals) (hsz : Ls.size = c.maxLocals) (has : as = (.ref a :: argsL).toArray) (hlen : ∀ sig, parseMethodDescriptor y.desc = some sig → argsL.length = sig.parameters.length) (hst : S = argsL.reverse ++ .ref a :: rest) (hW : (rest.map fun v => v.category).sum ≤ W)
    (hd : decode c.code pc = .ok (.invokevirtual index, 3)) (hp : pc + 3 = pc') (hc : cells + rm.cells ≤ R.cells) (hs : slots + rm.slots ≤ R.slots)
    (k : ∀ v T' h', Pn p l e R s m args below meth c T' h' n0 (cells + rm.cells) (slots + rm.slots) → Q' v h' → Go p e s below n0 Q R T' (mkF m pc' Ls (v.toList ++ rest))) : Go p e s below n0 Q R T (mkF m pc Ls S) := by
  subst hp has
  obtain ⟨e0, hn, locs, Y, N⟩ := X
  obtain ⟨cq, kq, q1, q2, q3⟩ := isOf hZ e0 hE
  obtain ⟨v, _, ⟨T', L', k', n'⟩, -, Y', ⟨Lc, ⟨hq, hN⟩, l', y', z'⟩, st⟩ := Y.virtualBack hx (y := y) (z := y) hown (mvT hZ w1) (mvT hZ w2) (notFace_of_selects (args := #[]) (mvT hZ w5)) (mvT hZ w5) (mvT hZ w6) hy (backOf (W := W) (Q := fun v h L => Q' v h ∧ Fr n0 L) hM hZ w4 w3 hf hl) q1 q3 (g := mkF m pc Ls S) rfl hsz (Steps.refl _) (argsL := argsL) (rest := rest) hlen hst (by show 2 * 0 + _ ≤ _; omega) hd (fun _ _ => ⟨rfl, e0, hc, hs⟩)
  dsimp only [Pt.U, Pt.locs, Pt.cells, Pt.slots] at Y' l' y' z' st hq
  subst l' y' z'
  exact stp (fun _ q => st.trans q) (k v T' _ ⟨rfl, hn, _, Y', N.app hN⟩ hq)
theorem cP {own : String} {index kk : Nat} {y : MethodName} {bytes : ByteArray} {maxL : Nat} {ret : Option FieldType} {rm : Room} {as : Array Value} {a : Addr} {C : String} {Q' : Option Value → Heap → Prop} (W : Nat) (argsL : List Value) (X : Pn p l e R s m args below meth c T h n0 cells slots) (hx : p.tables.exec = Jvm.exec) (hZ : Z.Warmed39 s.vm) (hown : s.vm.findClass own = some m.cls)
    (w1 : (Cond.methodLink own index y).before a0 Z = true) (w6 : (Cond.instanceMethod y).before a0 Z = true) (wp : (Cond.privateMethod y).before a0 Z = true) (wi : (Cond.instantiable y.cls kk).before a0 Z = true) (w3 : (Cond.initialized y.cls).before a0 Z = true) (w4 : (Cond.code y bytes maxL ret).before a0 Z = true) (hy : y.cls ≠ "java/lang/invoke/MethodHandle" ∧ y.cls ≠ "java/lang/invoke/VarHandle")
    (hE : Exa Z h a C) (hM : Con l Z y bytes maxL ret [] rm as h n0 Q') (hf : rm.frames + 1 ≤ R.frames) (hl : W + (maxL + 11) + rm.locals ≤ R.locals) (hsz : Ls.size = c.maxLocals) (has : as = (.ref a :: argsL).toArray) (hlen : ∀ sig, parseMethodDescriptor y.desc = some sig → argsL.length = sig.parameters.length) (hst : S = argsL.reverse ++ .ref a :: rest) (hW : (rest.map fun v => v.category).sum ≤ W)
    (hd : decode c.code pc = .ok (.invokevirtual index, 3)) (hp : pc + 3 = pc') (hc : cells + rm.cells ≤ R.cells) (hs : slots + rm.slots ≤ R.slots)
    (k : ∀ v T' h', Pn p l e R s m args below meth c T' h' n0 (cells + rm.cells) (slots + rm.slots) → Q' v h' → Go p e s below n0 Q R T' (mkF m pc' Ls (v.toList ++ rest))) : Go p e s below n0 Q R T (mkF m pc Ls S) := by
  subst hp has
  obtain ⟨e0, hn, locs, Y, N⟩ := X
  obtain ⟨cq, q1, q2⟩ := hE.cell
  have mi : (Cond.instantiable y.cls kk).before args s = true := mvT hZ wi
  obtain ⟨cc, kc, u1, u2, -, u3, -⟩ := Cond.instantiable_spec mi
  have hpv := Cond.privateMethod_at (mvP hZ wp (args := #[]))
  have hse := selects_self_of_private (args := args) u1 u2 (by rw [Bool.or_eq_false_iff] at u3; exact u3.1) hpv (mvT hZ w6) hy
  obtain ⟨v, _, ⟨T', L', k', n'⟩, -, Y', ⟨Lc, ⟨hq, hN⟩, l', y', z'⟩, st⟩ := Y.privateBack hx (y := y) hown (mvT hZ w1) (mvT hZ w6) hse hpv (mvT hZ w4) hy (backOf (W := W) (Q := fun v h L => Q' v h ∧ Fr n0 L) hM hZ w4 w3 hf hl) (g := mkF m pc Ls S) rfl hsz (Steps.refl _) (a := a) (by rw [e0]; exact q1) q2 (argsL := argsL) (rest := rest) hlen hst (by show 2 * 0 + _ ≤ _; omega) hd (fun _ _ => ⟨rfl, e0, hc, hs⟩)
  dsimp only [Pt.U, Pt.locs, Pt.cells, Pt.slots] at Y' l' y' z' st hq
  subst l' y' z'
  exact stp (fun _ q => st.trans q) (k v T' _ ⟨rfl, hn, _, Y', N.app hN⟩ hq)
theorem cF {own C : String} {index count : Nat} {y z : MethodName} {bytes : ByteArray} {maxL : Nat} {ret : Option FieldType} {rm : Room} {as : Array Value} {a : Addr} {Q' : Option Value → Heap → Prop} (W : Nat) (argsL : List Value) (X : Pn p l e R s m args below meth c T h n0 cells slots) (hx : p.tables.exec = Jvm.exec) (hZ : Z.Warmed39 s.vm) (hown : s.vm.findClass own = some m.cls)
    (w1 : (Cond.methodLink own index y).before a0 Z = true) (w2 : (Cond.declares y).before a0 Z = true) (w7 : (Cond.interfaceMethod y.cls y.cls y.name y.desc).before a0 Z = true) (w5 : (Cond.selects C y z).before a0 Z = true) (w6 : (Cond.instanceMethod z).before a0 Z = true) (w8 : (Cond.publicMethod z).before a0 Z = true) (w9 : (Cond.unhidden C y.name y.desc).before a0 Z = true) (w10 : (Cond.castable C y.cls).before a0 Z = true)
    (w3 : (Cond.initialized z.cls).before a0 Z = true) (w4 : (Cond.code z bytes maxL ret).before a0 Z = true) (hy : y.cls ≠ "java/lang/invoke/MethodHandle" ∧ y.cls ≠ "java/lang/invoke/VarHandle")
    (hE : Exa Z h a C) (hM : Con l Z z bytes maxL ret [] rm as h n0 Q') (hf : rm.frames + 1 ≤ R.frames) (hl : W + (maxL + 11) + rm.locals ≤ R.locals) (hsz : Ls.size = c.maxLocals) (has : as = (.ref a :: argsL).toArray) (hlen : ∀ sig, parseMethodDescriptor y.desc = some sig → argsL.length = sig.parameters.length) (hst : S = argsL.reverse ++ .ref a :: rest) (hW : (rest.map fun v => v.category).sum ≤ W)
    (hd : decode c.code pc = .ok (.invokeinterface index count, 5)) (hp : pc + 5 = pc') (hc : cells + rm.cells ≤ R.cells) (hs : slots + rm.slots ≤ R.slots)
    (k : ∀ v T' h', Pn p l e R s m args below meth c T' h' n0 (cells + rm.cells) (slots + rm.slots) → Q' v h' → Go p e s below n0 Q R T' (mkF m pc' Ls (v.toList ++ rest))) : Go p e s below n0 Q R T (mkF m pc Ls S) := by
  subst hp has
  obtain ⟨e0, hn, locs, Y, N⟩ := X
  obtain ⟨cq, kq, q1, q2, q3⟩ := isOf hZ e0 hE
  obtain ⟨v, _, ⟨T', L', k', n'⟩, -, Y', ⟨Lc, ⟨hq, hN⟩, l', y', z'⟩, st⟩ := Y.interfaceBack hx (xi := y) (y := z) hown (mvT hZ w1) (mvT hZ w2) (mvT hZ w7 (by simp [Cond.onTables, Cond.keepsFace, Cond.faceAtom, hy.1, hy.2])) (mvT hZ w5) (mvT hZ w6) (mvT hZ w8) (mvT hZ w9) (mvT hZ w10) hy (backOf (W := W) (Q := fun v h L => Q' v h ∧ Fr n0 L) hM hZ w4 w3 hf hl) q1 q2 q3 (g := mkF m pc Ls S) rfl hsz (Steps.refl _) (argsL := argsL) (rest := rest) hlen hst (by show 2 * 0 + _ ≤ _; omega) hd (fun _ _ => ⟨rfl, e0, hc, hs⟩)
  dsimp only [Pt.U, Pt.locs, Pt.cells, Pt.slots] at Y' l' y' z' st hq
  subst l' y' z'
  exact stp (fun _ q => st.trans q) (k v T' _ ⟨rfl, hn, _, Y', N.app hN⟩ hq)
theorem ioY {own K : String} {index : Nat} {a : Addr} (X : Pn p l e R s m args below meth c T h n0 cells slots) (hx : p.tables.exec = Jvm.exec) (hZ : Z.Warmed39 s.vm) (hown : s.vm.findClass own = some m.cls) (w : (Cond.classLink own index K).before a0 Z = true) (F : Ins Z h a K true) (hd : decode c.code pc = .ok (.instanceof index, 3)) (hp : pc + 3 = pc')
    (k : ∀ T', Pn p l e R s m args below meth c T' h n0 cells slots → Go p e s below n0 Q R T' (mkF m pc' Ls (.int 1 :: S))) : Go p e s below n0 Q R T (mkF m pc Ls (.ref a :: S)) := by
  subst hp
  obtain ⟨e0, hn, locs, Y, N⟩ := X
  obtain ⟨T', Y', e', st⟩ := instY Y hx hZ hown w e0 F (g := mkF m pc Ls (.ref a :: S)) rfl rfl hd
  exact stp st (k T' ⟨e', hn, locs, Y', N⟩)
theorem ioN {own K C : String} {index : Nat} {a : Addr} (X : Pn p l e R s m args below meth c T h n0 cells slots) (hx : p.tables.exec = Jvm.exec) (hZ : Z.Warmed39 s.vm) (hown : s.vm.findClass own = some m.cls) (w : (Cond.classLink own index K).before a0 Z = true) (E : Exa Z h a C) (F : ∃ c t, Z.vm.findClass C = some c ∧ Z.vm.findClass K = some t ∧ Z.vm.assignable c t = false) (hd : decode c.code pc = .ok (.instanceof index, 3)) (hp : pc + 3 = pc')
    (k : ∀ T', Pn p l e R s m args below meth c T' h n0 cells slots → Go p e s below n0 Q R T' (mkF m pc' Ls (.int 0 :: S))) : Go p e s below n0 Q R T (mkF m pc Ls (.ref a :: S)) := by
  subst hp
  obtain ⟨e0, hn, locs, Y, N⟩ := X
  obtain ⟨T', Y', e', st⟩ := instNo Y hx hZ hown w e0 E F (g := mkF m pc Ls (.ref a :: S)) rfl rfl hd
  exact stp st (k T' ⟨e', hn, locs, Y', N⟩)
theorem ioZ {index : Nat} (X : Pn p l e R s m args below meth c T h n0 cells slots) (hx : p.tables.exec = Jvm.exec) (hd : decode c.code pc = .ok (.instanceof index, 3)) (hp : pc + 3 = pc')
    (k : Go p e s below n0 Q R T (mkF m pc' Ls (.int 0 :: S))) : Go p e s below n0 Q R T (mkF m pc Ls (.null :: S)) := by
  subst hp
  obtain ⟨e0, hn, locs, Y, N⟩ := X
  exact stp (Y.instanceofNull hx (g := mkF m pc Ls (.null :: S)) rfl rfl hd) k
theorem ccY {own K : String} {index : Nat} {a : Addr} (X : Pn p l e R s m args below meth c T h n0 cells slots) (hx : p.tables.exec = Jvm.exec) (hZ : Z.Warmed39 s.vm) (hown : s.vm.findClass own = some m.cls) (w : (Cond.classLink own index K).before a0 Z = true) (F : Ins Z h a K true) (hd : decode c.code pc = .ok (.checkcast index, 3)) (hp : pc + 3 = pc')
    (k : ∀ T', Pn p l e R s m args below meth c T' h n0 cells slots → Go p e s below n0 Q R T' (mkF m pc' Ls (.ref a :: S))) : Go p e s below n0 Q R T (mkF m pc Ls (.ref a :: S)) := by
  subst hp
  obtain ⟨e0, hn, locs, Y, N⟩ := X
  obtain ⟨T', Y', e', st⟩ := castY Y hx hZ hown w e0 F (g := mkF m pc Ls (.ref a :: S)) rfl rfl hd
  exact stp st (k T' ⟨e', hn, locs, Y', N⟩)
theorem own_nsRoot {O K : String} {kk : Nat} (w : (Cond.noSuperclass O).before a0 Z = true) (wk : (Cond.instantiable K kk).before a0 Z = true) (hn : O ≠ K) : NS Z O K := by
  obtain ⟨c, k, h1, h2, h3, -, -⟩ := Cond.noSuperclass_spec w
  obtain ⟨t, _, g1, -⟩ := Cond.instantiable_spec wk
  have ne := ids_ne h1 g1 hn
  refine ⟨c, t, h1, g1, fun fuel => ?_⟩
  cases fuel with
  | zero => rfl
  | succ f => simp [Vm.isSubclassAux, ne, h2, h3]
theorem own_nsNo {C U K : String} {kk : Nat} (w : (Cond.superclass C U).before a0 Z = true) (wk : (Cond.instantiable K kk).before a0 Z = true) (n : NS Z C K) (hn : C ≠ K) : ∃ c t, Z.vm.findClass C = some c ∧ Z.vm.findClass K = some t ∧ Z.vm.assignable c t = false := by
  obtain ⟨c, t, h0, g0, n3⟩ := n
  obtain ⟨q, k, kp, h1, h2, h3, h4, h5, -, h7⟩ := Cond.superclass_spec h0 w
  obtain ⟨t', k', g1, g2, g3, g4, -⟩ := Cond.instantiable_spec wk
  cases g0.symm.trans g1
  have g7 : k'.isInterface = false := by rw [Bool.or_eq_false_iff] at g4; exact g4.1
  have ne := ids_ne h0 g0 hn
  refine ⟨c, t, h0, g0, ?_⟩
  show Z.vm.assignableAux (255 + 1) c t = false
  simp [Vm.assignableAux, ne, h2, g2, h5, g3, g7, Vm.isSubclass, n3]
/-! arrays: n places, the i-th holds f i -/
def Av (Z : State) (h : Heap) (a : Addr) (ty : FieldType) (n : Nat) (f : Nat → Value) : Prop := ∃ c : Cell, Arr Z h a c ty ∧ c.slots.size = n ∧ ∀ i, i < n → c.slots[i]? = some (f i)
theorem Av.lt {a : Addr} {ty : FieldType} {n : Nat} {f : Nat → Value} (F : Av Z h a ty n f) : a < h.size := by obtain ⟨c, A, -⟩ := F; exact A.lt
theorem Av.ext {h' : Heap} {a : Addr} {ty : FieldType} {n : Nat} {f : Nat → Value} (F : Av Z h a ty n f) (E : Ext h h') : Av Z h' a ty n f := by obtain ⟨c, A, r⟩ := F; exact ⟨c, A.ext E, r⟩
theorem Av.other {h' : Heap} {a b : Addr} {ty : FieldType} {n sl : Nat} {v : Value} {f : Nat → Value} (F : Av Z h b ty n f) (W : Wr h h' a sl v) (q : b ≠ a) : Av Z h' b ty n f := by obtain ⟨c, A, r⟩ := F; exact ⟨c, A.other W q, r⟩
theorem Av.keep {h' : Heap} {a : Addr} {ws : List Addr} {ty : FieldType} {n : Nat} {f : Nat → Value} (F : Av Z h a ty n f) (K : Keep h h' ws) (q : a ∉ ws) : Av Z h' a ty n f := by obtain ⟨c, A, r⟩ := F; exact ⟨c, ⟨K.2.1 a c A.1 q, A.2⟩, r⟩
theorem Av.same {h' : Heap} {a : Addr} {ty : FieldType} {n j : Nat} {v : Value} {f : Nat → Value} (F : Av Z h a ty n f) (W : Wr h h' a j v) : Av Z h' a ty n (fun i => if i = j then v else f i) := by
  obtain ⟨c, A, q, r⟩ := F
  refine ⟨c.setSlot j v, A.same W, by rw [sz_set]; exact q, fun i hi => ?_⟩
  obtain ⟨c', e1, -, -, -, -, e6, e7⟩ := wr_at W A.1
  obtain ⟨e8, e9, -⟩ := e7 rfl
  by_cases hj : i = j
  · subst hj; show _ = some (if i = i then v else f i); rw [if_pos rfl, ← e8]; exact e9
  · show _ = some (if i = j then v else f i); rw [if_neg hj, ← e8, e6 _ hj]; exact r i hi
theorem Av.congr {a : Addr} {ty : FieldType} {n : Nat} {f g : Nat → Value} (F : Av Z h a ty n f) (q : ∀ i, i < n → f i = g i) : Av Z h a ty n g := by obtain ⟨c, A, r, u⟩ := F; exact ⟨c, A, r, fun i hi => by rw [u i hi, q i hi]⟩
theorem na {aty : ArrayType} {z : Int32} (cap : Nat) (X : Pn p l e R s m args below meth c T h n0 cells slots) (hx : p.tables.exec = Jvm.exec) (hZ : Z.Warmed39 s.vm) (w : (Cond.arrayClass (newarray.typeOf aty)).before a0 Z = true) (hd : decode c.code pc = .ok (.newarray aty, 2)) (hp : pc + 2 = pc') (hz : ¬ z < 0) (hcap : z.toNatClampNeg ≤ cap) (hb : cap * 8 ≤ 536870912) (hc : cells + 1 ≤ R.cells) (hl : slots + cap ≤ R.slots)
    (k : ∀ T' h' b, Pn p l e R s m args below meth c T' h' n0 (cells + 1) (slots + cap) → b = h.size → n0 ≤ b → Ext h h' → Av Z h' b (newarray.typeOf aty) z.toNatClampNeg (fun _ => defaultValue (newarray.typeOf aty)) → Go p e s below n0 Q R T' (mkF m pc' Ls (.ref b :: S))) :
    Go p e s below n0 Q R T (mkF m pc Ls (.int z :: S)) := by
  subst hp
  have q := X.le
  obtain ⟨e0, hn, locs, Y, N⟩ := X
  obtain ⟨T', h', k', Y', e', E', A', st⟩ := newP Y hx hZ w e0 (g := mkF m pc Ls (.int z :: S)) rfl hd rfl hz hcap hb hc hl
  refine stp st (k T' h' _ ⟨e', hn, _, Y', N⟩ rfl q E' ⟨_, A', sz_new _ _ _, fun i hi => ?_⟩)
  simp [newA, hi]
theorem len {a : Addr} {ty : FieldType} {n : Nat} {f : Nat → Value} (z : Int32) (X : Pn p l e R s m args below meth c T h n0 cells slots) (hx : p.tables.exec = Jvm.exec) (hZ : Z.Warmed39 s.vm) (A : Av Z h a ty n f) (hz : n.toInt32 = z) (hd : decode c.code pc = .ok (.arraylength, 1)) (hp : pc + 1 = pc')
    (k : Go p e s below n0 Q R T (mkF m pc' Ls (.int z :: S))) : Go p e s below n0 Q R T (mkF m pc Ls (.ref a :: S)) := by
  subst hp hz
  obtain ⟨e0, hn, locs, Y, N⟩ := X
  obtain ⟨cl, Ar, S0, r⟩ := A
  subst S0
  exact stp (fun t q => Y.arraylength hx (by rw [e0]; exact Ar.1) (State.isArrayOf_alike hZ.alike Ar.2.1) (g := mkF m pc Ls (.ref a :: S)) rfl rfl hd t q) k
theorem inn {cl : Cell} {n : Nat} {j : Int32} (S0 : cl.slots.size = n) (q : ¬ j < 0) (r : j.toNatClampNeg < n) : ¬ (j < 0 ∨ cl.slots.size ≤ j.toNatClampNeg) := fun u => u.elim q fun v => by omega
theorem ldI {a : Addr} {n : Nat} {f : Nat → Value} {j : Int32} {v : Value} (X : Pn p l e R s m args below meth c T h n0 cells slots) (hx : p.tables.exec = Jvm.exec) (hZ : Z.Warmed39 s.vm) (A : Av Z h a .int n f) (q : ¬ j < 0) (r : j.toNatClampNeg < n) (hv : f j.toNatClampNeg = v) (hd : decode c.code pc = .ok (.iaload, 1)) (hp : pc + 1 = pc')
    (k : Go p e s below n0 Q R T (mkF m pc' Ls (v :: S))) : Go p e s below n0 Q R T (mkF m pc Ls (.int j :: .ref a :: S)) := by
  subst hp hv
  obtain ⟨e0, hn, locs, Y, N⟩ := X
  obtain ⟨cl, Ar, S0, u⟩ := A
  exact stp (fun t y => Y.iaload hx (by rw [e0]; exact Ar.1) (State.isArrayOf_alike hZ.alike Ar.2.1) Ar.2.2 (inn S0 q r) (u _ r) (g := mkF m pc Ls (.int j :: .ref a :: S)) rfl rfl hd t y) k
theorem ldJ {a : Addr} {n : Nat} {f : Nat → Value} {j : Int32} {v : Value} (X : Pn p l e R s m args below meth c T h n0 cells slots) (hx : p.tables.exec = Jvm.exec) (hZ : Z.Warmed39 s.vm) (A : Av Z h a .long n f) (q : ¬ j < 0) (r : j.toNatClampNeg < n) (hv : f j.toNatClampNeg = v) (hd : decode c.code pc = .ok (.laload, 1)) (hp : pc + 1 = pc')
    (k : Go p e s below n0 Q R T (mkF m pc' Ls (v :: S))) : Go p e s below n0 Q R T (mkF m pc Ls (.int j :: .ref a :: S)) := by
  subst hp hv
  obtain ⟨e0, hn, locs, Y, N⟩ := X
  obtain ⟨cl, Ar, S0, u⟩ := A
  exact stp (fun t y => Y.laload hx (by rw [e0]; exact Ar.1) (State.isArrayOf_alike hZ.alike Ar.2.1) Ar.2.2 (inn S0 q r) (u _ r) (g := mkF m pc Ls (.int j :: .ref a :: S)) rfl rfl hd t y) k
theorem ldB {a : Addr} {n : Nat} {f : Nat → Value} {j : Int32} {v : Value} (X : Pn p l e R s m args below meth c T h n0 cells slots) (hx : p.tables.exec = Jvm.exec) (hZ : Z.Warmed39 s.vm) (A : Av Z h a .byte n f) (q : ¬ j < 0) (r : j.toNatClampNeg < n) (hv : f j.toNatClampNeg = v) (hd : decode c.code pc = .ok (.baload, 1)) (hp : pc + 1 = pc')
    (k : Go p e s below n0 Q R T (mkF m pc' Ls (v :: S))) : Go p e s below n0 Q R T (mkF m pc Ls (.int j :: .ref a :: S)) := by
  subst hp hv
  obtain ⟨e0, hn, locs, Y, N⟩ := X
  obtain ⟨cl, Ar, S0, u⟩ := A
  exact stp (fun t y => Y.baloadBytes hx (by rw [e0]; exact Ar.1) (State.isArrayOf_alike hZ.alike Ar.2.1) Ar.2.2 (inn S0 q r) (u _ r) (g := mkF m pc Ls (.int j :: .ref a :: S)) rfl rfl hd t y) k
theorem ldR {a : Addr} {ty : FieldType} {n : Nat} {f : Nat → Value} {j : Int32} {v : Value} (X : Pn p l e R s m args below meth c T h n0 cells slots) (hx : p.tables.exec = Jvm.exec) (hZ : Z.Warmed39 s.vm) (A : Av Z h a ty n f) (hty : ty.isReference = true) (q : ¬ j < 0) (r : j.toNatClampNeg < n) (hv : f j.toNatClampNeg = v) (hd : decode c.code pc = .ok (.aaload, 1)) (hp : pc + 1 = pc')
    (k : Go p e s below n0 Q R T (mkF m pc' Ls (v :: S))) : Go p e s below n0 Q R T (mkF m pc Ls (.int j :: .ref a :: S)) := by
  subst hp hv
  obtain ⟨e0, hn, locs, Y, N⟩ := X
  obtain ⟨cl, Ar, S0, u⟩ := A
  exact stp (fun t y => Y.aaload hx (by rw [e0]; exact Ar.1) (State.isArrayOf_alike hZ.alike Ar.2.1) hty Ar.2.2 (inn S0 q r) (u _ r) (g := mkF m pc Ls (.int j :: .ref a :: S)) rfl rfl hd t y) k
theorem saI {a : Addr} {n : Nat} {f : Nat → Value} {j x : Int32} (X : Pn p l e R s m args below meth c T h n0 cells slots) (hx : p.tables.exec = Jvm.exec) (hZ : Z.Warmed39 s.vm) (A : Av Z h a .int n f) (ge : n0 ≤ a) (q : ¬ j < 0) (r : j.toNatClampNeg < n) (hd : decode c.code pc = .ok (.iastore, 1)) (hp : pc + 1 = pc')
    (k : ∀ T' h', Pn p l e R s m args below meth c T' h' n0 cells slots → Wr h h' a j.toNatClampNeg (.int x) → Go p e s below n0 Q R T' (mkF m pc' Ls S)) : Go p e s below n0 Q R T (mkF m pc Ls (.int x :: .int j :: .ref a :: S)) := by
  subst hp
  obtain ⟨e0, hn, locs, Y, N⟩ := X
  obtain ⟨cl, Ar, S0, u⟩ := A
  obtain ⟨T', h', Y', e', W', st⟩ := stI Y hx hZ e0 Ar (inn S0 q r) (g := mkF m pc Ls (.int x :: .int j :: .ref a :: S)) rfl rfl hd
  exact stp st (k T' h' ⟨e', hn, _, Y', Fr.snoc Y' N ge⟩ W')
theorem saJ {a : Addr} {n : Nat} {f : Nat → Value} {j : Int32} {x : Int64} (X : Pn p l e R s m args below meth c T h n0 cells slots) (hx : p.tables.exec = Jvm.exec) (hZ : Z.Warmed39 s.vm) (A : Av Z h a .long n f) (ge : n0 ≤ a) (q : ¬ j < 0) (r : j.toNatClampNeg < n) (hd : decode c.code pc = .ok (.lastore, 1)) (hp : pc + 1 = pc')
    (k : ∀ T' h', Pn p l e R s m args below meth c T' h' n0 cells slots → Wr h h' a j.toNatClampNeg (.long x) → Go p e s below n0 Q R T' (mkF m pc' Ls S)) : Go p e s below n0 Q R T (mkF m pc Ls (.long x :: .int j :: .ref a :: S)) := by
  subst hp
  obtain ⟨e0, hn, locs, Y, N⟩ := X
  obtain ⟨cl, Ar, S0, u⟩ := A
  obtain ⟨T', h', Y', e', W', st⟩ := stJ Y hx hZ e0 Ar (inn S0 q r) (g := mkF m pc Ls (.long x :: .int j :: .ref a :: S)) rfl rfl hd
  exact stp st (k T' h' ⟨e', hn, _, Y', Fr.snoc Y' N ge⟩ W')
theorem saB {a : Addr} {n : Nat} {f : Nat → Value} {j x : Int32} (X : Pn p l e R s m args below meth c T h n0 cells slots) (hx : p.tables.exec = Jvm.exec) (hZ : Z.Warmed39 s.vm) (A : Av Z h a .byte n f) (ge : n0 ≤ a) (q : ¬ j < 0) (r : j.toNatClampNeg < n) (hd : decode c.code pc = .ok (.bastore, 1)) (hp : pc + 1 = pc')
    (k : ∀ T' h', Pn p l e R s m args below meth c T' h' n0 cells slots → Wr h h' a j.toNatClampNeg (.int x.toInt8.toInt32) → Go p e s below n0 Q R T' (mkF m pc' Ls S)) : Go p e s below n0 Q R T (mkF m pc Ls (.int x :: .int j :: .ref a :: S)) := by
  subst hp
  obtain ⟨e0, hn, locs, Y, N⟩ := X
  obtain ⟨cl, Ar, S0, u⟩ := A
  obtain ⟨T', h', Y', e', W', st⟩ := stB Y hx hZ e0 Ar (inn S0 q r) (g := mkF m pc Ls (.int x :: .int j :: .ref a :: S)) rfl rfl hd
  exact stp st (k T' h' ⟨e', hn, _, Y', Fr.snoc Y' N ge⟩ W')
/-! arrays of references: the class is known too -/
def AvR (Z : State) (h : Heap) (a : Addr) (C : String) (n : Nat) (f : Nat → Value) : Prop := ∃ c : Cell, Arr Z h a c (.object C) ∧ Ovr Z c.cls C ∧ c.slots.size = n ∧ ∀ i, i < n → c.slots[i]? = some (f i)
theorem AvR.lt {a : Addr} {C : String} {n : Nat} {f : Nat → Value} (F : AvR Z h a C n f) : a < h.size := by obtain ⟨c, A, -⟩ := F; exact A.lt
theorem AvR.av {a : Addr} {C : String} {n : Nat} {f : Nat → Value} (F : AvR Z h a C n f) : Av Z h a (.object C) n f := by obtain ⟨c, A, -, r⟩ := F; exact ⟨c, A, r⟩
theorem AvR.ext {h' : Heap} {a : Addr} {C : String} {n : Nat} {f : Nat → Value} (F : AvR Z h a C n f) (E : Ext h h') : AvR Z h' a C n f := by obtain ⟨c, A, r⟩ := F; exact ⟨c, A.ext E, r⟩
theorem AvR.other {h' : Heap} {a b : Addr} {C : String} {n sl : Nat} {v : Value} {f : Nat → Value} (F : AvR Z h b C n f) (W : Wr h h' a sl v) (q : b ≠ a) : AvR Z h' b C n f := by obtain ⟨c, A, r⟩ := F; exact ⟨c, A.other W q, r⟩
theorem AvR.set {h' : Heap} {a : Addr} {C : String} {n k : Nat} {j : Int32} {v : Value} {f : Nat → Value} (e : j.toNatClampNeg = k) (F : AvR Z h a C n f) (W : Wr h h' a j.toNatClampNeg v) : AvR Z h' a C n (fun i => if i = k then v else f i) := by
  subst e
  obtain ⟨c, A, O, q, r⟩ := F
  refine ⟨c.setSlot j.toNatClampNeg v, A.same W, O, by rw [sz_set]; exact q, fun i hi => ?_⟩
  obtain ⟨c', e1, -, -, -, -, e6, e7⟩ := wr_at W A.1
  obtain ⟨e8, e9, -⟩ := e7 rfl
  by_cases hj : i = j.toNatClampNeg
  · subst hj; show _ = some (if j.toNatClampNeg = j.toNatClampNeg then v else f j.toNatClampNeg); rw [if_pos rfl, ← e8]; exact e9
  · show _ = some (if i = j.toNatClampNeg then v else f i); rw [if_neg hj, ← e8, e6 _ hj]; exact r i hi
theorem nr {own C : String} {index : Nat} {z : Int32} (cap : Nat) (X : Pn p l e R s m args below meth c T h n0 cells slots) (hx : p.tables.exec = Jvm.exec) (hZ : Z.Warmed39 s.vm) (hown : s.vm.findClass own = some m.cls) (w1 : (Cond.classLink own index C).before a0 Z = true) (w2 : (Cond.arrayOver (.object C)).before a0 Z = true) (hd : decode c.code pc = .ok (.anewarray index, 3)) (hp : pc + 3 = pc') (hz : ¬ z < 0) (hcap : z.toNatClampNeg ≤ cap) (hb : cap * 8 ≤ 536870912) (hc : cells + 1 ≤ R.cells) (hl : slots + cap ≤ R.slots)
    (k : ∀ T' h' b, Pn p l e R s m args below meth c T' h' n0 (cells + 1) (slots + cap) → b = h.size → n0 ≤ b → Ext h h' → AvR Z h' b C z.toNatClampNeg (fun _ => .null) → Go p e s below n0 Q R T' (mkF m pc' Ls (.ref b :: S))) :
    Go p e s below n0 Q R T (mkF m pc Ls (.int z :: S)) := by
  subst hp
  have q := X.le
  obtain ⟨e0, hn, locs, Y, N⟩ := X
  obtain ⟨T', h', k', Y', e', E', A', O', st⟩ := newR Y hx hZ hown w1 w2 e0 (g := mkF m pc Ls (.int z :: S)) rfl hd rfl hz hcap hb hc hl
  refine stp st (k T' h' _ ⟨e', hn, _, Y', N⟩ rfl q E' ⟨_, A', O', sz_new _ _ _, fun i hi => ?_⟩)
  simp [newA, hi, defaultValue]
theorem saR {a y : Addr} {C : String} {n : Nat} {f : Nat → Value} {j : Int32} (X : Pn p l e R s m args below meth c T h n0 cells slots) (hx : p.tables.exec = Jvm.exec) (hZ : Z.Warmed39 s.vm) (A : AvR Z h a C n f) (I : Ins Z h y C true) (ge : n0 ≤ a) (q : ¬ j < 0) (r : j.toNatClampNeg < n) (hd : decode c.code pc = .ok (.aastore, 1)) (hp : pc + 1 = pc')
    (k : ∀ T' h', Pn p l e R s m args below meth c T' h' n0 cells slots → Wr h h' a j.toNatClampNeg (.ref y) → Go p e s below n0 Q R T' (mkF m pc' Ls S)) : Go p e s below n0 Q R T (mkF m pc Ls (.ref y :: .int j :: .ref a :: S)) := by
  subst hp
  obtain ⟨e0, hn, locs, Y, N⟩ := X
  obtain ⟨cl, Ar, O, S0, u⟩ := A
  obtain ⟨T', h', Y', e', W', st⟩ := stR Y hx hZ e0 Ar (inn S0 q r) rfl (Sto.of Ar O I) (g := mkF m pc Ls (.ref y :: .int j :: .ref a :: S)) rfl rfl hd
  exact stp st (k T' h' ⟨e', hn, _, Y', Fr.snoc Y' N ge⟩ W')
theorem i_iadd {x y : Int32} (X : Pn p l e R s m args below meth c T h n0 cells slots) (hx : p.tables.exec = Jvm.exec) (hd : decode c.code pc = .ok (.iadd, 1)) (hp : pc + 1 = pc')
    (k : Go p e s below n0 Q R T (mkF m pc' Ls (.int (x + y) :: S))) : Go p e s below n0 Q R T (mkF m pc Ls (.int y :: .int x :: S)) := by subst hp; exact stp (fun _ q => XS.iadd X.here hx rfl hd rfl q) k
theorem i_isub {x y : Int32} (X : Pn p l e R s m args below meth c T h n0 cells slots) (hx : p.tables.exec = Jvm.exec) (hd : decode c.code pc = .ok (.isub, 1)) (hp : pc + 1 = pc')
    (k : Go p e s below n0 Q R T (mkF m pc' Ls (.int (x - y) :: S))) : Go p e s below n0 Q R T (mkF m pc Ls (.int y :: .int x :: S)) := by subst hp; exact stp (fun _ q => XS.isub X.here hx rfl hd rfl q) k
theorem i_imul {x y : Int32} (X : Pn p l e R s m args below meth c T h n0 cells slots) (hx : p.tables.exec = Jvm.exec) (hd : decode c.code pc = .ok (.imul, 1)) (hp : pc + 1 = pc')
    (k : Go p e s below n0 Q R T (mkF m pc' Ls (.int (x * y) :: S))) : Go p e s below n0 Q R T (mkF m pc Ls (.int y :: .int x :: S)) := by subst hp; exact stp (fun _ q => XS.imul X.here hx rfl hd rfl q) k
theorem i_iand {x y : Int32} (X : Pn p l e R s m args below meth c T h n0 cells slots) (hx : p.tables.exec = Jvm.exec) (hd : decode c.code pc = .ok (.iand, 1)) (hp : pc + 1 = pc')
    (k : Go p e s below n0 Q R T (mkF m pc' Ls (.int (x &&& y) :: S))) : Go p e s below n0 Q R T (mkF m pc Ls (.int y :: .int x :: S)) := by subst hp; exact stp (fun _ q => XS.iand X.here hx rfl hd rfl q) k
theorem i_ior {x y : Int32} (X : Pn p l e R s m args below meth c T h n0 cells slots) (hx : p.tables.exec = Jvm.exec) (hd : decode c.code pc = .ok (.ior, 1)) (hp : pc + 1 = pc')
    (k : Go p e s below n0 Q R T (mkF m pc' Ls (.int (x ||| y) :: S))) : Go p e s below n0 Q R T (mkF m pc Ls (.int y :: .int x :: S)) := by subst hp; exact stp (fun _ q => XT.ior X.here hx rfl hd rfl q) k
theorem i_ixor {x y : Int32} (X : Pn p l e R s m args below meth c T h n0 cells slots) (hx : p.tables.exec = Jvm.exec) (hd : decode c.code pc = .ok (.ixor, 1)) (hp : pc + 1 = pc')
    (k : Go p e s below n0 Q R T (mkF m pc' Ls (.int (x ^^^ y) :: S))) : Go p e s below n0 Q R T (mkF m pc Ls (.int y :: .int x :: S)) := by subst hp; exact stp (fun _ q => XT.ixor X.here hx rfl hd rfl q) k
theorem i_ishl {x y : Int32} (X : Pn p l e R s m args below meth c T h n0 cells slots) (hx : p.tables.exec = Jvm.exec) (hd : decode c.code pc = .ok (.ishl, 1)) (hp : pc + 1 = pc')
    (k : Go p e s below n0 Q R T (mkF m pc' Ls (.int (x <<< (y &&& 31)) :: S))) : Go p e s below n0 Q R T (mkF m pc Ls (.int y :: .int x :: S)) := by subst hp; exact stp (fun _ q => XT.ishl X.here hx rfl hd rfl q) k
theorem i_ishr {x y : Int32} (X : Pn p l e R s m args below meth c T h n0 cells slots) (hx : p.tables.exec = Jvm.exec) (hd : decode c.code pc = .ok (.ishr, 1)) (hp : pc + 1 = pc')
    (k : Go p e s below n0 Q R T (mkF m pc' Ls (.int (x >>> (y &&& 31)) :: S))) : Go p e s below n0 Q R T (mkF m pc Ls (.int y :: .int x :: S)) := by subst hp; exact stp (fun _ q => XT.ishr X.here hx rfl hd rfl q) k
theorem i_iushr {x y : Int32} (X : Pn p l e R s m args below meth c T h n0 cells slots) (hx : p.tables.exec = Jvm.exec) (hd : decode c.code pc = .ok (.iushr, 1)) (hp : pc + 1 = pc')
    (k : Go p e s below n0 Q R T (mkF m pc' Ls (.int (XT.ushr x y) :: S))) : Go p e s below n0 Q R T (mkF m pc Ls (.int y :: .int x :: S)) := by subst hp; exact stp (fun _ q => XT.iushr X.here hx rfl hd rfl q) k
theorem i_ladd {x y : Int64} (X : Pn p l e R s m args below meth c T h n0 cells slots) (hx : p.tables.exec = Jvm.exec) (hd : decode c.code pc = .ok (.ladd, 1)) (hp : pc + 1 = pc')
    (k : Go p e s below n0 Q R T (mkF m pc' Ls (.long (x + y) :: S))) : Go p e s below n0 Q R T (mkF m pc Ls (.long y :: .long x :: S)) := by subst hp; exact stp (fun _ q => XT.ladd X.here hx rfl hd rfl q) k
theorem i_lsub {x y : Int64} (X : Pn p l e R s m args below meth c T h n0 cells slots) (hx : p.tables.exec = Jvm.exec) (hd : decode c.code pc = .ok (.lsub, 1)) (hp : pc + 1 = pc')
    (k : Go p e s below n0 Q R T (mkF m pc' Ls (.long (x - y) :: S))) : Go p e s below n0 Q R T (mkF m pc Ls (.long y :: .long x :: S)) := by subst hp; exact stp (fun _ q => XT.lsub X.here hx rfl hd rfl q) k
theorem i_lmul {x y : Int64} (X : Pn p l e R s m args below meth c T h n0 cells slots) (hx : p.tables.exec = Jvm.exec) (hd : decode c.code pc = .ok (.lmul, 1)) (hp : pc + 1 = pc')
    (k : Go p e s below n0 Q R T (mkF m pc' Ls (.long (x * y) :: S))) : Go p e s below n0 Q R T (mkF m pc Ls (.long y :: .long x :: S)) := by subst hp; exact stp (fun _ q => XT.lmul X.here hx rfl hd rfl q) k
theorem i_land {x y : Int64} (X : Pn p l e R s m args below meth c T h n0 cells slots) (hx : p.tables.exec = Jvm.exec) (hd : decode c.code pc = .ok (.land, 1)) (hp : pc + 1 = pc')
    (k : Go p e s below n0 Q R T (mkF m pc' Ls (.long (x &&& y) :: S))) : Go p e s below n0 Q R T (mkF m pc Ls (.long y :: .long x :: S)) := by subst hp; exact stp (fun _ q => XT.land X.here hx rfl hd rfl q) k
theorem i_lor {x y : Int64} (X : Pn p l e R s m args below meth c T h n0 cells slots) (hx : p.tables.exec = Jvm.exec) (hd : decode c.code pc = .ok (.lor, 1)) (hp : pc + 1 = pc')
    (k : Go p e s below n0 Q R T (mkF m pc' Ls (.long (x ||| y) :: S))) : Go p e s below n0 Q R T (mkF m pc Ls (.long y :: .long x :: S)) := by subst hp; exact stp (fun _ q => XT.lor X.here hx rfl hd rfl q) k
theorem i_lxor {x y : Int64} (X : Pn p l e R s m args below meth c T h n0 cells slots) (hx : p.tables.exec = Jvm.exec) (hd : decode c.code pc = .ok (.lxor, 1)) (hp : pc + 1 = pc')
    (k : Go p e s below n0 Q R T (mkF m pc' Ls (.long (x ^^^ y) :: S))) : Go p e s below n0 Q R T (mkF m pc Ls (.long y :: .long x :: S)) := by subst hp; exact stp (fun _ q => XT.lxor X.here hx rfl hd rfl q) k
theorem i_lshl {x : Int64} {y : Int32} (X : Pn p l e R s m args below meth c T h n0 cells slots) (hx : p.tables.exec = Jvm.exec) (hd : decode c.code pc = .ok (.lshl, 1)) (hp : pc + 1 = pc')
    (k : Go p e s below n0 Q R T (mkF m pc' Ls (.long (x <<< (y.toInt64 &&& 63)) :: S))) : Go p e s below n0 Q R T (mkF m pc Ls (.int y :: .long x :: S)) := by subst hp; exact stp (fun _ q => XT.lshl X.here hx rfl hd rfl q) k
theorem i_lshr {x : Int64} {y : Int32} (X : Pn p l e R s m args below meth c T h n0 cells slots) (hx : p.tables.exec = Jvm.exec) (hd : decode c.code pc = .ok (.lshr, 1)) (hp : pc + 1 = pc')
    (k : Go p e s below n0 Q R T (mkF m pc' Ls (.long (x >>> (y.toInt64 &&& 63)) :: S))) : Go p e s below n0 Q R T (mkF m pc Ls (.int y :: .long x :: S)) := by subst hp; exact stp (fun _ q => XT.lshr X.here hx rfl hd rfl q) k
theorem i_lushr {x : Int64} {y : Int32} (X : Pn p l e R s m args below meth c T h n0 cells slots) (hx : p.tables.exec = Jvm.exec) (hd : decode c.code pc = .ok (.lushr, 1)) (hp : pc + 1 = pc')
    (k : Go p e s below n0 Q R T (mkF m pc' Ls (.long (XT.ushrL x y) :: S))) : Go p e s below n0 Q R T (mkF m pc Ls (.int y :: .long x :: S)) := by subst hp; exact stp (fun _ q => XT.lushr X.here hx rfl hd rfl q) k
theorem i_idiv {x y : Int32} (X : Pn p l e R s m args below meth c T h n0 cells slots) (hx : p.tables.exec = Jvm.exec) (hd : decode c.code pc = .ok (.idiv, 1)) (hp : pc + 1 = pc') (hy : y ≠ 0)
    (k : Go p e s below n0 Q R T (mkF m pc' Ls (.int (x / y) :: S))) : Go p e s below n0 Q R T (mkF m pc Ls (.int y :: .int x :: S)) := by subst hp; exact stp (fun _ q => XS.idiv X.here hx rfl hd rfl hy q) k
theorem i_ldiv {x y : Int64} (X : Pn p l e R s m args below meth c T h n0 cells slots) (hx : p.tables.exec = Jvm.exec) (hd : decode c.code pc = .ok (.ldiv, 1)) (hp : pc + 1 = pc') (hy : y ≠ 0)
    (k : Go p e s below n0 Q R T (mkF m pc' Ls (.long (x / y) :: S))) : Go p e s below n0 Q R T (mkF m pc Ls (.long y :: .long x :: S)) := by subst hp; exact stp (fun _ q => XT.ldiv X.here hx rfl hd rfl hy q) k
theorem i_lrem {x y : Int64} (X : Pn p l e R s m args below meth c T h n0 cells slots) (hx : p.tables.exec = Jvm.exec) (hd : decode c.code pc = .ok (.lrem, 1)) (hp : pc + 1 = pc') (hy : y ≠ 0)
    (k : Go p e s below n0 Q R T (mkF m pc' Ls (.long (x - (x / y) * y) :: S))) : Go p e s below n0 Q R T (mkF m pc Ls (.long y :: .long x :: S)) := by subst hp; exact stp (fun _ q => XT.lrem X.here hx rfl hd rfl hy q) k
theorem i_irem {x y : Int32} (X : Pn p l e R s m args below meth c T h n0 cells slots) (hx : p.tables.exec = Jvm.exec) (hd : decode c.code pc = .ok (.irem, 1)) (hp : pc + 1 = pc') (hy : y ≠ 0)
    (k : Go p e s below n0 Q R T (mkF m pc' Ls (.int (x % y) :: S))) : Go p e s below n0 Q R T (mkF m pc Ls (.int y :: .int x :: S)) := by subst hp; obtain ⟨e0, hn, locs, Y, N⟩ := X; exact stp (fun _ q => iremM Y hx rfl hd rfl hy q) k
theorem i_ineg {x : Int32} (X : Pn p l e R s m args below meth c T h n0 cells slots) (hx : p.tables.exec = Jvm.exec) (hd : decode c.code pc = .ok (.ineg, 1)) (hp : pc + 1 = pc')
    (k : Go p e s below n0 Q R T (mkF m pc' Ls (.int (-x) :: S))) : Go p e s below n0 Q R T (mkF m pc Ls (.int x :: S)) := by subst hp; exact stp (fun _ q => XS.ineg X.here hx rfl hd rfl q) k
theorem i_lneg {x : Int64} (X : Pn p l e R s m args below meth c T h n0 cells slots) (hx : p.tables.exec = Jvm.exec) (hd : decode c.code pc = .ok (.lneg, 1)) (hp : pc + 1 = pc')
    (k : Go p e s below n0 Q R T (mkF m pc' Ls (.long (-x) :: S))) : Go p e s below n0 Q R T (mkF m pc Ls (.long x :: S)) := by subst hp; exact stp (fun _ q => XT.lneg X.here hx rfl hd rfl q) k
theorem i_i2l {x : Int32} (X : Pn p l e R s m args below meth c T h n0 cells slots) (hx : p.tables.exec = Jvm.exec) (hd : decode c.code pc = .ok (.i2l, 1)) (hp : pc + 1 = pc')
    (k : Go p e s below n0 Q R T (mkF m pc' Ls (.long x.toInt64 :: S))) : Go p e s below n0 Q R T (mkF m pc Ls (.int x :: S)) := by subst hp; exact stp (fun _ q => XT.i2l X.here hx rfl hd rfl q) k
theorem i_l2i {x : Int64} (X : Pn p l e R s m args below meth c T h n0 cells slots) (hx : p.tables.exec = Jvm.exec) (hd : decode c.code pc = .ok (.l2i, 1)) (hp : pc + 1 = pc')
    (k : Go p e s below n0 Q R T (mkF m pc' Ls (.int x.toInt32 :: S))) : Go p e s below n0 Q R T (mkF m pc Ls (.long x :: S)) := by subst hp; exact stp (fun _ q => XT.l2i X.here hx rfl hd rfl q) k
theorem i_i2b {x : Int32} (X : Pn p l e R s m args below meth c T h n0 cells slots) (hx : p.tables.exec = Jvm.exec) (hd : decode c.code pc = .ok (.i2b, 1)) (hp : pc + 1 = pc')
    (k : Go p e s below n0 Q R T (mkF m pc' Ls (.int x.toInt8.toInt32 :: S))) : Go p e s below n0 Q R T (mkF m pc Ls (.int x :: S)) := by subst hp; exact stp (fun _ q => XT.i2b X.here hx rfl hd rfl q) k
theorem i_i2c {x : Int32} (X : Pn p l e R s m args below meth c T h n0 cells slots) (hx : p.tables.exec = Jvm.exec) (hd : decode c.code pc = .ok (.i2c, 1)) (hp : pc + 1 = pc')
    (k : Go p e s below n0 Q R T (mkF m pc' Ls (.int x.toUInt32.toUInt16.toUInt32.toInt32 :: S))) : Go p e s below n0 Q R T (mkF m pc Ls (.int x :: S)) := by subst hp; exact stp (fun _ q => XT.i2c X.here hx rfl hd rfl q) k
theorem i_i2s {x : Int32} (X : Pn p l e R s m args below meth c T h n0 cells slots) (hx : p.tables.exec = Jvm.exec) (hd : decode c.code pc = .ok (.i2s, 1)) (hp : pc + 1 = pc')
    (k : Go p e s below n0 Q R T (mkF m pc' Ls (.int x.toInt16.toInt32 :: S))) : Go p e s below n0 Q R T (mkF m pc Ls (.int x :: S)) := by subst hp; exact stp (fun _ q => XT.i2s X.here hx rfl hd rfl q) k
theorem i_lcmp {x y : Int64} (X : Pn p l e R s m args below meth c T h n0 cells slots) (hx : p.tables.exec = Jvm.exec) (hd : decode c.code pc = .ok (.lcmp, 1)) (hp : pc + 1 = pc')
    (k : Go p e s below n0 Q R T (mkF m pc' Ls (.int (XT.cmpL x y) :: S))) : Go p e s below n0 Q R T (mkF m pc Ls (.long y :: .long x :: S)) := by subst hp; exact stp (fun _ q => XT.lcmp X.here hx rfl hd rfl q) k
theorem i_aloadN {k : Fin 4} {v : Value} (X : Pn p l e R s m args below meth c T h n0 cells slots) (hx : p.tables.exec = Jvm.exec) (hd : decode c.code pc = .ok (.aload_n k, 1)) (hp : pc + 1 = pc') (hl : Ls[k.val]? = some (.val v)) (hv : v.isRef = true)
    (k : Go p e s below n0 Q R T (mkF m pc' Ls (v :: S))) : Go p e s below n0 Q R T (mkF m pc Ls S) := by subst hp; exact stp (fun _ q => XS.aloadN X.here hx rfl hd hl hv q) k
theorem i_aload {k : Nat} {v : Value} (X : Pn p l e R s m args below meth c T h n0 cells slots) (hx : p.tables.exec = Jvm.exec) (hd : decode c.code pc = .ok (.aload k, 2)) (hp : pc + 2 = pc') (hl : Ls[k]? = some (.val v)) (hv : v.isRef = true)
    (k : Go p e s below n0 Q R T (mkF m pc' Ls (v :: S))) : Go p e s below n0 Q R T (mkF m pc Ls S) := by subst hp; exact stp (fun _ q => XS.aload X.here hx rfl hd hl hv q) k
theorem i_iloadN {k : Fin 4} {v : Int32} (X : Pn p l e R s m args below meth c T h n0 cells slots) (hx : p.tables.exec = Jvm.exec) (hd : decode c.code pc = .ok (.iload_n k, 1)) (hp : pc + 1 = pc') (hl : Ls[k.val]? = some (.val (.int v)))
    (k : Go p e s below n0 Q R T (mkF m pc' Ls (.int v :: S))) : Go p e s below n0 Q R T (mkF m pc Ls S) := by subst hp; exact stp (fun _ q => XS.iloadN X.here hx rfl hd hl q) k
theorem i_iload {k : Nat} {v : Int32} (X : Pn p l e R s m args below meth c T h n0 cells slots) (hx : p.tables.exec = Jvm.exec) (hd : decode c.code pc = .ok (.iload k, 2)) (hp : pc + 2 = pc') (hl : Ls[k]? = some (.val (.int v)))
    (k : Go p e s below n0 Q R T (mkF m pc' Ls (.int v :: S))) : Go p e s below n0 Q R T (mkF m pc Ls S) := by subst hp; exact stp (fun _ q => XS.iload X.here hx rfl hd hl q) k
theorem i_lloadN {k : Fin 4} {v : Int64} (X : Pn p l e R s m args below meth c T h n0 cells slots) (hx : p.tables.exec = Jvm.exec) (hd : decode c.code pc = .ok (.lload_n k, 1)) (hp : pc + 1 = pc') (hl : Ls[k.val]? = some (.val (.long v)))
    (k : Go p e s below n0 Q R T (mkF m pc' Ls (.long v :: S))) : Go p e s below n0 Q R T (mkF m pc Ls S) := by subst hp; exact stp (fun _ q => XT.lloadN X.here hx rfl hd hl q) k
theorem i_lload {k : Nat} {v : Int64} (X : Pn p l e R s m args below meth c T h n0 cells slots) (hx : p.tables.exec = Jvm.exec) (hd : decode c.code pc = .ok (.lload k, 2)) (hp : pc + 2 = pc') (hl : Ls[k]? = some (.val (.long v)))
    (k : Go p e s below n0 Q R T (mkF m pc' Ls (.long v :: S))) : Go p e s below n0 Q R T (mkF m pc Ls S) := by subst hp; exact stp (fun _ q => XT.lload X.here hx rfl hd hl q) k
theorem i_istoreN {k : Fin 4} {x : Int32} {L' : Array Slot} (X : Pn p l e R s m args below meth c T h n0 cells slots) (hx : p.tables.exec = Jvm.exec) (hd : decode c.code pc = .ok (.istore_n k, 1)) (hp : pc + 1 = pc') (hl : storeLocals Ls k.val (.int x) = some L')
    (k : Go p e s below n0 Q R T (mkF m pc' L' S)) : Go p e s below n0 Q R T (mkF m pc Ls (.int x :: S)) := by subst hp; exact stp (fun _ q => XS.istoreN X.here hx rfl hd rfl hl q) k
theorem i_istore {k : Nat} {x : Int32} {L' : Array Slot} (X : Pn p l e R s m args below meth c T h n0 cells slots) (hx : p.tables.exec = Jvm.exec) (hd : decode c.code pc = .ok (.istore k, 2)) (hp : pc + 2 = pc') (hl : storeLocals Ls k (.int x) = some L')
    (k : Go p e s below n0 Q R T (mkF m pc' L' S)) : Go p e s below n0 Q R T (mkF m pc Ls (.int x :: S)) := by subst hp; exact stp (fun _ q => XS.istore X.here hx rfl hd rfl hl q) k
theorem i_lstoreN {k : Fin 4} {x : Int64} {L' : Array Slot} (X : Pn p l e R s m args below meth c T h n0 cells slots) (hx : p.tables.exec = Jvm.exec) (hd : decode c.code pc = .ok (.lstore_n k, 1)) (hp : pc + 1 = pc') (hl : storeLocals Ls k.val (.long x) = some L')
    (k : Go p e s below n0 Q R T (mkF m pc' L' S)) : Go p e s below n0 Q R T (mkF m pc Ls (.long x :: S)) := by subst hp; exact stp (fun _ q => XT.lstoreN X.here hx rfl hd rfl hl q) k
theorem i_lstore {k : Nat} {x : Int64} {L' : Array Slot} (X : Pn p l e R s m args below meth c T h n0 cells slots) (hx : p.tables.exec = Jvm.exec) (hd : decode c.code pc = .ok (.lstore k, 2)) (hp : pc + 2 = pc') (hl : storeLocals Ls k (.long x) = some L')
    (k : Go p e s below n0 Q R T (mkF m pc' L' S)) : Go p e s below n0 Q R T (mkF m pc Ls (.long x :: S)) := by subst hp; exact stp (fun _ q => XT.lstore X.here hx rfl hd rfl hl q) k
theorem i_astoreN {k : Fin 4} {x : Value} {L' : Array Slot} (X : Pn p l e R s m args below meth c T h n0 cells slots) (hx : p.tables.exec = Jvm.exec) (hd : decode c.code pc = .ok (.astore_n k, 1)) (hp : pc + 1 = pc') (hv : x.isRef = true) (hl : storeLocals Ls k.val x = some L')
    (k : Go p e s below n0 Q R T (mkF m pc' L' S)) : Go p e s below n0 Q R T (mkF m pc Ls (x :: S)) := by subst hp; exact stp (fun _ q => XS.astoreN X.here hx rfl hd rfl hv hl q) k
theorem i_astore {k : Nat} {x : Value} {L' : Array Slot} (X : Pn p l e R s m args below meth c T h n0 cells slots) (hx : p.tables.exec = Jvm.exec) (hd : decode c.code pc = .ok (.astore k, 2)) (hp : pc + 2 = pc') (hv : x.isRef = true) (hl : storeLocals Ls k x = some L')
    (k : Go p e s below n0 Q R T (mkF m pc' L' S)) : Go p e s below n0 Q R T (mkF m pc Ls (x :: S)) := by subst hp; exact stp (fun _ q => XS.astore X.here hx rfl hd rfl hv hl q) k
theorem i_iconst {i : Int} (v : Int32) (X : Pn p l e R s m args below meth c T h n0 cells slots) (hx : p.tables.exec = Jvm.exec) (hd : decode c.code pc = .ok (.iconst i, 1)) (hp : pc + 1 = pc') (hv : Int32.ofInt i = v)
    (k : Go p e s below n0 Q R T (mkF m pc' Ls (.int v :: S))) : Go p e s below n0 Q R T (mkF m pc Ls S) := by subst hp; exact stp (fun _ q => XT.iconstV X.here hx rfl v hd hv q) k
theorem i_bipush {i : Int} (v : Int32) (X : Pn p l e R s m args below meth c T h n0 cells slots) (hx : p.tables.exec = Jvm.exec) (hd : decode c.code pc = .ok (.bipush i, 2)) (hp : pc + 2 = pc') (hv : (Int8.ofInt i).toInt32 = v)
    (k : Go p e s below n0 Q R T (mkF m pc' Ls (.int v :: S))) : Go p e s below n0 Q R T (mkF m pc Ls S) := by subst hp; exact stp (fun _ q => XT.bipushV X.here hx rfl v hd hv q) k
theorem i_sipush {i : Int} (v : Int32) (X : Pn p l e R s m args below meth c T h n0 cells slots) (hx : p.tables.exec = Jvm.exec) (hd : decode c.code pc = .ok (.sipush i, 3)) (hp : pc + 3 = pc') (hv : (Int16.ofInt i).toInt32 = v)
    (k : Go p e s below n0 Q R T (mkF m pc' Ls (.int v :: S))) : Go p e s below n0 Q R T (mkF m pc Ls S) := by subst hp; exact stp (fun _ q => XT.sipushV X.here hx rfl v hd hv q) k
theorem i_lconst {i : Fin 2} (v : Int64) (X : Pn p l e R s m args below meth c T h n0 cells slots) (hx : p.tables.exec = Jvm.exec) (hd : decode c.code pc = .ok (.lconst i, 1)) (hp : pc + 1 = pc') (hv : Int64.ofNat i = v)
    (k : Go p e s below n0 Q R T (mkF m pc' Ls (.long v :: S))) : Go p e s below n0 Q R T (mkF m pc Ls S) := by subst hp; exact stp (fun _ q => XT.lconstV X.here hx rfl v hd hv q) k
theorem i_aconstNull (X : Pn p l e R s m args below meth c T h n0 cells slots) (hx : p.tables.exec = Jvm.exec) (hd : decode c.code pc = .ok (.aconst_null, 1)) (hp : pc + 1 = pc')
    (k : Go p e s below n0 Q R T (mkF m pc' Ls (.null :: S))) : Go p e s below n0 Q R T (mkF m pc Ls S) := by subst hp; exact stp (fun _ q => XS.aconstNull X.here hx rfl hd q) k
theorem i_iinc {i : Nat} {cst : Int} {x : Int32} {L' : Array Slot} (v : Int32) (X : Pn p l e R s m args below meth c T h n0 cells slots) (hx : p.tables.exec = Jvm.exec) (hd : decode c.code pc = .ok (.iinc i cst, 3)) (hp : pc + 3 = pc') (hv : Int32.ofInt cst = v) (hl : Ls[i]? = some (.val (.int x))) (hl' : storeLocals Ls i (.int (x + v)) = some L')
    (k : Go p e s below n0 Q R T (mkF m pc' L' S)) : Go p e s below n0 Q R T (mkF m pc Ls S) := by subst hp; exact stp (fun _ q => XT.iincV X.here hx rfl v hd hv hl hl' q) k
theorem i_ldc {own : String} {i : Nat} (v : Int32) (X : Pn p l e R s m args below meth c T h n0 cells slots) (hx : p.tables.exec = Jvm.exec) (hZ : Z.Warmed39 s.vm) (hown : s.vm.findClass own = some m.cls) (w : (Cond.constant own i v).before a0 Z = true) (hd : decode c.code pc = .ok (.ldc i, 2)) (hp : pc + 2 = pc')
    (k : Go p e s below n0 Q R T (mkF m pc' Ls (.int v :: S))) : Go p e s below n0 Q R T (mkF m pc Ls S) := by subst hp; obtain ⟨e0, hn, locs, Y, N⟩ := X; exact stp (fun _ q => Y.ldcI hx hown (mv hZ w) (g := mkF m pc Ls S) rfl hd q) k
theorem i_ldcW {own : String} {i : Nat} (v : Int32) (X : Pn p l e R s m args below meth c T h n0 cells slots) (hx : p.tables.exec = Jvm.exec) (hZ : Z.Warmed39 s.vm) (hown : s.vm.findClass own = some m.cls) (w : (Cond.constant own i v).before a0 Z = true) (hd : decode c.code pc = .ok (.ldc_w i, 3)) (hp : pc + 3 = pc')
    (k : Go p e s below n0 Q R T (mkF m pc' Ls (.int v :: S))) : Go p e s below n0 Q R T (mkF m pc Ls S) := by subst hp; obtain ⟨e0, hn, locs, Y, N⟩ := X; exact stp (fun _ q => Y.ldcWI hx hown (mv hZ w) (g := mkF m pc Ls S) rfl hd q) k
theorem i_ldc2 {own : String} {i : Nat} (v : Int64) (X : Pn p l e R s m args below meth c T h n0 cells slots) (hx : p.tables.exec = Jvm.exec) (hZ : Z.Warmed39 s.vm) (hown : s.vm.findClass own = some m.cls) (w : (Cond.constantLong own i v).before a0 Z = true) (hd : decode c.code pc = .ok (.ldc2_w i, 3)) (hp : pc + 3 = pc')
    (k : Go p e s below n0 Q R T (mkF m pc' Ls (.long v :: S))) : Go p e s below n0 Q R T (mkF m pc Ls S) := by subst hp; obtain ⟨e0, hn, locs, Y, N⟩ := X; exact stp (fun _ q => Y.ldc2J hx hown (mv hZ w) (g := mkF m pc Ls S) rfl hd q) k
theorem i_dup {x : Value} (X : Pn p l e R s m args below meth c T h n0 cells slots) (hx : p.tables.exec = Jvm.exec) (hd : decode c.code pc = .ok (.dup, 1)) (hp : pc + 1 = pc') (hc : x.category = 1)
    (k : Go p e s below n0 Q R T (mkF m pc' Ls (x :: x :: S))) : Go p e s below n0 Q R T (mkF m pc Ls (x :: S)) := by subst hp; exact stp (fun _ q => XS.dup X.here hx rfl hd rfl hc q) k
theorem i_pop {x : Value} (X : Pn p l e R s m args below meth c T h n0 cells slots) (hx : p.tables.exec = Jvm.exec) (hd : decode c.code pc = .ok (.pop, 1)) (hp : pc + 1 = pc') (hc : x.category = 1)
    (k : Go p e s below n0 Q R T (mkF m pc' Ls S)) : Go p e s below n0 Q R T (mkF m pc Ls (x :: S)) := by subst hp; exact stp (fun _ q => XT.pop X.here hx rfl hd rfl hc q) k
theorem i_dupX1 {x y : Value} (X : Pn p l e R s m args below meth c T h n0 cells slots) (hx : p.tables.exec = Jvm.exec) (hd : decode c.code pc = .ok (.dup_x1, 1)) (hp : pc + 1 = pc') (hc : x.category = 1) (hc' : y.category = 1)
    (k : Go p e s below n0 Q R T (mkF m pc' Ls (x :: y :: x :: S))) : Go p e s below n0 Q R T (mkF m pc Ls (x :: y :: S)) := by subst hp; exact stp (fun _ q => XT.dupX1 X.here hx rfl hd rfl hc hc' q) k
theorem i_dup2 {x y : Value} (X : Pn p l e R s m args below meth c T h n0 cells slots) (hx : p.tables.exec = Jvm.exec) (hd : decode c.code pc = .ok (.dup2, 1)) (hp : pc + 1 = pc') (hc : x.category = 1) (hc' : y.category = 1)
    (k : Go p e s below n0 Q R T (mkF m pc' Ls (x :: y :: x :: y :: S))) : Go p e s below n0 Q R T (mkF m pc Ls (x :: y :: S)) := by subst hp; exact stp (fun _ q => XT.dup2 X.here hx rfl hd rfl hc hc' q) k
theorem i_dup2L {x : Int64} (X : Pn p l e R s m args below meth c T h n0 cells slots) (hx : p.tables.exec = Jvm.exec) (hd : decode c.code pc = .ok (.dup2, 1)) (hp : pc + 1 = pc')
    (k : Go p e s below n0 Q R T (mkF m pc' Ls (.long x :: .long x :: S))) : Go p e s below n0 Q R T (mkF m pc Ls (.long x :: S)) := by subst hp; exact stp (fun _ q => XT.dup2L X.here hx rfl hd rfl q) k
theorem i_goto {o : Int} (X : Pn p l e R s m args below meth c T h n0 cells slots) (hx : p.tables.exec = Jvm.exec) (hd : decode c.code pc = .ok (.goto o, 3)) (ho : 0 ≤ (pc : Int) + o) (hp : ((pc : Int) + o).toNat = pc')
    (k : Go p e s below n0 Q R T (mkF m pc' Ls S)) : Go p e s below n0 Q R T (mkF m pc Ls S) := stp (fun _ q => XS.goto X.here hx rfl rfl hd ho hp q) k
theorem i_ifT {cd : ClassFile.Cond} {o : Int} {x : Int32} (X : Pn p l e R s m args below meth c T h n0 cells slots) (hx : p.tables.exec = Jvm.exec) (hd : decode c.code pc = .ok (.ifCond cd o, 3)) (hc : ifCond.holds cd x = true) (ho : 0 ≤ (pc : Int) + o) (hp : ((pc : Int) + o).toNat = pc')
    (k : Go p e s below n0 Q R T (mkF m pc' Ls S)) : Go p e s below n0 Q R T (mkF m pc Ls (.int x :: S)) := stp (fun _ q => XS.ifYes X.here hx rfl rfl hd rfl hc ho hp q) k
theorem i_ifF {cd : ClassFile.Cond} {o : Int} {x : Int32} (X : Pn p l e R s m args below meth c T h n0 cells slots) (hx : p.tables.exec = Jvm.exec) (hd : decode c.code pc = .ok (.ifCond cd o, 3)) (hp : pc + 3 = pc') (hc : ifCond.holds cd x = false)
    (k : Go p e s below n0 Q R T (mkF m pc' Ls S)) : Go p e s below n0 Q R T (mkF m pc Ls (.int x :: S)) := by subst hp; exact stp (fun _ q => XS.ifNo X.here hx rfl hd rfl hc q) k
theorem i_icT {cd : ClassFile.Cond} {o : Int} {x y : Int32} (X : Pn p l e R s m args below meth c T h n0 cells slots) (hx : p.tables.exec = Jvm.exec) (hd : decode c.code pc = .ok (.if_icmp cd o, 3)) (hc : if_icmp.holds cd x y = true) (ho : 0 ≤ (pc : Int) + o) (hp : ((pc : Int) + o).toNat = pc')
    (k : Go p e s below n0 Q R T (mkF m pc' Ls S)) : Go p e s below n0 Q R T (mkF m pc Ls (.int y :: .int x :: S)) := stp (fun _ q => XS.icmpYes X.here hx rfl rfl hd rfl hc ho hp q) k
theorem i_icF {cd : ClassFile.Cond} {o : Int} {x y : Int32} (X : Pn p l e R s m args below meth c T h n0 cells slots) (hx : p.tables.exec = Jvm.exec) (hd : decode c.code pc = .ok (.if_icmp cd o, 3)) (hp : pc + 3 = pc') (hc : if_icmp.holds cd x y = false)
    (k : Go p e s below n0 Q R T (mkF m pc' Ls S)) : Go p e s below n0 Q R T (mkF m pc Ls (.int y :: .int x :: S)) := by subst hp; exact stp (fun _ q => XS.icmpNo X.here hx rfl hd rfl hc q) k
theorem i_acT {cd : ClassFile.ACond} {o : Int} {x y : Value} (X : Pn p l e R s m args below meth c T h n0 cells slots) (hx : p.tables.exec = Jvm.exec) (hd : decode c.code pc = .ok (.if_acmp cd o, 3)) (hx' : x.isRef = true) (hy' : y.isRef = true) (hc : XT.acmp cd x y = true) (ho : 0 ≤ (pc : Int) + o) (hp : ((pc : Int) + o).toNat = pc')
    (k : Go p e s below n0 Q R T (mkF m pc' Ls S)) : Go p e s below n0 Q R T (mkF m pc Ls (y :: x :: S)) := stp (fun _ q => XT.acmpYes X.here hx rfl rfl hd rfl hx' hy' hc ho hp q) k
theorem i_acF {cd : ClassFile.ACond} {o : Int} {x y : Value} (X : Pn p l e R s m args below meth c T h n0 cells slots) (hx : p.tables.exec = Jvm.exec) (hd : decode c.code pc = .ok (.if_acmp cd o, 3)) (hp : pc + 3 = pc') (hx' : x.isRef = true) (hy' : y.isRef = true) (hc : XT.acmp cd x y = false)
    (k : Go p e s below n0 Q R T (mkF m pc' Ls S)) : Go p e s below n0 Q R T (mkF m pc Ls (y :: x :: S)) := by subst hp; exact stp (fun _ q => XT.acmpNo X.here hx rfl hd rfl hx' hy' hc q) k
theorem i_nuT {o : Int} {x : Value} (X : Pn p l e R s m args below meth c T h n0 cells slots) (hx : p.tables.exec = Jvm.exec) (hd : decode c.code pc = .ok (.ifnull o, 3)) (hv : x = .null) (ho : 0 ≤ (pc : Int) + o) (hp : ((pc : Int) + o).toNat = pc')
    (k : Go p e s below n0 Q R T (mkF m pc' Ls S)) : Go p e s below n0 Q R T (mkF m pc Ls (x :: S)) := stp (fun _ q => XT.nullYes X.here hx rfl rfl hd rfl hv ho hp q) k
theorem i_nuF {o : Int} {x : Value} (X : Pn p l e R s m args below meth c T h n0 cells slots) (hx : p.tables.exec = Jvm.exec) (hd : decode c.code pc = .ok (.ifnull o, 3)) (hp : pc + 3 = pc') (hr : x.isRef = true) (hv : ¬ x = .null)
    (k : Go p e s below n0 Q R T (mkF m pc' Ls S)) : Go p e s below n0 Q R T (mkF m pc Ls (x :: S)) := by subst hp; exact stp (fun _ q => XT.nullNo X.here hx rfl hd rfl hr hv q) k
theorem i_nnT {o : Int} {x : Value} (X : Pn p l e R s m args below meth c T h n0 cells slots) (hx : p.tables.exec = Jvm.exec) (hd : decode c.code pc = .ok (.ifnonnull o, 3)) (hr : x.isRef = true) (hv : ¬ x = .null) (ho : 0 ≤ (pc : Int) + o) (hp : ((pc : Int) + o).toNat = pc')
    (k : Go p e s below n0 Q R T (mkF m pc' Ls S)) : Go p e s below n0 Q R T (mkF m pc Ls (x :: S)) := stp (fun _ q => XT.nonnullYes X.here hx rfl rfl hd rfl hr hv ho hp q) k
theorem i_nnF {o : Int} {x : Value} (X : Pn p l e R s m args below meth c T h n0 cells slots) (hx : p.tables.exec = Jvm.exec) (hd : decode c.code pc = .ok (.ifnonnull o, 3)) (hp : pc + 3 = pc') (hv : x = .null)
    (k : Go p e s below n0 Q R T (mkF m pc' Ls S)) : Go p e s below n0 Q R T (mkF m pc Ls (x :: S)) := by subst hp; exact stp (fun _ q => XT.nonnullNo X.here hx rfl hd rfl hv q) k
theorem i_tsI {dflt low high : Int} {offs : Array Int} {ln : Nat} {o : Int} {x : Int32} (X : Pn p l e R s m args below meth c T h n0 cells slots) (hx : p.tables.exec = Jvm.exec) (hd : decode c.code pc = .ok (.tableswitch dflt low high offs, ln)) (hin : ¬ (x.toInt < low ∨ x.toInt > high)) (hoff : offs[(x.toInt - low).toNat]? = some o) (ho : 0 ≤ (pc : Int) + o) (hp : ((pc : Int) + o).toNat = pc')
    (k : Go p e s below n0 Q R T (mkF m pc' Ls S)) : Go p e s below n0 Q R T (mkF m pc Ls (.int x :: S)) := stp (fun _ q => XS.tswIn X.here hx rfl rfl hd rfl hin hoff ho hp q) k
theorem i_tsO {dflt low high : Int} {offs : Array Int} {ln : Nat} {x : Int32} (X : Pn p l e R s m args below meth c T h n0 cells slots) (hx : p.tables.exec = Jvm.exec) (hd : decode c.code pc = .ok (.tableswitch dflt low high offs, ln)) (hout : x.toInt < low ∨ x.toInt > high) (ho : 0 ≤ (pc : Int) + dflt) (hp : ((pc : Int) + dflt).toNat = pc')
    (k : Go p e s below n0 Q R T (mkF m pc' Ls S)) : Go p e s below n0 Q R T (mkF m pc Ls (.int x :: S)) := stp (fun _ q => XS.tswOut X.here hx rfl rfl hd rfl hout ho hp q) k
theorem own_irr (x : Int32) : ¬ x < x := Int32.lt_irrefl
theorem own_nar {t : FieldType} {w : Value} (h : w.isRef = true) : narrow t w = w := by rcases XT.refc h with rfl | ⟨_, rfl⟩ <;> cases t <;> rfl
theorem own_fitO {C : String} {w : Value} (h : w.isRef = true) : fits (.object C) w = true := by rcases XT.refc h with rfl | ⟨_, rfl⟩ <;> rfl
theorem own_fitA {t : FieldType} {w : Value} (h : w.isRef = true) : fits (.array t) w = true := by rcases XT.refc h with rfl | ⟨_, rfl⟩ <;> rfl
theorem own_sta_keep {h' : Heap} {ws : List Addr} {C n d : String} {v : Value} (F : Sta Z h C n d v) (K : Keep h h' ws) (q : ∀ (a : Addr) (cl : Cell), a ∈ ws → h[a]? = some cl → cl.vm.isStatics = false) : Sta Z h' C n d v := by
  obtain ⟨cf, i, k, f, st, cell, h1, h2, h3, h4, h5, h6, h7⟩ := F
  refine ⟨cf, i, k, f, st, cell, h1, h2, h3, h4, K.2.1 st cell h5 (fun hm => ?_), h6, h7⟩
  rw [q st cell hm h5] at h6; cases h6
theorem own_sw3 {x : Int32} (h0 : ¬ x = (0 : Int32)) (h1 : ¬ x = (1 : Int32)) (h2 : ¬ x = (2 : Int32)) : x.toInt < 0 ∨ x.toInt > 2 := by
  have a : ¬ x.toInt = 0 := fun q => h0 (Int32.toInt_inj.mp q)
  have b : ¬ x.toInt = 1 := fun q => h1 (Int32.toInt_inj.mp q)
  have c : ¬ x.toInt = 2 := fun q => h2 (Int32.toInt_inj.mp q)
  omega
def Two (a b : Slot) : Prop := (a = .unset ∧ b = .unset) ∨ ∃ z, a = .val (.long z) ∧ b = .second
theorem Two.u : Two .unset .unset := Or.inl ⟨rfl, rfl⟩
theorem Two.v (z : Int64) : Two (.val (.long z)) .second := Or.inr ⟨z, rfl, rfl⟩
theorem own_nar1 : nar .boolean 1 = 1 := by decide
theorem own_nar0 : nar .boolean 0 = 0 := by decide
end Own
end Jvm.OwnKit
namespace Jvm.Pilot.@@N@@
open Jvm Jvm.ClassFile Sem Op Lib Jvm.Free Jvm.Stand Jvm.LawKit Jvm.RoadKit Jvm.OwnKit Bundle Jvm.Pilot.@@N@@.Jvm.D
theorem own_lt (x y : Int32) : x < y ↔ x.toInt < y.toInt := Int32.lt_iff_toInt_lt
theorem own_z : (0 : Int32).toInt = 0 := by decide
theorem own_nat {j : Int32} (q : 0 ≤ j.toInt) : (j.toNatClampNeg : Int) = j.toInt := (nat_of (by rw [own_lt, own_z]; omega)).symm
def own_max (x y : Int32) : Int32 := if x < y then y else x
def own_zero : Nat → Int32 := fun _ => 0
def own_up (g : Nat → Int32) (k : Nat) (x : Int32) : Nat → Int32 := fun i => if i = k then x else g i
def own_k (x : Int32) (N : Nat) : Nat := (x &&& (Nat.toInt32 N - (1 : Int32))).toNatClampNeg
def own_slots (pl : Int32) : Int32 := if (1 : Int32) < pl then (if (2 : Int32) < pl then (if (4 : Int32) < pl then (if (8 : Int32) < pl then (if (16 : Int32) < pl then (if (32 : Int32) < pl then (64 : Int32) else (32 : Int32)) else (16 : Int32)) else (8 : Int32)) else (4 : Int32)) else (2 : Int32)) else (1 : Int32)
def own_p2 (N : Nat) : Prop := N = 1 ∨ N = 2 ∨ N = 4 ∨ N = 8 ∨ N = 16 ∨ N = 32 ∨ N = 64
def own_N (pl : Int32) : Nat := (own_slots pl).toNatClampNeg
theorem own_s7 (pl : Int32) : own_slots pl = 1 ∨ own_slots pl = 2 ∨ own_slots pl = 4 ∨ own_slots pl = 8 ∨ own_slots pl = 16 ∨ own_slots pl = 32 ∨ own_slots pl = 64 := by
  unfold own_slots; repeat' split
  all_goals simp
theorem own_Np (pl : Int32) : own_p2 (own_N pl) := by
  unfold own_N own_p2
  rcases own_s7 pl with h | h | h | h | h | h | h <;> rw [h] <;> decide
theorem own_Ns (pl : Int32) : Nat.toInt32 (own_N pl) = own_slots pl := by
  unfold own_N
  rcases own_s7 pl with h | h | h | h | h | h | h <;> rw [h] <;> decide
theorem own_sneg (pl : Int32) : ¬ own_slots pl < 0 ∧ (own_slots pl).toNatClampNeg ≤ 64 := by
  rcases own_s7 pl with h | h | h | h | h | h | h <;> rw [h] <;> decide
theorem own_sneg8 {pl : Int32} (h : ¬ (8 : Int32) < pl) : (own_slots pl).toNatClampNeg ≤ 8 := by
  unfold own_slots; rw [if_neg h]; repeat' split
  all_goals decide
theorem own_idx {N : Nat} (hN : own_p2 N) (x : Int32) : ¬ (x &&& (Nat.toInt32 N - (1 : Int32))) < 0 ∧ (x &&& (Nat.toInt32 N - (1 : Int32))).toNatClampNeg < N ∧ (own_k x N : Int) = x.toInt % (N : Int) := by
  have key : ∀ (k : Nat), k ≤ 31 → N = 2 ^ k → (Nat.toInt32 N - (1 : Int32)).toBitVec.toNat = 2 ^ k - 1 → ¬ (x &&& (Nat.toInt32 N - (1 : Int32))) < 0 ∧ (x &&& (Nat.toInt32 N - (1 : Int32))).toNatClampNeg < N ∧ (own_k x N : Int) = x.toInt % (N : Int) := by
    intro k hk e hm
    have a := c_mask x (Nat.toInt32 N - (1 : Int32)) k hk hm
    rw [← e] at a
    have pos : (0 : Int) < (N : Int) := by rw [e]; exact_mod_cast Nat.two_pow_pos k
    have b := Int.emod_nonneg x.toInt (show (N : Int) ≠ 0 by omega)
    have c := Int.emod_lt_of_pos x.toInt pos
    have d := own_nat (j := x &&& (Nat.toInt32 N - (1 : Int32))) (by omega)
    refine ⟨by rw [own_lt, own_z]; omega, by omega, ?_⟩
    unfold own_k; omega
  rcases hN with rfl | rfl | rfl | rfl | rfl | rfl | rfl
  · exact key 0 (by decide) (by decide) (by decide)
  · exact key 1 (by decide) (by decide) (by decide)
  · exact key 2 (by decide) (by decide) (by decide)
  · exact key 3 (by decide) (by decide) (by decide)
  · exact key 4 (by decide) (by decide) (by decide)
  · exact key 5 (by decide) (by decide) (by decide)
  · exact key 6 (by decide) (by decide) (by decide)
theorem own_st {Z : State} {h h' : Heap} {a : Addr} {n : Nat} {g : Nat → Int32} {j x : Int32} (A : Av Z h a .int n (fun i => .int (g i))) (W : Wr h h' a j.toNatClampNeg (.int x)) : Av Z h' a .int n (fun i => .int (own_up g j.toNatClampNeg x i)) :=
  (A.same W).congr fun i _ => by unfold own_up; split <;> rfl
def own_lea (fe fl : Nat → Int32) (N : Nat) (w q : Int32) : Int32 := if w < q then (0 : Int32) else if fe (own_k q N) = q then fl (own_k q N) else (0 : Int32)
theorem d7_0 : decode jdk_29_method_65_code 0 = .ok (.iload_n 0, 1) := by decide +kernel
theorem d7_1 : decode jdk_29_method_65_code 1 = .ok (.iload_n 1, 1) := by decide +kernel
theorem d7_2 : decode jdk_29_method_65_code 2 = .ok (.if_icmp .lt 7, 3) := by decide +kernel
theorem d7_5 : decode jdk_29_method_65_code 5 = .ok (.iload_n 0, 1) := by decide +kernel
theorem d7_6 : decode jdk_29_method_65_code 6 = .ok (.goto 4, 3) := by decide +kernel
theorem d7_9 : decode jdk_29_method_65_code 9 = .ok (.iload_n 1, 1) := by decide +kernel
theorem d7_10 : decode jdk_29_method_65_code 10 = .ok (.ireturn, 1) := by decide +kernel
theorem ef_rmMax (m : MethodId) (x : Int32) (y : Int32) : entryFrame m #[(.int x), (.int y)] 2 = mkF m 0 #[.val (.int x), .val (.int y)] [] := by first | (simp [entryFrame, mkF, argsToLocals, Value.category, maxLocals]; done) | rfl
def QrmMax (Z : State) (x : Int32) (y : Int32) (n0 : Nat) (h0 : Heap) (rv : Option Value) (h : Heap) : Prop := rv = some (.int (own_max x y)) ∧ h0 = h
abbrev RrmMax : Room := { frames := 0, cells := 0, slots := 0, locals := 0 }
set_option maxRecDepth 65536 in
set_option maxHeartbeats 40000000 in
theorem rmMax (l : Launch) (Z : State) (a0 : Array Value) (hw : ∀ d ∈ tables_1, d.before a0 Z = true) (ws : List Jvm.Cond) (x : Int32) (y : Int32) (n0 : Nat) (h0 : Heap) (hn : n0 ≤ h0.size)   :
    Con l Z (⟨"java/lang/Math", "max", "(II)I"⟩ : MethodName) jdk_29_method_65_code 2 (some .int) ws RrmMax #[(.int x), (.int y)] h0 n0 (QrmMax Z x y n0 h0) := by
  refine body (y := (⟨"java/lang/Math", "max", "(II)I"⟩ : MethodName)) (Ls := #[.val (.int x), .val (.int y)]) (by first | exact Jvm.Free.JP.mathPlain rfl (by decide) | decide +kernel) hn (fun m => ef_rmMax m x y) ?_
  intro p e s m below meth c T0 hx hby hml hown hnm hret hlk hZ X0
  refine i_iloadN (v := x) (pc' := 1) X0 hx (hb hby d7_0) rfl rfl ?_
  refine i_iloadN (v := y) (pc' := 2) X0 hx (hb hby d7_1) rfl rfl ?_
  by_cases hc1 : x < y
  · skip
    refine i_icT (pc' := 9) X0 hx (hb hby d7_2) (XT.ii_lt_t hc1) (by decide) (by decide) ?_
    refine i_iloadN (v := y) (pc' := 10) X0 hx (hb hby d7_9) rfl rfl ?_
    refine rI X0 hx hlk hret (hb hby d7_10) (by decide) (by decide) ?_
    exact ⟨(by simp [own_max, hc1]), rfl⟩
  · skip
    refine i_icF (pc' := 5) X0 hx (hb hby d7_2) rfl (XT.ii_lt_f hc1) ?_
    refine i_iloadN (v := x) (pc' := 6) X0 hx (hb hby d7_5) rfl rfl ?_
    refine i_goto (pc' := 10) X0 hx (hb hby d7_6) (by decide) (by decide) ?_
    refine rI X0 hx hlk hret (hb hby d7_10) (by decide) (by decide) ?_
    exact ⟨(by simp [own_max, hc1]), rfl⟩
theorem d2_0 : decode prog_18_method_1_code 0 = .ok (.aload_n 0, 1) := by decide +kernel
theorem d2_1 : decode prog_18_method_1_code 1 = .ok (.invokespecial 1, 3) := by decide +kernel
theorem d2_4 : decode prog_18_method_1_code 4 = .ok (.aload_n 0, 1) := by decide +kernel
theorem d2_5 : decode prog_18_method_1_code 5 = .ok (.iconst (-1), 1) := by decide +kernel
theorem d2_6 : decode prog_18_method_1_code 6 = .ok (.putfield 7, 3) := by decide +kernel
theorem d2_9 : decode prog_18_method_1_code 9 = .ok (.aload_n 0, 1) := by decide +kernel
theorem d2_10 : decode prog_18_method_1_code 10 = .ok (.iload_n 1, 1) := by decide +kernel
theorem d2_11 : decode prog_18_method_1_code 11 = .ok (.putfield 13, 3) := by decide +kernel
theorem d2_14 : decode prog_18_method_1_code 14 = .ok (.return_, 1) := by decide +kernel
theorem pn0 : plainName "com/example/shoal_creek/shoalcreek/MatchedSuffixes" = true := by first | (simp [plainName, overriddenIn]; done) | decide +kernel
theorem ef_rmNew (m : MethodId) (o : Addr) (x : Int32) : entryFrame m #[(.ref o), (.int x)] 2 = mkF m 0 #[.val (.ref o), .val (.int x)] [] := by first | (simp [entryFrame, mkF, argsToLocals, Value.category, maxLocals]; done) | rfl
def QrmNew (Z : State) (o : Addr) (x : Int32) (n0 : Nat) (h0 : Heap) (rv : Option Value) (h : Heap) : Prop := rv = none ∧ Keep h0 h [o] ∧ Fld Z h o "com/example/shoal_creek/shoalcreek/MatchedSuffixes" "newestEnd" "I" (.int (-1 : Int32)) ∧ Fld Z h o "com/example/shoal_creek/shoalcreek/MatchedSuffixes" "patternLength" "I" (.int x) ∧ Fld Z h o "com/example/shoal_creek/shoalcreek/MatchedSuffixes" "ends" "[I" .null ∧ Fld Z h o "com/example/shoal_creek/shoalcreek/MatchedSuffixes" "lengths" "[I" .null ∧ Fld Z h o "com/example/shoal_creek/shoalcreek/MatchedSuffixes" "differings" "[I" .null ∧ Fld Z h o "com/example/shoal_creek/shoalcreek/MatchedSuffixes" "differing" "C" (.int (0 : Int32))
abbrev RrmNew : Room := { frames := 1, cells := 0, slots := 0, locals := 12 }
set_option maxRecDepth 65536 in
set_option maxHeartbeats 40000000 in
theorem rmNew (l : Launch) (Z : State) (a0 : Array Value) (hw : ∀ d ∈ tables_1, d.before a0 Z = true) (ws : List Jvm.Cond) (o : Addr) (x : Int32) (n0 : Nat) (h0 : Heap) (hn : n0 ≤ h0.size) (H0 : Exa Z h0 o "com/example/shoal_creek/shoalcreek/MatchedSuffixes") (H1 : Fld Z h0 o "com/example/shoal_creek/shoalcreek/MatchedSuffixes" "newestEnd" "I" (.int (0 : Int32))) (H2 : Fld Z h0 o "com/example/shoal_creek/shoalcreek/MatchedSuffixes" "patternLength" "I" (.int (0 : Int32))) (H3 : Fld Z h0 o "com/example/shoal_creek/shoalcreek/MatchedSuffixes" "ends" "[I" .null) (H4 : Fld Z h0 o "com/example/shoal_creek/shoalcreek/MatchedSuffixes" "lengths" "[I" .null) (H5 : Fld Z h0 o "com/example/shoal_creek/shoalcreek/MatchedSuffixes" "differings" "[I" .null) (H6 : Fld Z h0 o "com/example/shoal_creek/shoalcreek/MatchedSuffixes" "differing" "C" (.int (0 : Int32))) (H7 : n0 ≤ o)  :
    Con l Z (⟨"com/example/shoal_creek/shoalcreek/MatchedSuffixes", "<init>", "(I)V"⟩ : MethodName) prog_18_method_1_code 2 none ws RrmNew #[(.ref o), (.int x)] h0 n0 (QrmNew Z o x n0 h0) := by
  refine body (y := (⟨"com/example/shoal_creek/shoalcreek/MatchedSuffixes", "<init>", "(I)V"⟩ : MethodName)) (Ls := #[.val (.ref o), .val (.int x)]) (plainFor_of_name pn0) hn (fun m => ef_rmNew m o x) ?_
  intro p e s m below meth c T0 hx hby hml hown hnm hret hlk hZ X0
  refine i_aloadN (v := (.ref o)) (pc' := 1) X0 hx (hb hby d2_0) rfl rfl rfl ?_
  refine oi (pc' := 4) (W := 0) X0 hx hZ hown (hw _ (List.mem_of_getElem? (i := 12) rfl)) (hw _ (List.mem_of_getElem? (i := 13) rfl)) (hw _ (List.mem_of_getElem? (i := 14) rfl)) (by rw [hml]; rfl) (hb hby d2_1) rfl (by decide) (Nat.le_of_eq rfl) (by decide) fun T1 X1 => ?_
  refine i_aloadN (v := (.ref o)) (pc' := 5) X1 hx (hb hby d2_4) rfl rfl rfl ?_
  refine i_iconst (pc' := 6) (-1 : Int32) X1 hx (hb hby d2_5) rfl (by decide) ?_
  refine pf (pc' := 9) (host := "") (ty := .int) X1 hx hZ hown (Or.inl (hw _ (List.mem_of_getElem? (i := 15) rfl))) Via.refl H1 H0 (Or.inl (hw _ (List.mem_of_getElem? (i := 16) rfl))) (hw _ (List.mem_of_getElem? (i := 7) rfl)) (by decide) rfl rfl H7 (hb hby d2_6) rfl fun T2 h2 X2 W2 => ?_
  refine i_aloadN (v := (.ref o)) (pc' := 10) X2 hx (hb hby d2_9) rfl rfl rfl ?_
  refine i_iloadN (v := x) (pc' := 11) X2 hx (hb hby d2_10) rfl rfl ?_
  have F3 : Fld Z h2 o "com/example/shoal_creek/shoalcreek/MatchedSuffixes" "patternLength" "I" (.int (0 : Int32)) := (Jvm.RoadKit.Fld.other W2 H2 (Or.inr (slot_ne (a0 := a0) (Or.inr (hw _ (List.mem_of_getElem? (i := 18) rfl))) (Or.inl (hw _ (List.mem_of_getElem? (i := 16) rfl))) (by decide) (t := .int) (t' := .int) (by decide) (by decide))))
  have F4 : Exa Z h2 o "com/example/shoal_creek/shoalcreek/MatchedSuffixes" := (Jvm.RoadKit.Exa.wr W2 H0)
  refine pf (pc' := 14) (host := "") (ty := .int) X2 hx hZ hown (Or.inl (hw _ (List.mem_of_getElem? (i := 17) rfl))) Via.refl F3 F4 (Or.inr ⟨(hw _ (List.mem_of_getElem? (i := 18) rfl)), rfl, hnm⟩) (hw _ (List.mem_of_getElem? (i := 7) rfl)) (by decide) rfl rfl H7 (hb hby d2_11) rfl fun T5 h5 X5 W5 => ?_
  refine rV X5 hx hlk hret (hb hby d2_14) (by decide) (by decide) ?_
  have F6 : Fld Z h5 o "com/example/shoal_creek/shoalcreek/MatchedSuffixes" "newestEnd" "I" (.int (-1 : Int32)) := (Jvm.RoadKit.Fld.other W5 (Jvm.RoadKit.Fld.same W2 H1) (Or.inr (slot_ne (a0 := a0) (Or.inl (hw _ (List.mem_of_getElem? (i := 16) rfl))) (Or.inr (hw _ (List.mem_of_getElem? (i := 18) rfl))) (by decide) (t := .int) (t' := .int) (by decide) (by decide))))
  have F7 : Fld Z h5 o "com/example/shoal_creek/shoalcreek/MatchedSuffixes" "patternLength" "I" (.int x) := (Jvm.RoadKit.Fld.same W5 F3)
  have F8 : Fld Z h5 o "com/example/shoal_creek/shoalcreek/MatchedSuffixes" "ends" "[I" .null := (Jvm.RoadKit.Fld.other W5 (Jvm.RoadKit.Fld.other W2 H3 (Or.inr (slot_ne (a0 := a0) (Or.inl (hw _ (List.mem_of_getElem? (i := 29) rfl))) (Or.inl (hw _ (List.mem_of_getElem? (i := 16) rfl))) (by decide) (t := (.array .int)) (t' := .int) (by decide) (by decide)))) (Or.inr (slot_ne (a0 := a0) (Or.inl (hw _ (List.mem_of_getElem? (i := 29) rfl))) (Or.inr (hw _ (List.mem_of_getElem? (i := 18) rfl))) (by decide) (t := (.array .int)) (t' := .int) (by decide) (by decide))))
  have F9 : Fld Z h5 o "com/example/shoal_creek/shoalcreek/MatchedSuffixes" "lengths" "[I" .null := (Jvm.RoadKit.Fld.other W5 (Jvm.RoadKit.Fld.other W2 H4 (Or.inr (slot_ne (a0 := a0) (Or.inl (hw _ (List.mem_of_getElem? (i := 32) rfl))) (Or.inl (hw _ (List.mem_of_getElem? (i := 16) rfl))) (by decide) (t := (.array .int)) (t' := .int) (by decide) (by decide)))) (Or.inr (slot_ne (a0 := a0) (Or.inl (hw _ (List.mem_of_getElem? (i := 32) rfl))) (Or.inr (hw _ (List.mem_of_getElem? (i := 18) rfl))) (by decide) (t := (.array .int)) (t' := .int) (by decide) (by decide))))
  have F10 : Fld Z h5 o "com/example/shoal_creek/shoalcreek/MatchedSuffixes" "differings" "[I" .null := (Jvm.RoadKit.Fld.other W5 (Jvm.RoadKit.Fld.other W2 H5 (Or.inr (slot_ne (a0 := a0) (Or.inl (hw _ (List.mem_of_getElem? (i := 34) rfl))) (Or.inl (hw _ (List.mem_of_getElem? (i := 16) rfl))) (by decide) (t := (.array .int)) (t' := .int) (by decide) (by decide)))) (Or.inr (slot_ne (a0 := a0) (Or.inl (hw _ (List.mem_of_getElem? (i := 34) rfl))) (Or.inr (hw _ (List.mem_of_getElem? (i := 18) rfl))) (by decide) (t := (.array .int)) (t' := .int) (by decide) (by decide))))
  have F11 : Fld Z h5 o "com/example/shoal_creek/shoalcreek/MatchedSuffixes" "differing" "C" (.int (0 : Int32)) := (Jvm.RoadKit.Fld.other W5 (Jvm.RoadKit.Fld.other W2 H6 (Or.inr (slot_ne (a0 := a0) (Or.inl (hw _ (List.mem_of_getElem? (i := 51) rfl))) (Or.inl (hw _ (List.mem_of_getElem? (i := 16) rfl))) (by decide) (t := .char) (t' := .int) (by decide) (by decide)))) (Or.inr (slot_ne (a0 := a0) (Or.inl (hw _ (List.mem_of_getElem? (i := 51) rfl))) (Or.inr (hw _ (List.mem_of_getElem? (i := 18) rfl))) (by decide) (t := .char) (t' := .int) (by decide) (by decide))))
  exact ⟨rfl, (((Keep.refl h0 _).wr W2 (Or.inl (List.mem_of_getElem? (i := 0) rfl))).wr W5 (Or.inl (List.mem_of_getElem? (i := 0) rfl))), F6, F7, F8, F9, F10, F11⟩
theorem d5_0 : decode prog_18_method_9_code 0 = .ok (.aload_n 0, 1) := by decide +kernel
theorem d5_1 : decode prog_18_method_9_code 1 = .ok (.getfield 16, 3) := by decide +kernel
theorem d5_4 : decode prog_18_method_9_code 4 = .ok (.ifnonnull 47, 3) := by decide +kernel
theorem d5_7 : decode prog_18_method_9_code 7 = .ok (.iconst 1, 1) := by decide +kernel
theorem d5_8 : decode prog_18_method_9_code 8 = .ok (.istore_n 1, 1) := by decide +kernel
theorem d5_9 : decode prog_18_method_9_code 9 = .ok (.iload_n 1, 1) := by decide +kernel
theorem d5_10 : decode prog_18_method_9_code 10 = .ok (.aload_n 0, 1) := by decide +kernel
theorem d5_11 : decode prog_18_method_9_code 11 = .ok (.getfield 13, 3) := by decide +kernel
theorem d5_14 : decode prog_18_method_9_code 14 = .ok (.if_icmp .ge 16, 3) := by decide +kernel
theorem d5_17 : decode prog_18_method_9_code 17 = .ok (.iload_n 1, 1) := by decide +kernel
theorem d5_18 : decode prog_18_method_9_code 18 = .ok (.ldc 37, 2) := by decide +kernel
theorem d5_20 : decode prog_18_method_9_code 20 = .ok (.if_icmp .ge 10, 3) := by decide +kernel
theorem d5_23 : decode prog_18_method_9_code 23 = .ok (.iload_n 1, 1) := by decide +kernel
theorem d5_24 : decode prog_18_method_9_code 24 = .ok (.iconst 1, 1) := by decide +kernel
theorem d5_25 : decode prog_18_method_9_code 25 = .ok (.ishl, 1) := by decide +kernel
theorem d5_26 : decode prog_18_method_9_code 26 = .ok (.istore_n 1, 1) := by decide +kernel
theorem d5_27 : decode prog_18_method_9_code 27 = .ok (.goto (-18), 3) := by decide +kernel
theorem d5_30 : decode prog_18_method_9_code 30 = .ok (.aload_n 0, 1) := by decide +kernel
theorem d5_31 : decode prog_18_method_9_code 31 = .ok (.iload_n 1, 1) := by decide +kernel
theorem d5_32 : decode prog_18_method_9_code 32 = .ok (.newarray .int, 2) := by decide +kernel
theorem d5_34 : decode prog_18_method_9_code 34 = .ok (.putfield 16, 3) := by decide +kernel
theorem d5_37 : decode prog_18_method_9_code 37 = .ok (.aload_n 0, 1) := by decide +kernel
theorem d5_38 : decode prog_18_method_9_code 38 = .ok (.iload_n 1, 1) := by decide +kernel
theorem d5_39 : decode prog_18_method_9_code 39 = .ok (.newarray .int, 2) := by decide +kernel
theorem d5_41 : decode prog_18_method_9_code 41 = .ok (.putfield 20, 3) := by decide +kernel
theorem d5_44 : decode prog_18_method_9_code 44 = .ok (.aload_n 0, 1) := by decide +kernel
theorem d5_45 : decode prog_18_method_9_code 45 = .ok (.iload_n 1, 1) := by decide +kernel
theorem d5_46 : decode prog_18_method_9_code 46 = .ok (.newarray .int, 2) := by decide +kernel
theorem d5_48 : decode prog_18_method_9_code 48 = .ok (.putfield 23, 3) := by decide +kernel
theorem d5_51 : decode prog_18_method_9_code 51 = .ok (.return_, 1) := by decide +kernel
theorem ef_rmAl (m : MethodId) (o : Addr) : entryFrame m #[(.ref o)] 2 = mkF m 0 #[.val (.ref o), .unset] [] := by first | (simp [entryFrame, mkF, argsToLocals, Value.category, maxLocals]; done) | rfl
def QrmAl (Z : State) (o : Addr) (pl : Int32) (w : Int32) (df : Int32) (n0 : Nat) (h0 : Heap) (rv : Option Value) (h : Heap) : Prop := ∃ aE : Addr, ∃ aL : Addr, ∃ aD : Addr, rv = none ∧ Keep h0 h [o] ∧ Fld Z h o "com/example/shoal_creek/shoalcreek/MatchedSuffixes" "ends" "[I" (.ref aE) ∧ Fld Z h o "com/example/shoal_creek/shoalcreek/MatchedSuffixes" "lengths" "[I" (.ref aL) ∧ Fld Z h o "com/example/shoal_creek/shoalcreek/MatchedSuffixes" "differings" "[I" (.ref aD) ∧ Fld Z h o "com/example/shoal_creek/shoalcreek/MatchedSuffixes" "newestEnd" "I" (.int w) ∧ Fld Z h o "com/example/shoal_creek/shoalcreek/MatchedSuffixes" "patternLength" "I" (.int pl) ∧ Fld Z h o "com/example/shoal_creek/shoalcreek/MatchedSuffixes" "differing" "C" (.int df) ∧ Av Z h aE .int (own_N pl) (fun i => .int (own_zero i)) ∧ Av Z h aL .int (own_N pl) (fun i => .int (own_zero i)) ∧ Av Z h aD .int (own_N pl) (fun i => .int (own_zero i)) ∧ h0.size ≤ aE ∧ h0.size ≤ aL ∧ h0.size ≤ aD ∧ aE ≠ aL ∧ aE ≠ aD ∧ aL ≠ aD
abbrev RrmAl : Room := { frames := 0, cells := 3, slots := 192, locals := 0 }
set_option maxRecDepth 65536 in
set_option maxHeartbeats 40000000 in
theorem rmAl (l : Launch) (Z : State) (a0 : Array Value) (hw : ∀ d ∈ tables_1, d.before a0 Z = true) (ws : List Jvm.Cond) (o : Addr) (pl : Int32) (w : Int32) (df : Int32) (n0 : Nat) (h0 : Heap) (hn : n0 ≤ h0.size) (H0 : Exa Z h0 o "com/example/shoal_creek/shoalcreek/MatchedSuffixes") (H1 : Fld Z h0 o "com/example/shoal_creek/shoalcreek/MatchedSuffixes" "ends" "[I" .null) (H2 : Fld Z h0 o "com/example/shoal_creek/shoalcreek/MatchedSuffixes" "lengths" "[I" .null) (H3 : Fld Z h0 o "com/example/shoal_creek/shoalcreek/MatchedSuffixes" "differings" "[I" .null) (H4 : Fld Z h0 o "com/example/shoal_creek/shoalcreek/MatchedSuffixes" "newestEnd" "I" (.int w)) (H5 : Fld Z h0 o "com/example/shoal_creek/shoalcreek/MatchedSuffixes" "patternLength" "I" (.int pl)) (H6 : Fld Z h0 o "com/example/shoal_creek/shoalcreek/MatchedSuffixes" "differing" "C" (.int df)) (H7 : n0 ≤ o) (hp64 : ¬ (64 : Int32) < pl) :
    Con l Z (⟨"com/example/shoal_creek/shoalcreek/MatchedSuffixes", "allocate", "()V"⟩ : MethodName) prog_18_method_9_code 2 none ws RrmAl #[(.ref o)] h0 n0 (QrmAl Z o pl w df n0 h0) := by
  refine body (y := (⟨"com/example/shoal_creek/shoalcreek/MatchedSuffixes", "allocate", "()V"⟩ : MethodName)) (Ls := #[.val (.ref o), .unset]) (plainFor_of_name pn0) hn (fun m => ef_rmAl m o) ?_
  intro p e s m below meth c T0 hx hby hml hown hnm hret hlk hZ X0
  refine i_aloadN (v := (.ref o)) (pc' := 1) X0 hx (hb hby d5_0) rfl rfl rfl ?_
  refine gf (pc' := 4) (host := "") X0 hx hZ hown (Or.inl (hw _ (List.mem_of_getElem? (i := 28) rfl))) Via.refl H1 (hb hby d5_1) rfl fun T1 X1 => ?_
  refine i_nnF (pc' := 7) X1 hx (hb hby d5_4) rfl rfl ?_
  refine i_iconst (pc' := 8) (1 : Int32) X1 hx (hb hby d5_7) rfl (by decide) ?_
  refine i_istoreN (L' := #[.val (.ref o), .val (.int (1 : Int32))]) (pc' := 9) X1 hx (hb hby d5_8) rfl rfl ?_
  have J2 : ∀ (T2 : State) (h2 : Heap) (z : Int32), Pn p l e RrmAl s m #[(.ref o)] below meth c T2 h2 n0 0 0 → Keep h0 h2 [o] → Exa Z h2 o "com/example/shoal_creek/shoalcreek/MatchedSuffixes" → Fld Z h2 o "com/example/shoal_creek/shoalcreek/MatchedSuffixes" "ends" "[I" .null → Fld Z h2 o "com/example/shoal_creek/shoalcreek/MatchedSuffixes" "lengths" "[I" .null → Fld Z h2 o "com/example/shoal_creek/shoalcreek/MatchedSuffixes" "differings" "[I" .null → Fld Z h2 o "com/example/shoal_creek/shoalcreek/MatchedSuffixes" "newestEnd" "I" (.int w) → Fld Z h2 o "com/example/shoal_creek/shoalcreek/MatchedSuffixes" "patternLength" "I" (.int pl) → Fld Z h2 o "com/example/shoal_creek/shoalcreek/MatchedSuffixes" "differing" "C" (.int df) → z = own_slots pl → Go p e s below n0 (QrmAl Z o pl w df n0 h0) RrmAl T2 (mkF m 30 #[.val (.ref o), .val (.int z)] []) := by
    intro T2 h2 z  X2 K2 G2_0 G2_1 G2_2 G2_3 G2_4 G2_5 G2_6 hz
    refine i_aloadN (v := (.ref o)) (pc' := 31) X2 hx (hb hby d5_30) rfl rfl rfl ?_
    refine i_iloadN (v := z) (pc' := 32) X2 hx (hb hby d5_31) rfl rfl ?_
    refine na (aty := .int) (pc' := 34) 64 X2 hx hZ (hw _ (List.mem_of_getElem? (i := 30) rfl)) (hb hby d5_32) rfl (by rw [hz]; exact (own_sneg pl).1) (by rw [hz]; exact (own_sneg pl).2) (by decide) (by decide) (by decide) fun T3 h3 b3 X3 g3 ge3 E3 V3 => ?_
    have ne_o_b3 : o ≠ b3 := Nat.ne_of_lt (Nat.lt_of_lt_of_eq G2_0.lt g3.symm)
    have sz_b3 : h0.size ≤ b3 := Nat.le_trans (K2 : Keep h0 h2 [o]).1 (Nat.le_of_eq g3.symm)
    have K3 : Keep h0 h3 [o] := (K2 : Keep h0 h2 [o]).ext E3
    have A3 : Av Z h3 b3 .int (own_N pl) (fun _ => .int 0) := (by have q := V3; rw [hz] at q; exact q)
    have F4 : Fld Z h3 o "com/example/shoal_creek/shoalcreek/MatchedSuffixes" "ends" "[I" .null := (Jvm.RoadKit.Fld.ext E3 G2_1)
    have F5 : Exa Z h3 o "com/example/shoal_creek/shoalcreek/MatchedSuffixes" := (Jvm.RoadKit.Exa.ext E3 G2_0)
    refine pf (pc' := 37) (host := "") (ty := (.array .int)) X3 hx hZ hown (Or.inl (hw _ (List.mem_of_getElem? (i := 28) rfl))) Via.refl F4 F5 (Or.inl (hw _ (List.mem_of_getElem? (i := 29) rfl))) (hw _ (List.mem_of_getElem? (i := 7) rfl)) (by decide) rfl rfl H7 (hb hby d5_34) rfl fun T6 h6 X6 W6 => ?_
    refine i_aloadN (v := (.ref o)) (pc' := 38) X6 hx (hb hby d5_37) rfl rfl rfl ?_
    refine i_iloadN (v := z) (pc' := 39) X6 hx (hb hby d5_38) rfl rfl ?_
    refine na (aty := .int) (pc' := 41) 64 X6 hx hZ (hw _ (List.mem_of_getElem? (i := 30) rfl)) (hb hby d5_39) rfl (by rw [hz]; exact (own_sneg pl).1) (by rw [hz]; exact (own_sneg pl).2) (by decide) (by decide) (by decide) fun T7 h7 b7 X7 g7 ge7 E7 V7 => ?_
    have F8 : Exa Z h6 o "com/example/shoal_creek/shoalcreek/MatchedSuffixes" := (Jvm.RoadKit.Exa.wr W6 F5)
    have ne_o_b7 : o ≠ b7 := Nat.ne_of_lt (Nat.lt_of_lt_of_eq F8.lt g7.symm)
    have F9 : Av Z h6 b3 .int (own_N pl) (fun _ => .int 0) := (A3.other W6 (Ne.symm ne_o_b3))
    have ne_b3_b7 : b3 ≠ b7 := Nat.ne_of_lt (Nat.lt_of_lt_of_eq F9.lt g7.symm)
    have sz_b7 : h0.size ≤ b7 := Nat.le_trans ((K3.wr W6 (Or.inl (List.mem_of_getElem? (i := 0) rfl))) : Keep h0 h6 [o]).1 (Nat.le_of_eq g7.symm)
    have K7 : Keep h0 h7 [o] := ((K3.wr W6 (Or.inl (List.mem_of_getElem? (i := 0) rfl))) : Keep h0 h6 [o]).ext E7
    have A7 : Av Z h7 b7 .int (own_N pl) (fun _ => .int 0) := (by have q := V7; rw [hz] at q; exact q)
    have F10 : Fld Z h7 o "com/example/shoal_creek/shoalcreek/MatchedSuffixes" "lengths" "[I" .null := (Jvm.RoadKit.Fld.ext E7 (Jvm.RoadKit.Fld.other W6 (Jvm.RoadKit.Fld.ext E3 G2_2) (Or.inr (slot_ne (a0 := a0) (Or.inl (hw _ (List.mem_of_getElem? (i := 32) rfl))) (Or.inl (hw _ (List.mem_of_getElem? (i := 29) rfl))) (by decide) (t := (.array .int)) (t' := (.array .int)) (by decide) (by decide)))))
    have F11 : Exa Z h7 o "com/example/shoal_creek/shoalcreek/MatchedSuffixes" := (Jvm.RoadKit.Exa.ext E7 F8)
    refine pf (pc' := 44) (host := "") (ty := (.array .int)) X7 hx hZ hown (Or.inl (hw _ (List.mem_of_getElem? (i := 31) rfl))) Via.refl F10 F11 (Or.inl (hw _ (List.mem_of_getElem? (i := 32) rfl))) (hw _ (List.mem_of_getElem? (i := 7) rfl)) (by decide) rfl rfl H7 (hb hby d5_41) rfl fun T12 h12 X12 W12 => ?_
    refine i_aloadN (v := (.ref o)) (pc' := 45) X12 hx (hb hby d5_44) rfl rfl rfl ?_
    refine i_iloadN (v := z) (pc' := 46) X12 hx (hb hby d5_45) rfl rfl ?_
    refine na (aty := .int) (pc' := 48) 64 X12 hx hZ (hw _ (List.mem_of_getElem? (i := 30) rfl)) (hb hby d5_46) rfl (by rw [hz]; exact (own_sneg pl).1) (by rw [hz]; exact (own_sneg pl).2) (by decide) (by decide) (by decide) fun T13 h13 b13 X13 g13 ge13 E13 V13 => ?_
    have F14 : Exa Z h12 o "com/example/shoal_creek/shoalcreek/MatchedSuffixes" := (Jvm.RoadKit.Exa.wr W12 F11)
    have ne_o_b13 : o ≠ b13 := Nat.ne_of_lt (Nat.lt_of_lt_of_eq F14.lt g13.symm)
    have F15 : Av Z h12 b3 .int (own_N pl) (fun _ => .int 0) := ((F9.ext E7).other W12 (Ne.symm ne_o_b3))
    have ne_b3_b13 : b3 ≠ b13 := Nat.ne_of_lt (Nat.lt_of_lt_of_eq F15.lt g13.symm)
    have F16 : Av Z h12 b7 .int (own_N pl) (fun _ => .int 0) := (A7.other W12 (Ne.symm ne_o_b7))
    have ne_b7_b13 : b7 ≠ b13 := Nat.ne_of_lt (Nat.lt_of_lt_of_eq F16.lt g13.symm)
    have sz_b13 : h0.size ≤ b13 := Nat.le_trans ((K7.wr W12 (Or.inl (List.mem_of_getElem? (i := 0) rfl))) : Keep h0 h12 [o]).1 (Nat.le_of_eq g13.symm)
    have K13 : Keep h0 h13 [o] := ((K7.wr W12 (Or.inl (List.mem_of_getElem? (i := 0) rfl))) : Keep h0 h12 [o]).ext E13
    have A13 : Av Z h13 b13 .int (own_N pl) (fun _ => .int 0) := (by have q := V13; rw [hz] at q; exact q)
    have F17 : Fld Z h13 o "com/example/shoal_creek/shoalcreek/MatchedSuffixes" "differings" "[I" .null := (Jvm.RoadKit.Fld.ext E13 (Jvm.RoadKit.Fld.other W12 (Jvm.RoadKit.Fld.ext E7 (Jvm.RoadKit.Fld.other W6 (Jvm.RoadKit.Fld.ext E3 G2_3) (Or.inr (slot_ne (a0 := a0) (Or.inl (hw _ (List.mem_of_getElem? (i := 34) rfl))) (Or.inl (hw _ (List.mem_of_getElem? (i := 29) rfl))) (by decide) (t := (.array .int)) (t' := (.array .int)) (by decide) (by decide))))) (Or.inr (slot_ne (a0 := a0) (Or.inl (hw _ (List.mem_of_getElem? (i := 34) rfl))) (Or.inl (hw _ (List.mem_of_getElem? (i := 32) rfl))) (by decide) (t := (.array .int)) (t' := (.array .int)) (by decide) (by decide)))))
    have F18 : Exa Z h13 o "com/example/shoal_creek/shoalcreek/MatchedSuffixes" := (Jvm.RoadKit.Exa.ext E13 F14)
    refine pf (pc' := 51) (host := "") (ty := (.array .int)) X13 hx hZ hown (Or.inl (hw _ (List.mem_of_getElem? (i := 33) rfl))) Via.refl F17 F18 (Or.inl (hw _ (List.mem_of_getElem? (i := 34) rfl))) (hw _ (List.mem_of_getElem? (i := 7) rfl)) (by decide) rfl rfl H7 (hb hby d5_48) rfl fun T19 h19 X19 W19 => ?_
    refine rV X19 hx hlk hret (hb hby d5_51) (by decide) (by decide) ?_
    have F20 : Fld Z h19 o "com/example/shoal_creek/shoalcreek/MatchedSuffixes" "ends" "[I" (.ref b3) := (Jvm.RoadKit.Fld.other W19 (Jvm.RoadKit.Fld.ext E13 (Jvm.RoadKit.Fld.other W12 (Jvm.RoadKit.Fld.ext E7 (Jvm.RoadKit.Fld.same W6 F4)) (Or.inr (slot_ne (a0 := a0) (Or.inl (hw _ (List.mem_of_getElem? (i := 29) rfl))) (Or.inl (hw _ (List.mem_of_getElem? (i := 32) rfl))) (by decide) (t := (.array .int)) (t' := (.array .int)) (by decide) (by decide))))) (Or.inr (slot_ne (a0 := a0) (Or.inl (hw _ (List.mem_of_getElem? (i := 29) rfl))) (Or.inl (hw _ (List.mem_of_getElem? (i := 34) rfl))) (by decide) (t := (.array .int)) (t' := (.array .int)) (by decide) (by decide))))
    have F21 : Fld Z h19 o "com/example/shoal_creek/shoalcreek/MatchedSuffixes" "lengths" "[I" (.ref b7) := (Jvm.RoadKit.Fld.other W19 (Jvm.RoadKit.Fld.ext E13 (Jvm.RoadKit.Fld.same W12 F10)) (Or.inr (slot_ne (a0 := a0) (Or.inl (hw _ (List.mem_of_getElem? (i := 32) rfl))) (Or.inl (hw _ (List.mem_of_getElem? (i := 34) rfl))) (by decide) (t := (.array .int)) (t' := (.array .int)) (by decide) (by decide))))
    have F22 : Fld Z h19 o "com/example/shoal_creek/shoalcreek/MatchedSuffixes" "differings" "[I" (.ref b13) := (Jvm.RoadKit.Fld.same W19 F17)
    have F23 : Fld Z h19 o "com/example/shoal_creek/shoalcreek/MatchedSuffixes" "newestEnd" "I" (.int w) := (Jvm.RoadKit.Fld.other W19 (Jvm.RoadKit.Fld.ext E13 (Jvm.RoadKit.Fld.other W12 (Jvm.RoadKit.Fld.ext E7 (Jvm.RoadKit.Fld.other W6 (Jvm.RoadKit.Fld.ext E3 G2_4) (Or.inr (slot_ne (a0 := a0) (Or.inl (hw _ (List.mem_of_getElem? (i := 16) rfl))) (Or.inl (hw _ (List.mem_of_getElem? (i := 29) rfl))) (by decide) (t := .int) (t' := (.array .int)) (by decide) (by decide))))) (Or.inr (slot_ne (a0 := a0) (Or.inl (hw _ (List.mem_of_getElem? (i := 16) rfl))) (Or.inl (hw _ (List.mem_of_getElem? (i := 32) rfl))) (by decide) (t := .int) (t' := (.array .int)) (by decide) (by decide))))) (Or.inr (slot_ne (a0 := a0) (Or.inl (hw _ (List.mem_of_getElem? (i := 16) rfl))) (Or.inl (hw _ (List.mem_of_getElem? (i := 34) rfl))) (by decide) (t := .int) (t' := (.array .int)) (by decide) (by decide))))
    have F24 : Fld Z h19 o "com/example/shoal_creek/shoalcreek/MatchedSuffixes" "patternLength" "I" (.int pl) := (Jvm.RoadKit.Fld.other W19 (Jvm.RoadKit.Fld.ext E13 (Jvm.RoadKit.Fld.other W12 (Jvm.RoadKit.Fld.ext E7 (Jvm.RoadKit.Fld.other W6 (Jvm.RoadKit.Fld.ext E3 G2_5) (Or.inr (slot_ne (a0 := a0) (Or.inr (hw _ (List.mem_of_getElem? (i := 18) rfl))) (Or.inl (hw _ (List.mem_of_getElem? (i := 29) rfl))) (by decide) (t := .int) (t' := (.array .int)) (by decide) (by decide))))) (Or.inr (slot_ne (a0 := a0) (Or.inr (hw _ (List.mem_of_getElem? (i := 18) rfl))) (Or.inl (hw _ (List.mem_of_getElem? (i := 32) rfl))) (by decide) (t := .int) (t' := (.array .int)) (by decide) (by decide))))) (Or.inr (slot_ne (a0 := a0) (Or.inr (hw _ (List.mem_of_getElem? (i := 18) rfl))) (Or.inl (hw _ (List.mem_of_getElem? (i := 34) rfl))) (by decide) (t := .int) (t' := (.array .int)) (by decide) (by decide))))
    have F25 : Fld Z h19 o "com/example/shoal_creek/shoalcreek/MatchedSuffixes" "differing" "C" (.int df) := (Jvm.RoadKit.Fld.other W19 (Jvm.RoadKit.Fld.ext E13 (Jvm.RoadKit.Fld.other W12 (Jvm.RoadKit.Fld.ext E7 (Jvm.RoadKit.Fld.other W6 (Jvm.RoadKit.Fld.ext E3 G2_6) (Or.inr (slot_ne (a0 := a0) (Or.inl (hw _ (List.mem_of_getElem? (i := 51) rfl))) (Or.inl (hw _ (List.mem_of_getElem? (i := 29) rfl))) (by decide) (t := .char) (t' := (.array .int)) (by decide) (by decide))))) (Or.inr (slot_ne (a0 := a0) (Or.inl (hw _ (List.mem_of_getElem? (i := 51) rfl))) (Or.inl (hw _ (List.mem_of_getElem? (i := 32) rfl))) (by decide) (t := .char) (t' := (.array .int)) (by decide) (by decide))))) (Or.inr (slot_ne (a0 := a0) (Or.inl (hw _ (List.mem_of_getElem? (i := 51) rfl))) (Or.inl (hw _ (List.mem_of_getElem? (i := 34) rfl))) (by decide) (t := .char) (t' := (.array .int)) (by decide) (by decide))))
    have F26 : Av Z h19 b3 .int (own_N pl) (fun _ => .int 0) := ((F15.ext E13).other W19 (Ne.symm ne_o_b3))
    have F27 : Av Z h19 b7 .int (own_N pl) (fun _ => .int 0) := ((F16.ext E13).other W19 (Ne.symm ne_o_b7))
    have F28 : Av Z h19 b13 .int (own_N pl) (fun _ => .int 0) := (A13.other W19 (Ne.symm ne_o_b13))
    exact ⟨b3, b7, b13, rfl, (K13.wr W19 (Or.inl (List.mem_of_getElem? (i := 0) rfl))), F20, F21, F22, F23, F24, F25, F26, F27, F28, sz_b3, sz_b7, sz_b13, ne_b3_b7, ne_b3_b13, ne_b7_b13⟩
  refine i_iloadN (v := (1 : Int32)) (pc' := 10) X1 hx (hb hby d5_9) rfl rfl ?_
  refine i_aloadN (v := (.ref o)) (pc' := 11) X1 hx (hb hby d5_10) rfl rfl rfl ?_
  refine gf (pc' := 14) (host := "") X1 hx hZ hown (Or.inl (hw _ (List.mem_of_getElem? (i := 17) rfl))) Via.refl H5 (hb hby d5_11) rfl fun T29 X29 => ?_
  by_cases hc30 : (1 : Int32) < pl
  · skip
    refine i_icF (pc' := 17) X29 hx (hb hby d5_14) rfl (XT.ii_ge_f hc30) ?_
    refine i_iloadN (v := (1 : Int32)) (pc' := 18) X29 hx (hb hby d5_17) rfl rfl ?_
    refine i_ldc (pc' := 20) (1073741824 : Int32) X29 hx hZ hown (hw _ (List.mem_of_getElem? (i := 49) rfl)) (hb hby d5_18) rfl ?_
    refine i_icF (pc' := 23) X29 hx (hb hby d5_20) rfl (XT.ii_ge_f (by decide)) ?_
    refine i_iloadN (v := (1 : Int32)) (pc' := 24) X29 hx (hb hby d5_23) rfl rfl ?_
    refine i_iconst (pc' := 25) (1 : Int32) X29 hx (hb hby d5_24) rfl (by decide) ?_
    refine i_ishl (pc' := 26) X29 hx (hb hby d5_25) rfl ?_
    rw [show ((1 : Int32) <<< ((1 : Int32) &&& 31)) = (2 : Int32) from by decide]
    refine i_istoreN (L' := #[.val (.ref o), .val (.int (2 : Int32))]) (pc' := 27) X29 hx (hb hby d5_26) rfl rfl ?_
    refine i_goto (pc' := 9) X29 hx (hb hby d5_27) (by decide) (by decide) ?_
    refine i_iloadN (v := (2 : Int32)) (pc' := 10) X29 hx (hb hby d5_9) rfl rfl ?_
    refine i_aloadN (v := (.ref o)) (pc' := 11) X29 hx (hb hby d5_10) rfl rfl rfl ?_
    refine gf (pc' := 14) (host := "") X29 hx hZ hown (Or.inl (hw _ (List.mem_of_getElem? (i := 17) rfl))) Via.refl H5 (hb hby d5_11) rfl fun T31 X31 => ?_
    by_cases hc32 : (2 : Int32) < pl
    · skip
      refine i_icF (pc' := 17) X31 hx (hb hby d5_14) rfl (XT.ii_ge_f hc32) ?_
      refine i_iloadN (v := (2 : Int32)) (pc' := 18) X31 hx (hb hby d5_17) rfl rfl ?_
      refine i_ldc (pc' := 20) (1073741824 : Int32) X31 hx hZ hown (hw _ (List.mem_of_getElem? (i := 49) rfl)) (hb hby d5_18) rfl ?_
      refine i_icF (pc' := 23) X31 hx (hb hby d5_20) rfl (XT.ii_ge_f (by decide)) ?_
      refine i_iloadN (v := (2 : Int32)) (pc' := 24) X31 hx (hb hby d5_23) rfl rfl ?_
      refine i_iconst (pc' := 25) (1 : Int32) X31 hx (hb hby d5_24) rfl (by decide) ?_
      refine i_ishl (pc' := 26) X31 hx (hb hby d5_25) rfl ?_
      rw [show ((2 : Int32) <<< ((1 : Int32) &&& 31)) = (4 : Int32) from by decide]
      refine i_istoreN (L' := #[.val (.ref o), .val (.int (4 : Int32))]) (pc' := 27) X31 hx (hb hby d5_26) rfl rfl ?_
      refine i_goto (pc' := 9) X31 hx (hb hby d5_27) (by decide) (by decide) ?_
      refine i_iloadN (v := (4 : Int32)) (pc' := 10) X31 hx (hb hby d5_9) rfl rfl ?_
      refine i_aloadN (v := (.ref o)) (pc' := 11) X31 hx (hb hby d5_10) rfl rfl rfl ?_
      refine gf (pc' := 14) (host := "") X31 hx hZ hown (Or.inl (hw _ (List.mem_of_getElem? (i := 17) rfl))) Via.refl H5 (hb hby d5_11) rfl fun T33 X33 => ?_
      by_cases hc34 : (4 : Int32) < pl
      · skip
        refine i_icF (pc' := 17) X33 hx (hb hby d5_14) rfl (XT.ii_ge_f hc34) ?_
        refine i_iloadN (v := (4 : Int32)) (pc' := 18) X33 hx (hb hby d5_17) rfl rfl ?_
        refine i_ldc (pc' := 20) (1073741824 : Int32) X33 hx hZ hown (hw _ (List.mem_of_getElem? (i := 49) rfl)) (hb hby d5_18) rfl ?_
        refine i_icF (pc' := 23) X33 hx (hb hby d5_20) rfl (XT.ii_ge_f (by decide)) ?_
        refine i_iloadN (v := (4 : Int32)) (pc' := 24) X33 hx (hb hby d5_23) rfl rfl ?_
        refine i_iconst (pc' := 25) (1 : Int32) X33 hx (hb hby d5_24) rfl (by decide) ?_
        refine i_ishl (pc' := 26) X33 hx (hb hby d5_25) rfl ?_
        rw [show ((4 : Int32) <<< ((1 : Int32) &&& 31)) = (8 : Int32) from by decide]
        refine i_istoreN (L' := #[.val (.ref o), .val (.int (8 : Int32))]) (pc' := 27) X33 hx (hb hby d5_26) rfl rfl ?_
        refine i_goto (pc' := 9) X33 hx (hb hby d5_27) (by decide) (by decide) ?_
        refine i_iloadN (v := (8 : Int32)) (pc' := 10) X33 hx (hb hby d5_9) rfl rfl ?_
        refine i_aloadN (v := (.ref o)) (pc' := 11) X33 hx (hb hby d5_10) rfl rfl rfl ?_
        refine gf (pc' := 14) (host := "") X33 hx hZ hown (Or.inl (hw _ (List.mem_of_getElem? (i := 17) rfl))) Via.refl H5 (hb hby d5_11) rfl fun T35 X35 => ?_
        by_cases hc36 : (8 : Int32) < pl
        · skip
          refine i_icF (pc' := 17) X35 hx (hb hby d5_14) rfl (XT.ii_ge_f hc36) ?_
          refine i_iloadN (v := (8 : Int32)) (pc' := 18) X35 hx (hb hby d5_17) rfl rfl ?_
          refine i_ldc (pc' := 20) (1073741824 : Int32) X35 hx hZ hown (hw _ (List.mem_of_getElem? (i := 49) rfl)) (hb hby d5_18) rfl ?_
          refine i_icF (pc' := 23) X35 hx (hb hby d5_20) rfl (XT.ii_ge_f (by decide)) ?_
          refine i_iloadN (v := (8 : Int32)) (pc' := 24) X35 hx (hb hby d5_23) rfl rfl ?_
          refine i_iconst (pc' := 25) (1 : Int32) X35 hx (hb hby d5_24) rfl (by decide) ?_
          refine i_ishl (pc' := 26) X35 hx (hb hby d5_25) rfl ?_
          rw [show ((8 : Int32) <<< ((1 : Int32) &&& 31)) = (16 : Int32) from by decide]
          refine i_istoreN (L' := #[.val (.ref o), .val (.int (16 : Int32))]) (pc' := 27) X35 hx (hb hby d5_26) rfl rfl ?_
          refine i_goto (pc' := 9) X35 hx (hb hby d5_27) (by decide) (by decide) ?_
          refine i_iloadN (v := (16 : Int32)) (pc' := 10) X35 hx (hb hby d5_9) rfl rfl ?_
          refine i_aloadN (v := (.ref o)) (pc' := 11) X35 hx (hb hby d5_10) rfl rfl rfl ?_
          refine gf (pc' := 14) (host := "") X35 hx hZ hown (Or.inl (hw _ (List.mem_of_getElem? (i := 17) rfl))) Via.refl H5 (hb hby d5_11) rfl fun T37 X37 => ?_
          by_cases hc38 : (16 : Int32) < pl
          · skip
            refine i_icF (pc' := 17) X37 hx (hb hby d5_14) rfl (XT.ii_ge_f hc38) ?_
            refine i_iloadN (v := (16 : Int32)) (pc' := 18) X37 hx (hb hby d5_17) rfl rfl ?_
            refine i_ldc (pc' := 20) (1073741824 : Int32) X37 hx hZ hown (hw _ (List.mem_of_getElem? (i := 49) rfl)) (hb hby d5_18) rfl ?_
            refine i_icF (pc' := 23) X37 hx (hb hby d5_20) rfl (XT.ii_ge_f (by decide)) ?_
            refine i_iloadN (v := (16 : Int32)) (pc' := 24) X37 hx (hb hby d5_23) rfl rfl ?_
            refine i_iconst (pc' := 25) (1 : Int32) X37 hx (hb hby d5_24) rfl (by decide) ?_
            refine i_ishl (pc' := 26) X37 hx (hb hby d5_25) rfl ?_
            rw [show ((16 : Int32) <<< ((1 : Int32) &&& 31)) = (32 : Int32) from by decide]
            refine i_istoreN (L' := #[.val (.ref o), .val (.int (32 : Int32))]) (pc' := 27) X37 hx (hb hby d5_26) rfl rfl ?_
            refine i_goto (pc' := 9) X37 hx (hb hby d5_27) (by decide) (by decide) ?_
            refine i_iloadN (v := (32 : Int32)) (pc' := 10) X37 hx (hb hby d5_9) rfl rfl ?_
            refine i_aloadN (v := (.ref o)) (pc' := 11) X37 hx (hb hby d5_10) rfl rfl rfl ?_
            refine gf (pc' := 14) (host := "") X37 hx hZ hown (Or.inl (hw _ (List.mem_of_getElem? (i := 17) rfl))) Via.refl H5 (hb hby d5_11) rfl fun T39 X39 => ?_
            by_cases hc40 : (32 : Int32) < pl
            · skip
              refine i_icF (pc' := 17) X39 hx (hb hby d5_14) rfl (XT.ii_ge_f hc40) ?_
              refine i_iloadN (v := (32 : Int32)) (pc' := 18) X39 hx (hb hby d5_17) rfl rfl ?_
              refine i_ldc (pc' := 20) (1073741824 : Int32) X39 hx hZ hown (hw _ (List.mem_of_getElem? (i := 49) rfl)) (hb hby d5_18) rfl ?_
              refine i_icF (pc' := 23) X39 hx (hb hby d5_20) rfl (XT.ii_ge_f (by decide)) ?_
              refine i_iloadN (v := (32 : Int32)) (pc' := 24) X39 hx (hb hby d5_23) rfl rfl ?_
              refine i_iconst (pc' := 25) (1 : Int32) X39 hx (hb hby d5_24) rfl (by decide) ?_
              refine i_ishl (pc' := 26) X39 hx (hb hby d5_25) rfl ?_
              rw [show ((32 : Int32) <<< ((1 : Int32) &&& 31)) = (64 : Int32) from by decide]
              refine i_istoreN (L' := #[.val (.ref o), .val (.int (64 : Int32))]) (pc' := 27) X39 hx (hb hby d5_26) rfl rfl ?_
              refine i_goto (pc' := 9) X39 hx (hb hby d5_27) (by decide) (by decide) ?_
              refine i_iloadN (v := (64 : Int32)) (pc' := 10) X39 hx (hb hby d5_9) rfl rfl ?_
              refine i_aloadN (v := (.ref o)) (pc' := 11) X39 hx (hb hby d5_10) rfl rfl rfl ?_
              refine gf (pc' := 14) (host := "") X39 hx hZ hown (Or.inl (hw _ (List.mem_of_getElem? (i := 17) rfl))) Via.refl H5 (hb hby d5_11) rfl fun T41 X41 => ?_
              refine i_icT (pc' := 30) X41 hx (hb hby d5_14) (XT.ii_ge_t hp64) (by decide) (by decide) ?_
              exact J2 _ _ (64 : Int32) (X41.mono (by decide) (by decide)) (Keep.refl h0 _) H0 H1 H2 H3 H4 H5 H6 (by simp [own_slots, hc30, hc32, hc34, hc36, hc38, hc40, hp64])
            · skip
              refine i_icT (pc' := 30) X39 hx (hb hby d5_14) (XT.ii_ge_t hc40) (by decide) (by decide) ?_
              exact J2 _ _ (32 : Int32) (X39.mono (by decide) (by decide)) (Keep.refl h0 _) H0 H1 H2 H3 H4 H5 H6 (by simp [own_slots, hc30, hc32, hc34, hc36, hc38, hc40])
          · skip
            refine i_icT (pc' := 30) X37 hx (hb hby d5_14) (XT.ii_ge_t hc38) (by decide) (by decide) ?_
            exact J2 _ _ (16 : Int32) (X37.mono (by decide) (by decide)) (Keep.refl h0 _) H0 H1 H2 H3 H4 H5 H6 (by simp [own_slots, hc30, hc32, hc34, hc36, hc38])
        · skip
          refine i_icT (pc' := 30) X35 hx (hb hby d5_14) (XT.ii_ge_t hc36) (by decide) (by decide) ?_
          exact J2 _ _ (8 : Int32) (X35.mono (by decide) (by decide)) (Keep.refl h0 _) H0 H1 H2 H3 H4 H5 H6 (by simp [own_slots, hc30, hc32, hc34, hc36])
      · skip
        refine i_icT (pc' := 30) X33 hx (hb hby d5_14) (XT.ii_ge_t hc34) (by decide) (by decide) ?_
        exact J2 _ _ (4 : Int32) (X33.mono (by decide) (by decide)) (Keep.refl h0 _) H0 H1 H2 H3 H4 H5 H6 (by simp [own_slots, hc30, hc32, hc34])
    · skip
      refine i_icT (pc' := 30) X31 hx (hb hby d5_14) (XT.ii_ge_t hc32) (by decide) (by decide) ?_
      exact J2 _ _ (2 : Int32) (X31.mono (by decide) (by decide)) (Keep.refl h0 _) H0 H1 H2 H3 H4 H5 H6 (by simp [own_slots, hc30, hc32])
  · skip
    refine i_icT (pc' := 30) X29 hx (hb hby d5_14) (XT.ii_ge_t hc30) (by decide) (by decide) ?_
    exact J2 _ _ (1 : Int32) (X29.mono (by decide) (by decide)) (Keep.refl h0 _) H0 H1 H2 H3 H4 H5 H6 (by simp [own_slots, hc30])
theorem ef_rmAl2 (m : MethodId) (o : Addr) : entryFrame m #[(.ref o)] 2 = mkF m 0 #[.val (.ref o), .unset] [] := by first | (simp [entryFrame, mkF, argsToLocals, Value.category, maxLocals]; done) | rfl
def QrmAl2 (Z : State) (o : Addr) (aE : Addr) (n0 : Nat) (h0 : Heap) (rv : Option Value) (h : Heap) : Prop := rv = none ∧ h0 = h
abbrev RrmAl2 : Room := { frames := 0, cells := 0, slots := 0, locals := 0 }
set_option maxRecDepth 65536 in
set_option maxHeartbeats 40000000 in
theorem rmAl2 (l : Launch) (Z : State) (a0 : Array Value) (hw : ∀ d ∈ tables_1, d.before a0 Z = true) (ws : List Jvm.Cond) (o : Addr) (aE : Addr) (n0 : Nat) (h0 : Heap) (hn : n0 ≤ h0.size) (H0 : Fld Z h0 o "com/example/shoal_creek/shoalcreek/MatchedSuffixes" "ends" "[I" (.ref aE))  :
    Con l Z (⟨"com/example/shoal_creek/shoalcreek/MatchedSuffixes", "allocate", "()V"⟩ : MethodName) prog_18_method_9_code 2 none ws RrmAl2 #[(.ref o)] h0 n0 (QrmAl2 Z o aE n0 h0) := by
  refine body (y := (⟨"com/example/shoal_creek/shoalcreek/MatchedSuffixes", "allocate", "()V"⟩ : MethodName)) (Ls := #[.val (.ref o), .unset]) (plainFor_of_name pn0) hn (fun m => ef_rmAl2 m o) ?_
  intro p e s m below meth c T0 hx hby hml hown hnm hret hlk hZ X0
  refine i_aloadN (v := (.ref o)) (pc' := 1) X0 hx (hb hby d5_0) rfl rfl rfl ?_
  refine gf (pc' := 4) (host := "") X0 hx hZ hown (Or.inl (hw _ (List.mem_of_getElem? (i := 28) rfl))) Via.refl H0 (hb hby d5_1) rfl fun T1 X1 => ?_
  refine i_nnT (pc' := 51) X1 hx (hb hby d5_4) rfl (by simp) (by decide) (by decide) ?_
  refine rV X1 hx hlk hret (hb hby d5_51) (by decide) (by decide) ?_
  exact ⟨rfl, rfl⟩
theorem d6_0 : decode prog_18_method_10_code 0 = .ok (.iload_n 1, 1) := by decide +kernel
theorem d6_1 : decode prog_18_method_10_code 1 = .ok (.aload_n 0, 1) := by decide +kernel
theorem d6_2 : decode prog_18_method_10_code 2 = .ok (.getfield 16, 3) := by decide +kernel
theorem d6_5 : decode prog_18_method_10_code 5 = .ok (.arraylength, 1) := by decide +kernel
theorem d6_6 : decode prog_18_method_10_code 6 = .ok (.iconst 1, 1) := by decide +kernel
theorem d6_7 : decode prog_18_method_10_code 7 = .ok (.isub, 1) := by decide +kernel
theorem d6_8 : decode prog_18_method_10_code 8 = .ok (.iand, 1) := by decide +kernel
theorem d6_9 : decode prog_18_method_10_code 9 = .ok (.istore 4, 2) := by decide +kernel
theorem d6_11 : decode prog_18_method_10_code 11 = .ok (.aload_n 0, 1) := by decide +kernel
theorem d6_12 : decode prog_18_method_10_code 12 = .ok (.getfield 16, 3) := by decide +kernel
theorem d6_15 : decode prog_18_method_10_code 15 = .ok (.iload 4, 2) := by decide +kernel
theorem d6_17 : decode prog_18_method_10_code 17 = .ok (.iload_n 1, 1) := by decide +kernel
theorem d6_18 : decode prog_18_method_10_code 18 = .ok (.iastore, 1) := by decide +kernel
theorem d6_19 : decode prog_18_method_10_code 19 = .ok (.aload_n 0, 1) := by decide +kernel
theorem d6_20 : decode prog_18_method_10_code 20 = .ok (.getfield 20, 3) := by decide +kernel
theorem d6_23 : decode prog_18_method_10_code 23 = .ok (.iload 4, 2) := by decide +kernel
theorem d6_25 : decode prog_18_method_10_code 25 = .ok (.iload_n 2, 1) := by decide +kernel
theorem d6_26 : decode prog_18_method_10_code 26 = .ok (.iastore, 1) := by decide +kernel
theorem d6_27 : decode prog_18_method_10_code 27 = .ok (.aload_n 0, 1) := by decide +kernel
theorem d6_28 : decode prog_18_method_10_code 28 = .ok (.getfield 23, 3) := by decide +kernel
theorem d6_31 : decode prog_18_method_10_code 31 = .ok (.iload 4, 2) := by decide +kernel
theorem d6_33 : decode prog_18_method_10_code 33 = .ok (.iload_n 3, 1) := by decide +kernel
theorem d6_34 : decode prog_18_method_10_code 34 = .ok (.iastore, 1) := by decide +kernel
theorem d6_35 : decode prog_18_method_10_code 35 = .ok (.aload_n 0, 1) := by decide +kernel
theorem d6_36 : decode prog_18_method_10_code 36 = .ok (.aload_n 0, 1) := by decide +kernel
theorem d6_37 : decode prog_18_method_10_code 37 = .ok (.getfield 7, 3) := by decide +kernel
theorem d6_40 : decode prog_18_method_10_code 40 = .ok (.iload_n 1, 1) := by decide +kernel
theorem d6_41 : decode prog_18_method_10_code 41 = .ok (.invokestatic 38, 3) := by decide +kernel
theorem d6_44 : decode prog_18_method_10_code 44 = .ok (.putfield 7, 3) := by decide +kernel
theorem d6_47 : decode prog_18_method_10_code 47 = .ok (.return_, 1) := by decide +kernel
theorem ef_rmKeep (m : MethodId) (o : Addr) (x : Int32) (y : Int32) (z : Int32) : entryFrame m #[(.ref o), (.int x), (.int y), (.int z)] 5 = mkF m 0 #[.val (.ref o), .val (.int x), .val (.int y), .val (.int z), .unset] [] := by first | (simp [entryFrame, mkF, argsToLocals, Value.category, maxLocals]; done) | rfl
def QrmKeep (Z : State) (o : Addr) (x : Int32) (y : Int32) (z : Int32) (w : Int32) (pl : Int32) (df : Int32) (aE : Addr) (aL : Addr) (aD : Addr) (N : Nat) (fe : Nat → Int32) (fl : Nat → Int32) (fd : Nat → Int32) (n0 : Nat) (h0 : Heap) (rv : Option Value) (h : Heap) : Prop := rv = none ∧ Keep h0 h [o, aE, aL, aD] ∧ Fld Z h o "com/example/shoal_creek/shoalcreek/MatchedSuffixes" "ends" "[I" (.ref aE) ∧ Fld Z h o "com/example/shoal_creek/shoalcreek/MatchedSuffixes" "lengths" "[I" (.ref aL) ∧ Fld Z h o "com/example/shoal_creek/shoalcreek/MatchedSuffixes" "differings" "[I" (.ref aD) ∧ Fld Z h o "com/example/shoal_creek/shoalcreek/MatchedSuffixes" "newestEnd" "I" (.int (own_max w x)) ∧ Fld Z h o "com/example/shoal_creek/shoalcreek/MatchedSuffixes" "patternLength" "I" (.int pl) ∧ Fld Z h o "com/example/shoal_creek/shoalcreek/MatchedSuffixes" "differing" "C" (.int df) ∧ Av Z h aE .int N (fun i => .int ((own_up fe (own_k x N) x) i)) ∧ Av Z h aL .int N (fun i => .int ((own_up fl (own_k x N) y) i)) ∧ Av Z h aD .int N (fun i => .int ((own_up fd (own_k x N) z) i))
theorem pd0 : parseMethodDescriptor "(II)I" = some ⟨[.int, .int], some .int⟩ := by decide +kernel
abbrev RrmKeep : Room := { frames := 1, cells := 0, slots := 0, locals := 14 }
set_option maxRecDepth 65536 in
set_option maxHeartbeats 40000000 in
theorem rmKeep (l : Launch) (Z : State) (a0 : Array Value) (hw : ∀ d ∈ tables_1, d.before a0 Z = true) (ws : List Jvm.Cond) (o : Addr) (x : Int32) (y : Int32) (z : Int32) (w : Int32) (pl : Int32) (df : Int32) (aE : Addr) (aL : Addr) (aD : Addr) (N : Nat) (fe : Nat → Int32) (fl : Nat → Int32) (fd : Nat → Int32) (n0 : Nat) (h0 : Heap) (hn : n0 ≤ h0.size) (H0 : Exa Z h0 o "com/example/shoal_creek/shoalcreek/MatchedSuffixes") (H1 : Fld Z h0 o "com/example/shoal_creek/shoalcreek/MatchedSuffixes" "ends" "[I" (.ref aE)) (H2 : Fld Z h0 o "com/example/shoal_creek/shoalcreek/MatchedSuffixes" "lengths" "[I" (.ref aL)) (H3 : Fld Z h0 o "com/example/shoal_creek/shoalcreek/MatchedSuffixes" "differings" "[I" (.ref aD)) (H4 : Fld Z h0 o "com/example/shoal_creek/shoalcreek/MatchedSuffixes" "newestEnd" "I" (.int w)) (H5 : Fld Z h0 o "com/example/shoal_creek/shoalcreek/MatchedSuffixes" "patternLength" "I" (.int pl)) (H6 : Fld Z h0 o "com/example/shoal_creek/shoalcreek/MatchedSuffixes" "differing" "C" (.int df)) (H7 : Av Z h0 aE .int N (fun i => .int (fe i))) (H8 : Av Z h0 aL .int N (fun i => .int (fl i))) (H9 : Av Z h0 aD .int N (fun i => .int (fd i))) (H10 : n0 ≤ o) (H11 : n0 ≤ aE) (H12 : n0 ≤ aL) (H13 : n0 ≤ aD) (H14 : o ≠ aE) (H15 : o ≠ aL) (H16 : o ≠ aD) (H17 : aE ≠ aL) (H18 : aE ≠ aD) (H19 : aL ≠ aD) (hN : own_p2 N) :
    Con l Z (⟨"com/example/shoal_creek/shoalcreek/MatchedSuffixes", "keep", "(III)V"⟩ : MethodName) prog_18_method_10_code 5 none ws RrmKeep #[(.ref o), (.int x), (.int y), (.int z)] h0 n0 (QrmKeep Z o x y z w pl df aE aL aD N fe fl fd n0 h0) := by
  refine body (y := (⟨"com/example/shoal_creek/shoalcreek/MatchedSuffixes", "keep", "(III)V"⟩ : MethodName)) (Ls := #[.val (.ref o), .val (.int x), .val (.int y), .val (.int z), .unset]) (plainFor_of_name pn0) hn (fun m => ef_rmKeep m o x y z) ?_
  intro p e s m below meth c T0 hx hby hml hown hnm hret hlk hZ X0
  refine i_iloadN (v := x) (pc' := 1) X0 hx (hb hby d6_0) rfl rfl ?_
  refine i_aloadN (v := (.ref o)) (pc' := 2) X0 hx (hb hby d6_1) rfl rfl rfl ?_
  refine gf (pc' := 5) (host := "") X0 hx hZ hown (Or.inl (hw _ (List.mem_of_getElem? (i := 28) rfl))) Via.refl H1 (hb hby d6_2) rfl fun T1 X1 => ?_
  refine len (pc' := 6) (Nat.toInt32 N) X1 hx hZ H7 rfl (hb hby d6_5) rfl ?_
  refine i_iconst (pc' := 7) (1 : Int32) X1 hx (hb hby d6_6) rfl (by decide) ?_
  refine i_isub (pc' := 8) X1 hx (hb hby d6_7) rfl ?_
  refine i_iand (pc' := 9) X1 hx (hb hby d6_8) rfl ?_
  refine i_istore (L' := #[.val (.ref o), .val (.int x), .val (.int y), .val (.int z), .val (.int (x &&& ((Nat.toInt32 N) - (1 : Int32))))]) (pc' := 11) X1 hx (hb hby d6_9) rfl rfl ?_
  refine i_aloadN (v := (.ref o)) (pc' := 12) X1 hx (hb hby d6_11) rfl rfl rfl ?_
  refine gf (pc' := 15) (host := "") X1 hx hZ hown (Or.inl (hw _ (List.mem_of_getElem? (i := 28) rfl))) Via.refl H1 (hb hby d6_12) rfl fun T2 X2 => ?_
  refine i_iload (v := (x &&& ((Nat.toInt32 N) - (1 : Int32)))) (pc' := 17) X2 hx (hb hby d6_15) rfl rfl ?_
  refine i_iloadN (v := x) (pc' := 18) X2 hx (hb hby d6_17) rfl rfl ?_
  refine saI (pc' := 19) X2 hx hZ H7 H11 (own_idx hN x).1 (own_idx hN x).2.1 (hb hby d6_18) rfl fun T3 h3 X3 W3 => ?_
  refine i_aloadN (v := (.ref o)) (pc' := 20) X3 hx (hb hby d6_19) rfl rfl rfl ?_
  have F4 : Fld Z h3 o "com/example/shoal_creek/shoalcreek/MatchedSuffixes" "lengths" "[I" (.ref aL) := (Jvm.RoadKit.Fld.other W3 H2 (Or.inl H14))
  refine gf (pc' := 23) (host := "") X3 hx hZ hown (Or.inl (hw _ (List.mem_of_getElem? (i := 31) rfl))) Via.refl F4 (hb hby d6_20) rfl fun T5 X5 => ?_
  refine i_iload (v := (x &&& ((Nat.toInt32 N) - (1 : Int32)))) (pc' := 25) X5 hx (hb hby d6_23) rfl rfl ?_
  refine i_iloadN (v := y) (pc' := 26) X5 hx (hb hby d6_25) rfl rfl ?_
  have F6 : Av Z h3 aL .int N (fun i => .int (fl i)) := (H8.other W3 (Ne.symm H17))
  refine saI (pc' := 27) X5 hx hZ F6 H12 (own_idx hN x).1 (own_idx hN x).2.1 (hb hby d6_26) rfl fun T7 h7 X7 W7 => ?_
  refine i_aloadN (v := (.ref o)) (pc' := 28) X7 hx (hb hby d6_27) rfl rfl rfl ?_
  have F8 : Fld Z h7 o "com/example/shoal_creek/shoalcreek/MatchedSuffixes" "differings" "[I" (.ref aD) := (Jvm.RoadKit.Fld.other W7 (Jvm.RoadKit.Fld.other W3 H3 (Or.inl H14)) (Or.inl H15))
  refine gf (pc' := 31) (host := "") X7 hx hZ hown (Or.inl (hw _ (List.mem_of_getElem? (i := 33) rfl))) Via.refl F8 (hb hby d6_28) rfl fun T9 X9 => ?_
  refine i_iload (v := (x &&& ((Nat.toInt32 N) - (1 : Int32)))) (pc' := 33) X9 hx (hb hby d6_31) rfl rfl ?_
  refine i_iloadN (v := z) (pc' := 34) X9 hx (hb hby d6_33) rfl rfl ?_
  have F10 : Av Z h7 aD .int N (fun i => .int (fd i)) := ((H9.other W3 (Ne.symm H18)).other W7 (Ne.symm H19))
  refine saI (pc' := 35) X9 hx hZ F10 H13 (own_idx hN x).1 (own_idx hN x).2.1 (hb hby d6_34) rfl fun T11 h11 X11 W11 => ?_
  refine i_aloadN (v := (.ref o)) (pc' := 36) X11 hx (hb hby d6_35) rfl rfl rfl ?_
  refine i_aloadN (v := (.ref o)) (pc' := 37) X11 hx (hb hby d6_36) rfl rfl rfl ?_
  have F12 : Fld Z h11 o "com/example/shoal_creek/shoalcreek/MatchedSuffixes" "newestEnd" "I" (.int w) := (Jvm.RoadKit.Fld.other W11 (Jvm.RoadKit.Fld.other W7 (Jvm.RoadKit.Fld.other W3 H4 (Or.inl H14)) (Or.inl H15)) (Or.inl H16))
  refine gf (pc' := 40) (host := "") X11 hx hZ hown (Or.inl (hw _ (List.mem_of_getElem? (i := 15) rfl))) Via.refl F12 (hb hby d6_37) rfl fun T13 X13 => ?_
  refine i_iloadN (v := x) (pc' := 41) X13 hx (hb hby d6_40) rfl rfl ?_
  refine cS (y := (⟨"java/lang/Math", "max", "(II)I"⟩ : MethodName)) (rest := [(.ref o)]) (pc' := 44) 1 [(.int w), (.int x)] X13 hx hZ hown (hw _ (List.mem_of_getElem? (i := 40) rfl)) (hw _ (List.mem_of_getElem? (i := 41) rfl)) (hw _ (List.mem_of_getElem? (i := 42) rfl)) (hw _ (List.mem_of_getElem? (i := 43) rfl)) (by decide) (rmMax l Z a0 hw [] w x n0 h11 X13.le ) (by decide) (by decide) (by rw [hml]; rfl) rfl (lenOf pd0 rfl) rfl (Nat.le_of_eq rfl) (hb hby d6_41) rfl (by decide) (by decide) ?_
  intro r14 T14 h14 X14 q14
  obtain ⟨rfl, eh14⟩ := q14
  subst eh14
  show Go _ _ _ _ _ _ _ T14 (mkF m 44 #[.val (.ref o), .val (.int x), .val (.int y), .val (.int z), .val (.int (x &&& ((Nat.toInt32 N) - (1 : Int32))))] [(.int (own_max w x)), (.ref o)])
  have F15 : Exa Z h11 o "com/example/shoal_creek/shoalcreek/MatchedSuffixes" := (Jvm.RoadKit.Exa.wr W11 (Jvm.RoadKit.Exa.wr W7 (Jvm.RoadKit.Exa.wr W3 H0)))
  refine pf (pc' := 47) (host := "") (ty := .int) X14 hx hZ hown (Or.inl (hw _ (List.mem_of_getElem? (i := 15) rfl))) Via.refl F12 F15 (Or.inl (hw _ (List.mem_of_getElem? (i := 16) rfl))) (hw _ (List.mem_of_getElem? (i := 7) rfl)) (by decide) rfl rfl H10 (hb hby d6_44) rfl fun T16 h16 X16 W16 => ?_
  refine rV X16 hx hlk hret (hb hby d6_47) (by decide) (by decide) ?_
  have F17 : Fld Z h16 o "com/example/shoal_creek/shoalcreek/MatchedSuffixes" "ends" "[I" (.ref aE) := (Jvm.RoadKit.Fld.other W16 (Jvm.RoadKit.Fld.other W11 (Jvm.RoadKit.Fld.other W7 (Jvm.RoadKit.Fld.other W3 H1 (Or.inl H14)) (Or.inl H15)) (Or.inl H16)) (Or.inr (slot_ne (a0 := a0) (Or.inl (hw _ (List.mem_of_getElem? (i := 29) rfl))) (Or.inl (hw _ (List.mem_of_getElem? (i := 16) rfl))) (by decide) (t := (.array .int)) (t' := .int) (by decide) (by decide))))
  have F18 : Fld Z h16 o "com/example/shoal_creek/shoalcreek/MatchedSuffixes" "lengths" "[I" (.ref aL) := (Jvm.RoadKit.Fld.other W16 (Jvm.RoadKit.Fld.other W11 (Jvm.RoadKit.Fld.other W7 F4 (Or.inl H15)) (Or.inl H16)) (Or.inr (slot_ne (a0 := a0) (Or.inl (hw _ (List.mem_of_getElem? (i := 32) rfl))) (Or.inl (hw _ (List.mem_of_getElem? (i := 16) rfl))) (by decide) (t := (.array .int)) (t' := .int) (by decide) (by decide))))
  have F19 : Fld Z h16 o "com/example/shoal_creek/shoalcreek/MatchedSuffixes" "differings" "[I" (.ref aD) := (Jvm.RoadKit.Fld.other W16 (Jvm.RoadKit.Fld.other W11 F8 (Or.inl H16)) (Or.inr (slot_ne (a0 := a0) (Or.inl (hw _ (List.mem_of_getElem? (i := 34) rfl))) (Or.inl (hw _ (List.mem_of_getElem? (i := 16) rfl))) (by decide) (t := (.array .int)) (t' := .int) (by decide) (by decide))))
  have F20 : Fld Z h16 o "com/example/shoal_creek/shoalcreek/MatchedSuffixes" "newestEnd" "I" (.int (own_max w x)) := (Jvm.RoadKit.Fld.same W16 F12)
  have F21 : Fld Z h16 o "com/example/shoal_creek/shoalcreek/MatchedSuffixes" "patternLength" "I" (.int pl) := (Jvm.RoadKit.Fld.other W16 (Jvm.RoadKit.Fld.other W11 (Jvm.RoadKit.Fld.other W7 (Jvm.RoadKit.Fld.other W3 H5 (Or.inl H14)) (Or.inl H15)) (Or.inl H16)) (Or.inr (slot_ne (a0 := a0) (Or.inr (hw _ (List.mem_of_getElem? (i := 18) rfl))) (Or.inl (hw _ (List.mem_of_getElem? (i := 16) rfl))) (by decide) (t := .int) (t' := .int) (by decide) (by decide))))
  have F22 : Fld Z h16 o "com/example/shoal_creek/shoalcreek/MatchedSuffixes" "differing" "C" (.int df) := (Jvm.RoadKit.Fld.other W16 (Jvm.RoadKit.Fld.other W11 (Jvm.RoadKit.Fld.other W7 (Jvm.RoadKit.Fld.other W3 H6 (Or.inl H14)) (Or.inl H15)) (Or.inl H16)) (Or.inr (slot_ne (a0 := a0) (Or.inl (hw _ (List.mem_of_getElem? (i := 51) rfl))) (Or.inl (hw _ (List.mem_of_getElem? (i := 16) rfl))) (by decide) (t := .char) (t' := .int) (by decide) (by decide))))
  have F23 : Av Z h16 aE .int N (fun i => .int (own_up fe (own_k x N) x i)) := ((((own_st H7 W3).other W7 H17).other W11 H18).other W16 (Ne.symm H14))
  have F24 : Av Z h16 aL .int N (fun i => .int (own_up fl (own_k x N) y i)) := (((own_st F6 W7).other W11 H19).other W16 (Ne.symm H15))
  have F25 : Av Z h16 aD .int N (fun i => .int (own_up fd (own_k x N) z i)) := ((own_st F10 W11).other W16 (Ne.symm H16))
  exact ⟨rfl, (((((Keep.refl h0 _).wr W3 (Or.inl (List.mem_of_getElem? (i := 1) rfl))).wr W7 (Or.inl (List.mem_of_getElem? (i := 2) rfl))).wr W11 (Or.inl (List.mem_of_getElem? (i := 3) rfl))).wr W16 (Or.inl (List.mem_of_getElem? (i := 0) rfl))), F17, F18, F19, F20, F21, F22, F23, F24, F25⟩
theorem d8_0 : decode prog_18_method_2_code 0 = .ok (.iconst 0, 1) := by decide +kernel
theorem d8_1 : decode prog_18_method_2_code 1 = .ok (.istore_n 2, 1) := by decide +kernel
theorem d8_2 : decode prog_18_method_2_code 2 = .ok (.iload_n 1, 1) := by decide +kernel
theorem d8_3 : decode prog_18_method_2_code 3 = .ok (.aload_n 0, 1) := by decide +kernel
theorem d8_4 : decode prog_18_method_2_code 4 = .ok (.getfield 7, 3) := by decide +kernel
theorem d8_7 : decode prog_18_method_2_code 7 = .ok (.if_icmp .gt 36, 3) := by decide +kernel
theorem d8_10 : decode prog_18_method_2_code 10 = .ok (.aload_n 0, 1) := by decide +kernel
theorem d8_11 : decode prog_18_method_2_code 11 = .ok (.getfield 16, 3) := by decide +kernel
theorem d8_14 : decode prog_18_method_2_code 14 = .ok (.iload_n 1, 1) := by decide +kernel
theorem d8_15 : decode prog_18_method_2_code 15 = .ok (.aload_n 0, 1) := by decide +kernel
theorem d8_16 : decode prog_18_method_2_code 16 = .ok (.getfield 16, 3) := by decide +kernel
theorem d8_19 : decode prog_18_method_2_code 19 = .ok (.arraylength, 1) := by decide +kernel
theorem d8_20 : decode prog_18_method_2_code 20 = .ok (.iconst 1, 1) := by decide +kernel
theorem d8_21 : decode prog_18_method_2_code 21 = .ok (.isub, 1) := by decide +kernel
theorem d8_22 : decode prog_18_method_2_code 22 = .ok (.iand, 1) := by decide +kernel
theorem d8_23 : decode prog_18_method_2_code 23 = .ok (.iaload, 1) := by decide +kernel
theorem d8_24 : decode prog_18_method_2_code 24 = .ok (.iload_n 1, 1) := by decide +kernel
theorem d8_25 : decode prog_18_method_2_code 25 = .ok (.if_icmp .ne 18, 3) := by decide +kernel
theorem d8_28 : decode prog_18_method_2_code 28 = .ok (.aload_n 0, 1) := by decide +kernel
theorem d8_29 : decode prog_18_method_2_code 29 = .ok (.getfield 20, 3) := by decide +kernel
theorem d8_32 : decode prog_18_method_2_code 32 = .ok (.iload_n 1, 1) := by decide +kernel
theorem d8_33 : decode prog_18_method_2_code 33 = .ok (.aload_n 0, 1) := by decide +kernel
theorem d8_34 : decode prog_18_method_2_code 34 = .ok (.getfield 16, 3) := by decide +kernel
theorem d8_37 : decode prog_18_method_2_code 37 = .ok (.arraylength, 1) := by decide +kernel
theorem d8_38 : decode prog_18_method_2_code 38 = .ok (.iconst 1, 1) := by decide +kernel
theorem d8_39 : decode prog_18_method_2_code 39 = .ok (.isub, 1) := by decide +kernel
theorem d8_40 : decode prog_18_method_2_code 40 = .ok (.iand, 1) := by decide +kernel
theorem d8_41 : decode prog_18_method_2_code 41 = .ok (.iaload, 1) := by decide +kernel
theorem d8_42 : decode prog_18_method_2_code 42 = .ok (.istore_n 2, 1) := by decide +kernel
theorem d8_43 : decode prog_18_method_2_code 43 = .ok (.iload_n 2, 1) := by decide +kernel
theorem d8_44 : decode prog_18_method_2_code 44 = .ok (.ireturn, 1) := by decide +kernel
theorem ef_rmL0 (m : MethodId) (o : Addr) (q : Int32) : entryFrame m #[(.ref o), (.int q)] 3 = mkF m 0 #[.val (.ref o), .val (.int q), .unset] [] := by first | (simp [entryFrame, mkF, argsToLocals, Value.category, maxLocals]; done) | rfl
def QrmL0 (Z : State) (o : Addr) (q : Int32) (w : Int32) (n0 : Nat) (h0 : Heap) (rv : Option Value) (h : Heap) : Prop := rv = some (.int (0 : Int32)) ∧ h0 = h
abbrev RrmL0 : Room := { frames := 0, cells := 0, slots := 0, locals := 0 }
set_option maxRecDepth 65536 in
set_option maxHeartbeats 40000000 in
theorem rmL0 (l : Launch) (Z : State) (a0 : Array Value) (hw : ∀ d ∈ tables_1, d.before a0 Z = true) (ws : List Jvm.Cond) (o : Addr) (q : Int32) (w : Int32) (n0 : Nat) (h0 : Heap) (hn : n0 ≤ h0.size) (H0 : Fld Z h0 o "com/example/shoal_creek/shoalcreek/MatchedSuffixes" "newestEnd" "I" (.int w)) (hq : w < q) :
    Con l Z (⟨"com/example/shoal_creek/shoalcreek/MatchedSuffixes", "lengthEndingAt", "(I)I"⟩ : MethodName) prog_18_method_2_code 3 (some .int) ws RrmL0 #[(.ref o), (.int q)] h0 n0 (QrmL0 Z o q w n0 h0) := by
  refine body (y := (⟨"com/example/shoal_creek/shoalcreek/MatchedSuffixes", "lengthEndingAt", "(I)I"⟩ : MethodName)) (Ls := #[.val (.ref o), .val (.int q), .unset]) (plainFor_of_name pn0) hn (fun m => ef_rmL0 m o q) ?_
  intro p e s m below meth c T0 hx hby hml hown hnm hret hlk hZ X0
  refine i_iconst (pc' := 1) (0 : Int32) X0 hx (hb hby d8_0) rfl (by decide) ?_
  refine i_istoreN (L' := #[.val (.ref o), .val (.int q), .val (.int (0 : Int32))]) (pc' := 2) X0 hx (hb hby d8_1) rfl rfl ?_
  refine i_iloadN (v := q) (pc' := 3) X0 hx (hb hby d8_2) rfl rfl ?_
  refine i_aloadN (v := (.ref o)) (pc' := 4) X0 hx (hb hby d8_3) rfl rfl rfl ?_
  refine gf (pc' := 7) (host := "") X0 hx hZ hown (Or.inl (hw _ (List.mem_of_getElem? (i := 15) rfl))) Via.refl H0 (hb hby d8_4) rfl fun T1 X1 => ?_
  refine i_icT (pc' := 43) X1 hx (hb hby d8_7) (XT.ii_gt_t hq) (by decide) (by decide) ?_
  refine i_iloadN (v := (0 : Int32)) (pc' := 44) X1 hx (hb hby d8_43) rfl rfl ?_
  refine rI X1 hx hlk hret (hb hby d8_44) (by decide) (by decide) ?_
  exact ⟨rfl, rfl⟩
theorem ef_rmL1 (m : MethodId) (o : Addr) (q : Int32) : entryFrame m #[(.ref o), (.int q)] 3 = mkF m 0 #[.val (.ref o), .val (.int q), .unset] [] := by first | (simp [entryFrame, mkF, argsToLocals, Value.category, maxLocals]; done) | rfl
def QrmL1 (Z : State) (o : Addr) (q : Int32) (w : Int32) (aE : Addr) (aL : Addr) (N : Nat) (fe : Nat → Int32) (fl : Nat → Int32) (n0 : Nat) (h0 : Heap) (rv : Option Value) (h : Heap) : Prop := rv = some (.int (own_lea fe fl N w q)) ∧ h0 = h
abbrev RrmL1 : Room := { frames := 0, cells := 0, slots := 0, locals := 0 }
set_option maxRecDepth 65536 in
set_option maxHeartbeats 40000000 in
theorem rmL1 (l : Launch) (Z : State) (a0 : Array Value) (hw : ∀ d ∈ tables_1, d.before a0 Z = true) (ws : List Jvm.Cond) (o : Addr) (q : Int32) (w : Int32) (aE : Addr) (aL : Addr) (N : Nat) (fe : Nat → Int32) (fl : Nat → Int32) (n0 : Nat) (h0 : Heap) (hn : n0 ≤ h0.size) (H0 : Fld Z h0 o "com/example/shoal_creek/shoalcreek/MatchedSuffixes" "newestEnd" "I" (.int w)) (H1 : Fld Z h0 o "com/example/shoal_creek/shoalcreek/MatchedSuffixes" "ends" "[I" (.ref aE)) (H2 : Fld Z h0 o "com/example/shoal_creek/shoalcreek/MatchedSuffixes" "lengths" "[I" (.ref aL)) (H3 : Av Z h0 aE .int N (fun i => .int (fe i))) (H4 : Av Z h0 aL .int N (fun i => .int (fl i))) (hN : own_p2 N) :
    Con l Z (⟨"com/example/shoal_creek/shoalcreek/MatchedSuffixes", "lengthEndingAt", "(I)I"⟩ : MethodName) prog_18_method_2_code 3 (some .int) ws RrmL1 #[(.ref o), (.int q)] h0 n0 (QrmL1 Z o q w aE aL N fe fl n0 h0) := by
  refine body (y := (⟨"com/example/shoal_creek/shoalcreek/MatchedSuffixes", "lengthEndingAt", "(I)I"⟩ : MethodName)) (Ls := #[.val (.ref o), .val (.int q), .unset]) (plainFor_of_name pn0) hn (fun m => ef_rmL1 m o q) ?_
  intro p e s m below meth c T0 hx hby hml hown hnm hret hlk hZ X0
  refine i_iconst (pc' := 1) (0 : Int32) X0 hx (hb hby d8_0) rfl (by decide) ?_
  refine i_istoreN (L' := #[.val (.ref o), .val (.int q), .val (.int (0 : Int32))]) (pc' := 2) X0 hx (hb hby d8_1) rfl rfl ?_
  refine i_iloadN (v := q) (pc' := 3) X0 hx (hb hby d8_2) rfl rfl ?_
  refine i_aloadN (v := (.ref o)) (pc' := 4) X0 hx (hb hby d8_3) rfl rfl rfl ?_
  refine gf (pc' := 7) (host := "") X0 hx hZ hown (Or.inl (hw _ (List.mem_of_getElem? (i := 15) rfl))) Via.refl H0 (hb hby d8_4) rfl fun T1 X1 => ?_
  by_cases hc2 : w < q
  · skip
    refine i_icT (pc' := 43) X1 hx (hb hby d8_7) (XT.ii_gt_t hc2) (by decide) (by decide) ?_
    refine i_iloadN (v := (0 : Int32)) (pc' := 44) X1 hx (hb hby d8_43) rfl rfl ?_
    refine rI X1 hx hlk hret (hb hby d8_44) (by decide) (by decide) ?_
    exact ⟨(by simp [own_lea, hc2]), rfl⟩
  · skip
    refine i_icF (pc' := 10) X1 hx (hb hby d8_7) rfl (XT.ii_gt_f hc2) ?_
    refine i_aloadN (v := (.ref o)) (pc' := 11) X1 hx (hb hby d8_10) rfl rfl rfl ?_
    refine gf (pc' := 14) (host := "") X1 hx hZ hown (Or.inl (hw _ (List.mem_of_getElem? (i := 28) rfl))) Via.refl H1 (hb hby d8_11) rfl fun T3 X3 => ?_
    refine i_iloadN (v := q) (pc' := 15) X3 hx (hb hby d8_14) rfl rfl ?_
    refine i_aloadN (v := (.ref o)) (pc' := 16) X3 hx (hb hby d8_15) rfl rfl rfl ?_
    refine gf (pc' := 19) (host := "") X3 hx hZ hown (Or.inl (hw _ (List.mem_of_getElem? (i := 28) rfl))) Via.refl H1 (hb hby d8_16) rfl fun T4 X4 => ?_
    refine len (pc' := 20) (Nat.toInt32 N) X4 hx hZ H3 rfl (hb hby d8_19) rfl ?_
    refine i_iconst (pc' := 21) (1 : Int32) X4 hx (hb hby d8_20) rfl (by decide) ?_
    refine i_isub (pc' := 22) X4 hx (hb hby d8_21) rfl ?_
    refine i_iand (pc' := 23) X4 hx (hb hby d8_22) rfl ?_
    refine ldI (v := (.int (fe (own_k q N)))) (pc' := 24) X4 hx hZ H3 (own_idx hN q).1 (own_idx hN q).2.1 rfl (hb hby d8_23) rfl ?_
    refine i_iloadN (v := q) (pc' := 25) X4 hx (hb hby d8_24) rfl rfl ?_
    by_cases hc5 : (fe (own_k q N)) = q
    · skip
      refine i_icF (pc' := 28) X4 hx (hb hby d8_25) rfl (XT.ii_ne_f hc5) ?_
      refine i_aloadN (v := (.ref o)) (pc' := 29) X4 hx (hb hby d8_28) rfl rfl rfl ?_
      refine gf (pc' := 32) (host := "") X4 hx hZ hown (Or.inl (hw _ (List.mem_of_getElem? (i := 31) rfl))) Via.refl H2 (hb hby d8_29) rfl fun T6 X6 => ?_
      refine i_iloadN (v := q) (pc' := 33) X6 hx (hb hby d8_32) rfl rfl ?_
      refine i_aloadN (v := (.ref o)) (pc' := 34) X6 hx (hb hby d8_33) rfl rfl rfl ?_
      refine gf (pc' := 37) (host := "") X6 hx hZ hown (Or.inl (hw _ (List.mem_of_getElem? (i := 28) rfl))) Via.refl H1 (hb hby d8_34) rfl fun T7 X7 => ?_
      refine len (pc' := 38) (Nat.toInt32 N) X7 hx hZ H3 rfl (hb hby d8_37) rfl ?_
      refine i_iconst (pc' := 39) (1 : Int32) X7 hx (hb hby d8_38) rfl (by decide) ?_
      refine i_isub (pc' := 40) X7 hx (hb hby d8_39) rfl ?_
      refine i_iand (pc' := 41) X7 hx (hb hby d8_40) rfl ?_
      refine ldI (v := (.int (fl (own_k q N)))) (pc' := 42) X7 hx hZ H4 (own_idx hN q).1 (own_idx hN q).2.1 rfl (hb hby d8_41) rfl ?_
      refine i_istoreN (L' := #[.val (.ref o), .val (.int q), .val (.int (fl (own_k q N)))]) (pc' := 43) X7 hx (hb hby d8_42) rfl rfl ?_
      refine i_iloadN (v := (fl (own_k q N))) (pc' := 44) X7 hx (hb hby d8_43) rfl rfl ?_
      refine rI X7 hx hlk hret (hb hby d8_44) (by decide) (by decide) ?_
      exact ⟨(by simp [own_lea, hc2, hc5]), rfl⟩
    · skip
      refine i_icT (pc' := 43) X4 hx (hb hby d8_25) (XT.ii_ne_t hc5) (by decide) (by decide) ?_
      refine i_iloadN (v := (0 : Int32)) (pc' := 44) X4 hx (hb hby d8_43) rfl rfl ?_
      refine rI X4 hx hlk hret (hb hby d8_44) (by decide) (by decide) ?_
      exact ⟨(by simp [own_lea, hc2, hc5]), rfl⟩
theorem d4_0 : decode prog_18_method_7_code 0 = .ok (.iload_n 2, 1) := by decide +kernel
theorem d4_1 : decode prog_18_method_7_code 1 = .ok (.ifCond .le 35, 3) := by decide +kernel
theorem d4_4 : decode prog_18_method_7_code 4 = .ok (.iload_n 1, 1) := by decide +kernel
theorem d4_5 : decode prog_18_method_7_code 5 = .ok (.iload_n 3, 1) := by decide +kernel
theorem d4_6 : decode prog_18_method_7_code 6 = .ok (.if_icmp .lt 30, 3) := by decide +kernel
theorem d4_9 : decode prog_18_method_7_code 9 = .ok (.aload_n 0, 1) := by decide +kernel
theorem d4_10 : decode prog_18_method_7_code 10 = .ok (.invokevirtual 30, 3) := by decide +kernel
theorem d4_13 : decode prog_18_method_7_code 13 = .ok (.aload_n 0, 1) := by decide +kernel
theorem d4_14 : decode prog_18_method_7_code 14 = .ok (.iload_n 1, 1) := by decide +kernel
theorem d4_15 : decode prog_18_method_7_code 15 = .ok (.iload_n 2, 1) := by decide +kernel
theorem d4_16 : decode prog_18_method_7_code 16 = .ok (.iload_n 2, 1) := by decide +kernel
theorem d4_17 : decode prog_18_method_7_code 17 = .ok (.aload_n 0, 1) := by decide +kernel
theorem d4_18 : decode prog_18_method_7_code 18 = .ok (.getfield 13, 3) := by decide +kernel
theorem d4_21 : decode prog_18_method_7_code 21 = .ok (.if_icmp .ge 10, 3) := by decide +kernel
theorem d4_24 : decode prog_18_method_7_code 24 = .ok (.aload_n 0, 1) := by decide +kernel
theorem d4_25 : decode prog_18_method_7_code 25 = .ok (.getfield 26, 3) := by decide +kernel
theorem d4_28 : decode prog_18_method_7_code 28 = .ok (.goto 5, 3) := by decide +kernel
theorem d4_31 : decode prog_18_method_7_code 31 = .ok (.bipush (-2), 2) := by decide +kernel
theorem d4_33 : decode prog_18_method_7_code 33 = .ok (.invokevirtual 33, 3) := by decide +kernel
theorem d4_36 : decode prog_18_method_7_code 36 = .ok (.return_, 1) := by decide +kernel
theorem ef_rmR0 (m : MethodId) (o : Addr) (x : Int32) (y : Int32) (z : Int32) : entryFrame m #[(.ref o), (.int x), (.int y), (.int z)] 4 = mkF m 0 #[.val (.ref o), .val (.int x), .val (.int y), .val (.int z)] [] := by first | (simp [entryFrame, mkF, argsToLocals, Value.category, maxLocals]; done) | rfl
def QrmR0 (Z : State) (o : Addr) (x : Int32) (y : Int32) (z : Int32) (n0 : Nat) (h0 : Heap) (rv : Option Value) (h : Heap) : Prop := rv = none ∧ h0 = h
abbrev RrmR0 : Room := { frames := 0, cells := 0, slots := 0, locals := 0 }
set_option maxRecDepth 65536 in
set_option maxHeartbeats 40000000 in
theorem rmR0 (l : Launch) (Z : State) (a0 : Array Value) (hw : ∀ d ∈ tables_1, d.before a0 Z = true) (ws : List Jvm.Cond) (o : Addr) (x : Int32) (y : Int32) (z : Int32) (n0 : Nat) (h0 : Heap) (hn : n0 ≤ h0.size)  (hk : ¬ ((0 : Int32) < y ∧ ¬ x < z)) :
    Con l Z (⟨"com/example/shoal_creek/shoalcreek/MatchedSuffixes", "remember", "(III)V"⟩ : MethodName) prog_18_method_7_code 4 none ws RrmR0 #[(.ref o), (.int x), (.int y), (.int z)] h0 n0 (QrmR0 Z o x y z n0 h0) := by
  refine body (y := (⟨"com/example/shoal_creek/shoalcreek/MatchedSuffixes", "remember", "(III)V"⟩ : MethodName)) (Ls := #[.val (.ref o), .val (.int x), .val (.int y), .val (.int z)]) (plainFor_of_name pn0) hn (fun m => ef_rmR0 m o x y z) ?_
  intro p e s m below meth c T0 hx hby hml hown hnm hret hlk hZ X0
  refine i_iloadN (v := y) (pc' := 1) X0 hx (hb hby d4_0) rfl rfl ?_
  by_cases hc1 : 0 < y
  · skip
    refine i_ifF (pc' := 4) X0 hx (hb hby d4_1) rfl (XT.i0_le_f hc1) ?_
    refine i_iloadN (v := x) (pc' := 5) X0 hx (hb hby d4_4) rfl rfl ?_
    refine i_iloadN (v := z) (pc' := 6) X0 hx (hb hby d4_5) rfl rfl ?_
    refine i_icT (pc' := 36) X0 hx (hb hby d4_6) (XT.ii_lt_t (Classical.byContradiction fun q => hk ⟨hc1, q⟩)) (by decide) (by decide) ?_
    refine rV X0 hx hlk hret (hb hby d4_36) (by decide) (by decide) ?_
    exact ⟨rfl, rfl⟩
  · skip
    refine i_ifT (pc' := 36) X0 hx (hb hby d4_1) (XT.i0_le_t hc1) (by decide) (by decide) ?_
    refine rV X0 hx hlk hret (hb hby d4_36) (by decide) (by decide) ?_
    exact ⟨rfl, rfl⟩
theorem ef_rmR1 (m : MethodId) (o : Addr) (x : Int32) (y : Int32) (z : Int32) : entryFrame m #[(.ref o), (.int x), (.int y), (.int z)] 4 = mkF m 0 #[.val (.ref o), .val (.int x), .val (.int y), .val (.int z)] [] := by first | (simp [entryFrame, mkF, argsToLocals, Value.category, maxLocals]; done) | rfl
def QrmR1 (Z : State) (o : Addr) (x : Int32) (y : Int32) (z : Int32) (pl : Int32) (w : Int32) (df : Int32) (n0 : Nat) (h0 : Heap) (rv : Option Value) (h : Heap) : Prop := ∃ aE : Addr, ∃ aL : Addr, ∃ aD : Addr, rv = none ∧ Keep h0 h [o] ∧ Fld Z h o "com/example/shoal_creek/shoalcreek/MatchedSuffixes" "ends" "[I" (.ref aE) ∧ Fld Z h o "com/example/shoal_creek/shoalcreek/MatchedSuffixes" "lengths" "[I" (.ref aL) ∧ Fld Z h o "com/example/shoal_creek/shoalcreek/MatchedSuffixes" "differings" "[I" (.ref aD) ∧ Fld Z h o "com/example/shoal_creek/shoalcreek/MatchedSuffixes" "newestEnd" "I" (.int (own_max w x)) ∧ Fld Z h o "com/example/shoal_creek/shoalcreek/MatchedSuffixes" "patternLength" "I" (.int pl) ∧ Fld Z h o "com/example/shoal_creek/shoalcreek/MatchedSuffixes" "differing" "C" (.int df) ∧ Av Z h aE .int (own_N pl) (fun i => .int ((own_up own_zero (own_k x (own_N pl)) x) i)) ∧ Av Z h aL .int (own_N pl) (fun i => .int ((own_up own_zero (own_k x (own_N pl)) y) i)) ∧ Av Z h aD .int (own_N pl) (fun i => .int ((own_up own_zero (own_k x (own_N pl)) (if y < pl then df else (-2 : Int32))) i)) ∧ h0.size ≤ aE ∧ h0.size ≤ aL ∧ h0.size ≤ aD ∧ aE ≠ aL ∧ aE ≠ aD ∧ aL ≠ aD
theorem pd1 : parseMethodDescriptor "()V" = some ⟨[], none⟩ := by decide +kernel
theorem pd2 : parseMethodDescriptor "(III)V" = some ⟨[.int, .int, .int], none⟩ := by decide +kernel
abbrev RrmR1 : Room := { frames := 2, cells := 3, slots := 192, locals := 30 }
set_option maxRecDepth 65536 in
set_option maxHeartbeats 40000000 in
theorem rmR1 (l : Launch) (Z : State) (a0 : Array Value) (hw : ∀ d ∈ tables_1, d.before a0 Z = true) (ws : List Jvm.Cond) (o : Addr) (x : Int32) (y : Int32) (z : Int32) (pl : Int32) (w : Int32) (df : Int32) (n0 : Nat) (h0 : Heap) (hn : n0 ≤ h0.size) (H0 : Exa Z h0 o "com/example/shoal_creek/shoalcreek/MatchedSuffixes") (H1 : Fld Z h0 o "com/example/shoal_creek/shoalcreek/MatchedSuffixes" "ends" "[I" .null) (H2 : Fld Z h0 o "com/example/shoal_creek/shoalcreek/MatchedSuffixes" "lengths" "[I" .null) (H3 : Fld Z h0 o "com/example/shoal_creek/shoalcreek/MatchedSuffixes" "differings" "[I" .null) (H4 : Fld Z h0 o "com/example/shoal_creek/shoalcreek/MatchedSuffixes" "newestEnd" "I" (.int w)) (H5 : Fld Z h0 o "com/example/shoal_creek/shoalcreek/MatchedSuffixes" "patternLength" "I" (.int pl)) (H6 : Fld Z h0 o "com/example/shoal_creek/shoalcreek/MatchedSuffixes" "differing" "C" (.int df)) (H7 : n0 ≤ o) (hp64 : ¬ (64 : Int32) < pl) (hy : (0 : Int32) < y) (hz : ¬ x < z) :
    Con l Z (⟨"com/example/shoal_creek/shoalcreek/MatchedSuffixes", "remember", "(III)V"⟩ : MethodName) prog_18_method_7_code 4 none ws RrmR1 #[(.ref o), (.int x), (.int y), (.int z)] h0 n0 (QrmR1 Z o x y z pl w df n0 h0) := by
  refine body (y := (⟨"com/example/shoal_creek/shoalcreek/MatchedSuffixes", "remember", "(III)V"⟩ : MethodName)) (Ls := #[.val (.ref o), .val (.int x), .val (.int y), .val (.int z)]) (plainFor_of_name pn0) hn (fun m => ef_rmR1 m o x y z) ?_
  intro p e s m below meth c T0 hx hby hml hown hnm hret hlk hZ X0
  refine i_iloadN (v := y) (pc' := 1) X0 hx (hb hby d4_0) rfl rfl ?_
  refine i_ifF (pc' := 4) X0 hx (hb hby d4_1) rfl (XT.i0_le_f hy) ?_
  refine i_iloadN (v := x) (pc' := 5) X0 hx (hb hby d4_4) rfl rfl ?_
  refine i_iloadN (v := z) (pc' := 6) X0 hx (hb hby d4_5) rfl rfl ?_
  refine i_icF (pc' := 9) X0 hx (hb hby d4_6) rfl (XT.ii_lt_f hz) ?_
  refine i_aloadN (v := (.ref o)) (pc' := 10) X0 hx (hb hby d4_9) rfl rfl rfl ?_
  refine cP (y := (⟨"com/example/shoal_creek/shoalcreek/MatchedSuffixes", "allocate", "()V"⟩ : MethodName)) (C := "com/example/shoal_creek/shoalcreek/MatchedSuffixes") (rest := []) (pc' := 13) 0 [] X0 hx hZ hown (hw _ (List.mem_of_getElem? (i := 24) rfl)) (hw _ (List.mem_of_getElem? (i := 25) rfl)) (hw _ (List.mem_of_getElem? (i := 26) rfl)) (hw _ (List.mem_of_getElem? (i := 7) rfl)) (hw _ (List.mem_of_getElem? (i := 8) rfl)) (hw _ (List.mem_of_getElem? (i := 27) rfl)) (by decide) H0 (rmAl l Z a0 hw [] o pl w df n0 h0 X0.le H0 H1 H2 H3 H4 H5 H6 H7 hp64) (by decide) (by decide) (by rw [hml]; rfl) rfl (lenOf pd1 rfl) rfl (Nat.le_of_eq rfl) (hb hby d4_10) rfl (by decide) (by decide) ?_
  intro r1 T1 h1 X1 q1
  obtain ⟨aE1, aL1, aD1, rfl, K1c, P1_0, P1_1, P1_2, P1_3, P1_4, P1_5, P1_6, P1_7, P1_8, fz1_aE, fz1_aL, fz1_aD, fn1_aE_aL, fn1_aE_aD, fn1_aL_aD⟩ := q1
  have ge_aE1 : n0 ≤ aE1 := Nat.le_trans X0.le fz1_aE
  have sz_aE1 : h0.size ≤ aE1 := Nat.le_trans ((Keep.refl h0 _) : Keep h0 h0 [o]).1 fz1_aE
  have ne_o_aE1 : o ≠ aE1 := Nat.ne_of_lt (Nat.lt_of_lt_of_le H0.lt fz1_aE)
  have ge_aL1 : n0 ≤ aL1 := Nat.le_trans X0.le fz1_aL
  have sz_aL1 : h0.size ≤ aL1 := Nat.le_trans ((Keep.refl h0 _) : Keep h0 h0 [o]).1 fz1_aL
  have ne_o_aL1 : o ≠ aL1 := Nat.ne_of_lt (Nat.lt_of_lt_of_le H0.lt fz1_aL)
  have ge_aD1 : n0 ≤ aD1 := Nat.le_trans X0.le fz1_aD
  have sz_aD1 : h0.size ≤ aD1 := Nat.le_trans ((Keep.refl h0 _) : Keep h0 h0 [o]).1 fz1_aD
  have ne_o_aD1 : o ≠ aD1 := Nat.ne_of_lt (Nat.lt_of_lt_of_le H0.lt fz1_aD)
  show Go _ _ _ _ _ _ _ T1 (mkF m 13 #[.val (.ref o), .val (.int x), .val (.int y), .val (.int z)] [])
  refine i_aloadN (v := (.ref o)) (pc' := 14) X1 hx (hb hby d4_13) rfl rfl rfl ?_
  refine i_iloadN (v := x) (pc' := 15) X1 hx (hb hby d4_14) rfl rfl ?_
  refine i_iloadN (v := y) (pc' := 16) X1 hx (hb hby d4_15) rfl rfl ?_
  refine i_iloadN (v := y) (pc' := 17) X1 hx (hb hby d4_16) rfl rfl ?_
  refine i_aloadN (v := (.ref o)) (pc' := 18) X1 hx (hb hby d4_17) rfl rfl rfl ?_
  refine gf (pc' := 21) (host := "") X1 hx hZ hown (Or.inl (hw _ (List.mem_of_getElem? (i := 17) rfl))) Via.refl P1_4 (hb hby d4_18) rfl fun T2 X2 => ?_
  by_cases hc3 : y < pl
  · skip
    refine i_icF (pc' := 24) X2 hx (hb hby d4_21) rfl (XT.ii_ge_f hc3) ?_
    refine i_aloadN (v := (.ref o)) (pc' := 25) X2 hx (hb hby d4_24) rfl rfl rfl ?_
    refine gf (pc' := 28) (host := "") X2 hx hZ hown (Or.inl (hw _ (List.mem_of_getElem? (i := 50) rfl))) Via.refl P1_5 (hb hby d4_25) rfl fun T4 X4 => ?_
    refine i_goto (pc' := 33) X4 hx (hb hby d4_28) (by decide) (by decide) ?_
    have F5 : Exa Z h1 o "com/example/shoal_creek/shoalcreek/MatchedSuffixes" := (H0.keep K1c)
    refine cV (y := (⟨"com/example/shoal_creek/shoalcreek/MatchedSuffixes", "keep", "(III)V"⟩ : MethodName)) (C := "com/example/shoal_creek/shoalcreek/MatchedSuffixes") (rest := []) (pc' := 36) 0 [(.int x), (.int y), (.int df)] X4 hx hZ hown (hw _ (List.mem_of_getElem? (i := 35) rfl)) (hw _ (List.mem_of_getElem? (i := 36) rfl)) (hw _ (List.mem_of_getElem? (i := 38) rfl)) (hw _ (List.mem_of_getElem? (i := 37) rfl)) (hw _ (List.mem_of_getElem? (i := 8) rfl)) (hw _ (List.mem_of_getElem? (i := 39) rfl)) (by decide) F5 (rmKeep l Z a0 hw [] o x y df w pl df aE1 aL1 aD1 (own_N pl) own_zero own_zero own_zero n0 h1 X4.le F5 P1_0 P1_1 P1_2 P1_3 P1_4 P1_5 P1_6 P1_7 P1_8 H7 ge_aE1 ge_aL1 ge_aD1 ne_o_aE1 ne_o_aL1 ne_o_aD1 fn1_aE_aL fn1_aE_aD fn1_aL_aD (own_Np pl)) (by decide) (by decide) (by rw [hml]; rfl) rfl (lenOf pd2 rfl) rfl (Nat.le_of_eq rfl) (hb hby d4_33) rfl (by decide) (by decide) ?_
    intro r6 T6 h6 X6 q6
    obtain ⟨rfl, K6c, P6_0, P6_1, P6_2, P6_3, P6_4, P6_5, P6_6, P6_7, P6_8⟩ := q6
    show Go _ _ _ _ _ _ _ T6 (mkF m 36 #[.val (.ref o), .val (.int x), .val (.int y), .val (.int z)] [])
    refine rV X6 hx hlk hret (hb hby d4_36) (by decide) (by decide) ?_
    exact ⟨aE1, aL1, aD1, rfl, (((((Keep.refl h0 _) : Keep h0 h0 [o]).trans K1c (allS (Or.inl (List.mem_of_getElem? (i := 0) rfl)) all0)) : Keep h0 h1 [o]).trans K6c (allS (Or.inl (List.mem_of_getElem? (i := 0) rfl)) (allS (Or.inr sz_aE1) (allS (Or.inr sz_aL1) (allS (Or.inr sz_aD1) all0))))), P6_0, P6_1, P6_2, P6_3, P6_4, P6_5, P6_6, P6_7, (by rw [if_pos hc3]; exact P6_8), sz_aE1, sz_aL1, sz_aD1, fn1_aE_aL, fn1_aE_aD, fn1_aL_aD⟩
  · skip
    refine i_icT (pc' := 31) X2 hx (hb hby d4_21) (XT.ii_ge_t hc3) (by decide) (by decide) ?_
    refine i_bipush (pc' := 33) (-2 : Int32) X2 hx (hb hby d4_31) rfl (by decide) ?_
    have F7 : Exa Z h1 o "com/example/shoal_creek/shoalcreek/MatchedSuffixes" := (H0.keep K1c)
    refine cV (y := (⟨"com/example/shoal_creek/shoalcreek/MatchedSuffixes", "keep", "(III)V"⟩ : MethodName)) (C := "com/example/shoal_creek/shoalcreek/MatchedSuffixes") (rest := []) (pc' := 36) 0 [(.int x), (.int y), (.int (-2 : Int32))] X2 hx hZ hown (hw _ (List.mem_of_getElem? (i := 35) rfl)) (hw _ (List.mem_of_getElem? (i := 36) rfl)) (hw _ (List.mem_of_getElem? (i := 38) rfl)) (hw _ (List.mem_of_getElem? (i := 37) rfl)) (hw _ (List.mem_of_getElem? (i := 8) rfl)) (hw _ (List.mem_of_getElem? (i := 39) rfl)) (by decide) F7 (rmKeep l Z a0 hw [] o x y (-2 : Int32) w pl df aE1 aL1 aD1 (own_N pl) own_zero own_zero own_zero n0 h1 X2.le F7 P1_0 P1_1 P1_2 P1_3 P1_4 P1_5 P1_6 P1_7 P1_8 H7 ge_aE1 ge_aL1 ge_aD1 ne_o_aE1 ne_o_aL1 ne_o_aD1 fn1_aE_aL fn1_aE_aD fn1_aL_aD (own_Np pl)) (by decide) (by decide) (by rw [hml]; rfl) rfl (lenOf pd2 rfl) rfl (Nat.le_of_eq rfl) (hb hby d4_33) rfl (by decide) (by decide) ?_
    intro r8 T8 h8 X8 q8
    obtain ⟨rfl, K8c, P8_0, P8_1, P8_2, P8_3, P8_4, P8_5, P8_6, P8_7, P8_8⟩ := q8
    show Go _ _ _ _ _ _ _ T8 (mkF m 36 #[.val (.ref o), .val (.int x), .val (.int y), .val (.int z)] [])
    refine rV X8 hx hlk hret (hb hby d4_36) (by decide) (by decide) ?_
    exact ⟨aE1, aL1, aD1, rfl, (((((Keep.refl h0 _) : Keep h0 h0 [o]).trans K1c (allS (Or.inl (List.mem_of_getElem? (i := 0) rfl)) all0)) : Keep h0 h1 [o]).trans K8c (allS (Or.inl (List.mem_of_getElem? (i := 0) rfl)) (allS (Or.inr sz_aE1) (allS (Or.inr sz_aL1) (allS (Or.inr sz_aD1) all0))))), P8_0, P8_1, P8_2, P8_3, P8_4, P8_5, P8_6, P8_7, (by rw [if_neg hc3]; exact P8_8), sz_aE1, sz_aL1, sz_aD1, fn1_aE_aL, fn1_aE_aD, fn1_aL_aD⟩
theorem ef_rmR2 (m : MethodId) (o : Addr) (x : Int32) (y : Int32) (z : Int32) : entryFrame m #[(.ref o), (.int x), (.int y), (.int z)] 4 = mkF m 0 #[.val (.ref o), .val (.int x), .val (.int y), .val (.int z)] [] := by first | (simp [entryFrame, mkF, argsToLocals, Value.category, maxLocals]; done) | rfl
def QrmR2 (Z : State) (o : Addr) (x : Int32) (y : Int32) (z : Int32) (pl : Int32) (w : Int32) (df : Int32) (aE : Addr) (aL : Addr) (aD : Addr) (N : Nat) (fe : Nat → Int32) (fl : Nat → Int32) (fd : Nat → Int32) (n0 : Nat) (h0 : Heap) (rv : Option Value) (h : Heap) : Prop := rv = none ∧ Keep h0 h [o, aE, aL, aD] ∧ Fld Z h o "com/example/shoal_creek/shoalcreek/MatchedSuffixes" "ends" "[I" (.ref aE) ∧ Fld Z h o "com/example/shoal_creek/shoalcreek/MatchedSuffixes" "lengths" "[I" (.ref aL) ∧ Fld Z h o "com/example/shoal_creek/shoalcreek/MatchedSuffixes" "differings" "[I" (.ref aD) ∧ Fld Z h o "com/example/shoal_creek/shoalcreek/MatchedSuffixes" "newestEnd" "I" (.int (own_max w x)) ∧ Fld Z h o "com/example/shoal_creek/shoalcreek/MatchedSuffixes" "patternLength" "I" (.int pl) ∧ Fld Z h o "com/example/shoal_creek/shoalcreek/MatchedSuffixes" "differing" "C" (.int df) ∧ Av Z h aE .int N (fun i => .int ((own_up fe (own_k x N) x) i)) ∧ Av Z h aL .int N (fun i => .int ((own_up fl (own_k x N) y) i)) ∧ Av Z h aD .int N (fun i => .int ((own_up fd (own_k x N) (if y < pl then df else (-2 : Int32))) i))
abbrev RrmR2 : Room := { frames := 2, cells := 0, slots := 0, locals := 30 }
set_option maxRecDepth 65536 in
set_option maxHeartbeats 40000000 in
theorem rmR2 (l : Launch) (Z : State) (a0 : Array Value) (hw : ∀ d ∈ tables_1, d.before a0 Z = true) (ws : List Jvm.Cond) (o : Addr) (x : Int32) (y : Int32) (z : Int32) (pl : Int32) (w : Int32) (df : Int32) (aE : Addr) (aL : Addr) (aD : Addr) (N : Nat) (fe : Nat → Int32) (fl : Nat → Int32) (fd : Nat → Int32) (n0 : Nat) (h0 : Heap) (hn : n0 ≤ h0.size) (H0 : Exa Z h0 o "com/example/shoal_creek/shoalcreek/MatchedSuffixes") (H1 : Fld Z h0 o "com/example/shoal_creek/shoalcreek/MatchedSuffixes" "ends" "[I" (.ref aE)) (H2 : Fld Z h0 o "com/example/shoal_creek/shoalcreek/MatchedSuffixes" "lengths" "[I" (.ref aL)) (H3 : Fld Z h0 o "com/example/shoal_creek/shoalcreek/MatchedSuffixes" "differings" "[I" (.ref aD)) (H4 : Fld Z h0 o "com/example/shoal_creek/shoalcreek/MatchedSuffixes" "newestEnd" "I" (.int w)) (H5 : Fld Z h0 o "com/example/shoal_creek/shoalcreek/MatchedSuffixes" "patternLength" "I" (.int pl)) (H6 : Fld Z h0 o "com/example/shoal_creek/shoalcreek/MatchedSuffixes" "differing" "C" (.int df)) (H7 : Av Z h0 aE .int N (fun i => .int (fe i))) (H8 : Av Z h0 aL .int N (fun i => .int (fl i))) (H9 : Av Z h0 aD .int N (fun i => .int (fd i))) (H10 : n0 ≤ o) (H11 : n0 ≤ aE) (H12 : n0 ≤ aL) (H13 : n0 ≤ aD) (H14 : o ≠ aE) (H15 : o ≠ aL) (H16 : o ≠ aD) (H17 : aE ≠ aL) (H18 : aE ≠ aD) (H19 : aL ≠ aD) (hN : own_p2 N) (hy : (0 : Int32) < y) (hz : ¬ x < z) :
    Con l Z (⟨"com/example/shoal_creek/shoalcreek/MatchedSuffixes", "remember", "(III)V"⟩ : MethodName) prog_18_method_7_code 4 none ws RrmR2 #[(.ref o), (.int x), (.int y), (.int z)] h0 n0 (QrmR2 Z o x y z pl w df aE aL aD N fe fl fd n0 h0) := by
  refine body (y := (⟨"com/example/shoal_creek/shoalcreek/MatchedSuffixes", "remember", "(III)V"⟩ : MethodName)) (Ls := #[.val (.ref o), .val (.int x), .val (.int y), .val (.int z)]) (plainFor_of_name pn0) hn (fun m => ef_rmR2 m o x y z) ?_
  intro p e s m below meth c T0 hx hby hml hown hnm hret hlk hZ X0
  refine i_iloadN (v := y) (pc' := 1) X0 hx (hb hby d4_0) rfl rfl ?_
  refine i_ifF (pc' := 4) X0 hx (hb hby d4_1) rfl (XT.i0_le_f hy) ?_
  refine i_iloadN (v := x) (pc' := 5) X0 hx (hb hby d4_4) rfl rfl ?_
  refine i_iloadN (v := z) (pc' := 6) X0 hx (hb hby d4_5) rfl rfl ?_
  refine i_icF (pc' := 9) X0 hx (hb hby d4_6) rfl (XT.ii_lt_f hz) ?_
  refine i_aloadN (v := (.ref o)) (pc' := 10) X0 hx (hb hby d4_9) rfl rfl rfl ?_
  refine cP (y := (⟨"com/example/shoal_creek/shoalcreek/MatchedSuffixes", "allocate", "()V"⟩ : MethodName)) (C := "com/example/shoal_creek/shoalcreek/MatchedSuffixes") (rest := []) (pc' := 13) 0 [] X0 hx hZ hown (hw _ (List.mem_of_getElem? (i := 24) rfl)) (hw _ (List.mem_of_getElem? (i := 25) rfl)) (hw _ (List.mem_of_getElem? (i := 26) rfl)) (hw _ (List.mem_of_getElem? (i := 7) rfl)) (hw _ (List.mem_of_getElem? (i := 8) rfl)) (hw _ (List.mem_of_getElem? (i := 27) rfl)) (by decide) H0 (rmAl2 l Z a0 hw [] o aE n0 h0 X0.le H1) (by decide) (by decide) (by rw [hml]; rfl) rfl (lenOf pd1 rfl) rfl (Nat.le_of_eq rfl) (hb hby d4_10) rfl (by decide) (by decide) ?_
  intro r1 T1 h1 X1 q1
  obtain ⟨rfl, eh1⟩ := q1
  subst eh1
  show Go _ _ _ _ _ _ _ T1 (mkF m 13 #[.val (.ref o), .val (.int x), .val (.int y), .val (.int z)] [])
  refine i_aloadN (v := (.ref o)) (pc' := 14) X1 hx (hb hby d4_13) rfl rfl rfl ?_
  refine i_iloadN (v := x) (pc' := 15) X1 hx (hb hby d4_14) rfl rfl ?_
  refine i_iloadN (v := y) (pc' := 16) X1 hx (hb hby d4_15) rfl rfl ?_
  refine i_iloadN (v := y) (pc' := 17) X1 hx (hb hby d4_16) rfl rfl ?_
  refine i_aloadN (v := (.ref o)) (pc' := 18) X1 hx (hb hby d4_17) rfl rfl rfl ?_
  refine gf (pc' := 21) (host := "") X1 hx hZ hown (Or.inl (hw _ (List.mem_of_getElem? (i := 17) rfl))) Via.refl H5 (hb hby d4_18) rfl fun T2 X2 => ?_
  by_cases hc3 : y < pl
  · skip
    refine i_icF (pc' := 24) X2 hx (hb hby d4_21) rfl (XT.ii_ge_f hc3) ?_
    refine i_aloadN (v := (.ref o)) (pc' := 25) X2 hx (hb hby d4_24) rfl rfl rfl ?_
    refine gf (pc' := 28) (host := "") X2 hx hZ hown (Or.inl (hw _ (List.mem_of_getElem? (i := 50) rfl))) Via.refl H6 (hb hby d4_25) rfl fun T4 X4 => ?_
    refine i_goto (pc' := 33) X4 hx (hb hby d4_28) (by decide) (by decide) ?_
    refine cV (y := (⟨"com/example/shoal_creek/shoalcreek/MatchedSuffixes", "keep", "(III)V"⟩ : MethodName)) (C := "com/example/shoal_creek/shoalcreek/MatchedSuffixes") (rest := []) (pc' := 36) 0 [(.int x), (.int y), (.int df)] X4 hx hZ hown (hw _ (List.mem_of_getElem? (i := 35) rfl)) (hw _ (List.mem_of_getElem? (i := 36) rfl)) (hw _ (List.mem_of_getElem? (i := 38) rfl)) (hw _ (List.mem_of_getElem? (i := 37) rfl)) (hw _ (List.mem_of_getElem? (i := 8) rfl)) (hw _ (List.mem_of_getElem? (i := 39) rfl)) (by decide) H0 (rmKeep l Z a0 hw [] o x y df w pl df aE aL aD N fe fl fd n0 h0 X4.le H0 H1 H2 H3 H4 H5 H6 H7 H8 H9 H10 H11 H12 H13 H14 H15 H16 H17 H18 H19 hN) (by decide) (by decide) (by rw [hml]; rfl) rfl (lenOf pd2 rfl) rfl (Nat.le_of_eq rfl) (hb hby d4_33) rfl (by decide) (by decide) ?_
    intro r5 T5 h5 X5 q5
    obtain ⟨rfl, K5c, P5_0, P5_1, P5_2, P5_3, P5_4, P5_5, P5_6, P5_7, P5_8⟩ := q5
    show Go _ _ _ _ _ _ _ T5 (mkF m 36 #[.val (.ref o), .val (.int x), .val (.int y), .val (.int z)] [])
    refine rV X5 hx hlk hret (hb hby d4_36) (by decide) (by decide) ?_
    exact ⟨rfl, (((Keep.refl h0 _) : Keep h0 h0 [o, aE, aL, aD]).trans K5c (allS (Or.inl (List.mem_of_getElem? (i := 0) rfl)) (allS (Or.inl (List.mem_of_getElem? (i := 1) rfl)) (allS (Or.inl (List.mem_of_getElem? (i := 2) rfl)) (allS (Or.inl (List.mem_of_getElem? (i := 3) rfl)) all0))))), P5_0, P5_1, P5_2, P5_3, P5_4, P5_5, P5_6, P5_7, (by rw [if_pos hc3]; exact P5_8)⟩
  · skip
    refine i_icT (pc' := 31) X2 hx (hb hby d4_21) (XT.ii_ge_t hc3) (by decide) (by decide) ?_
    refine i_bipush (pc' := 33) (-2 : Int32) X2 hx (hb hby d4_31) rfl (by decide) ?_
    refine cV (y := (⟨"com/example/shoal_creek/shoalcreek/MatchedSuffixes", "keep", "(III)V"⟩ : MethodName)) (C := "com/example/shoal_creek/shoalcreek/MatchedSuffixes") (rest := []) (pc' := 36) 0 [(.int x), (.int y), (.int (-2 : Int32))] X2 hx hZ hown (hw _ (List.mem_of_getElem? (i := 35) rfl)) (hw _ (List.mem_of_getElem? (i := 36) rfl)) (hw _ (List.mem_of_getElem? (i := 38) rfl)) (hw _ (List.mem_of_getElem? (i := 37) rfl)) (hw _ (List.mem_of_getElem? (i := 8) rfl)) (hw _ (List.mem_of_getElem? (i := 39) rfl)) (by decide) H0 (rmKeep l Z a0 hw [] o x y (-2 : Int32) w pl df aE aL aD N fe fl fd n0 h0 X2.le H0 H1 H2 H3 H4 H5 H6 H7 H8 H9 H10 H11 H12 H13 H14 H15 H16 H17 H18 H19 hN) (by decide) (by decide) (by rw [hml]; rfl) rfl (lenOf pd2 rfl) rfl (Nat.le_of_eq rfl) (hb hby d4_33) rfl (by decide) (by decide) ?_
    intro r6 T6 h6 X6 q6
    obtain ⟨rfl, K6c, P6_0, P6_1, P6_2, P6_3, P6_4, P6_5, P6_6, P6_7, P6_8⟩ := q6
    show Go _ _ _ _ _ _ _ T6 (mkF m 36 #[.val (.ref o), .val (.int x), .val (.int y), .val (.int z)] [])
    refine rV X6 hx hlk hret (hb hby d4_36) (by decide) (by decide) ?_
    exact ⟨rfl, (((Keep.refl h0 _) : Keep h0 h0 [o, aE, aL, aD]).trans K6c (allS (Or.inl (List.mem_of_getElem? (i := 0) rfl)) (allS (Or.inl (List.mem_of_getElem? (i := 1) rfl)) (allS (Or.inl (List.mem_of_getElem? (i := 2) rfl)) (allS (Or.inl (List.mem_of_getElem? (i := 3) rfl)) all0))))), P6_0, P6_1, P6_2, P6_3, P6_4, P6_5, P6_6, P6_7, (by rw [if_neg hc3]; exact P6_8)⟩
theorem d1_0 : decode method_2_code 0 = .ok (.iload_n 0, 1) := by decide +kernel
theorem d1_1 : decode method_2_code 1 = .ok (.iconst 1, 1) := by decide +kernel
theorem d1_2 : decode method_2_code 2 = .ok (.if_icmp .gt 5, 3) := by decide +kernel
theorem d1_5 : decode method_2_code 5 = .ok (.iconst 1, 1) := by decide +kernel
theorem d1_6 : decode method_2_code 6 = .ok (.ireturn, 1) := by decide +kernel
theorem d1_7 : decode method_2_code 7 = .ok (.iload_n 0, 1) := by decide +kernel
theorem d1_8 : decode method_2_code 8 = .ok (.iconst 2, 1) := by decide +kernel
theorem d1_9 : decode method_2_code 9 = .ok (.if_icmp .gt 5, 3) := by decide +kernel
theorem d1_12 : decode method_2_code 12 = .ok (.iconst 2, 1) := by decide +kernel
theorem d1_13 : decode method_2_code 13 = .ok (.ireturn, 1) := by decide +kernel
theorem d1_14 : decode method_2_code 14 = .ok (.iload_n 0, 1) := by decide +kernel
theorem d1_15 : decode method_2_code 15 = .ok (.iconst 4, 1) := by decide +kernel
theorem d1_16 : decode method_2_code 16 = .ok (.if_icmp .gt 5, 3) := by decide +kernel
theorem d1_19 : decode method_2_code 19 = .ok (.iconst 4, 1) := by decide +kernel
theorem d1_20 : decode method_2_code 20 = .ok (.ireturn, 1) := by decide +kernel
theorem d1_21 : decode method_2_code 21 = .ok (.iload_n 0, 1) := by decide +kernel
theorem d1_22 : decode method_2_code 22 = .ok (.bipush 8, 2) := by decide +kernel
theorem d1_24 : decode method_2_code 24 = .ok (.if_icmp .gt 6, 3) := by decide +kernel
theorem d1_27 : decode method_2_code 27 = .ok (.bipush 8, 2) := by decide +kernel
theorem d1_29 : decode method_2_code 29 = .ok (.ireturn, 1) := by decide +kernel
theorem d1_30 : decode method_2_code 30 = .ok (.iload_n 0, 1) := by decide +kernel
theorem d1_31 : decode method_2_code 31 = .ok (.bipush 16, 2) := by decide +kernel
theorem d1_33 : decode method_2_code 33 = .ok (.if_icmp .gt 6, 3) := by decide +kernel
theorem d1_36 : decode method_2_code 36 = .ok (.bipush 16, 2) := by decide +kernel
theorem d1_38 : decode method_2_code 38 = .ok (.ireturn, 1) := by decide +kernel
theorem d1_39 : decode method_2_code 39 = .ok (.iload_n 0, 1) := by decide +kernel
theorem d1_40 : decode method_2_code 40 = .ok (.bipush 32, 2) := by decide +kernel
theorem d1_42 : decode method_2_code 42 = .ok (.if_icmp .gt 6, 3) := by decide +kernel
theorem d1_45 : decode method_2_code 45 = .ok (.bipush 32, 2) := by decide +kernel
theorem d1_47 : decode method_2_code 47 = .ok (.ireturn, 1) := by decide +kernel
theorem d1_48 : decode method_2_code 48 = .ok (.bipush 64, 2) := by decide +kernel
theorem d1_50 : decode method_2_code 50 = .ok (.ireturn, 1) := by decide +kernel
theorem pn1 : plainName "com/example/shoal_creek/shoalcreek/MatchedSuffixesLengthEndingAtPinLaw" = true := by first | (simp [plainName, overriddenIn]; done) | decide +kernel
theorem ef_rmS (m : MethodId) (x : Int32) : entryFrame m #[(.int x)] 1 = mkF m 0 #[.val (.int x)] [] := by first | (simp [entryFrame, mkF, argsToLocals, Value.category, maxLocals]; done) | rfl
def QrmS (Z : State) (x : Int32) (n0 : Nat) (h0 : Heap) (rv : Option Value) (h : Heap) : Prop := rv = some (.int (own_slots x)) ∧ h0 = h
abbrev RrmS : Room := { frames := 0, cells := 0, slots := 0, locals := 0 }
set_option maxRecDepth 65536 in
set_option maxHeartbeats 40000000 in
theorem rmS (l : Launch) (Z : State) (a0 : Array Value) (hw : ∀ d ∈ tables_1, d.before a0 Z = true) (ws : List Jvm.Cond) (x : Int32) (n0 : Nat) (h0 : Heap) (hn : n0 ≤ h0.size)   :
    Con l Z (⟨"com/example/shoal_creek/shoalcreek/MatchedSuffixesLengthEndingAtPinLaw", "slotsFor", "(I)I"⟩ : MethodName) method_2_code 1 (some .int) ws RrmS #[(.int x)] h0 n0 (QrmS Z x n0 h0) := by
  refine body (y := (⟨"com/example/shoal_creek/shoalcreek/MatchedSuffixesLengthEndingAtPinLaw", "slotsFor", "(I)I"⟩ : MethodName)) (Ls := #[.val (.int x)]) (plainFor_of_name pn1) hn (fun m => ef_rmS m x) ?_
  intro p e s m below meth c T0 hx hby hml hown hnm hret hlk hZ X0
  refine i_iloadN (v := x) (pc' := 1) X0 hx (hb hby d1_0) rfl rfl ?_
  refine i_iconst (pc' := 2) (1 : Int32) X0 hx (hb hby d1_1) rfl (by decide) ?_
  by_cases hc1 : (1 : Int32) < x
  · skip
    refine i_icT (pc' := 7) X0 hx (hb hby d1_2) (XT.ii_gt_t hc1) (by decide) (by decide) ?_
    refine i_iloadN (v := x) (pc' := 8) X0 hx (hb hby d1_7) rfl rfl ?_
    refine i_iconst (pc' := 9) (2 : Int32) X0 hx (hb hby d1_8) rfl (by decide) ?_
    by_cases hc2 : (2 : Int32) < x
    · skip
      refine i_icT (pc' := 14) X0 hx (hb hby d1_9) (XT.ii_gt_t hc2) (by decide) (by decide) ?_
      refine i_iloadN (v := x) (pc' := 15) X0 hx (hb hby d1_14) rfl rfl ?_
      refine i_iconst (pc' := 16) (4 : Int32) X0 hx (hb hby d1_15) rfl (by decide) ?_
      by_cases hc3 : (4 : Int32) < x
      · skip
        refine i_icT (pc' := 21) X0 hx (hb hby d1_16) (XT.ii_gt_t hc3) (by decide) (by decide) ?_
        refine i_iloadN (v := x) (pc' := 22) X0 hx (hb hby d1_21) rfl rfl ?_
        refine i_bipush (pc' := 24) (8 : Int32) X0 hx (hb hby d1_22) rfl (by decide) ?_
        by_cases hc4 : (8 : Int32) < x
        · skip
          refine i_icT (pc' := 30) X0 hx (hb hby d1_24) (XT.ii_gt_t hc4) (by decide) (by decide) ?_
          refine i_iloadN (v := x) (pc' := 31) X0 hx (hb hby d1_30) rfl rfl ?_
          refine i_bipush (pc' := 33) (16 : Int32) X0 hx (hb hby d1_31) rfl (by decide) ?_
          by_cases hc5 : (16 : Int32) < x
          · skip
            refine i_icT (pc' := 39) X0 hx (hb hby d1_33) (XT.ii_gt_t hc5) (by decide) (by decide) ?_
            refine i_iloadN (v := x) (pc' := 40) X0 hx (hb hby d1_39) rfl rfl ?_
            refine i_bipush (pc' := 42) (32 : Int32) X0 hx (hb hby d1_40) rfl (by decide) ?_
            by_cases hc6 : (32 : Int32) < x
            · skip
              refine i_icT (pc' := 48) X0 hx (hb hby d1_42) (XT.ii_gt_t hc6) (by decide) (by decide) ?_
              refine i_bipush (pc' := 50) (64 : Int32) X0 hx (hb hby d1_48) rfl (by decide) ?_
              refine rI X0 hx hlk hret (hb hby d1_50) (by decide) (by decide) ?_
              exact ⟨(by simp [own_slots, hc1, hc2, hc3, hc4, hc5, hc6]), rfl⟩
            · skip
              refine i_icF (pc' := 45) X0 hx (hb hby d1_42) rfl (XT.ii_gt_f hc6) ?_
              refine i_bipush (pc' := 47) (32 : Int32) X0 hx (hb hby d1_45) rfl (by decide) ?_
              refine rI X0 hx hlk hret (hb hby d1_47) (by decide) (by decide) ?_
              exact ⟨(by simp [own_slots, hc1, hc2, hc3, hc4, hc5, hc6]), rfl⟩
          · skip
            refine i_icF (pc' := 36) X0 hx (hb hby d1_33) rfl (XT.ii_gt_f hc5) ?_
            refine i_bipush (pc' := 38) (16 : Int32) X0 hx (hb hby d1_36) rfl (by decide) ?_
            refine rI X0 hx hlk hret (hb hby d1_38) (by decide) (by decide) ?_
            exact ⟨(by simp [own_slots, hc1, hc2, hc3, hc4, hc5]), rfl⟩
        · skip
          refine i_icF (pc' := 27) X0 hx (hb hby d1_24) rfl (XT.ii_gt_f hc4) ?_
          refine i_bipush (pc' := 29) (8 : Int32) X0 hx (hb hby d1_27) rfl (by decide) ?_
          refine rI X0 hx hlk hret (hb hby d1_29) (by decide) (by decide) ?_
          exact ⟨(by simp [own_slots, hc1, hc2, hc3, hc4]), rfl⟩
      · skip
        refine i_icF (pc' := 19) X0 hx (hb hby d1_16) rfl (XT.ii_gt_f hc3) ?_
        refine i_iconst (pc' := 20) (4 : Int32) X0 hx (hb hby d1_19) rfl (by decide) ?_
        refine rI X0 hx hlk hret (hb hby d1_20) (by decide) (by decide) ?_
        exact ⟨(by simp [own_slots, hc1, hc2, hc3]), rfl⟩
    · skip
      refine i_icF (pc' := 12) X0 hx (hb hby d1_9) rfl (XT.ii_gt_f hc2) ?_
      refine i_iconst (pc' := 13) (2 : Int32) X0 hx (hb hby d1_12) rfl (by decide) ?_
      refine rI X0 hx hlk hret (hb hby d1_13) (by decide) (by decide) ?_
      exact ⟨(by simp [own_slots, hc1, hc2]), rfl⟩
  · skip
    refine i_icF (pc' := 5) X0 hx (hb hby d1_2) rfl (XT.ii_gt_f hc1) ?_
    refine i_iconst (pc' := 6) (1 : Int32) X0 hx (hb hby d1_5) rfl (by decide) ?_
    refine rI X0 hx hlk hret (hb hby d1_6) (by decide) (by decide) ?_
    exact ⟨(by simp [own_slots, hc1]), rfl⟩
theorem own_pl (x : Int32) : ¬ (64 : Int32) < ((x &&& (63 : Int32)) + (1 : Int32)) := by
  have a := c_and x 63 (by decide)
  have c1 : (63 : Int32).toInt = 63 := by decide
  have c2 : (1 : Int32).toInt = 1 := by decide
  have c3 : (64 : Int32).toInt = 64 := by decide
  rw [own_lt, XT.add32 (by unfold XT.fits32; omega)]; omega
theorem own_m30 (x : Int32) : 0 ≤ (x &&& (1073741823 : Int32)).toInt ∧ (x &&& (1073741823 : Int32)).toInt ≤ 1073741823 := c_and x 1073741823 (by decide)
theorem own_e2 {a : Int32} (h : 0 ≤ a.toInt ∧ a.toInt ≤ 1073741823) (x : Int32) : a.toInt < ((a + (1 : Int32)) + (x &&& (127 : Int32))).toInt := by
  have b := c_and x 127 (by decide)
  have c1 : (127 : Int32).toInt = 127 := by decide
  have c2 : (1 : Int32).toInt = 1 := by decide
  have e : (a + (1 : Int32)).toInt = a.toInt + 1 := by rw [XT.add32 (by unfold XT.fits32; omega), c2]
  rw [XT.add32 (by unfold XT.fits32; omega)]; omega
theorem own_us (x : Int32) : 0 ≤ (XT.ushr x (2 : Int32)).toInt := by
  have u : (XT.ushr x 2).toInt = (x.toInt % 4294967296) / (2 ^ 2 : Nat) := c_iushr x 2 2 (by decide) (by decide)
  rw [u]; omega
theorem own_qi {a b : Int32} (h : 0 ≤ a.toInt ∧ a.toInt ≤ 1073741823) (h2 : a.toInt < b.toInt) (m x : Int32) : 0 ≤ (if m = 0 then a else (if m = (1 : Int32) then b else (if m = (2 : Int32) then XT.ushr x (2 : Int32) else a + (XT.ushr x (2 : Int32) &&& (255 : Int32))))).toInt := by
  have u := own_us x
  have c := c_and (XT.ushr x (2 : Int32)) 255 (by decide)
  have c1 : (255 : Int32).toInt = 255 := by decide
  split
  · omega
  · split
    · omega
    · split
      · exact u
      · rw [XT.add32 (by unfold XT.fits32; omega)]; omega
theorem own_snz (pl : Int32) : own_slots pl ≠ 0 := by
  rcases own_s7 pl with h | h | h | h | h | h | h <;> rw [h] <;> decide
theorem own_m1 {q : Int32} (h : 0 ≤ q.toInt) : (-1 : Int32) < q := by
  have c : (-1 : Int32).toInt = -1 := by decide
  rw [own_lt]; omega
theorem own_kT {y e n : Int32} (h : (0 : Int32) < y ∧ ¬ e < n) : (if (0 : Int32) < y then (if e < n then (0 : Int32) else (1 : Int32)) else (0 : Int32)) = 1 := by rw [if_pos h.1, if_neg h.2]
theorem own_kF {y e n : Int32} (h : ¬ ((0 : Int32) < y ∧ ¬ e < n)) : (if (0 : Int32) < y then (if e < n then (0 : Int32) else (1 : Int32)) else (0 : Int32)) = 0 := by
  by_cases a : (0 : Int32) < y
  · rw [if_pos a]
    by_cases b : e < n
    · rw [if_pos b]
    · exact absurd ⟨a, b⟩ h
  · rw [if_neg a]
theorem own_ne {x y : Int32} (h : x.toInt < y.toInt) : x ≠ y := fun e => by rw [e] at h; omega
theorem own_core1 {q e l w : Int32} {kq k : Nat} (h1 : q = e → kq = k) (hw : w < q → q ≠ e) :
    (if w < q then (0 : Int32) else if own_up own_zero k e kq = q then own_up own_zero k l kq else (0 : Int32)) = if q = e then l else 0 := by
  unfold own_up own_zero
  by_cases a : q = e
  · have b := h1 a
    have c : ¬ w < q := fun u => hw u a
    rw [if_neg c, if_pos b, if_pos b, if_pos a, if_pos a.symm]
  · rw [if_neg a]
    by_cases c : w < q
    · rw [if_pos c]
    · rw [if_neg c]
      by_cases b : kq = k
      · rw [if_pos b, if_neg (Ne.symm a)]
      · rw [if_neg b, if_neg b]; split <;> rfl
theorem own_core2 {q e1 e2 l1 l2 w : Int32} {kq k1 k2 : Nat} (h1 : q = e1 → kq = k1) (h2 : q = e2 → kq = k2) (hn : e1 ≠ e2) (hw : w < q → q ≠ e1 ∧ q ≠ e2) :
    (if w < q then (0 : Int32) else if own_up (own_up own_zero k1 e1) k2 e2 kq = q then own_up (own_up own_zero k1 l1) k2 l2 kq else (0 : Int32)) = if q = e2 then l2 else if q = e1 then (if k1 = k2 then 0 else l1) else 0 := by
  unfold own_up own_zero
  by_cases a : q = e2
  · have b := h2 a
    have c : ¬ w < q := fun u => (hw u).2 a
    rw [if_neg c, if_pos b, if_pos b, if_pos a, if_pos a.symm]
  · rw [if_neg a]
    by_cases a1 : q = e1
    · have b := h1 a1
      have c : ¬ w < q := fun u => (hw u).1 a1
      rw [if_neg c, if_pos a1]
      by_cases d : k1 = k2
      · have d' : kq = k2 := b.trans d
        rw [if_pos d', if_pos d, if_neg (Ne.symm a)]
      · have d' : ¬ kq = k2 := fun u => d (b.symm.trans u)
        rw [if_neg d', if_neg d', if_neg d, if_pos b, if_pos b, if_pos a1.symm]
    · rw [if_neg a1]
      by_cases c : w < q
      · rw [if_pos c]
      · rw [if_neg c]
        by_cases d : kq = k2
        · rw [if_pos d, if_neg (Ne.symm a)]
        · rw [if_neg d, if_neg d]
          by_cases d1 : kq = k1
          · rw [if_pos d1, if_neg (Ne.symm a1)]
          · rw [if_neg d1, if_neg d1]; split <;> rfl
theorem own_w1 {e : Int32} (h : 0 ≤ e.toInt) : own_max (-1 : Int32) e = e := by unfold own_max; rw [if_pos (own_m1 h)]
theorem own_w2 {e1 e2 : Int32} (h : e1.toInt < e2.toInt) : own_max e1 e2 = e2 := by unfold own_max; rw [if_pos ((own_lt _ _).mpr h)]
theorem own_ev {pl e1 e2 : Int32} (h1 : 0 ≤ e1.toInt) (h2 : e1.toInt < e2.toInt) : ((e2 - e1) % own_slots pl = 0) ↔ own_k e1 (own_N pl) = own_k e2 (own_N pl) := by
  have i1 := (own_idx (own_Np pl) e1).2.2
  have i2 := (own_idx (own_Np pl) e2).2.2
  have r := rng32 e2
  have d : (e2 - e1).toInt = e2.toInt - e1.toInt := XT.sub32 (by unfold XT.fits32; omega)
  have hs : (own_slots pl).toInt = (own_N pl : Int) := by
    have := own_nat (j := own_slots pl) (by rcases own_s7 pl with h | h | h | h | h | h | h <;> rw [h] <;> decide)
    unfold own_N; omega
  have m := (c_irem (e2 - e1) (own_slots pl) _ hs).1 (by omega)
  rw [← Int32.toInt_inj, own_z, m, d]
  have p2 := own_Np pl
  unfold own_p2 at p2
  generalize own_k e1 (own_N pl) = a at i1 ⊢
  generalize own_k e2 (own_N pl) = b at i2 ⊢
  generalize own_N pl = N at i1 i2 p2 ⊢
  clear m hs d r
  rcases p2 with rfl | rfl | rfl | rfl | rfl | rfl | rfl <;> omega
section OwnFin
variable {pl e1 e2 l1 l2 n1 n2 q sl got k1 k2 ev ex : Int32}
theorem own_finTT (hsl : sl = own_slots pl) (he1 : 0 ≤ e1.toInt ∧ e1.toInt ≤ 1073741823) (he2 : e1.toInt < e2.toInt) (hq : 0 ≤ q.toInt) (hK1 : (0 : Int32) < l1 ∧ ¬ e1 < n1) (hK2 : (0 : Int32) < l2 ∧ ¬ e2 < n2)
    (hgot : got = own_lea (own_up (own_up own_zero (own_k e1 (own_N pl)) e1) (own_k e2 (own_N pl)) e2) (own_up (own_up own_zero (own_k e1 (own_N pl)) l1) (own_k e2 (own_N pl)) l2) (own_N pl) (own_max (own_max (-1 : Int32) e1) e2) q)
    (hk1 : k1 = (if (0 : Int32) < l1 then (if e1 < n1 then (0 : Int32) else (1 : Int32)) else (0 : Int32))) (hk2 : k2 = (if (0 : Int32) < l2 then (if e2 < n2 then (0 : Int32) else (1 : Int32)) else (0 : Int32)))
    (hev : ev = (if k2 = 0 then (0 : Int32) else (if ((e2 - e1) % sl) = 0 then (1 : Int32) else (0 : Int32))))
    (hex : ex = (if k2 = 0 then (if k1 = 0 then (0 : Int32) else (if q = e1 then (if ev = 0 then l1 else (0 : Int32)) else (0 : Int32))) else (if q = e2 then l2 else (if k1 = 0 then (0 : Int32) else (if q = e1 then (if ev = 0 then l1 else (0 : Int32)) else (0 : Int32)))))) : got = ex := by
  rw [own_kT hK1] at hk1; rw [own_kT hK2] at hk2
  subst hk1 hk2 hsl
  have o : ¬ ((1 : Int32) = 0) := by decide
  rw [if_neg o] at hev; simp only [if_neg o] at hex
  rw [hgot, hex, own_w1 he1.1, own_w2 he2]
  unfold own_lea
  rw [own_core2 (fun a => by rw [a]) (fun a => by rw [a]) (own_ne he2) (fun a => by rw [own_lt] at a; exact ⟨fun b => by rw [b] at a; omega, fun b => by rw [b] at a; omega⟩)]
  by_cases c : own_k e1 (own_N pl) = own_k e2 (own_N pl)
  · rw [if_pos ((own_ev he1.1 he2).mpr c)] at hev
    rw [hev, if_pos c, if_neg o]
  · rw [if_neg (fun u => c ((own_ev he1.1 he2).mp u))] at hev
    rw [hev, if_neg c, if_pos rfl]
theorem own_finTF (hsl : sl = own_slots pl) (he1 : 0 ≤ e1.toInt ∧ e1.toInt ≤ 1073741823) (he2 : e1.toInt < e2.toInt) (hq : 0 ≤ q.toInt) (hK1 : (0 : Int32) < l1 ∧ ¬ e1 < n1) (hK2 : ¬ ((0 : Int32) < l2 ∧ ¬ e2 < n2))
    (hgot : got = own_lea (own_up own_zero (own_k e1 (own_N pl)) e1) (own_up own_zero (own_k e1 (own_N pl)) l1) (own_N pl) (own_max (-1 : Int32) e1) q)
    (hk1 : k1 = (if (0 : Int32) < l1 then (if e1 < n1 then (0 : Int32) else (1 : Int32)) else (0 : Int32))) (hk2 : k2 = (if (0 : Int32) < l2 then (if e2 < n2 then (0 : Int32) else (1 : Int32)) else (0 : Int32)))
    (hev : ev = (if k2 = 0 then (0 : Int32) else (if ((e2 - e1) % sl) = 0 then (1 : Int32) else (0 : Int32))))
    (hex : ex = (if k2 = 0 then (if k1 = 0 then (0 : Int32) else (if q = e1 then (if ev = 0 then l1 else (0 : Int32)) else (0 : Int32))) else (if q = e2 then l2 else (if k1 = 0 then (0 : Int32) else (if q = e1 then (if ev = 0 then l1 else (0 : Int32)) else (0 : Int32)))))) : got = ex := by
  rw [own_kT hK1] at hk1; rw [own_kF hK2] at hk2
  subst hk1 hk2 hsl
  have o : ¬ ((1 : Int32) = 0) := by decide
  rw [if_pos rfl] at hev
  subst hev
  rw [if_pos rfl, if_neg o, if_pos rfl] at hex
  rw [hgot, hex, own_w1 he1.1]
  unfold own_lea
  exact own_core1 (fun a => by rw [a]) (fun a b => by rw [own_lt, b] at a; omega)
theorem own_finFT (hsl : sl = own_slots pl) (he1 : 0 ≤ e1.toInt ∧ e1.toInt ≤ 1073741823) (he2 : e1.toInt < e2.toInt) (hq : 0 ≤ q.toInt) (hK1 : ¬ ((0 : Int32) < l1 ∧ ¬ e1 < n1)) (hK2 : (0 : Int32) < l2 ∧ ¬ e2 < n2)
    (hgot : got = own_lea (own_up own_zero (own_k e2 (own_N pl)) e2) (own_up own_zero (own_k e2 (own_N pl)) l2) (own_N pl) (own_max (-1 : Int32) e2) q)
    (hk1 : k1 = (if (0 : Int32) < l1 then (if e1 < n1 then (0 : Int32) else (1 : Int32)) else (0 : Int32))) (hk2 : k2 = (if (0 : Int32) < l2 then (if e2 < n2 then (0 : Int32) else (1 : Int32)) else (0 : Int32)))
    (hev : ev = (if k2 = 0 then (0 : Int32) else (if ((e2 - e1) % sl) = 0 then (1 : Int32) else (0 : Int32))))
    (hex : ex = (if k2 = 0 then (if k1 = 0 then (0 : Int32) else (if q = e1 then (if ev = 0 then l1 else (0 : Int32)) else (0 : Int32))) else (if q = e2 then l2 else (if k1 = 0 then (0 : Int32) else (if q = e1 then (if ev = 0 then l1 else (0 : Int32)) else (0 : Int32)))))) : got = ex := by
  rw [own_kF hK1] at hk1; rw [own_kT hK2] at hk2
  subst hk1 hk2 hsl
  have o : ¬ ((1 : Int32) = 0) := by decide
  rw [if_neg o, if_pos rfl] at hex
  rw [hgot, hex, own_w1 (by omega)]
  unfold own_lea
  exact own_core1 (fun a => by rw [a]) (fun a b => by rw [own_lt, b] at a; omega)
theorem own_finFF (hsl : sl = own_slots pl) (he1 : 0 ≤ e1.toInt ∧ e1.toInt ≤ 1073741823) (he2 : e1.toInt < e2.toInt) (hq : 0 ≤ q.toInt) (hK1 : ¬ ((0 : Int32) < l1 ∧ ¬ e1 < n1)) (hK2 : ¬ ((0 : Int32) < l2 ∧ ¬ e2 < n2))
    (hgot : got = 0)
    (hk1 : k1 = (if (0 : Int32) < l1 then (if e1 < n1 then (0 : Int32) else (1 : Int32)) else (0 : Int32))) (hk2 : k2 = (if (0 : Int32) < l2 then (if e2 < n2 then (0 : Int32) else (1 : Int32)) else (0 : Int32)))
    (hev : ev = (if k2 = 0 then (0 : Int32) else (if ((e2 - e1) % sl) = 0 then (1 : Int32) else (0 : Int32))))
    (hex : ex = (if k2 = 0 then (if k1 = 0 then (0 : Int32) else (if q = e1 then (if ev = 0 then l1 else (0 : Int32)) else (0 : Int32))) else (if q = e2 then l2 else (if k1 = 0 then (0 : Int32) else (if q = e1 then (if ev = 0 then l1 else (0 : Int32)) else (0 : Int32)))))) : got = ex := by
  rw [own_kF hK1] at hk1; rw [own_kF hK2] at hk2
  subst hk1 hk2
  rw [if_pos rfl, if_pos rfl] at hex
  rw [hgot, hex]
end OwnFin
theorem ef_rm0 (m : MethodId) (p1 : Int32) (p2 : Int32) (p3 : Int32) (p4 : Int32) (p5 : Int32) (p6 : Int32) : entryFrame m #[(.int p1), (.int p2), (.int p3), (.int p4), (.int p5), (.int p6)] maxLocals = mkF m 0 #[.val (.int p1), .val (.int p2), .val (.int p3), .val (.int p4), .val (.int p5), .val (.int p6), .unset, .unset, .unset, .unset, .unset, .unset, .unset, .unset, .unset, .unset, .unset, .unset, .unset, .unset, .unset, .unset, .unset, .unset, .unset, .unset] [] := by first | (simp [entryFrame, mkF, argsToLocals, Value.category, maxLocals]; done) | rfl
abbrev Q0 : Option Value → Heap → Prop := fun v _ => v = some (.int 1)
theorem pd3 : parseMethodDescriptor "(I)I" = some ⟨[.int], some .int⟩ := by decide +kernel
theorem pd4 : parseMethodDescriptor "(I)V" = some ⟨[.int], none⟩ := by decide +kernel
set_option maxRecDepth 65536 in
set_option maxHeartbeats 40000000 in
theorem rm0 (l : Launch) (Z : State) (a0 : Array Value) (hw : ∀ d ∈ tables_1, d.before a0 Z = true) (ws : List Jvm.Cond) (p1 : Int32) (p2 : Int32) (p3 : Int32) (p4 : Int32) (p5 : Int32) (p6 : Int32) (n0 : Nat) (h0 : Heap) (hn : n0 ≤ h0.size)   :
    Con l Z x code maxLocals ret ws room_1 #[(.int p1), (.int p2), (.int p3), (.int p4), (.int p5), (.int p6)] h0 n0 Q0 := by
  refine body (y := x) (Ls := #[.val (.int p1), .val (.int p2), .val (.int p3), .val (.int p4), .val (.int p5), .val (.int p6), .unset, .unset, .unset, .unset, .unset, .unset, .unset, .unset, .unset, .unset, .unset, .unset, .unset, .unset, .unset, .unset, .unset, .unset, .unset, .unset]) (plainFor_of_name pn1) hn (fun m => ef_rm0 m p1 p2 p3 p4 p5 p6) ?_
  intro p e s m below meth c T0 hx hby hml hown hnm hret hlk hZ X0
  replace hown : s.vm.findClass "com/example/shoal_creek/shoalcreek/MatchedSuffixesLengthEndingAtPinLaw" = some m.cls := hown
  replace hml : c.maxLocals = 26 := hml
  replace hret : meth.sig.returnType = (some .boolean) := hret
  refine i_iloadN (v := p1) (pc' := 1) X0 hx (hb hby at_0) rfl rfl ?_
  refine i_bipush (pc' := 3) (63 : Int32) X0 hx (hb hby at_1) rfl (by decide) ?_
  refine i_iand (pc' := 4) X0 hx (hb hby at_3) rfl ?_
  refine i_iconst (pc' := 5) (1 : Int32) X0 hx (hb hby at_4) rfl (by decide) ?_
  refine i_iadd (pc' := 6) X0 hx (hb hby at_5) rfl ?_
  obtain ⟨v1, hv1⟩ : ∃ zz : Int32, zz = ((p1 &&& (63 : Int32)) + (1 : Int32)) := ⟨_, rfl⟩
  rw [← hv1]
  refine i_istore (L' := #[.val (.int p1), .val (.int p2), .val (.int p3), .val (.int p4), .val (.int p5), .val (.int p6), .val (.int v1), .unset, .unset, .unset, .unset, .unset, .unset, .unset, .unset, .unset, .unset, .unset, .unset, .unset, .unset, .unset, .unset, .unset, .unset, .unset]) (pc' := 8) X0 hx (hb hby at_6) rfl rfl ?_
  have hpl : ¬ (64 : Int32) < v1 := by rw [hv1]; exact own_pl _
  refine i_iload (v := v1) (pc' := 10) X0 hx (hb hby at_8) rfl rfl ?_
  refine cS (y := (⟨"com/example/shoal_creek/shoalcreek/MatchedSuffixesLengthEndingAtPinLaw", "slotsFor", "(I)I"⟩ : MethodName)) (rest := []) (pc' := 13) 0 [(.int v1)] X0 hx hZ hown (hw _ (List.mem_of_getElem? (i := 0) rfl)) (hw _ (List.mem_of_getElem? (i := 1) rfl)) (hw _ (List.mem_of_getElem? (i := 2) rfl)) (hw _ (List.mem_of_getElem? (i := 3) rfl)) (by decide) (rmS l Z a0 hw [] v1 n0 h0 X0.le ) (by decide) (by decide) (by rw [hml]; rfl) rfl (lenOf pd3 rfl) rfl (Nat.le_of_eq rfl) (hb hby at_10) rfl (by decide) (by decide) ?_
  intro r2 T2 h2 X2 q2
  obtain ⟨rfl, eh2⟩ := q2
  subst eh2
  show Go _ _ _ _ _ _ _ T2 (mkF m 13 #[.val (.int p1), .val (.int p2), .val (.int p3), .val (.int p4), .val (.int p5), .val (.int p6), .val (.int v1), .unset, .unset, .unset, .unset, .unset, .unset, .unset, .unset, .unset, .unset, .unset, .unset, .unset, .unset, .unset, .unset, .unset, .unset, .unset] [(.int (own_slots v1))])
  obtain ⟨v3, hv3⟩ : ∃ zz : Int32, zz = (own_slots v1) := ⟨_, rfl⟩
  rw [← hv3]
  refine i_istore (L' := #[.val (.int p1), .val (.int p2), .val (.int p3), .val (.int p4), .val (.int p5), .val (.int p6), .val (.int v1), .val (.int v3), .unset, .unset, .unset, .unset, .unset, .unset, .unset, .unset, .unset, .unset, .unset, .unset, .unset, .unset, .unset, .unset, .unset, .unset]) (pc' := 15) X2 hx (hb hby at_13) rfl rfl ?_
  refine i_iloadN (v := p1) (pc' := 16) X2 hx (hb hby at_15) rfl rfl ?_
  refine i_bipush (pc' := 18) (6 : Int32) X2 hx (hb hby at_16) rfl (by decide) ?_
  refine i_ishr (pc' := 19) X2 hx (hb hby at_18) rfl ?_
  refine i_iconst (pc' := 20) (1 : Int32) X2 hx (hb hby at_19) rfl (by decide) ?_
  refine i_iand (pc' := 21) X2 hx (hb hby at_20) rfl ?_
  obtain ⟨v4, hv4⟩ : ∃ zz : Int32, zz = (if ((p1 >>> ((6 : Int32) &&& 31)) &&& (1 : Int32)) = 0 then (0 : Int32) else (1 : Int32)) := ⟨_, rfl⟩
  have J5 : ∀ (T : State), Pn p l e room_1 s m #[(.int p1), (.int p2), (.int p3), (.int p4), (.int p5), (.int p6)] below meth c T h0 n0 (0 + 0) (0 + 0) → Go p e s below n0 Q0 room_1 T (mkF m 29 #[.val (.int p1), .val (.int p2), .val (.int p3), .val (.int p4), .val (.int p5), .val (.int p6), .val (.int v1), .val (.int v3), .unset, .unset, .unset, .unset, .unset, .unset, .unset, .unset, .unset, .unset, .unset, .unset, .unset, .unset, .unset, .unset, .unset, .unset] [(.int v4)]) := by
    intro T5 X5
    refine i_istore (L' := #[.val (.int p1), .val (.int p2), .val (.int p3), .val (.int p4), .val (.int p5), .val (.int p6), .val (.int v1), .val (.int v3), .val (.int v4), .unset, .unset, .unset, .unset, .unset, .unset, .unset, .unset, .unset, .unset, .unset, .unset, .unset, .unset, .unset, .unset, .unset]) (pc' := 31) X5 hx (hb hby at_29) rfl rfl ?_
    refine i_iloadN (v := p1) (pc' := 32) X5 hx (hb hby at_31) rfl rfl ?_
    refine i_bipush (pc' := 34) (7 : Int32) X5 hx (hb hby at_32) rfl (by decide) ?_
    refine i_ishr (pc' := 35) X5 hx (hb hby at_34) rfl ?_
    refine i_iconst (pc' := 36) (1 : Int32) X5 hx (hb hby at_35) rfl (by decide) ?_
    refine i_iand (pc' := 37) X5 hx (hb hby at_36) rfl ?_
    obtain ⟨v6, hv6⟩ : ∃ zz : Int32, zz = (if ((p1 >>> ((7 : Int32) &&& 31)) &&& (1 : Int32)) = 0 then (0 : Int32) else (1 : Int32)) := ⟨_, rfl⟩
    have J7 : ∀ (T : State), Pn p l e room_1 s m #[(.int p1), (.int p2), (.int p3), (.int p4), (.int p5), (.int p6)] below meth c T h0 n0 (0 + 0) (0 + 0) → Go p e s below n0 Q0 room_1 T (mkF m 45 #[.val (.int p1), .val (.int p2), .val (.int p3), .val (.int p4), .val (.int p5), .val (.int p6), .val (.int v1), .val (.int v3), .val (.int v4), .unset, .unset, .unset, .unset, .unset, .unset, .unset, .unset, .unset, .unset, .unset, .unset, .unset, .unset, .unset, .unset, .unset] [(.int v6)]) := by
      intro T7 X7
      refine i_istore (L' := #[.val (.int p1), .val (.int p2), .val (.int p3), .val (.int p4), .val (.int p5), .val (.int p6), .val (.int v1), .val (.int v3), .val (.int v4), .val (.int v6), .unset, .unset, .unset, .unset, .unset, .unset, .unset, .unset, .unset, .unset, .unset, .unset, .unset, .unset, .unset, .unset]) (pc' := 47) X7 hx (hb hby at_45) rfl rfl ?_
      refine i_iloadN (v := p1) (pc' := 48) X7 hx (hb hby at_47) rfl rfl ?_
      refine i_bipush (pc' := 50) (8 : Int32) X7 hx (hb hby at_48) rfl (by decide) ?_
      refine i_ishr (pc' := 51) X7 hx (hb hby at_50) rfl ?_
      refine i_iconst (pc' := 52) (3 : Int32) X7 hx (hb hby at_51) rfl (by decide) ?_
      refine i_iand (pc' := 53) X7 hx (hb hby at_52) rfl ?_
      obtain ⟨v8, hv8⟩ : ∃ zz : Int32, zz = ((p1 >>> ((8 : Int32) &&& 31)) &&& (3 : Int32)) := ⟨_, rfl⟩
      rw [← hv8]
      refine i_istore (L' := #[.val (.int p1), .val (.int p2), .val (.int p3), .val (.int p4), .val (.int p5), .val (.int p6), .val (.int v1), .val (.int v3), .val (.int v4), .val (.int v6), .val (.int v8), .unset, .unset, .unset, .unset, .unset, .unset, .unset, .unset, .unset, .unset, .unset, .unset, .unset, .unset, .unset]) (pc' := 55) X7 hx (hb hby at_53) rfl rfl ?_
      refine i_iloadN (v := p1) (pc' := 56) X7 hx (hb hby at_55) rfl rfl ?_
      refine i_bipush (pc' := 58) (10 : Int32) X7 hx (hb hby at_56) rfl (by decide) ?_
      refine i_ishr (pc' := 59) X7 hx (hb hby at_58) rfl ?_
      refine i_iconst (pc' := 60) (3 : Int32) X7 hx (hb hby at_59) rfl (by decide) ?_
      refine i_iand (pc' := 61) X7 hx (hb hby at_60) rfl ?_
      obtain ⟨v9, hv9⟩ : ∃ zz : Int32, zz = ((p1 >>> ((10 : Int32) &&& 31)) &&& (3 : Int32)) := ⟨_, rfl⟩
      rw [← hv9]
      refine i_istore (L' := #[.val (.int p1), .val (.int p2), .val (.int p3), .val (.int p4), .val (.int p5), .val (.int p6), .val (.int v1), .val (.int v3), .val (.int v4), .val (.int v6), .val (.int v8), .val (.int v9), .unset, .unset, .unset, .unset, .unset, .unset, .unset, .unset, .unset, .unset, .unset, .unset, .unset, .unset]) (pc' := 63) X7 hx (hb hby at_61) rfl rfl ?_
      refine i_iloadN (v := p2) (pc' := 64) X7 hx (hb hby at_63) rfl rfl ?_
      refine i_ldc (pc' := 66) (1073741823 : Int32) X7 hx hZ hown (hw _ (List.mem_of_getElem? (i := 4) rfl)) (hb hby at_64) rfl ?_
      refine i_iand (pc' := 67) X7 hx (hb hby at_66) rfl ?_
      obtain ⟨v10, hv10⟩ : ∃ zz : Int32, zz = (p2 &&& (1073741823 : Int32)) := ⟨_, rfl⟩
      rw [← hv10]
      refine i_istore (L' := #[.val (.int p1), .val (.int p2), .val (.int p3), .val (.int p4), .val (.int p5), .val (.int p6), .val (.int v1), .val (.int v3), .val (.int v4), .val (.int v6), .val (.int v8), .val (.int v9), .val (.int v10), .unset, .unset, .unset, .unset, .unset, .unset, .unset, .unset, .unset, .unset, .unset, .unset, .unset]) (pc' := 69) X7 hx (hb hby at_67) rfl rfl ?_
      refine i_iload (v := v10) (pc' := 71) X7 hx (hb hby at_69) rfl rfl ?_
      refine i_iconst (pc' := 72) (1 : Int32) X7 hx (hb hby at_71) rfl (by decide) ?_
      refine i_iadd (pc' := 73) X7 hx (hb hby at_72) rfl ?_
      refine i_iloadN (v := p3) (pc' := 74) X7 hx (hb hby at_73) rfl rfl ?_
      refine i_bipush (pc' := 76) (127 : Int32) X7 hx (hb hby at_74) rfl (by decide) ?_
      refine i_iand (pc' := 77) X7 hx (hb hby at_76) rfl ?_
      refine i_iadd (pc' := 78) X7 hx (hb hby at_77) rfl ?_
      obtain ⟨v11, hv11⟩ : ∃ zz : Int32, zz = ((v10 + (1 : Int32)) + (p3 &&& (127 : Int32))) := ⟨_, rfl⟩
      rw [← hv11]
      refine i_istore (L' := #[.val (.int p1), .val (.int p2), .val (.int p3), .val (.int p4), .val (.int p5), .val (.int p6), .val (.int v1), .val (.int v3), .val (.int v4), .val (.int v6), .val (.int v8), .val (.int v9), .val (.int v10), .val (.int v11), .unset, .unset, .unset, .unset, .unset, .unset, .unset, .unset, .unset, .unset, .unset, .unset]) (pc' := 80) X7 hx (hb hby at_78) rfl rfl ?_
      refine i_iloadN (v := p4) (pc' := 81) X7 hx (hb hby at_80) rfl rfl ?_
      refine i_ldc (pc' := 83) (2147483647 : Int32) X7 hx hZ hown (hw _ (List.mem_of_getElem? (i := 5) rfl)) (hb hby at_81) rfl ?_
      refine i_iand (pc' := 84) X7 hx (hb hby at_83) rfl ?_
      obtain ⟨v12, hv12⟩ : ∃ zz : Int32, zz = (p4 &&& (2147483647 : Int32)) := ⟨_, rfl⟩
      rw [← hv12]
      refine i_istore (L' := #[.val (.int p1), .val (.int p2), .val (.int p3), .val (.int p4), .val (.int p5), .val (.int p6), .val (.int v1), .val (.int v3), .val (.int v4), .val (.int v6), .val (.int v8), .val (.int v9), .val (.int v10), .val (.int v11), .val (.int v12), .unset, .unset, .unset, .unset, .unset, .unset, .unset, .unset, .unset, .unset, .unset]) (pc' := 86) X7 hx (hb hby at_84) rfl rfl ?_
      refine i_iload (v := p5) (pc' := 88) X7 hx (hb hby at_86) rfl rfl ?_
      refine i_ldc (pc' := 90) (2147483647 : Int32) X7 hx hZ hown (hw _ (List.mem_of_getElem? (i := 5) rfl)) (hb hby at_88) rfl ?_
      refine i_iand (pc' := 91) X7 hx (hb hby at_90) rfl ?_
      obtain ⟨v13, hv13⟩ : ∃ zz : Int32, zz = (p5 &&& (2147483647 : Int32)) := ⟨_, rfl⟩
      rw [← hv13]
      refine i_istore (L' := #[.val (.int p1), .val (.int p2), .val (.int p3), .val (.int p4), .val (.int p5), .val (.int p6), .val (.int v1), .val (.int v3), .val (.int v4), .val (.int v6), .val (.int v8), .val (.int v9), .val (.int v10), .val (.int v11), .val (.int v12), .val (.int v13), .unset, .unset, .unset, .unset, .unset, .unset, .unset, .unset, .unset, .unset]) (pc' := 93) X7 hx (hb hby at_91) rfl rfl ?_
      have he1 : 0 ≤ v10.toInt ∧ v10.toInt ≤ 1073741823 := by rw [hv10]; exact own_m30 _
      have he2 : v10.toInt < v11.toInt := by rw [hv11]; exact own_e2 he1 _
      refine i_iload (v := v4) (pc' := 95) X7 hx (hb hby at_93) rfl rfl ?_
      obtain ⟨v14, hv14⟩ : ∃ zz : Int32, zz = (if v4 = 0 then (v10 - v8) else (v10 + (1 : Int32))) := ⟨_, rfl⟩
      have J15 : ∀ (T : State), Pn p l e room_1 s m #[(.int p1), (.int p2), (.int p3), (.int p4), (.int p5), (.int p6)] below meth c T h0 n0 (0 + 0) (0 + 0) → Go p e s below n0 Q0 room_1 T (mkF m 110 #[.val (.int p1), .val (.int p2), .val (.int p3), .val (.int p4), .val (.int p5), .val (.int p6), .val (.int v1), .val (.int v3), .val (.int v4), .val (.int v6), .val (.int v8), .val (.int v9), .val (.int v10), .val (.int v11), .val (.int v12), .val (.int v13), .unset, .unset, .unset, .unset, .unset, .unset, .unset, .unset, .unset, .unset] [(.int v14)]) := by
        intro T15 X15
        refine i_istore (L' := #[.val (.int p1), .val (.int p2), .val (.int p3), .val (.int p4), .val (.int p5), .val (.int p6), .val (.int v1), .val (.int v3), .val (.int v4), .val (.int v6), .val (.int v8), .val (.int v9), .val (.int v10), .val (.int v11), .val (.int v12), .val (.int v13), .val (.int v14), .unset, .unset, .unset, .unset, .unset, .unset, .unset, .unset, .unset]) (pc' := 112) X15 hx (hb hby at_110) rfl rfl ?_
        refine i_iload (v := v6) (pc' := 114) X15 hx (hb hby at_112) rfl rfl ?_
        obtain ⟨v16, hv16⟩ : ∃ zz : Int32, zz = (if v6 = 0 then (v11 - v9) else (v11 + (1 : Int32))) := ⟨_, rfl⟩
        have J17 : ∀ (T : State), Pn p l e room_1 s m #[(.int p1), (.int p2), (.int p3), (.int p4), (.int p5), (.int p6)] below meth c T h0 n0 (0 + 0) (0 + 0) → Go p e s below n0 Q0 room_1 T (mkF m 129 #[.val (.int p1), .val (.int p2), .val (.int p3), .val (.int p4), .val (.int p5), .val (.int p6), .val (.int v1), .val (.int v3), .val (.int v4), .val (.int v6), .val (.int v8), .val (.int v9), .val (.int v10), .val (.int v11), .val (.int v12), .val (.int v13), .val (.int v14), .unset, .unset, .unset, .unset, .unset, .unset, .unset, .unset, .unset] [(.int v16)]) := by
          intro T17 X17
          refine i_istore (L' := #[.val (.int p1), .val (.int p2), .val (.int p3), .val (.int p4), .val (.int p5), .val (.int p6), .val (.int v1), .val (.int v3), .val (.int v4), .val (.int v6), .val (.int v8), .val (.int v9), .val (.int v10), .val (.int v11), .val (.int v12), .val (.int v13), .val (.int v14), .val (.int v16), .unset, .unset, .unset, .unset, .unset, .unset, .unset, .unset]) (pc' := 131) X17 hx (hb hby at_129) rfl rfl ?_
          refine i_iload (v := p6) (pc' := 133) X17 hx (hb hby at_131) rfl rfl ?_
          refine i_iconst (pc' := 134) (3 : Int32) X17 hx (hb hby at_133) rfl (by decide) ?_
          refine i_iand (pc' := 135) X17 hx (hb hby at_134) rfl ?_
          obtain ⟨v18, hv18⟩ : ∃ zz : Int32, zz = (p6 &&& (3 : Int32)) := ⟨_, rfl⟩
          rw [← hv18]
          refine i_istore (L' := #[.val (.int p1), .val (.int p2), .val (.int p3), .val (.int p4), .val (.int p5), .val (.int p6), .val (.int v1), .val (.int v3), .val (.int v4), .val (.int v6), .val (.int v8), .val (.int v9), .val (.int v10), .val (.int v11), .val (.int v12), .val (.int v13), .val (.int v14), .val (.int v16), .val (.int v18), .unset, .unset, .unset, .unset, .unset, .unset, .unset]) (pc' := 137) X17 hx (hb hby at_135) rfl rfl ?_
          refine i_iload (v := v18) (pc' := 139) X17 hx (hb hby at_137) rfl rfl ?_
          obtain ⟨v19, hv19⟩ : ∃ zz : Int32, zz = (if v18 = 0 then v10 else (if v18 = (1 : Int32) then v11 else (if v18 = (2 : Int32) then (XT.ushr p6 (2 : Int32)) else (v10 + ((XT.ushr p6 (2 : Int32)) &&& (255 : Int32)))))) := ⟨_, rfl⟩
          have J20 : ∀ (T : State), Pn p l e room_1 s m #[(.int p1), (.int p2), (.int p3), (.int p4), (.int p5), (.int p6)] below meth c T h0 n0 (0 + 0) (0 + 0) → Go p e s below n0 Q0 room_1 T (mkF m 190 #[.val (.int p1), .val (.int p2), .val (.int p3), .val (.int p4), .val (.int p5), .val (.int p6), .val (.int v1), .val (.int v3), .val (.int v4), .val (.int v6), .val (.int v8), .val (.int v9), .val (.int v10), .val (.int v11), .val (.int v12), .val (.int v13), .val (.int v14), .val (.int v16), .val (.int v18), .val (.int v19), .unset, .unset, .unset, .unset, .unset, .unset] []) := by
            intro T20 X20
            have hqi : 0 ≤ v19.toInt := by rw [hv19]; exact own_qi he1 he2 _ _
            refine nw (pc' := 193) X20 hx hZ hown (hw _ (List.mem_of_getElem? (i := 6) rfl)) (hw _ (List.mem_of_getElem? (i := 7) rfl)) (hw _ (List.mem_of_getElem? (i := 8) rfl)) (hb hby at_190) rfl (by decide) (by decide) fun T21 h21 b21 X21 g21 ge21 E21 A21 D21 => ?_
            have sz_b21 : h0.size ≤ b21 := Nat.le_trans ((Keep.refl h0 _) : Keep h0 h0 []).1 (Nat.le_of_eq g21.symm)
            have K21 : Keep h0 h21 [] := ((Keep.refl h0 _) : Keep h0 h0 []).ext E21
            refine i_dup (pc' := 194) X21 hx (hb hby at_193) rfl rfl ?_
            refine i_iload (v := v1) (pc' := 196) X21 hx (hb hby at_194) rfl rfl ?_
            have F22 : Fld Z h21 b21 "com/example/shoal_creek/shoalcreek/MatchedSuffixes" "newestEnd" "I" (.int (0 : Int32)) := (D21 (Or.inl (hw _ (List.mem_of_getElem? (i := 16) rfl))) (ty := .int) (by decide))
            have F23 : Fld Z h21 b21 "com/example/shoal_creek/shoalcreek/MatchedSuffixes" "patternLength" "I" (.int (0 : Int32)) := (D21 (Or.inr (hw _ (List.mem_of_getElem? (i := 18) rfl))) (ty := .int) (by decide))
            have F24 : Fld Z h21 b21 "com/example/shoal_creek/shoalcreek/MatchedSuffixes" "ends" "[I" .null := (D21 (Or.inl (hw _ (List.mem_of_getElem? (i := 29) rfl))) (ty := (.array .int)) (by decide))
            have F25 : Fld Z h21 b21 "com/example/shoal_creek/shoalcreek/MatchedSuffixes" "lengths" "[I" .null := (D21 (Or.inl (hw _ (List.mem_of_getElem? (i := 32) rfl))) (ty := (.array .int)) (by decide))
            have F26 : Fld Z h21 b21 "com/example/shoal_creek/shoalcreek/MatchedSuffixes" "differings" "[I" .null := (D21 (Or.inl (hw _ (List.mem_of_getElem? (i := 34) rfl))) (ty := (.array .int)) (by decide))
            have F27 : Fld Z h21 b21 "com/example/shoal_creek/shoalcreek/MatchedSuffixes" "differing" "C" (.int (0 : Int32)) := (D21 (Or.inl (hw _ (List.mem_of_getElem? (i := 51) rfl))) (ty := .char) (by decide))
            refine cI (y := (⟨"com/example/shoal_creek/shoalcreek/MatchedSuffixes", "<init>", "(I)V"⟩ : MethodName)) (rest := [(.ref b21)]) (pc' := 199) (a := b21) 1 [(.int v1)] X21 hx hZ hown rfl (hw _ (List.mem_of_getElem? (i := 9) rfl)) (hw _ (List.mem_of_getElem? (i := 10) rfl)) (hw _ (List.mem_of_getElem? (i := 8) rfl)) (hw _ (List.mem_of_getElem? (i := 11) rfl)) (by decide) (rmNew l Z a0 hw [] b21 v1 n0 h21 X21.le A21 F22 F23 F24 F25 F26 F27 ge21) (by decide) (by decide) (by rw [hml]; rfl) rfl (lenOf pd4 rfl) rfl (Nat.le_of_eq rfl) (hb hby at_196) rfl (by decide) (by decide) ?_
            intro r28 T28 h28 X28 q28
            obtain ⟨rfl, K28c, P28_0, P28_1, P28_2, P28_3, P28_4, P28_5⟩ := q28
            show Go _ _ _ _ _ _ _ T28 (mkF m 199 #[.val (.int p1), .val (.int p2), .val (.int p3), .val (.int p4), .val (.int p5), .val (.int p6), .val (.int v1), .val (.int v3), .val (.int v4), .val (.int v6), .val (.int v8), .val (.int v9), .val (.int v10), .val (.int v11), .val (.int v12), .val (.int v13), .val (.int v14), .val (.int v16), .val (.int v18), .val (.int v19), .unset, .unset, .unset, .unset, .unset, .unset] [(.ref b21)])
            refine i_astore (L' := #[.val (.int p1), .val (.int p2), .val (.int p3), .val (.int p4), .val (.int p5), .val (.int p6), .val (.int v1), .val (.int v3), .val (.int v4), .val (.int v6), .val (.int v8), .val (.int v9), .val (.int v10), .val (.int v11), .val (.int v12), .val (.int v13), .val (.int v14), .val (.int v16), .val (.int v18), .val (.int v19), .val (.ref b21), .unset, .unset, .unset, .unset, .unset]) (pc' := 201) X28 hx (hb hby at_199) rfl rfl rfl ?_
            by_cases hK1 : ((0 : Int32) < v12 ∧ ¬ v10 < v14)
            · skip
              refine i_aload (v := (.ref b21)) (pc' := 203) X28 hx (hb hby at_201) rfl rfl rfl ?_
              refine i_iload (v := v10) (pc' := 205) X28 hx (hb hby at_203) rfl rfl ?_
              refine i_iload (v := v12) (pc' := 207) X28 hx (hb hby at_205) rfl rfl ?_
              refine i_iload (v := v14) (pc' := 209) X28 hx (hb hby at_207) rfl rfl ?_
              have F29 : Exa Z h28 b21 "com/example/shoal_creek/shoalcreek/MatchedSuffixes" := (A21.keep K28c)
              refine cV (y := (⟨"com/example/shoal_creek/shoalcreek/MatchedSuffixes", "remember", "(III)V"⟩ : MethodName)) (C := "com/example/shoal_creek/shoalcreek/MatchedSuffixes") (rest := []) (pc' := 212) 0 [(.int v10), (.int v12), (.int v14)] X28 hx hZ hown (hw _ (List.mem_of_getElem? (i := 19) rfl)) (hw _ (List.mem_of_getElem? (i := 20) rfl)) (hw _ (List.mem_of_getElem? (i := 22) rfl)) (hw _ (List.mem_of_getElem? (i := 21) rfl)) (hw _ (List.mem_of_getElem? (i := 8) rfl)) (hw _ (List.mem_of_getElem? (i := 23) rfl)) (by decide) F29 (rmR1 l Z a0 hw [] b21 v10 v12 v14 v1 (-1 : Int32) (0 : Int32) n0 h28 X28.le F29 P28_2 P28_3 P28_4 P28_0 P28_1 P28_5 ge21 hpl hK1.1 hK1.2) (by decide) (by decide) (by rw [hml]; rfl) rfl (lenOf pd2 rfl) rfl (Nat.le_of_eq rfl) (hb hby at_209) rfl (by decide) (by decide) ?_
              intro r30 T30 h30 X30 q30
              obtain ⟨aE30, aL30, aD30, rfl, K30c, P30_0, P30_1, P30_2, P30_3, P30_4, P30_5, P30_6, P30_7, P30_8, fz30_aE, fz30_aL, fz30_aD, fn30_aE_aL, fn30_aE_aD, fn30_aL_aD⟩ := q30
              have ge_aE30 : n0 ≤ aE30 := Nat.le_trans X28.le fz30_aE
              have sz_aE30 : h0.size ≤ aE30 := Nat.le_trans (((K21 : Keep h0 h21 []).trans K28c (allS (Or.inr sz_b21) all0)) : Keep h0 h28 []).1 fz30_aE
              have ne_b21_aE30 : b21 ≠ aE30 := Nat.ne_of_lt (Nat.lt_of_lt_of_le F29.lt fz30_aE)
              have ge_aL30 : n0 ≤ aL30 := Nat.le_trans X28.le fz30_aL
              have sz_aL30 : h0.size ≤ aL30 := Nat.le_trans (((K21 : Keep h0 h21 []).trans K28c (allS (Or.inr sz_b21) all0)) : Keep h0 h28 []).1 fz30_aL
              have ne_b21_aL30 : b21 ≠ aL30 := Nat.ne_of_lt (Nat.lt_of_lt_of_le F29.lt fz30_aL)
              have ge_aD30 : n0 ≤ aD30 := Nat.le_trans X28.le fz30_aD
              have sz_aD30 : h0.size ≤ aD30 := Nat.le_trans (((K21 : Keep h0 h21 []).trans K28c (allS (Or.inr sz_b21) all0)) : Keep h0 h28 []).1 fz30_aD
              have ne_b21_aD30 : b21 ≠ aD30 := Nat.ne_of_lt (Nat.lt_of_lt_of_le F29.lt fz30_aD)
              show Go _ _ _ _ _ _ _ T30 (mkF m 212 #[.val (.int p1), .val (.int p2), .val (.int p3), .val (.int p4), .val (.int p5), .val (.int p6), .val (.int v1), .val (.int v3), .val (.int v4), .val (.int v6), .val (.int v8), .val (.int v9), .val (.int v10), .val (.int v11), .val (.int v12), .val (.int v13), .val (.int v14), .val (.int v16), .val (.int v18), .val (.int v19), .val (.ref b21), .unset, .unset, .unset, .unset, .unset] [])
              by_cases hK2 : ((0 : Int32) < v13 ∧ ¬ v11 < v16)
              · skip
                refine i_aload (v := (.ref b21)) (pc' := 214) X30 hx (hb hby at_212) rfl rfl rfl ?_
                refine i_iload (v := v11) (pc' := 216) X30 hx (hb hby at_214) rfl rfl ?_
                refine i_iload (v := v13) (pc' := 218) X30 hx (hb hby at_216) rfl rfl ?_
                refine i_iload (v := v16) (pc' := 220) X30 hx (hb hby at_218) rfl rfl ?_
                have F31 : Exa Z h30 b21 "com/example/shoal_creek/shoalcreek/MatchedSuffixes" := (F29.keep K30c)
                refine cV (y := (⟨"com/example/shoal_creek/shoalcreek/MatchedSuffixes", "remember", "(III)V"⟩ : MethodName)) (C := "com/example/shoal_creek/shoalcreek/MatchedSuffixes") (rest := []) (pc' := 223) 0 [(.int v11), (.int v13), (.int v16)] X30 hx hZ hown (hw _ (List.mem_of_getElem? (i := 19) rfl)) (hw _ (List.mem_of_getElem? (i := 20) rfl)) (hw _ (List.mem_of_getElem? (i := 22) rfl)) (hw _ (List.mem_of_getElem? (i := 21) rfl)) (hw _ (List.mem_of_getElem? (i := 8) rfl)) (hw _ (List.mem_of_getElem? (i := 23) rfl)) (by decide) F31 (rmR2 l Z a0 hw [] b21 v11 v13 v16 v1 (own_max (-1 : Int32) v10) (0 : Int32) aE30 aL30 aD30 (own_N v1) (own_up own_zero (own_k v10 (own_N v1)) v10) (own_up own_zero (own_k v10 (own_N v1)) v12) (own_up own_zero (own_k v10 (own_N v1)) (if v12 < v1 then (0 : Int32) else (-2 : Int32))) n0 h30 X30.le F31 P30_0 P30_1 P30_2 P30_3 P30_4 P30_5 P30_6 P30_7 P30_8 ge21 ge_aE30 ge_aL30 ge_aD30 ne_b21_aE30 ne_b21_aL30 ne_b21_aD30 fn30_aE_aL fn30_aE_aD fn30_aL_aD (own_Np _) hK2.1 hK2.2) (by decide) (by decide) (by rw [hml]; rfl) rfl (lenOf pd2 rfl) rfl (Nat.le_of_eq rfl) (hb hby at_220) rfl (by decide) (by decide) ?_
                intro r32 T32 h32 X32 q32
                obtain ⟨rfl, K32c, P32_0, P32_1, P32_2, P32_3, P32_4, P32_5, P32_6, P32_7, P32_8⟩ := q32
                show Go _ _ _ _ _ _ _ T32 (mkF m 223 #[.val (.int p1), .val (.int p2), .val (.int p3), .val (.int p4), .val (.int p5), .val (.int p6), .val (.int v1), .val (.int v3), .val (.int v4), .val (.int v6), .val (.int v8), .val (.int v9), .val (.int v10), .val (.int v11), .val (.int v12), .val (.int v13), .val (.int v14), .val (.int v16), .val (.int v18), .val (.int v19), .val (.ref b21), .unset, .unset, .unset, .unset, .unset] [])
                refine i_aload (v := (.ref b21)) (pc' := 225) X32 hx (hb hby at_223) rfl rfl rfl ?_
                refine i_iload (v := v19) (pc' := 227) X32 hx (hb hby at_225) rfl rfl ?_
                have F34 : Exa Z h32 b21 "com/example/shoal_creek/shoalcreek/MatchedSuffixes" := (F31.keep K32c)
                refine cV (y := (⟨"com/example/shoal_creek/shoalcreek/MatchedSuffixes", "lengthEndingAt", "(I)I"⟩ : MethodName)) (C := "com/example/shoal_creek/shoalcreek/MatchedSuffixes") (rest := []) (pc' := 230) 0 [(.int v19)] X32 hx hZ hown (hw _ (List.mem_of_getElem? (i := 44) rfl)) (hw _ (List.mem_of_getElem? (i := 45) rfl)) (hw _ (List.mem_of_getElem? (i := 47) rfl)) (hw _ (List.mem_of_getElem? (i := 46) rfl)) (hw _ (List.mem_of_getElem? (i := 8) rfl)) (hw _ (List.mem_of_getElem? (i := 48) rfl)) (by decide) F34 (rmL1 l Z a0 hw [] b21 v19 (own_max (own_max (-1 : Int32) v10) v11) aE30 aL30 (own_N v1) (own_up (own_up own_zero (own_k v10 (own_N v1)) v10) (own_k v11 (own_N v1)) v11) (own_up (own_up own_zero (own_k v10 (own_N v1)) v12) (own_k v11 (own_N v1)) v13) n0 h32 X32.le P32_3 P32_0 P32_1 P32_6 P32_7 (own_Np _)) (by decide) (by decide) (by rw [hml]; rfl) rfl (lenOf pd3 rfl) rfl (Nat.le_of_eq rfl) (hb hby at_227) rfl (by decide) (by decide) ?_
                intro r33 T33 h33 X33 q33
                obtain ⟨rfl, eh33⟩ := q33
                subst eh33
                show Go _ _ _ _ _ _ _ T33 (mkF m 230 #[.val (.int p1), .val (.int p2), .val (.int p3), .val (.int p4), .val (.int p5), .val (.int p6), .val (.int v1), .val (.int v3), .val (.int v4), .val (.int v6), .val (.int v8), .val (.int v9), .val (.int v10), .val (.int v11), .val (.int v12), .val (.int v13), .val (.int v14), .val (.int v16), .val (.int v18), .val (.int v19), .val (.ref b21), .unset, .unset, .unset, .unset, .unset] [(.int (own_lea (own_up (own_up own_zero (own_k v10 (own_N v1)) v10) (own_k v11 (own_N v1)) v11) (own_up (own_up own_zero (own_k v10 (own_N v1)) v12) (own_k v11 (own_N v1)) v13) (own_N v1) (own_max (own_max (-1 : Int32) v10) v11) v19))])
                obtain ⟨v35, hv35⟩ : ∃ zz : Int32, zz = (own_lea (own_up (own_up own_zero (own_k v10 (own_N v1)) v10) (own_k v11 (own_N v1)) v11) (own_up (own_up own_zero (own_k v10 (own_N v1)) v12) (own_k v11 (own_N v1)) v13) (own_N v1) (own_max (own_max (-1 : Int32) v10) v11) v19) := ⟨_, rfl⟩
                rw [← hv35]
                refine i_istore (L' := #[.val (.int p1), .val (.int p2), .val (.int p3), .val (.int p4), .val (.int p5), .val (.int p6), .val (.int v1), .val (.int v3), .val (.int v4), .val (.int v6), .val (.int v8), .val (.int v9), .val (.int v10), .val (.int v11), .val (.int v12), .val (.int v13), .val (.int v14), .val (.int v16), .val (.int v18), .val (.int v19), .val (.ref b21), .val (.int v35), .unset, .unset, .unset, .unset]) (pc' := 232) X33 hx (hb hby at_230) rfl rfl ?_
                refine i_iload (v := v12) (pc' := 234) X33 hx (hb hby at_232) rfl rfl ?_
                obtain ⟨v36, hv36⟩ : ∃ zz : Int32, zz = (if 0 < v12 then (if v10 < v14 then (0 : Int32) else (1 : Int32)) else (0 : Int32)) := ⟨_, rfl⟩
                have J37 : ∀ (T : State), Pn p l e room_1 s m #[(.int p1), (.int p2), (.int p3), (.int p4), (.int p5), (.int p6)] below meth c T h32 n0 (0 + 0 + 1 + 0 + 3 + 0 + 0) (0 + 0 + 6 + 0 + 192 + 0 + 0) → Go p e s below n0 Q0 room_1 T (mkF m 249 #[.val (.int p1), .val (.int p2), .val (.int p3), .val (.int p4), .val (.int p5), .val (.int p6), .val (.int v1), .val (.int v3), .val (.int v4), .val (.int v6), .val (.int v8), .val (.int v9), .val (.int v10), .val (.int v11), .val (.int v12), .val (.int v13), .val (.int v14), .val (.int v16), .val (.int v18), .val (.int v19), .val (.ref b21), .val (.int v35), .unset, .unset, .unset, .unset] [(.int v36)]) := by
                  intro T37 X37
                  refine i_istore (L' := #[.val (.int p1), .val (.int p2), .val (.int p3), .val (.int p4), .val (.int p5), .val (.int p6), .val (.int v1), .val (.int v3), .val (.int v4), .val (.int v6), .val (.int v8), .val (.int v9), .val (.int v10), .val (.int v11), .val (.int v12), .val (.int v13), .val (.int v14), .val (.int v16), .val (.int v18), .val (.int v19), .val (.ref b21), .val (.int v35), .val (.int v36), .unset, .unset, .unset]) (pc' := 251) X37 hx (hb hby at_249) rfl rfl ?_
                  refine i_iload (v := v13) (pc' := 253) X37 hx (hb hby at_251) rfl rfl ?_
                  obtain ⟨v38, hv38⟩ : ∃ zz : Int32, zz = (if 0 < v13 then (if v11 < v16 then (0 : Int32) else (1 : Int32)) else (0 : Int32)) := ⟨_, rfl⟩
                  have J39 : ∀ (T : State), Pn p l e room_1 s m #[(.int p1), (.int p2), (.int p3), (.int p4), (.int p5), (.int p6)] below meth c T h32 n0 (0 + 0 + 1 + 0 + 3 + 0 + 0) (0 + 0 + 6 + 0 + 192 + 0 + 0) → Go p e s below n0 Q0 room_1 T (mkF m 268 #[.val (.int p1), .val (.int p2), .val (.int p3), .val (.int p4), .val (.int p5), .val (.int p6), .val (.int v1), .val (.int v3), .val (.int v4), .val (.int v6), .val (.int v8), .val (.int v9), .val (.int v10), .val (.int v11), .val (.int v12), .val (.int v13), .val (.int v14), .val (.int v16), .val (.int v18), .val (.int v19), .val (.ref b21), .val (.int v35), .val (.int v36), .unset, .unset, .unset] [(.int v38)]) := by
                    intro T39 X39
                    refine i_istore (L' := #[.val (.int p1), .val (.int p2), .val (.int p3), .val (.int p4), .val (.int p5), .val (.int p6), .val (.int v1), .val (.int v3), .val (.int v4), .val (.int v6), .val (.int v8), .val (.int v9), .val (.int v10), .val (.int v11), .val (.int v12), .val (.int v13), .val (.int v14), .val (.int v16), .val (.int v18), .val (.int v19), .val (.ref b21), .val (.int v35), .val (.int v36), .val (.int v38), .unset, .unset]) (pc' := 270) X39 hx (hb hby at_268) rfl rfl ?_
                    refine i_iload (v := v38) (pc' := 272) X39 hx (hb hby at_270) rfl rfl ?_
                    obtain ⟨v40, hv40⟩ : ∃ zz : Int32, zz = (if v38 = 0 then (0 : Int32) else (if ((v11 - v10) % v3) = 0 then (1 : Int32) else (0 : Int32))) := ⟨_, rfl⟩
                    have J41 : ∀ (T : State), Pn p l e room_1 s m #[(.int p1), (.int p2), (.int p3), (.int p4), (.int p5), (.int p6)] below meth c T h32 n0 (0 + 0 + 1 + 0 + 3 + 0 + 0) (0 + 0 + 6 + 0 + 192 + 0 + 0) → Go p e s below n0 Q0 room_1 T (mkF m 291 #[.val (.int p1), .val (.int p2), .val (.int p3), .val (.int p4), .val (.int p5), .val (.int p6), .val (.int v1), .val (.int v3), .val (.int v4), .val (.int v6), .val (.int v8), .val (.int v9), .val (.int v10), .val (.int v11), .val (.int v12), .val (.int v13), .val (.int v14), .val (.int v16), .val (.int v18), .val (.int v19), .val (.ref b21), .val (.int v35), .val (.int v36), .val (.int v38), .unset, .unset] [(.int v40)]) := by
                      intro T41 X41
                      refine i_istore (L' := #[.val (.int p1), .val (.int p2), .val (.int p3), .val (.int p4), .val (.int p5), .val (.int p6), .val (.int v1), .val (.int v3), .val (.int v4), .val (.int v6), .val (.int v8), .val (.int v9), .val (.int v10), .val (.int v11), .val (.int v12), .val (.int v13), .val (.int v14), .val (.int v16), .val (.int v18), .val (.int v19), .val (.ref b21), .val (.int v35), .val (.int v36), .val (.int v38), .val (.int v40), .unset]) (pc' := 293) X41 hx (hb hby at_291) rfl rfl ?_
                      refine i_iconst (pc' := 294) (0 : Int32) X41 hx (hb hby at_293) rfl (by decide) ?_
                      refine i_istore (L' := #[.val (.int p1), .val (.int p2), .val (.int p3), .val (.int p4), .val (.int p5), .val (.int p6), .val (.int v1), .val (.int v3), .val (.int v4), .val (.int v6), .val (.int v8), .val (.int v9), .val (.int v10), .val (.int v11), .val (.int v12), .val (.int v13), .val (.int v14), .val (.int v16), .val (.int v18), .val (.int v19), .val (.ref b21), .val (.int v35), .val (.int v36), .val (.int v38), .val (.int v40), .val (.int (0 : Int32))]) (pc' := 296) X41 hx (hb hby at_294) rfl rfl ?_
                      refine i_iload (v := v38) (pc' := 298) X41 hx (hb hby at_296) rfl rfl ?_
                      obtain ⟨v42, hv42⟩ : ∃ zz : Int32, zz = (if v38 = 0 then (if v36 = 0 then (0 : Int32) else (if v19 = v10 then (if v40 = 0 then v12 else (0 : Int32)) else (0 : Int32))) else (if v19 = v11 then v13 else (if v36 = 0 then (0 : Int32) else (if v19 = v10 then (if v40 = 0 then v12 else (0 : Int32)) else (0 : Int32))))) := ⟨_, rfl⟩
                      have J43 : ∀ (T : State), Pn p l e room_1 s m #[(.int p1), (.int p2), (.int p3), (.int p4), (.int p5), (.int p6)] below meth c T h32 n0 (0 + 0 + 1 + 0 + 3 + 0 + 0) (0 + 0 + 6 + 0 + 192 + 0 + 0) → Go p e s below n0 Q0 room_1 T (mkF m 336 #[.val (.int p1), .val (.int p2), .val (.int p3), .val (.int p4), .val (.int p5), .val (.int p6), .val (.int v1), .val (.int v3), .val (.int v4), .val (.int v6), .val (.int v8), .val (.int v9), .val (.int v10), .val (.int v11), .val (.int v12), .val (.int v13), .val (.int v14), .val (.int v16), .val (.int v18), .val (.int v19), .val (.ref b21), .val (.int v35), .val (.int v36), .val (.int v38), .val (.int v40), .val (.int v42)] []) := by
                        intro T43 X43
                        refine i_iload (v := v35) (pc' := 338) X43 hx (hb hby at_336) rfl rfl ?_
                        refine i_iload (v := v42) (pc' := 340) X43 hx (hb hby at_338) rfl rfl ?_
                        refine i_icF (pc' := 343) X43 hx (hb hby at_340) rfl (XT.ii_ne_f (own_finTT hv3 he1 he2 hqi hK1 hK2 hv35 hv36 hv38 hv40 hv42)) ?_
                        refine i_iconst (pc' := 344) (1 : Int32) X43 hx (hb hby at_343) rfl (by decide) ?_
                        refine i_goto (pc' := 348) X43 hx (hb hby at_344) (by decide) (by decide) ?_
                        refine rN X43 hx hlk hret (by simp) (hb hby at_348) (by decide) (by decide) ?_
                        exact rfl
                      by_cases hc44 : v38 = 0
                      · skip
                        refine i_ifT (pc' := 315) X41 hx (hb hby at_298) (XT.i0_eq_t hc44) (by decide) (by decide) ?_
                        refine i_iload (v := v36) (pc' := 317) X41 hx (hb hby at_315) rfl rfl ?_
                        by_cases hc45 : v36 = 0
                        · skip
                          refine i_ifT (pc' := 336) X41 hx (hb hby at_317) (XT.i0_eq_t hc45) (by decide) (by decide) ?_
                          have ev42 := hv42
                          simp only [if_pos hc44, if_pos hc45] at ev42
                          rw [ev42] at J43
                          exact J43 _ (X41.mono (by decide) (by decide))
                        · skip
                          refine i_ifF (pc' := 320) X41 hx (hb hby at_317) rfl (XT.i0_eq_f hc45) ?_
                          refine i_iload (v := v19) (pc' := 322) X41 hx (hb hby at_320) rfl rfl ?_
                          refine i_iload (v := v10) (pc' := 324) X41 hx (hb hby at_322) rfl rfl ?_
                          by_cases hc46 : v19 = v10
                          · skip
                            refine i_icF (pc' := 327) X41 hx (hb hby at_324) rfl (XT.ii_ne_f hc46) ?_
                            refine i_iload (v := v40) (pc' := 329) X41 hx (hb hby at_327) rfl rfl ?_
                            by_cases hc47 : v40 = 0
                            · skip
                              refine i_ifF (pc' := 332) X41 hx (hb hby at_329) rfl (XT.i0_ne_f hc47) ?_
                              refine i_iload (v := v12) (pc' := 334) X41 hx (hb hby at_332) rfl rfl ?_
                              refine i_istore (L' := #[.val (.int p1), .val (.int p2), .val (.int p3), .val (.int p4), .val (.int p5), .val (.int p6), .val (.int v1), .val (.int v3), .val (.int v4), .val (.int v6), .val (.int v8), .val (.int v9), .val (.int v10), .val (.int v11), .val (.int v12), .val (.int v13), .val (.int v14), .val (.int v16), .val (.int v18), .val (.int v19), .val (.ref b21), .val (.int v35), .val (.int v36), .val (.int v38), .val (.int v40), .val (.int v12)]) (pc' := 336) X41 hx (hb hby at_334) rfl rfl ?_
                              have ev42 := hv42
                              simp only [if_pos hc44, if_neg hc45, if_pos hc46, if_pos hc47] at ev42
                              rw [ev42] at J43
                              exact J43 _ (X41.mono (by decide) (by decide))
                            · skip
                              refine i_ifT (pc' := 336) X41 hx (hb hby at_329) (XT.i0_ne_t hc47) (by decide) (by decide) ?_
                              have ev42 := hv42
                              simp only [if_pos hc44, if_neg hc45, if_pos hc46, if_neg hc47] at ev42
                              rw [ev42] at J43
                              exact J43 _ (X41.mono (by decide) (by decide))
                          · skip
                            refine i_icT (pc' := 336) X41 hx (hb hby at_324) (XT.ii_ne_t hc46) (by decide) (by decide) ?_
                            have ev42 := hv42
                            simp only [if_pos hc44, if_neg hc45, if_neg hc46] at ev42
                            rw [ev42] at J43
                            exact J43 _ (X41.mono (by decide) (by decide))
                      · skip
                        refine i_ifF (pc' := 301) X41 hx (hb hby at_298) rfl (XT.i0_eq_f hc44) ?_
                        refine i_iload (v := v19) (pc' := 303) X41 hx (hb hby at_301) rfl rfl ?_
                        refine i_iload (v := v11) (pc' := 305) X41 hx (hb hby at_303) rfl rfl ?_
                        by_cases hc48 : v19 = v11
                        · skip
                          refine i_icF (pc' := 308) X41 hx (hb hby at_305) rfl (XT.ii_ne_f hc48) ?_
                          refine i_iload (v := v13) (pc' := 310) X41 hx (hb hby at_308) rfl rfl ?_
                          refine i_istore (L' := #[.val (.int p1), .val (.int p2), .val (.int p3), .val (.int p4), .val (.int p5), .val (.int p6), .val (.int v1), .val (.int v3), .val (.int v4), .val (.int v6), .val (.int v8), .val (.int v9), .val (.int v10), .val (.int v11), .val (.int v12), .val (.int v13), .val (.int v14), .val (.int v16), .val (.int v18), .val (.int v19), .val (.ref b21), .val (.int v35), .val (.int v36), .val (.int v38), .val (.int v40), .val (.int v13)]) (pc' := 312) X41 hx (hb hby at_310) rfl rfl ?_
                          refine i_goto (pc' := 336) X41 hx (hb hby at_312) (by decide) (by decide) ?_
                          have ev42 := hv42
                          simp only [if_neg hc44, if_pos hc48] at ev42
                          rw [ev42] at J43
                          exact J43 _ (X41.mono (by decide) (by decide))
                        · skip
                          refine i_icT (pc' := 315) X41 hx (hb hby at_305) (XT.ii_ne_t hc48) (by decide) (by decide) ?_
                          refine i_iload (v := v36) (pc' := 317) X41 hx (hb hby at_315) rfl rfl ?_
                          by_cases hc49 : v36 = 0
                          · skip
                            refine i_ifT (pc' := 336) X41 hx (hb hby at_317) (XT.i0_eq_t hc49) (by decide) (by decide) ?_
                            have ev42 := hv42
                            simp only [if_neg hc44, if_neg hc48, if_pos hc49] at ev42
                            rw [ev42] at J43
                            exact J43 _ (X41.mono (by decide) (by decide))
                          · skip
                            refine i_ifF (pc' := 320) X41 hx (hb hby at_317) rfl (XT.i0_eq_f hc49) ?_
                            refine i_iload (v := v19) (pc' := 322) X41 hx (hb hby at_320) rfl rfl ?_
                            refine i_iload (v := v10) (pc' := 324) X41 hx (hb hby at_322) rfl rfl ?_
                            by_cases hc50 : v19 = v10
                            · skip
                              refine i_icF (pc' := 327) X41 hx (hb hby at_324) rfl (XT.ii_ne_f hc50) ?_
                              refine i_iload (v := v40) (pc' := 329) X41 hx (hb hby at_327) rfl rfl ?_
                              by_cases hc51 : v40 = 0
                              · skip
                                refine i_ifF (pc' := 332) X41 hx (hb hby at_329) rfl (XT.i0_ne_f hc51) ?_
                                refine i_iload (v := v12) (pc' := 334) X41 hx (hb hby at_332) rfl rfl ?_
                                refine i_istore (L' := #[.val (.int p1), .val (.int p2), .val (.int p3), .val (.int p4), .val (.int p5), .val (.int p6), .val (.int v1), .val (.int v3), .val (.int v4), .val (.int v6), .val (.int v8), .val (.int v9), .val (.int v10), .val (.int v11), .val (.int v12), .val (.int v13), .val (.int v14), .val (.int v16), .val (.int v18), .val (.int v19), .val (.ref b21), .val (.int v35), .val (.int v36), .val (.int v38), .val (.int v40), .val (.int v12)]) (pc' := 336) X41 hx (hb hby at_334) rfl rfl ?_
                                have ev42 := hv42
                                simp only [if_neg hc44, if_neg hc48, if_neg hc49, if_pos hc50, if_pos hc51] at ev42
                                rw [ev42] at J43
                                exact J43 _ (X41.mono (by decide) (by decide))
                              · skip
                                refine i_ifT (pc' := 336) X41 hx (hb hby at_329) (XT.i0_ne_t hc51) (by decide) (by decide) ?_
                                have ev42 := hv42
                                simp only [if_neg hc44, if_neg hc48, if_neg hc49, if_pos hc50, if_neg hc51] at ev42
                                rw [ev42] at J43
                                exact J43 _ (X41.mono (by decide) (by decide))
                            · skip
                              refine i_icT (pc' := 336) X41 hx (hb hby at_324) (XT.ii_ne_t hc50) (by decide) (by decide) ?_
                              have ev42 := hv42
                              simp only [if_neg hc44, if_neg hc48, if_neg hc49, if_neg hc50] at ev42
                              rw [ev42] at J43
                              exact J43 _ (X41.mono (by decide) (by decide))
                    by_cases hc52 : v38 = 0
                    · skip
                      refine i_ifT (pc' := 290) X39 hx (hb hby at_272) (XT.i0_eq_t hc52) (by decide) (by decide) ?_
                      refine i_iconst (pc' := 291) (0 : Int32) X39 hx (hb hby at_290) rfl (by decide) ?_
                      have ev40 := hv40
                      simp only [if_pos hc52] at ev40
                      rw [ev40] at J41
                      exact J41 _ (X39.mono (by decide) (by decide))
                    · skip
                      refine i_ifF (pc' := 275) X39 hx (hb hby at_272) rfl (XT.i0_eq_f hc52) ?_
                      refine i_iload (v := v11) (pc' := 277) X39 hx (hb hby at_275) rfl rfl ?_
                      refine i_iload (v := v10) (pc' := 279) X39 hx (hb hby at_277) rfl rfl ?_
                      refine i_isub (pc' := 280) X39 hx (hb hby at_279) rfl ?_
                      refine i_iload (v := v3) (pc' := 282) X39 hx (hb hby at_280) rfl rfl ?_
                      refine i_irem (pc' := 283) X39 hx (hb hby at_282) rfl (by rw [hv3]; exact own_snz _) ?_
                      by_cases hc53 : ((v11 - v10) % v3) = 0
                      · skip
                        refine i_ifF (pc' := 286) X39 hx (hb hby at_283) rfl (XT.i0_ne_f hc53) ?_
                        refine i_iconst (pc' := 287) (1 : Int32) X39 hx (hb hby at_286) rfl (by decide) ?_
                        refine i_goto (pc' := 291) X39 hx (hb hby at_287) (by decide) (by decide) ?_
                        have ev40 := hv40
                        simp only [if_neg hc52, if_pos hc53] at ev40
                        rw [ev40] at J41
                        exact J41 _ (X39.mono (by decide) (by decide))
                      · skip
                        refine i_ifT (pc' := 290) X39 hx (hb hby at_283) (XT.i0_ne_t hc53) (by decide) (by decide) ?_
                        refine i_iconst (pc' := 291) (0 : Int32) X39 hx (hb hby at_290) rfl (by decide) ?_
                        have ev40 := hv40
                        simp only [if_neg hc52, if_neg hc53] at ev40
                        rw [ev40] at J41
                        exact J41 _ (X39.mono (by decide) (by decide))
                  by_cases hc54 : 0 < v13
                  · skip
                    refine i_ifF (pc' := 256) X37 hx (hb hby at_253) rfl (XT.i0_le_f hc54) ?_
                    refine i_iload (v := v11) (pc' := 258) X37 hx (hb hby at_256) rfl rfl ?_
                    refine i_iload (v := v16) (pc' := 260) X37 hx (hb hby at_258) rfl rfl ?_
                    by_cases hc55 : v11 < v16
                    · skip
                      refine i_icT (pc' := 267) X37 hx (hb hby at_260) (XT.ii_lt_t hc55) (by decide) (by decide) ?_
                      refine i_iconst (pc' := 268) (0 : Int32) X37 hx (hb hby at_267) rfl (by decide) ?_
                      have ev38 := hv38
                      simp only [if_pos hc54, if_pos hc55] at ev38
                      rw [ev38] at J39
                      exact J39 _ (X37.mono (by decide) (by decide))
                    · skip
                      refine i_icF (pc' := 263) X37 hx (hb hby at_260) rfl (XT.ii_lt_f hc55) ?_
                      refine i_iconst (pc' := 264) (1 : Int32) X37 hx (hb hby at_263) rfl (by decide) ?_
                      refine i_goto (pc' := 268) X37 hx (hb hby at_264) (by decide) (by decide) ?_
                      have ev38 := hv38
                      simp only [if_pos hc54, if_neg hc55] at ev38
                      rw [ev38] at J39
                      exact J39 _ (X37.mono (by decide) (by decide))
                  · skip
                    refine i_ifT (pc' := 267) X37 hx (hb hby at_253) (XT.i0_le_t hc54) (by decide) (by decide) ?_
                    refine i_iconst (pc' := 268) (0 : Int32) X37 hx (hb hby at_267) rfl (by decide) ?_
                    have ev38 := hv38
                    simp only [if_neg hc54] at ev38
                    rw [ev38] at J39
                    exact J39 _ (X37.mono (by decide) (by decide))
                by_cases hc56 : 0 < v12
                · skip
                  refine i_ifF (pc' := 237) X33 hx (hb hby at_234) rfl (XT.i0_le_f hc56) ?_
                  refine i_iload (v := v10) (pc' := 239) X33 hx (hb hby at_237) rfl rfl ?_
                  refine i_iload (v := v14) (pc' := 241) X33 hx (hb hby at_239) rfl rfl ?_
                  by_cases hc57 : v10 < v14
                  · skip
                    refine i_icT (pc' := 248) X33 hx (hb hby at_241) (XT.ii_lt_t hc57) (by decide) (by decide) ?_
                    refine i_iconst (pc' := 249) (0 : Int32) X33 hx (hb hby at_248) rfl (by decide) ?_
                    have ev36 := hv36
                    simp only [if_pos hc56, if_pos hc57] at ev36
                    rw [ev36] at J37
                    exact J37 _ (X33.mono (by decide) (by decide))
                  · skip
                    refine i_icF (pc' := 244) X33 hx (hb hby at_241) rfl (XT.ii_lt_f hc57) ?_
                    refine i_iconst (pc' := 245) (1 : Int32) X33 hx (hb hby at_244) rfl (by decide) ?_
                    refine i_goto (pc' := 249) X33 hx (hb hby at_245) (by decide) (by decide) ?_
                    have ev36 := hv36
                    simp only [if_pos hc56, if_neg hc57] at ev36
                    rw [ev36] at J37
                    exact J37 _ (X33.mono (by decide) (by decide))
                · skip
                  refine i_ifT (pc' := 248) X33 hx (hb hby at_234) (XT.i0_le_t hc56) (by decide) (by decide) ?_
                  refine i_iconst (pc' := 249) (0 : Int32) X33 hx (hb hby at_248) rfl (by decide) ?_
                  have ev36 := hv36
                  simp only [if_neg hc56] at ev36
                  rw [ev36] at J37
                  exact J37 _ (X33.mono (by decide) (by decide))
              · skip
                refine i_aload (v := (.ref b21)) (pc' := 214) X30 hx (hb hby at_212) rfl rfl rfl ?_
                refine i_iload (v := v11) (pc' := 216) X30 hx (hb hby at_214) rfl rfl ?_
                refine i_iload (v := v13) (pc' := 218) X30 hx (hb hby at_216) rfl rfl ?_
                refine i_iload (v := v16) (pc' := 220) X30 hx (hb hby at_218) rfl rfl ?_
                have F59 : Exa Z h30 b21 "com/example/shoal_creek/shoalcreek/MatchedSuffixes" := (F29.keep K30c)
                refine cV (y := (⟨"com/example/shoal_creek/shoalcreek/MatchedSuffixes", "remember", "(III)V"⟩ : MethodName)) (C := "com/example/shoal_creek/shoalcreek/MatchedSuffixes") (rest := []) (pc' := 223) 0 [(.int v11), (.int v13), (.int v16)] X30 hx hZ hown (hw _ (List.mem_of_getElem? (i := 19) rfl)) (hw _ (List.mem_of_getElem? (i := 20) rfl)) (hw _ (List.mem_of_getElem? (i := 22) rfl)) (hw _ (List.mem_of_getElem? (i := 21) rfl)) (hw _ (List.mem_of_getElem? (i := 8) rfl)) (hw _ (List.mem_of_getElem? (i := 23) rfl)) (by decide) F59 (rmR0 l Z a0 hw [] b21 v11 v13 v16 n0 h30 X30.le hK2) (by decide) (by decide) (by rw [hml]; rfl) rfl (lenOf pd2 rfl) rfl (Nat.le_of_eq rfl) (hb hby at_220) rfl (by decide) (by decide) ?_
                intro r58 T58 h58 X58 q58
                obtain ⟨rfl, eh58⟩ := q58
                subst eh58
                show Go _ _ _ _ _ _ _ T58 (mkF m 223 #[.val (.int p1), .val (.int p2), .val (.int p3), .val (.int p4), .val (.int p5), .val (.int p6), .val (.int v1), .val (.int v3), .val (.int v4), .val (.int v6), .val (.int v8), .val (.int v9), .val (.int v10), .val (.int v11), .val (.int v12), .val (.int v13), .val (.int v14), .val (.int v16), .val (.int v18), .val (.int v19), .val (.ref b21), .unset, .unset, .unset, .unset, .unset] [])
                refine i_aload (v := (.ref b21)) (pc' := 225) X58 hx (hb hby at_223) rfl rfl rfl ?_
                refine i_iload (v := v19) (pc' := 227) X58 hx (hb hby at_225) rfl rfl ?_
                refine cV (y := (⟨"com/example/shoal_creek/shoalcreek/MatchedSuffixes", "lengthEndingAt", "(I)I"⟩ : MethodName)) (C := "com/example/shoal_creek/shoalcreek/MatchedSuffixes") (rest := []) (pc' := 230) 0 [(.int v19)] X58 hx hZ hown (hw _ (List.mem_of_getElem? (i := 44) rfl)) (hw _ (List.mem_of_getElem? (i := 45) rfl)) (hw _ (List.mem_of_getElem? (i := 47) rfl)) (hw _ (List.mem_of_getElem? (i := 46) rfl)) (hw _ (List.mem_of_getElem? (i := 8) rfl)) (hw _ (List.mem_of_getElem? (i := 48) rfl)) (by decide) F59 (rmL1 l Z a0 hw [] b21 v19 (own_max (-1 : Int32) v10) aE30 aL30 (own_N v1) (own_up own_zero (own_k v10 (own_N v1)) v10) (own_up own_zero (own_k v10 (own_N v1)) v12) n0 h30 X58.le P30_3 P30_0 P30_1 P30_6 P30_7 (own_Np _)) (by decide) (by decide) (by rw [hml]; rfl) rfl (lenOf pd3 rfl) rfl (Nat.le_of_eq rfl) (hb hby at_227) rfl (by decide) (by decide) ?_
                intro r60 T60 h60 X60 q60
                obtain ⟨rfl, eh60⟩ := q60
                subst eh60
                show Go _ _ _ _ _ _ _ T60 (mkF m 230 #[.val (.int p1), .val (.int p2), .val (.int p3), .val (.int p4), .val (.int p5), .val (.int p6), .val (.int v1), .val (.int v3), .val (.int v4), .val (.int v6), .val (.int v8), .val (.int v9), .val (.int v10), .val (.int v11), .val (.int v12), .val (.int v13), .val (.int v14), .val (.int v16), .val (.int v18), .val (.int v19), .val (.ref b21), .unset, .unset, .unset, .unset, .unset] [(.int (own_lea (own_up own_zero (own_k v10 (own_N v1)) v10) (own_up own_zero (own_k v10 (own_N v1)) v12) (own_N v1) (own_max (-1 : Int32) v10) v19))])
                obtain ⟨v61, hv61⟩ : ∃ zz : Int32, zz = (own_lea (own_up own_zero (own_k v10 (own_N v1)) v10) (own_up own_zero (own_k v10 (own_N v1)) v12) (own_N v1) (own_max (-1 : Int32) v10) v19) := ⟨_, rfl⟩
                rw [← hv61]
                refine i_istore (L' := #[.val (.int p1), .val (.int p2), .val (.int p3), .val (.int p4), .val (.int p5), .val (.int p6), .val (.int v1), .val (.int v3), .val (.int v4), .val (.int v6), .val (.int v8), .val (.int v9), .val (.int v10), .val (.int v11), .val (.int v12), .val (.int v13), .val (.int v14), .val (.int v16), .val (.int v18), .val (.int v19), .val (.ref b21), .val (.int v61), .unset, .unset, .unset, .unset]) (pc' := 232) X60 hx (hb hby at_230) rfl rfl ?_
                refine i_iload (v := v12) (pc' := 234) X60 hx (hb hby at_232) rfl rfl ?_
                obtain ⟨v62, hv62⟩ : ∃ zz : Int32, zz = (if 0 < v12 then (if v10 < v14 then (0 : Int32) else (1 : Int32)) else (0 : Int32)) := ⟨_, rfl⟩
                have J63 : ∀ (T : State), Pn p l e room_1 s m #[(.int p1), (.int p2), (.int p3), (.int p4), (.int p5), (.int p6)] below meth c T h30 n0 (0 + 0 + 1 + 0 + 3 + 0 + 0) (0 + 0 + 6 + 0 + 192 + 0 + 0) → Go p e s below n0 Q0 room_1 T (mkF m 249 #[.val (.int p1), .val (.int p2), .val (.int p3), .val (.int p4), .val (.int p5), .val (.int p6), .val (.int v1), .val (.int v3), .val (.int v4), .val (.int v6), .val (.int v8), .val (.int v9), .val (.int v10), .val (.int v11), .val (.int v12), .val (.int v13), .val (.int v14), .val (.int v16), .val (.int v18), .val (.int v19), .val (.ref b21), .val (.int v61), .unset, .unset, .unset, .unset] [(.int v62)]) := by
                  intro T63 X63
                  refine i_istore (L' := #[.val (.int p1), .val (.int p2), .val (.int p3), .val (.int p4), .val (.int p5), .val (.int p6), .val (.int v1), .val (.int v3), .val (.int v4), .val (.int v6), .val (.int v8), .val (.int v9), .val (.int v10), .val (.int v11), .val (.int v12), .val (.int v13), .val (.int v14), .val (.int v16), .val (.int v18), .val (.int v19), .val (.ref b21), .val (.int v61), .val (.int v62), .unset, .unset, .unset]) (pc' := 251) X63 hx (hb hby at_249) rfl rfl ?_
                  refine i_iload (v := v13) (pc' := 253) X63 hx (hb hby at_251) rfl rfl ?_
                  obtain ⟨v64, hv64⟩ : ∃ zz : Int32, zz = (if 0 < v13 then (if v11 < v16 then (0 : Int32) else (1 : Int32)) else (0 : Int32)) := ⟨_, rfl⟩
                  have J65 : ∀ (T : State), Pn p l e room_1 s m #[(.int p1), (.int p2), (.int p3), (.int p4), (.int p5), (.int p6)] below meth c T h30 n0 (0 + 0 + 1 + 0 + 3 + 0 + 0) (0 + 0 + 6 + 0 + 192 + 0 + 0) → Go p e s below n0 Q0 room_1 T (mkF m 268 #[.val (.int p1), .val (.int p2), .val (.int p3), .val (.int p4), .val (.int p5), .val (.int p6), .val (.int v1), .val (.int v3), .val (.int v4), .val (.int v6), .val (.int v8), .val (.int v9), .val (.int v10), .val (.int v11), .val (.int v12), .val (.int v13), .val (.int v14), .val (.int v16), .val (.int v18), .val (.int v19), .val (.ref b21), .val (.int v61), .val (.int v62), .unset, .unset, .unset] [(.int v64)]) := by
                    intro T65 X65
                    refine i_istore (L' := #[.val (.int p1), .val (.int p2), .val (.int p3), .val (.int p4), .val (.int p5), .val (.int p6), .val (.int v1), .val (.int v3), .val (.int v4), .val (.int v6), .val (.int v8), .val (.int v9), .val (.int v10), .val (.int v11), .val (.int v12), .val (.int v13), .val (.int v14), .val (.int v16), .val (.int v18), .val (.int v19), .val (.ref b21), .val (.int v61), .val (.int v62), .val (.int v64), .unset, .unset]) (pc' := 270) X65 hx (hb hby at_268) rfl rfl ?_
                    refine i_iload (v := v64) (pc' := 272) X65 hx (hb hby at_270) rfl rfl ?_
                    obtain ⟨v66, hv66⟩ : ∃ zz : Int32, zz = (if v64 = 0 then (0 : Int32) else (if ((v11 - v10) % v3) = 0 then (1 : Int32) else (0 : Int32))) := ⟨_, rfl⟩
                    have J67 : ∀ (T : State), Pn p l e room_1 s m #[(.int p1), (.int p2), (.int p3), (.int p4), (.int p5), (.int p6)] below meth c T h30 n0 (0 + 0 + 1 + 0 + 3 + 0 + 0) (0 + 0 + 6 + 0 + 192 + 0 + 0) → Go p e s below n0 Q0 room_1 T (mkF m 291 #[.val (.int p1), .val (.int p2), .val (.int p3), .val (.int p4), .val (.int p5), .val (.int p6), .val (.int v1), .val (.int v3), .val (.int v4), .val (.int v6), .val (.int v8), .val (.int v9), .val (.int v10), .val (.int v11), .val (.int v12), .val (.int v13), .val (.int v14), .val (.int v16), .val (.int v18), .val (.int v19), .val (.ref b21), .val (.int v61), .val (.int v62), .val (.int v64), .unset, .unset] [(.int v66)]) := by
                      intro T67 X67
                      refine i_istore (L' := #[.val (.int p1), .val (.int p2), .val (.int p3), .val (.int p4), .val (.int p5), .val (.int p6), .val (.int v1), .val (.int v3), .val (.int v4), .val (.int v6), .val (.int v8), .val (.int v9), .val (.int v10), .val (.int v11), .val (.int v12), .val (.int v13), .val (.int v14), .val (.int v16), .val (.int v18), .val (.int v19), .val (.ref b21), .val (.int v61), .val (.int v62), .val (.int v64), .val (.int v66), .unset]) (pc' := 293) X67 hx (hb hby at_291) rfl rfl ?_
                      refine i_iconst (pc' := 294) (0 : Int32) X67 hx (hb hby at_293) rfl (by decide) ?_
                      refine i_istore (L' := #[.val (.int p1), .val (.int p2), .val (.int p3), .val (.int p4), .val (.int p5), .val (.int p6), .val (.int v1), .val (.int v3), .val (.int v4), .val (.int v6), .val (.int v8), .val (.int v9), .val (.int v10), .val (.int v11), .val (.int v12), .val (.int v13), .val (.int v14), .val (.int v16), .val (.int v18), .val (.int v19), .val (.ref b21), .val (.int v61), .val (.int v62), .val (.int v64), .val (.int v66), .val (.int (0 : Int32))]) (pc' := 296) X67 hx (hb hby at_294) rfl rfl ?_
                      refine i_iload (v := v64) (pc' := 298) X67 hx (hb hby at_296) rfl rfl ?_
                      obtain ⟨v68, hv68⟩ : ∃ zz : Int32, zz = (if v64 = 0 then (if v62 = 0 then (0 : Int32) else (if v19 = v10 then (if v66 = 0 then v12 else (0 : Int32)) else (0 : Int32))) else (if v19 = v11 then v13 else (if v62 = 0 then (0 : Int32) else (if v19 = v10 then (if v66 = 0 then v12 else (0 : Int32)) else (0 : Int32))))) := ⟨_, rfl⟩
                      have J69 : ∀ (T : State), Pn p l e room_1 s m #[(.int p1), (.int p2), (.int p3), (.int p4), (.int p5), (.int p6)] below meth c T h30 n0 (0 + 0 + 1 + 0 + 3 + 0 + 0) (0 + 0 + 6 + 0 + 192 + 0 + 0) → Go p e s below n0 Q0 room_1 T (mkF m 336 #[.val (.int p1), .val (.int p2), .val (.int p3), .val (.int p4), .val (.int p5), .val (.int p6), .val (.int v1), .val (.int v3), .val (.int v4), .val (.int v6), .val (.int v8), .val (.int v9), .val (.int v10), .val (.int v11), .val (.int v12), .val (.int v13), .val (.int v14), .val (.int v16), .val (.int v18), .val (.int v19), .val (.ref b21), .val (.int v61), .val (.int v62), .val (.int v64), .val (.int v66), .val (.int v68)] []) := by
                        intro T69 X69
                        refine i_iload (v := v61) (pc' := 338) X69 hx (hb hby at_336) rfl rfl ?_
                        refine i_iload (v := v68) (pc' := 340) X69 hx (hb hby at_338) rfl rfl ?_
                        refine i_icF (pc' := 343) X69 hx (hb hby at_340) rfl (XT.ii_ne_f (own_finTF hv3 he1 he2 hqi hK1 hK2 hv61 hv62 hv64 hv66 hv68)) ?_
                        refine i_iconst (pc' := 344) (1 : Int32) X69 hx (hb hby at_343) rfl (by decide) ?_
                        refine i_goto (pc' := 348) X69 hx (hb hby at_344) (by decide) (by decide) ?_
                        refine rN X69 hx hlk hret (by simp) (hb hby at_348) (by decide) (by decide) ?_
                        exact rfl
                      by_cases hc70 : v64 = 0
                      · skip
                        refine i_ifT (pc' := 315) X67 hx (hb hby at_298) (XT.i0_eq_t hc70) (by decide) (by decide) ?_
                        refine i_iload (v := v62) (pc' := 317) X67 hx (hb hby at_315) rfl rfl ?_
                        by_cases hc71 : v62 = 0
                        · skip
                          refine i_ifT (pc' := 336) X67 hx (hb hby at_317) (XT.i0_eq_t hc71) (by decide) (by decide) ?_
                          have ev68 := hv68
                          simp only [if_pos hc70, if_pos hc71] at ev68
                          rw [ev68] at J69
                          exact J69 _ (X67.mono (by decide) (by decide))
                        · skip
                          refine i_ifF (pc' := 320) X67 hx (hb hby at_317) rfl (XT.i0_eq_f hc71) ?_
                          refine i_iload (v := v19) (pc' := 322) X67 hx (hb hby at_320) rfl rfl ?_
                          refine i_iload (v := v10) (pc' := 324) X67 hx (hb hby at_322) rfl rfl ?_
                          by_cases hc72 : v19 = v10
                          · skip
                            refine i_icF (pc' := 327) X67 hx (hb hby at_324) rfl (XT.ii_ne_f hc72) ?_
                            refine i_iload (v := v66) (pc' := 329) X67 hx (hb hby at_327) rfl rfl ?_
                            by_cases hc73 : v66 = 0
                            · skip
                              refine i_ifF (pc' := 332) X67 hx (hb hby at_329) rfl (XT.i0_ne_f hc73) ?_
                              refine i_iload (v := v12) (pc' := 334) X67 hx (hb hby at_332) rfl rfl ?_
                              refine i_istore (L' := #[.val (.int p1), .val (.int p2), .val (.int p3), .val (.int p4), .val (.int p5), .val (.int p6), .val (.int v1), .val (.int v3), .val (.int v4), .val (.int v6), .val (.int v8), .val (.int v9), .val (.int v10), .val (.int v11), .val (.int v12), .val (.int v13), .val (.int v14), .val (.int v16), .val (.int v18), .val (.int v19), .val (.ref b21), .val (.int v61), .val (.int v62), .val (.int v64), .val (.int v66), .val (.int v12)]) (pc' := 336) X67 hx (hb hby at_334) rfl rfl ?_
                              have ev68 := hv68
                              simp only [if_pos hc70, if_neg hc71, if_pos hc72, if_pos hc73] at ev68
                              rw [ev68] at J69
                              exact J69 _ (X67.mono (by decide) (by decide))
                            · skip
                              refine i_ifT (pc' := 336) X67 hx (hb hby at_329) (XT.i0_ne_t hc73) (by decide) (by decide) ?_
                              have ev68 := hv68
                              simp only [if_pos hc70, if_neg hc71, if_pos hc72, if_neg hc73] at ev68
                              rw [ev68] at J69
                              exact J69 _ (X67.mono (by decide) (by decide))
                          · skip
                            refine i_icT (pc' := 336) X67 hx (hb hby at_324) (XT.ii_ne_t hc72) (by decide) (by decide) ?_
                            have ev68 := hv68
                            simp only [if_pos hc70, if_neg hc71, if_neg hc72] at ev68
                            rw [ev68] at J69
                            exact J69 _ (X67.mono (by decide) (by decide))
                      · skip
                        refine i_ifF (pc' := 301) X67 hx (hb hby at_298) rfl (XT.i0_eq_f hc70) ?_
                        refine i_iload (v := v19) (pc' := 303) X67 hx (hb hby at_301) rfl rfl ?_
                        refine i_iload (v := v11) (pc' := 305) X67 hx (hb hby at_303) rfl rfl ?_
                        by_cases hc74 : v19 = v11
                        · skip
                          refine i_icF (pc' := 308) X67 hx (hb hby at_305) rfl (XT.ii_ne_f hc74) ?_
                          refine i_iload (v := v13) (pc' := 310) X67 hx (hb hby at_308) rfl rfl ?_
                          refine i_istore (L' := #[.val (.int p1), .val (.int p2), .val (.int p3), .val (.int p4), .val (.int p5), .val (.int p6), .val (.int v1), .val (.int v3), .val (.int v4), .val (.int v6), .val (.int v8), .val (.int v9), .val (.int v10), .val (.int v11), .val (.int v12), .val (.int v13), .val (.int v14), .val (.int v16), .val (.int v18), .val (.int v19), .val (.ref b21), .val (.int v61), .val (.int v62), .val (.int v64), .val (.int v66), .val (.int v13)]) (pc' := 312) X67 hx (hb hby at_310) rfl rfl ?_
                          refine i_goto (pc' := 336) X67 hx (hb hby at_312) (by decide) (by decide) ?_
                          have ev68 := hv68
                          simp only [if_neg hc70, if_pos hc74] at ev68
                          rw [ev68] at J69
                          exact J69 _ (X67.mono (by decide) (by decide))
                        · skip
                          refine i_icT (pc' := 315) X67 hx (hb hby at_305) (XT.ii_ne_t hc74) (by decide) (by decide) ?_
                          refine i_iload (v := v62) (pc' := 317) X67 hx (hb hby at_315) rfl rfl ?_
                          by_cases hc75 : v62 = 0
                          · skip
                            refine i_ifT (pc' := 336) X67 hx (hb hby at_317) (XT.i0_eq_t hc75) (by decide) (by decide) ?_
                            have ev68 := hv68
                            simp only [if_neg hc70, if_neg hc74, if_pos hc75] at ev68
                            rw [ev68] at J69
                            exact J69 _ (X67.mono (by decide) (by decide))
                          · skip
                            refine i_ifF (pc' := 320) X67 hx (hb hby at_317) rfl (XT.i0_eq_f hc75) ?_
                            refine i_iload (v := v19) (pc' := 322) X67 hx (hb hby at_320) rfl rfl ?_
                            refine i_iload (v := v10) (pc' := 324) X67 hx (hb hby at_322) rfl rfl ?_
                            by_cases hc76 : v19 = v10
                            · skip
                              refine i_icF (pc' := 327) X67 hx (hb hby at_324) rfl (XT.ii_ne_f hc76) ?_
                              refine i_iload (v := v66) (pc' := 329) X67 hx (hb hby at_327) rfl rfl ?_
                              by_cases hc77 : v66 = 0
                              · skip
                                refine i_ifF (pc' := 332) X67 hx (hb hby at_329) rfl (XT.i0_ne_f hc77) ?_
                                refine i_iload (v := v12) (pc' := 334) X67 hx (hb hby at_332) rfl rfl ?_
                                refine i_istore (L' := #[.val (.int p1), .val (.int p2), .val (.int p3), .val (.int p4), .val (.int p5), .val (.int p6), .val (.int v1), .val (.int v3), .val (.int v4), .val (.int v6), .val (.int v8), .val (.int v9), .val (.int v10), .val (.int v11), .val (.int v12), .val (.int v13), .val (.int v14), .val (.int v16), .val (.int v18), .val (.int v19), .val (.ref b21), .val (.int v61), .val (.int v62), .val (.int v64), .val (.int v66), .val (.int v12)]) (pc' := 336) X67 hx (hb hby at_334) rfl rfl ?_
                                have ev68 := hv68
                                simp only [if_neg hc70, if_neg hc74, if_neg hc75, if_pos hc76, if_pos hc77] at ev68
                                rw [ev68] at J69
                                exact J69 _ (X67.mono (by decide) (by decide))
                              · skip
                                refine i_ifT (pc' := 336) X67 hx (hb hby at_329) (XT.i0_ne_t hc77) (by decide) (by decide) ?_
                                have ev68 := hv68
                                simp only [if_neg hc70, if_neg hc74, if_neg hc75, if_pos hc76, if_neg hc77] at ev68
                                rw [ev68] at J69
                                exact J69 _ (X67.mono (by decide) (by decide))
                            · skip
                              refine i_icT (pc' := 336) X67 hx (hb hby at_324) (XT.ii_ne_t hc76) (by decide) (by decide) ?_
                              have ev68 := hv68
                              simp only [if_neg hc70, if_neg hc74, if_neg hc75, if_neg hc76] at ev68
                              rw [ev68] at J69
                              exact J69 _ (X67.mono (by decide) (by decide))
                    by_cases hc78 : v64 = 0
                    · skip
                      refine i_ifT (pc' := 290) X65 hx (hb hby at_272) (XT.i0_eq_t hc78) (by decide) (by decide) ?_
                      refine i_iconst (pc' := 291) (0 : Int32) X65 hx (hb hby at_290) rfl (by decide) ?_
                      have ev66 := hv66
                      simp only [if_pos hc78] at ev66
                      rw [ev66] at J67
                      exact J67 _ (X65.mono (by decide) (by decide))
                    · skip
                      refine i_ifF (pc' := 275) X65 hx (hb hby at_272) rfl (XT.i0_eq_f hc78) ?_
                      refine i_iload (v := v11) (pc' := 277) X65 hx (hb hby at_275) rfl rfl ?_
                      refine i_iload (v := v10) (pc' := 279) X65 hx (hb hby at_277) rfl rfl ?_
                      refine i_isub (pc' := 280) X65 hx (hb hby at_279) rfl ?_
                      refine i_iload (v := v3) (pc' := 282) X65 hx (hb hby at_280) rfl rfl ?_
                      refine i_irem (pc' := 283) X65 hx (hb hby at_282) rfl (by rw [hv3]; exact own_snz _) ?_
                      by_cases hc79 : ((v11 - v10) % v3) = 0
                      · skip
                        refine i_ifF (pc' := 286) X65 hx (hb hby at_283) rfl (XT.i0_ne_f hc79) ?_
                        refine i_iconst (pc' := 287) (1 : Int32) X65 hx (hb hby at_286) rfl (by decide) ?_
                        refine i_goto (pc' := 291) X65 hx (hb hby at_287) (by decide) (by decide) ?_
                        have ev66 := hv66
                        simp only [if_neg hc78, if_pos hc79] at ev66
                        rw [ev66] at J67
                        exact J67 _ (X65.mono (by decide) (by decide))
                      · skip
                        refine i_ifT (pc' := 290) X65 hx (hb hby at_283) (XT.i0_ne_t hc79) (by decide) (by decide) ?_
                        refine i_iconst (pc' := 291) (0 : Int32) X65 hx (hb hby at_290) rfl (by decide) ?_
                        have ev66 := hv66
                        simp only [if_neg hc78, if_neg hc79] at ev66
                        rw [ev66] at J67
                        exact J67 _ (X65.mono (by decide) (by decide))
                  by_cases hc80 : 0 < v13
                  · skip
                    refine i_ifF (pc' := 256) X63 hx (hb hby at_253) rfl (XT.i0_le_f hc80) ?_
                    refine i_iload (v := v11) (pc' := 258) X63 hx (hb hby at_256) rfl rfl ?_
                    refine i_iload (v := v16) (pc' := 260) X63 hx (hb hby at_258) rfl rfl ?_
                    by_cases hc81 : v11 < v16
                    · skip
                      refine i_icT (pc' := 267) X63 hx (hb hby at_260) (XT.ii_lt_t hc81) (by decide) (by decide) ?_
                      refine i_iconst (pc' := 268) (0 : Int32) X63 hx (hb hby at_267) rfl (by decide) ?_
                      have ev64 := hv64
                      simp only [if_pos hc80, if_pos hc81] at ev64
                      rw [ev64] at J65
                      exact J65 _ (X63.mono (by decide) (by decide))
                    · skip
                      refine i_icF (pc' := 263) X63 hx (hb hby at_260) rfl (XT.ii_lt_f hc81) ?_
                      refine i_iconst (pc' := 264) (1 : Int32) X63 hx (hb hby at_263) rfl (by decide) ?_
                      refine i_goto (pc' := 268) X63 hx (hb hby at_264) (by decide) (by decide) ?_
                      have ev64 := hv64
                      simp only [if_pos hc80, if_neg hc81] at ev64
                      rw [ev64] at J65
                      exact J65 _ (X63.mono (by decide) (by decide))
                  · skip
                    refine i_ifT (pc' := 267) X63 hx (hb hby at_253) (XT.i0_le_t hc80) (by decide) (by decide) ?_
                    refine i_iconst (pc' := 268) (0 : Int32) X63 hx (hb hby at_267) rfl (by decide) ?_
                    have ev64 := hv64
                    simp only [if_neg hc80] at ev64
                    rw [ev64] at J65
                    exact J65 _ (X63.mono (by decide) (by decide))
                by_cases hc82 : 0 < v12
                · skip
                  refine i_ifF (pc' := 237) X60 hx (hb hby at_234) rfl (XT.i0_le_f hc82) ?_
                  refine i_iload (v := v10) (pc' := 239) X60 hx (hb hby at_237) rfl rfl ?_
                  refine i_iload (v := v14) (pc' := 241) X60 hx (hb hby at_239) rfl rfl ?_
                  by_cases hc83 : v10 < v14
                  · skip
                    refine i_icT (pc' := 248) X60 hx (hb hby at_241) (XT.ii_lt_t hc83) (by decide) (by decide) ?_
                    refine i_iconst (pc' := 249) (0 : Int32) X60 hx (hb hby at_248) rfl (by decide) ?_
                    have ev62 := hv62
                    simp only [if_pos hc82, if_pos hc83] at ev62
                    rw [ev62] at J63
                    exact J63 _ (X60.mono (by decide) (by decide))
                  · skip
                    refine i_icF (pc' := 244) X60 hx (hb hby at_241) rfl (XT.ii_lt_f hc83) ?_
                    refine i_iconst (pc' := 245) (1 : Int32) X60 hx (hb hby at_244) rfl (by decide) ?_
                    refine i_goto (pc' := 249) X60 hx (hb hby at_245) (by decide) (by decide) ?_
                    have ev62 := hv62
                    simp only [if_pos hc82, if_neg hc83] at ev62
                    rw [ev62] at J63
                    exact J63 _ (X60.mono (by decide) (by decide))
                · skip
                  refine i_ifT (pc' := 248) X60 hx (hb hby at_234) (XT.i0_le_t hc82) (by decide) (by decide) ?_
                  refine i_iconst (pc' := 249) (0 : Int32) X60 hx (hb hby at_248) rfl (by decide) ?_
                  have ev62 := hv62
                  simp only [if_neg hc82] at ev62
                  rw [ev62] at J63
                  exact J63 _ (X60.mono (by decide) (by decide))
            · skip
              refine i_aload (v := (.ref b21)) (pc' := 203) X28 hx (hb hby at_201) rfl rfl rfl ?_
              refine i_iload (v := v10) (pc' := 205) X28 hx (hb hby at_203) rfl rfl ?_
              refine i_iload (v := v12) (pc' := 207) X28 hx (hb hby at_205) rfl rfl ?_
              refine i_iload (v := v14) (pc' := 209) X28 hx (hb hby at_207) rfl rfl ?_
              have F85 : Exa Z h28 b21 "com/example/shoal_creek/shoalcreek/MatchedSuffixes" := (A21.keep K28c)
              refine cV (y := (⟨"com/example/shoal_creek/shoalcreek/MatchedSuffixes", "remember", "(III)V"⟩ : MethodName)) (C := "com/example/shoal_creek/shoalcreek/MatchedSuffixes") (rest := []) (pc' := 212) 0 [(.int v10), (.int v12), (.int v14)] X28 hx hZ hown (hw _ (List.mem_of_getElem? (i := 19) rfl)) (hw _ (List.mem_of_getElem? (i := 20) rfl)) (hw _ (List.mem_of_getElem? (i := 22) rfl)) (hw _ (List.mem_of_getElem? (i := 21) rfl)) (hw _ (List.mem_of_getElem? (i := 8) rfl)) (hw _ (List.mem_of_getElem? (i := 23) rfl)) (by decide) F85 (rmR0 l Z a0 hw [] b21 v10 v12 v14 n0 h28 X28.le hK1) (by decide) (by decide) (by rw [hml]; rfl) rfl (lenOf pd2 rfl) rfl (Nat.le_of_eq rfl) (hb hby at_209) rfl (by decide) (by decide) ?_
              intro r84 T84 h84 X84 q84
              obtain ⟨rfl, eh84⟩ := q84
              subst eh84
              show Go _ _ _ _ _ _ _ T84 (mkF m 212 #[.val (.int p1), .val (.int p2), .val (.int p3), .val (.int p4), .val (.int p5), .val (.int p6), .val (.int v1), .val (.int v3), .val (.int v4), .val (.int v6), .val (.int v8), .val (.int v9), .val (.int v10), .val (.int v11), .val (.int v12), .val (.int v13), .val (.int v14), .val (.int v16), .val (.int v18), .val (.int v19), .val (.ref b21), .unset, .unset, .unset, .unset, .unset] [])
              by_cases hK2 : ((0 : Int32) < v13 ∧ ¬ v11 < v16)
              · skip
                refine i_aload (v := (.ref b21)) (pc' := 214) X84 hx (hb hby at_212) rfl rfl rfl ?_
                refine i_iload (v := v11) (pc' := 216) X84 hx (hb hby at_214) rfl rfl ?_
                refine i_iload (v := v13) (pc' := 218) X84 hx (hb hby at_216) rfl rfl ?_
                refine i_iload (v := v16) (pc' := 220) X84 hx (hb hby at_218) rfl rfl ?_
                refine cV (y := (⟨"com/example/shoal_creek/shoalcreek/MatchedSuffixes", "remember", "(III)V"⟩ : MethodName)) (C := "com/example/shoal_creek/shoalcreek/MatchedSuffixes") (rest := []) (pc' := 223) 0 [(.int v11), (.int v13), (.int v16)] X84 hx hZ hown (hw _ (List.mem_of_getElem? (i := 19) rfl)) (hw _ (List.mem_of_getElem? (i := 20) rfl)) (hw _ (List.mem_of_getElem? (i := 22) rfl)) (hw _ (List.mem_of_getElem? (i := 21) rfl)) (hw _ (List.mem_of_getElem? (i := 8) rfl)) (hw _ (List.mem_of_getElem? (i := 23) rfl)) (by decide) F85 (rmR1 l Z a0 hw [] b21 v11 v13 v16 v1 (-1 : Int32) (0 : Int32) n0 h28 X84.le F85 P28_2 P28_3 P28_4 P28_0 P28_1 P28_5 ge21 hpl hK2.1 hK2.2) (by decide) (by decide) (by rw [hml]; rfl) rfl (lenOf pd2 rfl) rfl (Nat.le_of_eq rfl) (hb hby at_220) rfl (by decide) (by decide) ?_
                intro r86 T86 h86 X86 q86
                obtain ⟨aE86, aL86, aD86, rfl, K86c, P86_0, P86_1, P86_2, P86_3, P86_4, P86_5, P86_6, P86_7, P86_8, fz86_aE, fz86_aL, fz86_aD, fn86_aE_aL, fn86_aE_aD, fn86_aL_aD⟩ := q86
                have ge_aE86 : n0 ≤ aE86 := Nat.le_trans X84.le fz86_aE
                have sz_aE86 : h0.size ≤ aE86 := Nat.le_trans (((K21 : Keep h0 h21 []).trans K28c (allS (Or.inr sz_b21) all0)) : Keep h0 h28 []).1 fz86_aE
                have ne_b21_aE86 : b21 ≠ aE86 := Nat.ne_of_lt (Nat.lt_of_lt_of_le F85.lt fz86_aE)
                have ge_aL86 : n0 ≤ aL86 := Nat.le_trans X84.le fz86_aL
                have sz_aL86 : h0.size ≤ aL86 := Nat.le_trans (((K21 : Keep h0 h21 []).trans K28c (allS (Or.inr sz_b21) all0)) : Keep h0 h28 []).1 fz86_aL
                have ne_b21_aL86 : b21 ≠ aL86 := Nat.ne_of_lt (Nat.lt_of_lt_of_le F85.lt fz86_aL)
                have ge_aD86 : n0 ≤ aD86 := Nat.le_trans X84.le fz86_aD
                have sz_aD86 : h0.size ≤ aD86 := Nat.le_trans (((K21 : Keep h0 h21 []).trans K28c (allS (Or.inr sz_b21) all0)) : Keep h0 h28 []).1 fz86_aD
                have ne_b21_aD86 : b21 ≠ aD86 := Nat.ne_of_lt (Nat.lt_of_lt_of_le F85.lt fz86_aD)
                show Go _ _ _ _ _ _ _ T86 (mkF m 223 #[.val (.int p1), .val (.int p2), .val (.int p3), .val (.int p4), .val (.int p5), .val (.int p6), .val (.int v1), .val (.int v3), .val (.int v4), .val (.int v6), .val (.int v8), .val (.int v9), .val (.int v10), .val (.int v11), .val (.int v12), .val (.int v13), .val (.int v14), .val (.int v16), .val (.int v18), .val (.int v19), .val (.ref b21), .unset, .unset, .unset, .unset, .unset] [])
                refine i_aload (v := (.ref b21)) (pc' := 225) X86 hx (hb hby at_223) rfl rfl rfl ?_
                refine i_iload (v := v19) (pc' := 227) X86 hx (hb hby at_225) rfl rfl ?_
                have F88 : Exa Z h86 b21 "com/example/shoal_creek/shoalcreek/MatchedSuffixes" := (F85.keep K86c)
                refine cV (y := (⟨"com/example/shoal_creek/shoalcreek/MatchedSuffixes", "lengthEndingAt", "(I)I"⟩ : MethodName)) (C := "com/example/shoal_creek/shoalcreek/MatchedSuffixes") (rest := []) (pc' := 230) 0 [(.int v19)] X86 hx hZ hown (hw _ (List.mem_of_getElem? (i := 44) rfl)) (hw _ (List.mem_of_getElem? (i := 45) rfl)) (hw _ (List.mem_of_getElem? (i := 47) rfl)) (hw _ (List.mem_of_getElem? (i := 46) rfl)) (hw _ (List.mem_of_getElem? (i := 8) rfl)) (hw _ (List.mem_of_getElem? (i := 48) rfl)) (by decide) F88 (rmL1 l Z a0 hw [] b21 v19 (own_max (-1 : Int32) v11) aE86 aL86 (own_N v1) (own_up own_zero (own_k v11 (own_N v1)) v11) (own_up own_zero (own_k v11 (own_N v1)) v13) n0 h86 X86.le P86_3 P86_0 P86_1 P86_6 P86_7 (own_Np _)) (by decide) (by decide) (by rw [hml]; rfl) rfl (lenOf pd3 rfl) rfl (Nat.le_of_eq rfl) (hb hby at_227) rfl (by decide) (by decide) ?_
                intro r87 T87 h87 X87 q87
                obtain ⟨rfl, eh87⟩ := q87
                subst eh87
                show Go _ _ _ _ _ _ _ T87 (mkF m 230 #[.val (.int p1), .val (.int p2), .val (.int p3), .val (.int p4), .val (.int p5), .val (.int p6), .val (.int v1), .val (.int v3), .val (.int v4), .val (.int v6), .val (.int v8), .val (.int v9), .val (.int v10), .val (.int v11), .val (.int v12), .val (.int v13), .val (.int v14), .val (.int v16), .val (.int v18), .val (.int v19), .val (.ref b21), .unset, .unset, .unset, .unset, .unset] [(.int (own_lea (own_up own_zero (own_k v11 (own_N v1)) v11) (own_up own_zero (own_k v11 (own_N v1)) v13) (own_N v1) (own_max (-1 : Int32) v11) v19))])
                obtain ⟨v89, hv89⟩ : ∃ zz : Int32, zz = (own_lea (own_up own_zero (own_k v11 (own_N v1)) v11) (own_up own_zero (own_k v11 (own_N v1)) v13) (own_N v1) (own_max (-1 : Int32) v11) v19) := ⟨_, rfl⟩
                rw [← hv89]
                refine i_istore (L' := #[.val (.int p1), .val (.int p2), .val (.int p3), .val (.int p4), .val (.int p5), .val (.int p6), .val (.int v1), .val (.int v3), .val (.int v4), .val (.int v6), .val (.int v8), .val (.int v9), .val (.int v10), .val (.int v11), .val (.int v12), .val (.int v13), .val (.int v14), .val (.int v16), .val (.int v18), .val (.int v19), .val (.ref b21), .val (.int v89), .unset, .unset, .unset, .unset]) (pc' := 232) X87 hx (hb hby at_230) rfl rfl ?_
                refine i_iload (v := v12) (pc' := 234) X87 hx (hb hby at_232) rfl rfl ?_
                obtain ⟨v90, hv90⟩ : ∃ zz : Int32, zz = (if 0 < v12 then (if v10 < v14 then (0 : Int32) else (1 : Int32)) else (0 : Int32)) := ⟨_, rfl⟩
                have J91 : ∀ (T : State), Pn p l e room_1 s m #[(.int p1), (.int p2), (.int p3), (.int p4), (.int p5), (.int p6)] below meth c T h86 n0 (0 + 0 + 1 + 0 + 0 + 3 + 0) (0 + 0 + 6 + 0 + 0 + 192 + 0) → Go p e s below n0 Q0 room_1 T (mkF m 249 #[.val (.int p1), .val (.int p2), .val (.int p3), .val (.int p4), .val (.int p5), .val (.int p6), .val (.int v1), .val (.int v3), .val (.int v4), .val (.int v6), .val (.int v8), .val (.int v9), .val (.int v10), .val (.int v11), .val (.int v12), .val (.int v13), .val (.int v14), .val (.int v16), .val (.int v18), .val (.int v19), .val (.ref b21), .val (.int v89), .unset, .unset, .unset, .unset] [(.int v90)]) := by
                  intro T91 X91
                  refine i_istore (L' := #[.val (.int p1), .val (.int p2), .val (.int p3), .val (.int p4), .val (.int p5), .val (.int p6), .val (.int v1), .val (.int v3), .val (.int v4), .val (.int v6), .val (.int v8), .val (.int v9), .val (.int v10), .val (.int v11), .val (.int v12), .val (.int v13), .val (.int v14), .val (.int v16), .val (.int v18), .val (.int v19), .val (.ref b21), .val (.int v89), .val (.int v90), .unset, .unset, .unset]) (pc' := 251) X91 hx (hb hby at_249) rfl rfl ?_
                  refine i_iload (v := v13) (pc' := 253) X91 hx (hb hby at_251) rfl rfl ?_
                  obtain ⟨v92, hv92⟩ : ∃ zz : Int32, zz = (if 0 < v13 then (if v11 < v16 then (0 : Int32) else (1 : Int32)) else (0 : Int32)) := ⟨_, rfl⟩
                  have J93 : ∀ (T : State), Pn p l e room_1 s m #[(.int p1), (.int p2), (.int p3), (.int p4), (.int p5), (.int p6)] below meth c T h86 n0 (0 + 0 + 1 + 0 + 0 + 3 + 0) (0 + 0 + 6 + 0 + 0 + 192 + 0) → Go p e s below n0 Q0 room_1 T (mkF m 268 #[.val (.int p1), .val (.int p2), .val (.int p3), .val (.int p4), .val (.int p5), .val (.int p6), .val (.int v1), .val (.int v3), .val (.int v4), .val (.int v6), .val (.int v8), .val (.int v9), .val (.int v10), .val (.int v11), .val (.int v12), .val (.int v13), .val (.int v14), .val (.int v16), .val (.int v18), .val (.int v19), .val (.ref b21), .val (.int v89), .val (.int v90), .unset, .unset, .unset] [(.int v92)]) := by
                    intro T93 X93
                    refine i_istore (L' := #[.val (.int p1), .val (.int p2), .val (.int p3), .val (.int p4), .val (.int p5), .val (.int p6), .val (.int v1), .val (.int v3), .val (.int v4), .val (.int v6), .val (.int v8), .val (.int v9), .val (.int v10), .val (.int v11), .val (.int v12), .val (.int v13), .val (.int v14), .val (.int v16), .val (.int v18), .val (.int v19), .val (.ref b21), .val (.int v89), .val (.int v90), .val (.int v92), .unset, .unset]) (pc' := 270) X93 hx (hb hby at_268) rfl rfl ?_
                    refine i_iload (v := v92) (pc' := 272) X93 hx (hb hby at_270) rfl rfl ?_
                    obtain ⟨v94, hv94⟩ : ∃ zz : Int32, zz = (if v92 = 0 then (0 : Int32) else (if ((v11 - v10) % v3) = 0 then (1 : Int32) else (0 : Int32))) := ⟨_, rfl⟩
                    have J95 : ∀ (T : State), Pn p l e room_1 s m #[(.int p1), (.int p2), (.int p3), (.int p4), (.int p5), (.int p6)] below meth c T h86 n0 (0 + 0 + 1 + 0 + 0 + 3 + 0) (0 + 0 + 6 + 0 + 0 + 192 + 0) → Go p e s below n0 Q0 room_1 T (mkF m 291 #[.val (.int p1), .val (.int p2), .val (.int p3), .val (.int p4), .val (.int p5), .val (.int p6), .val (.int v1), .val (.int v3), .val (.int v4), .val (.int v6), .val (.int v8), .val (.int v9), .val (.int v10), .val (.int v11), .val (.int v12), .val (.int v13), .val (.int v14), .val (.int v16), .val (.int v18), .val (.int v19), .val (.ref b21), .val (.int v89), .val (.int v90), .val (.int v92), .unset, .unset] [(.int v94)]) := by
                      intro T95 X95
                      refine i_istore (L' := #[.val (.int p1), .val (.int p2), .val (.int p3), .val (.int p4), .val (.int p5), .val (.int p6), .val (.int v1), .val (.int v3), .val (.int v4), .val (.int v6), .val (.int v8), .val (.int v9), .val (.int v10), .val (.int v11), .val (.int v12), .val (.int v13), .val (.int v14), .val (.int v16), .val (.int v18), .val (.int v19), .val (.ref b21), .val (.int v89), .val (.int v90), .val (.int v92), .val (.int v94), .unset]) (pc' := 293) X95 hx (hb hby at_291) rfl rfl ?_
                      refine i_iconst (pc' := 294) (0 : Int32) X95 hx (hb hby at_293) rfl (by decide) ?_
                      refine i_istore (L' := #[.val (.int p1), .val (.int p2), .val (.int p3), .val (.int p4), .val (.int p5), .val (.int p6), .val (.int v1), .val (.int v3), .val (.int v4), .val (.int v6), .val (.int v8), .val (.int v9), .val (.int v10), .val (.int v11), .val (.int v12), .val (.int v13), .val (.int v14), .val (.int v16), .val (.int v18), .val (.int v19), .val (.ref b21), .val (.int v89), .val (.int v90), .val (.int v92), .val (.int v94), .val (.int (0 : Int32))]) (pc' := 296) X95 hx (hb hby at_294) rfl rfl ?_
                      refine i_iload (v := v92) (pc' := 298) X95 hx (hb hby at_296) rfl rfl ?_
                      obtain ⟨v96, hv96⟩ : ∃ zz : Int32, zz = (if v92 = 0 then (if v90 = 0 then (0 : Int32) else (if v19 = v10 then (if v94 = 0 then v12 else (0 : Int32)) else (0 : Int32))) else (if v19 = v11 then v13 else (if v90 = 0 then (0 : Int32) else (if v19 = v10 then (if v94 = 0 then v12 else (0 : Int32)) else (0 : Int32))))) := ⟨_, rfl⟩
                      have J97 : ∀ (T : State), Pn p l e room_1 s m #[(.int p1), (.int p2), (.int p3), (.int p4), (.int p5), (.int p6)] below meth c T h86 n0 (0 + 0 + 1 + 0 + 0 + 3 + 0) (0 + 0 + 6 + 0 + 0 + 192 + 0) → Go p e s below n0 Q0 room_1 T (mkF m 336 #[.val (.int p1), .val (.int p2), .val (.int p3), .val (.int p4), .val (.int p5), .val (.int p6), .val (.int v1), .val (.int v3), .val (.int v4), .val (.int v6), .val (.int v8), .val (.int v9), .val (.int v10), .val (.int v11), .val (.int v12), .val (.int v13), .val (.int v14), .val (.int v16), .val (.int v18), .val (.int v19), .val (.ref b21), .val (.int v89), .val (.int v90), .val (.int v92), .val (.int v94), .val (.int v96)] []) := by
                        intro T97 X97
                        refine i_iload (v := v89) (pc' := 338) X97 hx (hb hby at_336) rfl rfl ?_
                        refine i_iload (v := v96) (pc' := 340) X97 hx (hb hby at_338) rfl rfl ?_
                        refine i_icF (pc' := 343) X97 hx (hb hby at_340) rfl (XT.ii_ne_f (own_finFT hv3 he1 he2 hqi hK1 hK2 hv89 hv90 hv92 hv94 hv96)) ?_
                        refine i_iconst (pc' := 344) (1 : Int32) X97 hx (hb hby at_343) rfl (by decide) ?_
                        refine i_goto (pc' := 348) X97 hx (hb hby at_344) (by decide) (by decide) ?_
                        refine rN X97 hx hlk hret (by simp) (hb hby at_348) (by decide) (by decide) ?_
                        exact rfl
                      by_cases hc98 : v92 = 0
                      · skip
                        refine i_ifT (pc' := 315) X95 hx (hb hby at_298) (XT.i0_eq_t hc98) (by decide) (by decide) ?_
                        refine i_iload (v := v90) (pc' := 317) X95 hx (hb hby at_315) rfl rfl ?_
                        by_cases hc99 : v90 = 0
                        · skip
                          refine i_ifT (pc' := 336) X95 hx (hb hby at_317) (XT.i0_eq_t hc99) (by decide) (by decide) ?_
                          have ev96 := hv96
                          simp only [if_pos hc98, if_pos hc99] at ev96
                          rw [ev96] at J97
                          exact J97 _ (X95.mono (by decide) (by decide))
                        · skip
                          refine i_ifF (pc' := 320) X95 hx (hb hby at_317) rfl (XT.i0_eq_f hc99) ?_
                          refine i_iload (v := v19) (pc' := 322) X95 hx (hb hby at_320) rfl rfl ?_
                          refine i_iload (v := v10) (pc' := 324) X95 hx (hb hby at_322) rfl rfl ?_
                          by_cases hc100 : v19 = v10
                          · skip
                            refine i_icF (pc' := 327) X95 hx (hb hby at_324) rfl (XT.ii_ne_f hc100) ?_
                            refine i_iload (v := v94) (pc' := 329) X95 hx (hb hby at_327) rfl rfl ?_
                            by_cases hc101 : v94 = 0
                            · skip
                              refine i_ifF (pc' := 332) X95 hx (hb hby at_329) rfl (XT.i0_ne_f hc101) ?_
                              refine i_iload (v := v12) (pc' := 334) X95 hx (hb hby at_332) rfl rfl ?_
                              refine i_istore (L' := #[.val (.int p1), .val (.int p2), .val (.int p3), .val (.int p4), .val (.int p5), .val (.int p6), .val (.int v1), .val (.int v3), .val (.int v4), .val (.int v6), .val (.int v8), .val (.int v9), .val (.int v10), .val (.int v11), .val (.int v12), .val (.int v13), .val (.int v14), .val (.int v16), .val (.int v18), .val (.int v19), .val (.ref b21), .val (.int v89), .val (.int v90), .val (.int v92), .val (.int v94), .val (.int v12)]) (pc' := 336) X95 hx (hb hby at_334) rfl rfl ?_
                              have ev96 := hv96
                              simp only [if_pos hc98, if_neg hc99, if_pos hc100, if_pos hc101] at ev96
                              rw [ev96] at J97
                              exact J97 _ (X95.mono (by decide) (by decide))
                            · skip
                              refine i_ifT (pc' := 336) X95 hx (hb hby at_329) (XT.i0_ne_t hc101) (by decide) (by decide) ?_
                              have ev96 := hv96
                              simp only [if_pos hc98, if_neg hc99, if_pos hc100, if_neg hc101] at ev96
                              rw [ev96] at J97
                              exact J97 _ (X95.mono (by decide) (by decide))
                          · skip
                            refine i_icT (pc' := 336) X95 hx (hb hby at_324) (XT.ii_ne_t hc100) (by decide) (by decide) ?_
                            have ev96 := hv96
                            simp only [if_pos hc98, if_neg hc99, if_neg hc100] at ev96
                            rw [ev96] at J97
                            exact J97 _ (X95.mono (by decide) (by decide))
                      · skip
                        refine i_ifF (pc' := 301) X95 hx (hb hby at_298) rfl (XT.i0_eq_f hc98) ?_
                        refine i_iload (v := v19) (pc' := 303) X95 hx (hb hby at_301) rfl rfl ?_
                        refine i_iload (v := v11) (pc' := 305) X95 hx (hb hby at_303) rfl rfl ?_
                        by_cases hc102 : v19 = v11
                        · skip
                          refine i_icF (pc' := 308) X95 hx (hb hby at_305) rfl (XT.ii_ne_f hc102) ?_
                          refine i_iload (v := v13) (pc' := 310) X95 hx (hb hby at_308) rfl rfl ?_
                          refine i_istore (L' := #[.val (.int p1), .val (.int p2), .val (.int p3), .val (.int p4), .val (.int p5), .val (.int p6), .val (.int v1), .val (.int v3), .val (.int v4), .val (.int v6), .val (.int v8), .val (.int v9), .val (.int v10), .val (.int v11), .val (.int v12), .val (.int v13), .val (.int v14), .val (.int v16), .val (.int v18), .val (.int v19), .val (.ref b21), .val (.int v89), .val (.int v90), .val (.int v92), .val (.int v94), .val (.int v13)]) (pc' := 312) X95 hx (hb hby at_310) rfl rfl ?_
                          refine i_goto (pc' := 336) X95 hx (hb hby at_312) (by decide) (by decide) ?_
                          have ev96 := hv96
                          simp only [if_neg hc98, if_pos hc102] at ev96
                          rw [ev96] at J97
                          exact J97 _ (X95.mono (by decide) (by decide))
                        · skip
                          refine i_icT (pc' := 315) X95 hx (hb hby at_305) (XT.ii_ne_t hc102) (by decide) (by decide) ?_
                          refine i_iload (v := v90) (pc' := 317) X95 hx (hb hby at_315) rfl rfl ?_
                          by_cases hc103 : v90 = 0
                          · skip
                            refine i_ifT (pc' := 336) X95 hx (hb hby at_317) (XT.i0_eq_t hc103) (by decide) (by decide) ?_
                            have ev96 := hv96
                            simp only [if_neg hc98, if_neg hc102, if_pos hc103] at ev96
                            rw [ev96] at J97
                            exact J97 _ (X95.mono (by decide) (by decide))
                          · skip
                            refine i_ifF (pc' := 320) X95 hx (hb hby at_317) rfl (XT.i0_eq_f hc103) ?_
                            refine i_iload (v := v19) (pc' := 322) X95 hx (hb hby at_320) rfl rfl ?_
                            refine i_iload (v := v10) (pc' := 324) X95 hx (hb hby at_322) rfl rfl ?_
                            by_cases hc104 : v19 = v10
                            · skip
                              refine i_icF (pc' := 327) X95 hx (hb hby at_324) rfl (XT.ii_ne_f hc104) ?_
                              refine i_iload (v := v94) (pc' := 329) X95 hx (hb hby at_327) rfl rfl ?_
                              by_cases hc105 : v94 = 0
                              · skip
                                refine i_ifF (pc' := 332) X95 hx (hb hby at_329) rfl (XT.i0_ne_f hc105) ?_
                                refine i_iload (v := v12) (pc' := 334) X95 hx (hb hby at_332) rfl rfl ?_
                                refine i_istore (L' := #[.val (.int p1), .val (.int p2), .val (.int p3), .val (.int p4), .val (.int p5), .val (.int p6), .val (.int v1), .val (.int v3), .val (.int v4), .val (.int v6), .val (.int v8), .val (.int v9), .val (.int v10), .val (.int v11), .val (.int v12), .val (.int v13), .val (.int v14), .val (.int v16), .val (.int v18), .val (.int v19), .val (.ref b21), .val (.int v89), .val (.int v90), .val (.int v92), .val (.int v94), .val (.int v12)]) (pc' := 336) X95 hx (hb hby at_334) rfl rfl ?_
                                have ev96 := hv96
                                simp only [if_neg hc98, if_neg hc102, if_neg hc103, if_pos hc104, if_pos hc105] at ev96
                                rw [ev96] at J97
                                exact J97 _ (X95.mono (by decide) (by decide))
                              · skip
                                refine i_ifT (pc' := 336) X95 hx (hb hby at_329) (XT.i0_ne_t hc105) (by decide) (by decide) ?_
                                have ev96 := hv96
                                simp only [if_neg hc98, if_neg hc102, if_neg hc103, if_pos hc104, if_neg hc105] at ev96
                                rw [ev96] at J97
                                exact J97 _ (X95.mono (by decide) (by decide))
                            · skip
                              refine i_icT (pc' := 336) X95 hx (hb hby at_324) (XT.ii_ne_t hc104) (by decide) (by decide) ?_
                              have ev96 := hv96
                              simp only [if_neg hc98, if_neg hc102, if_neg hc103, if_neg hc104] at ev96
                              rw [ev96] at J97
                              exact J97 _ (X95.mono (by decide) (by decide))
                    by_cases hc106 : v92 = 0
                    · skip
                      refine i_ifT (pc' := 290) X93 hx (hb hby at_272) (XT.i0_eq_t hc106) (by decide) (by decide) ?_
                      refine i_iconst (pc' := 291) (0 : Int32) X93 hx (hb hby at_290) rfl (by decide) ?_
                      have ev94 := hv94
                      simp only [if_pos hc106] at ev94
                      rw [ev94] at J95
                      exact J95 _ (X93.mono (by decide) (by decide))
                    · skip
                      refine i_ifF (pc' := 275) X93 hx (hb hby at_272) rfl (XT.i0_eq_f hc106) ?_
                      refine i_iload (v := v11) (pc' := 277) X93 hx (hb hby at_275) rfl rfl ?_
                      refine i_iload (v := v10) (pc' := 279) X93 hx (hb hby at_277) rfl rfl ?_
                      refine i_isub (pc' := 280) X93 hx (hb hby at_279) rfl ?_
                      refine i_iload (v := v3) (pc' := 282) X93 hx (hb hby at_280) rfl rfl ?_
                      refine i_irem (pc' := 283) X93 hx (hb hby at_282) rfl (by rw [hv3]; exact own_snz _) ?_
                      by_cases hc107 : ((v11 - v10) % v3) = 0
                      · skip
                        refine i_ifF (pc' := 286) X93 hx (hb hby at_283) rfl (XT.i0_ne_f hc107) ?_
                        refine i_iconst (pc' := 287) (1 : Int32) X93 hx (hb hby at_286) rfl (by decide) ?_
                        refine i_goto (pc' := 291) X93 hx (hb hby at_287) (by decide) (by decide) ?_
                        have ev94 := hv94
                        simp only [if_neg hc106, if_pos hc107] at ev94
                        rw [ev94] at J95
                        exact J95 _ (X93.mono (by decide) (by decide))
                      · skip
                        refine i_ifT (pc' := 290) X93 hx (hb hby at_283) (XT.i0_ne_t hc107) (by decide) (by decide) ?_
                        refine i_iconst (pc' := 291) (0 : Int32) X93 hx (hb hby at_290) rfl (by decide) ?_
                        have ev94 := hv94
                        simp only [if_neg hc106, if_neg hc107] at ev94
                        rw [ev94] at J95
                        exact J95 _ (X93.mono (by decide) (by decide))
                  by_cases hc108 : 0 < v13
                  · skip
                    refine i_ifF (pc' := 256) X91 hx (hb hby at_253) rfl (XT.i0_le_f hc108) ?_
                    refine i_iload (v := v11) (pc' := 258) X91 hx (hb hby at_256) rfl rfl ?_
                    refine i_iload (v := v16) (pc' := 260) X91 hx (hb hby at_258) rfl rfl ?_
                    by_cases hc109 : v11 < v16
                    · skip
                      refine i_icT (pc' := 267) X91 hx (hb hby at_260) (XT.ii_lt_t hc109) (by decide) (by decide) ?_
                      refine i_iconst (pc' := 268) (0 : Int32) X91 hx (hb hby at_267) rfl (by decide) ?_
                      have ev92 := hv92
                      simp only [if_pos hc108, if_pos hc109] at ev92
                      rw [ev92] at J93
                      exact J93 _ (X91.mono (by decide) (by decide))
                    · skip
                      refine i_icF (pc' := 263) X91 hx (hb hby at_260) rfl (XT.ii_lt_f hc109) ?_
                      refine i_iconst (pc' := 264) (1 : Int32) X91 hx (hb hby at_263) rfl (by decide) ?_
                      refine i_goto (pc' := 268) X91 hx (hb hby at_264) (by decide) (by decide) ?_
                      have ev92 := hv92
                      simp only [if_pos hc108, if_neg hc109] at ev92
                      rw [ev92] at J93
                      exact J93 _ (X91.mono (by decide) (by decide))
                  · skip
                    refine i_ifT (pc' := 267) X91 hx (hb hby at_253) (XT.i0_le_t hc108) (by decide) (by decide) ?_
                    refine i_iconst (pc' := 268) (0 : Int32) X91 hx (hb hby at_267) rfl (by decide) ?_
                    have ev92 := hv92
                    simp only [if_neg hc108] at ev92
                    rw [ev92] at J93
                    exact J93 _ (X91.mono (by decide) (by decide))
                by_cases hc110 : 0 < v12
                · skip
                  refine i_ifF (pc' := 237) X87 hx (hb hby at_234) rfl (XT.i0_le_f hc110) ?_
                  refine i_iload (v := v10) (pc' := 239) X87 hx (hb hby at_237) rfl rfl ?_
                  refine i_iload (v := v14) (pc' := 241) X87 hx (hb hby at_239) rfl rfl ?_
                  by_cases hc111 : v10 < v14
                  · skip
                    refine i_icT (pc' := 248) X87 hx (hb hby at_241) (XT.ii_lt_t hc111) (by decide) (by decide) ?_
                    refine i_iconst (pc' := 249) (0 : Int32) X87 hx (hb hby at_248) rfl (by decide) ?_
                    have ev90 := hv90
                    simp only [if_pos hc110, if_pos hc111] at ev90
                    rw [ev90] at J91
                    exact J91 _ (X87.mono (by decide) (by decide))
                  · skip
                    refine i_icF (pc' := 244) X87 hx (hb hby at_241) rfl (XT.ii_lt_f hc111) ?_
                    refine i_iconst (pc' := 245) (1 : Int32) X87 hx (hb hby at_244) rfl (by decide) ?_
                    refine i_goto (pc' := 249) X87 hx (hb hby at_245) (by decide) (by decide) ?_
                    have ev90 := hv90
                    simp only [if_pos hc110, if_neg hc111] at ev90
                    rw [ev90] at J91
                    exact J91 _ (X87.mono (by decide) (by decide))
                · skip
                  refine i_ifT (pc' := 248) X87 hx (hb hby at_234) (XT.i0_le_t hc110) (by decide) (by decide) ?_
                  refine i_iconst (pc' := 249) (0 : Int32) X87 hx (hb hby at_248) rfl (by decide) ?_
                  have ev90 := hv90
                  simp only [if_neg hc110] at ev90
                  rw [ev90] at J91
                  exact J91 _ (X87.mono (by decide) (by decide))
              · skip
                refine i_aload (v := (.ref b21)) (pc' := 214) X84 hx (hb hby at_212) rfl rfl rfl ?_
                refine i_iload (v := v11) (pc' := 216) X84 hx (hb hby at_214) rfl rfl ?_
                refine i_iload (v := v13) (pc' := 218) X84 hx (hb hby at_216) rfl rfl ?_
                refine i_iload (v := v16) (pc' := 220) X84 hx (hb hby at_218) rfl rfl ?_
                refine cV (y := (⟨"com/example/shoal_creek/shoalcreek/MatchedSuffixes", "remember", "(III)V"⟩ : MethodName)) (C := "com/example/shoal_creek/shoalcreek/MatchedSuffixes") (rest := []) (pc' := 223) 0 [(.int v11), (.int v13), (.int v16)] X84 hx hZ hown (hw _ (List.mem_of_getElem? (i := 19) rfl)) (hw _ (List.mem_of_getElem? (i := 20) rfl)) (hw _ (List.mem_of_getElem? (i := 22) rfl)) (hw _ (List.mem_of_getElem? (i := 21) rfl)) (hw _ (List.mem_of_getElem? (i := 8) rfl)) (hw _ (List.mem_of_getElem? (i := 23) rfl)) (by decide) F85 (rmR0 l Z a0 hw [] b21 v11 v13 v16 n0 h28 X84.le hK2) (by decide) (by decide) (by rw [hml]; rfl) rfl (lenOf pd2 rfl) rfl (Nat.le_of_eq rfl) (hb hby at_220) rfl (by decide) (by decide) ?_
                intro r112 T112 h112 X112 q112
                obtain ⟨rfl, eh112⟩ := q112
                subst eh112
                show Go _ _ _ _ _ _ _ T112 (mkF m 223 #[.val (.int p1), .val (.int p2), .val (.int p3), .val (.int p4), .val (.int p5), .val (.int p6), .val (.int v1), .val (.int v3), .val (.int v4), .val (.int v6), .val (.int v8), .val (.int v9), .val (.int v10), .val (.int v11), .val (.int v12), .val (.int v13), .val (.int v14), .val (.int v16), .val (.int v18), .val (.int v19), .val (.ref b21), .unset, .unset, .unset, .unset, .unset] [])
                refine i_aload (v := (.ref b21)) (pc' := 225) X112 hx (hb hby at_223) rfl rfl rfl ?_
                refine i_iload (v := v19) (pc' := 227) X112 hx (hb hby at_225) rfl rfl ?_
                refine cV (y := (⟨"com/example/shoal_creek/shoalcreek/MatchedSuffixes", "lengthEndingAt", "(I)I"⟩ : MethodName)) (C := "com/example/shoal_creek/shoalcreek/MatchedSuffixes") (rest := []) (pc' := 230) 0 [(.int v19)] X112 hx hZ hown (hw _ (List.mem_of_getElem? (i := 44) rfl)) (hw _ (List.mem_of_getElem? (i := 45) rfl)) (hw _ (List.mem_of_getElem? (i := 47) rfl)) (hw _ (List.mem_of_getElem? (i := 46) rfl)) (hw _ (List.mem_of_getElem? (i := 8) rfl)) (hw _ (List.mem_of_getElem? (i := 48) rfl)) (by decide) F85 (rmL0 l Z a0 hw [] b21 v19 (-1 : Int32) n0 h28 X112.le P28_0 (own_m1 hqi)) (by decide) (by decide) (by rw [hml]; rfl) rfl (lenOf pd3 rfl) rfl (Nat.le_of_eq rfl) (hb hby at_227) rfl (by decide) (by decide) ?_
                intro r113 T113 h113 X113 q113
                obtain ⟨rfl, eh113⟩ := q113
                subst eh113
                show Go _ _ _ _ _ _ _ T113 (mkF m 230 #[.val (.int p1), .val (.int p2), .val (.int p3), .val (.int p4), .val (.int p5), .val (.int p6), .val (.int v1), .val (.int v3), .val (.int v4), .val (.int v6), .val (.int v8), .val (.int v9), .val (.int v10), .val (.int v11), .val (.int v12), .val (.int v13), .val (.int v14), .val (.int v16), .val (.int v18), .val (.int v19), .val (.ref b21), .unset, .unset, .unset, .unset, .unset] [(.int (0 : Int32))])
                refine i_istore (L' := #[.val (.int p1), .val (.int p2), .val (.int p3), .val (.int p4), .val (.int p5), .val (.int p6), .val (.int v1), .val (.int v3), .val (.int v4), .val (.int v6), .val (.int v8), .val (.int v9), .val (.int v10), .val (.int v11), .val (.int v12), .val (.int v13), .val (.int v14), .val (.int v16), .val (.int v18), .val (.int v19), .val (.ref b21), .val (.int (0 : Int32)), .unset, .unset, .unset, .unset]) (pc' := 232) X113 hx (hb hby at_230) rfl rfl ?_
                refine i_iload (v := v12) (pc' := 234) X113 hx (hb hby at_232) rfl rfl ?_
                obtain ⟨v114, hv114⟩ : ∃ zz : Int32, zz = (if 0 < v12 then (if v10 < v14 then (0 : Int32) else (1 : Int32)) else (0 : Int32)) := ⟨_, rfl⟩
                have J115 : ∀ (T : State), Pn p l e room_1 s m #[(.int p1), (.int p2), (.int p3), (.int p4), (.int p5), (.int p6)] below meth c T h28 n0 (0 + 0 + 1 + 0 + 0 + 0 + 0) (0 + 0 + 6 + 0 + 0 + 0 + 0) → Go p e s below n0 Q0 room_1 T (mkF m 249 #[.val (.int p1), .val (.int p2), .val (.int p3), .val (.int p4), .val (.int p5), .val (.int p6), .val (.int v1), .val (.int v3), .val (.int v4), .val (.int v6), .val (.int v8), .val (.int v9), .val (.int v10), .val (.int v11), .val (.int v12), .val (.int v13), .val (.int v14), .val (.int v16), .val (.int v18), .val (.int v19), .val (.ref b21), .val (.int (0 : Int32)), .unset, .unset, .unset, .unset] [(.int v114)]) := by
                  intro T115 X115
                  refine i_istore (L' := #[.val (.int p1), .val (.int p2), .val (.int p3), .val (.int p4), .val (.int p5), .val (.int p6), .val (.int v1), .val (.int v3), .val (.int v4), .val (.int v6), .val (.int v8), .val (.int v9), .val (.int v10), .val (.int v11), .val (.int v12), .val (.int v13), .val (.int v14), .val (.int v16), .val (.int v18), .val (.int v19), .val (.ref b21), .val (.int (0 : Int32)), .val (.int v114), .unset, .unset, .unset]) (pc' := 251) X115 hx (hb hby at_249) rfl rfl ?_
                  refine i_iload (v := v13) (pc' := 253) X115 hx (hb hby at_251) rfl rfl ?_
                  obtain ⟨v116, hv116⟩ : ∃ zz : Int32, zz = (if 0 < v13 then (if v11 < v16 then (0 : Int32) else (1 : Int32)) else (0 : Int32)) := ⟨_, rfl⟩
                  have J117 : ∀ (T : State), Pn p l e room_1 s m #[(.int p1), (.int p2), (.int p3), (.int p4), (.int p5), (.int p6)] below meth c T h28 n0 (0 + 0 + 1 + 0 + 0 + 0 + 0) (0 + 0 + 6 + 0 + 0 + 0 + 0) → Go p e s below n0 Q0 room_1 T (mkF m 268 #[.val (.int p1), .val (.int p2), .val (.int p3), .val (.int p4), .val (.int p5), .val (.int p6), .val (.int v1), .val (.int v3), .val (.int v4), .val (.int v6), .val (.int v8), .val (.int v9), .val (.int v10), .val (.int v11), .val (.int v12), .val (.int v13), .val (.int v14), .val (.int v16), .val (.int v18), .val (.int v19), .val (.ref b21), .val (.int (0 : Int32)), .val (.int v114), .unset, .unset, .unset] [(.int v116)]) := by
                    intro T117 X117
                    refine i_istore (L' := #[.val (.int p1), .val (.int p2), .val (.int p3), .val (.int p4), .val (.int p5), .val (.int p6), .val (.int v1), .val (.int v3), .val (.int v4), .val (.int v6), .val (.int v8), .val (.int v9), .val (.int v10), .val (.int v11), .val (.int v12), .val (.int v13), .val (.int v14), .val (.int v16), .val (.int v18), .val (.int v19), .val (.ref b21), .val (.int (0 : Int32)), .val (.int v114), .val (.int v116), .unset, .unset]) (pc' := 270) X117 hx (hb hby at_268) rfl rfl ?_
                    refine i_iload (v := v116) (pc' := 272) X117 hx (hb hby at_270) rfl rfl ?_
                    obtain ⟨v118, hv118⟩ : ∃ zz : Int32, zz = (if v116 = 0 then (0 : Int32) else (if ((v11 - v10) % v3) = 0 then (1 : Int32) else (0 : Int32))) := ⟨_, rfl⟩
                    have J119 : ∀ (T : State), Pn p l e room_1 s m #[(.int p1), (.int p2), (.int p3), (.int p4), (.int p5), (.int p6)] below meth c T h28 n0 (0 + 0 + 1 + 0 + 0 + 0 + 0) (0 + 0 + 6 + 0 + 0 + 0 + 0) → Go p e s below n0 Q0 room_1 T (mkF m 291 #[.val (.int p1), .val (.int p2), .val (.int p3), .val (.int p4), .val (.int p5), .val (.int p6), .val (.int v1), .val (.int v3), .val (.int v4), .val (.int v6), .val (.int v8), .val (.int v9), .val (.int v10), .val (.int v11), .val (.int v12), .val (.int v13), .val (.int v14), .val (.int v16), .val (.int v18), .val (.int v19), .val (.ref b21), .val (.int (0 : Int32)), .val (.int v114), .val (.int v116), .unset, .unset] [(.int v118)]) := by
                      intro T119 X119
                      refine i_istore (L' := #[.val (.int p1), .val (.int p2), .val (.int p3), .val (.int p4), .val (.int p5), .val (.int p6), .val (.int v1), .val (.int v3), .val (.int v4), .val (.int v6), .val (.int v8), .val (.int v9), .val (.int v10), .val (.int v11), .val (.int v12), .val (.int v13), .val (.int v14), .val (.int v16), .val (.int v18), .val (.int v19), .val (.ref b21), .val (.int (0 : Int32)), .val (.int v114), .val (.int v116), .val (.int v118), .unset]) (pc' := 293) X119 hx (hb hby at_291) rfl rfl ?_
                      refine i_iconst (pc' := 294) (0 : Int32) X119 hx (hb hby at_293) rfl (by decide) ?_
                      refine i_istore (L' := #[.val (.int p1), .val (.int p2), .val (.int p3), .val (.int p4), .val (.int p5), .val (.int p6), .val (.int v1), .val (.int v3), .val (.int v4), .val (.int v6), .val (.int v8), .val (.int v9), .val (.int v10), .val (.int v11), .val (.int v12), .val (.int v13), .val (.int v14), .val (.int v16), .val (.int v18), .val (.int v19), .val (.ref b21), .val (.int (0 : Int32)), .val (.int v114), .val (.int v116), .val (.int v118), .val (.int (0 : Int32))]) (pc' := 296) X119 hx (hb hby at_294) rfl rfl ?_
                      refine i_iload (v := v116) (pc' := 298) X119 hx (hb hby at_296) rfl rfl ?_
                      obtain ⟨v120, hv120⟩ : ∃ zz : Int32, zz = (if v116 = 0 then (if v114 = 0 then (0 : Int32) else (if v19 = v10 then (if v118 = 0 then v12 else (0 : Int32)) else (0 : Int32))) else (if v19 = v11 then v13 else (if v114 = 0 then (0 : Int32) else (if v19 = v10 then (if v118 = 0 then v12 else (0 : Int32)) else (0 : Int32))))) := ⟨_, rfl⟩
                      have J121 : ∀ (T : State), Pn p l e room_1 s m #[(.int p1), (.int p2), (.int p3), (.int p4), (.int p5), (.int p6)] below meth c T h28 n0 (0 + 0 + 1 + 0 + 0 + 0 + 0) (0 + 0 + 6 + 0 + 0 + 0 + 0) → Go p e s below n0 Q0 room_1 T (mkF m 336 #[.val (.int p1), .val (.int p2), .val (.int p3), .val (.int p4), .val (.int p5), .val (.int p6), .val (.int v1), .val (.int v3), .val (.int v4), .val (.int v6), .val (.int v8), .val (.int v9), .val (.int v10), .val (.int v11), .val (.int v12), .val (.int v13), .val (.int v14), .val (.int v16), .val (.int v18), .val (.int v19), .val (.ref b21), .val (.int (0 : Int32)), .val (.int v114), .val (.int v116), .val (.int v118), .val (.int v120)] []) := by
                        intro T121 X121
                        refine i_iload (v := (0 : Int32)) (pc' := 338) X121 hx (hb hby at_336) rfl rfl ?_
                        refine i_iload (v := v120) (pc' := 340) X121 hx (hb hby at_338) rfl rfl ?_
                        refine i_icF (pc' := 343) X121 hx (hb hby at_340) rfl (XT.ii_ne_f (own_finFF hv3 he1 he2 hqi hK1 hK2 rfl hv114 hv116 hv118 hv120)) ?_
                        refine i_iconst (pc' := 344) (1 : Int32) X121 hx (hb hby at_343) rfl (by decide) ?_
                        refine i_goto (pc' := 348) X121 hx (hb hby at_344) (by decide) (by decide) ?_
                        refine rN X121 hx hlk hret (by simp) (hb hby at_348) (by decide) (by decide) ?_
                        exact rfl
                      by_cases hc122 : v116 = 0
                      · skip
                        refine i_ifT (pc' := 315) X119 hx (hb hby at_298) (XT.i0_eq_t hc122) (by decide) (by decide) ?_
                        refine i_iload (v := v114) (pc' := 317) X119 hx (hb hby at_315) rfl rfl ?_
                        by_cases hc123 : v114 = 0
                        · skip
                          refine i_ifT (pc' := 336) X119 hx (hb hby at_317) (XT.i0_eq_t hc123) (by decide) (by decide) ?_
                          have ev120 := hv120
                          simp only [if_pos hc122, if_pos hc123] at ev120
                          rw [ev120] at J121
                          exact J121 _ (X119.mono (by decide) (by decide))
                        · skip
                          refine i_ifF (pc' := 320) X119 hx (hb hby at_317) rfl (XT.i0_eq_f hc123) ?_
                          refine i_iload (v := v19) (pc' := 322) X119 hx (hb hby at_320) rfl rfl ?_
                          refine i_iload (v := v10) (pc' := 324) X119 hx (hb hby at_322) rfl rfl ?_
                          by_cases hc124 : v19 = v10
                          · skip
                            refine i_icF (pc' := 327) X119 hx (hb hby at_324) rfl (XT.ii_ne_f hc124) ?_
                            refine i_iload (v := v118) (pc' := 329) X119 hx (hb hby at_327) rfl rfl ?_
                            by_cases hc125 : v118 = 0
                            · skip
                              refine i_ifF (pc' := 332) X119 hx (hb hby at_329) rfl (XT.i0_ne_f hc125) ?_
                              refine i_iload (v := v12) (pc' := 334) X119 hx (hb hby at_332) rfl rfl ?_
                              refine i_istore (L' := #[.val (.int p1), .val (.int p2), .val (.int p3), .val (.int p4), .val (.int p5), .val (.int p6), .val (.int v1), .val (.int v3), .val (.int v4), .val (.int v6), .val (.int v8), .val (.int v9), .val (.int v10), .val (.int v11), .val (.int v12), .val (.int v13), .val (.int v14), .val (.int v16), .val (.int v18), .val (.int v19), .val (.ref b21), .val (.int (0 : Int32)), .val (.int v114), .val (.int v116), .val (.int v118), .val (.int v12)]) (pc' := 336) X119 hx (hb hby at_334) rfl rfl ?_
                              have ev120 := hv120
                              simp only [if_pos hc122, if_neg hc123, if_pos hc124, if_pos hc125] at ev120
                              rw [ev120] at J121
                              exact J121 _ (X119.mono (by decide) (by decide))
                            · skip
                              refine i_ifT (pc' := 336) X119 hx (hb hby at_329) (XT.i0_ne_t hc125) (by decide) (by decide) ?_
                              have ev120 := hv120
                              simp only [if_pos hc122, if_neg hc123, if_pos hc124, if_neg hc125] at ev120
                              rw [ev120] at J121
                              exact J121 _ (X119.mono (by decide) (by decide))
                          · skip
                            refine i_icT (pc' := 336) X119 hx (hb hby at_324) (XT.ii_ne_t hc124) (by decide) (by decide) ?_
                            have ev120 := hv120
                            simp only [if_pos hc122, if_neg hc123, if_neg hc124] at ev120
                            rw [ev120] at J121
                            exact J121 _ (X119.mono (by decide) (by decide))
                      · skip
                        refine i_ifF (pc' := 301) X119 hx (hb hby at_298) rfl (XT.i0_eq_f hc122) ?_
                        refine i_iload (v := v19) (pc' := 303) X119 hx (hb hby at_301) rfl rfl ?_
                        refine i_iload (v := v11) (pc' := 305) X119 hx (hb hby at_303) rfl rfl ?_
                        by_cases hc126 : v19 = v11
                        · skip
                          refine i_icF (pc' := 308) X119 hx (hb hby at_305) rfl (XT.ii_ne_f hc126) ?_
                          refine i_iload (v := v13) (pc' := 310) X119 hx (hb hby at_308) rfl rfl ?_
                          refine i_istore (L' := #[.val (.int p1), .val (.int p2), .val (.int p3), .val (.int p4), .val (.int p5), .val (.int p6), .val (.int v1), .val (.int v3), .val (.int v4), .val (.int v6), .val (.int v8), .val (.int v9), .val (.int v10), .val (.int v11), .val (.int v12), .val (.int v13), .val (.int v14), .val (.int v16), .val (.int v18), .val (.int v19), .val (.ref b21), .val (.int (0 : Int32)), .val (.int v114), .val (.int v116), .val (.int v118), .val (.int v13)]) (pc' := 312) X119 hx (hb hby at_310) rfl rfl ?_
                          refine i_goto (pc' := 336) X119 hx (hb hby at_312) (by decide) (by decide) ?_
                          have ev120 := hv120
                          simp only [if_neg hc122, if_pos hc126] at ev120
                          rw [ev120] at J121
                          exact J121 _ (X119.mono (by decide) (by decide))
                        · skip
                          refine i_icT (pc' := 315) X119 hx (hb hby at_305) (XT.ii_ne_t hc126) (by decide) (by decide) ?_
                          refine i_iload (v := v114) (pc' := 317) X119 hx (hb hby at_315) rfl rfl ?_
                          by_cases hc127 : v114 = 0
                          · skip
                            refine i_ifT (pc' := 336) X119 hx (hb hby at_317) (XT.i0_eq_t hc127) (by decide) (by decide) ?_
                            have ev120 := hv120
                            simp only [if_neg hc122, if_neg hc126, if_pos hc127] at ev120
                            rw [ev120] at J121
                            exact J121 _ (X119.mono (by decide) (by decide))
                          · skip
                            refine i_ifF (pc' := 320) X119 hx (hb hby at_317) rfl (XT.i0_eq_f hc127) ?_
                            refine i_iload (v := v19) (pc' := 322) X119 hx (hb hby at_320) rfl rfl ?_
                            refine i_iload (v := v10) (pc' := 324) X119 hx (hb hby at_322) rfl rfl ?_
                            by_cases hc128 : v19 = v10
                            · skip
                              refine i_icF (pc' := 327) X119 hx (hb hby at_324) rfl (XT.ii_ne_f hc128) ?_
                              refine i_iload (v := v118) (pc' := 329) X119 hx (hb hby at_327) rfl rfl ?_
                              by_cases hc129 : v118 = 0
                              · skip
                                refine i_ifF (pc' := 332) X119 hx (hb hby at_329) rfl (XT.i0_ne_f hc129) ?_
                                refine i_iload (v := v12) (pc' := 334) X119 hx (hb hby at_332) rfl rfl ?_
                                refine i_istore (L' := #[.val (.int p1), .val (.int p2), .val (.int p3), .val (.int p4), .val (.int p5), .val (.int p6), .val (.int v1), .val (.int v3), .val (.int v4), .val (.int v6), .val (.int v8), .val (.int v9), .val (.int v10), .val (.int v11), .val (.int v12), .val (.int v13), .val (.int v14), .val (.int v16), .val (.int v18), .val (.int v19), .val (.ref b21), .val (.int (0 : Int32)), .val (.int v114), .val (.int v116), .val (.int v118), .val (.int v12)]) (pc' := 336) X119 hx (hb hby at_334) rfl rfl ?_
                                have ev120 := hv120
                                simp only [if_neg hc122, if_neg hc126, if_neg hc127, if_pos hc128, if_pos hc129] at ev120
                                rw [ev120] at J121
                                exact J121 _ (X119.mono (by decide) (by decide))
                              · skip
                                refine i_ifT (pc' := 336) X119 hx (hb hby at_329) (XT.i0_ne_t hc129) (by decide) (by decide) ?_
                                have ev120 := hv120
                                simp only [if_neg hc122, if_neg hc126, if_neg hc127, if_pos hc128, if_neg hc129] at ev120
                                rw [ev120] at J121
                                exact J121 _ (X119.mono (by decide) (by decide))
                            · skip
                              refine i_icT (pc' := 336) X119 hx (hb hby at_324) (XT.ii_ne_t hc128) (by decide) (by decide) ?_
                              have ev120 := hv120
                              simp only [if_neg hc122, if_neg hc126, if_neg hc127, if_neg hc128] at ev120
                              rw [ev120] at J121
                              exact J121 _ (X119.mono (by decide) (by decide))
                    by_cases hc130 : v116 = 0
                    · skip
                      refine i_ifT (pc' := 290) X117 hx (hb hby at_272) (XT.i0_eq_t hc130) (by decide) (by decide) ?_
                      refine i_iconst (pc' := 291) (0 : Int32) X117 hx (hb hby at_290) rfl (by decide) ?_
                      have ev118 := hv118
                      simp only [if_pos hc130] at ev118
                      rw [ev118] at J119
                      exact J119 _ (X117.mono (by decide) (by decide))
                    · skip
                      refine i_ifF (pc' := 275) X117 hx (hb hby at_272) rfl (XT.i0_eq_f hc130) ?_
                      refine i_iload (v := v11) (pc' := 277) X117 hx (hb hby at_275) rfl rfl ?_
                      refine i_iload (v := v10) (pc' := 279) X117 hx (hb hby at_277) rfl rfl ?_
                      refine i_isub (pc' := 280) X117 hx (hb hby at_279) rfl ?_
                      refine i_iload (v := v3) (pc' := 282) X117 hx (hb hby at_280) rfl rfl ?_
                      refine i_irem (pc' := 283) X117 hx (hb hby at_282) rfl (by rw [hv3]; exact own_snz _) ?_
                      by_cases hc131 : ((v11 - v10) % v3) = 0
                      · skip
                        refine i_ifF (pc' := 286) X117 hx (hb hby at_283) rfl (XT.i0_ne_f hc131) ?_
                        refine i_iconst (pc' := 287) (1 : Int32) X117 hx (hb hby at_286) rfl (by decide) ?_
                        refine i_goto (pc' := 291) X117 hx (hb hby at_287) (by decide) (by decide) ?_
                        have ev118 := hv118
                        simp only [if_neg hc130, if_pos hc131] at ev118
                        rw [ev118] at J119
                        exact J119 _ (X117.mono (by decide) (by decide))
                      · skip
                        refine i_ifT (pc' := 290) X117 hx (hb hby at_283) (XT.i0_ne_t hc131) (by decide) (by decide) ?_
                        refine i_iconst (pc' := 291) (0 : Int32) X117 hx (hb hby at_290) rfl (by decide) ?_
                        have ev118 := hv118
                        simp only [if_neg hc130, if_neg hc131] at ev118
                        rw [ev118] at J119
                        exact J119 _ (X117.mono (by decide) (by decide))
                  by_cases hc132 : 0 < v13
                  · skip
                    refine i_ifF (pc' := 256) X115 hx (hb hby at_253) rfl (XT.i0_le_f hc132) ?_
                    refine i_iload (v := v11) (pc' := 258) X115 hx (hb hby at_256) rfl rfl ?_
                    refine i_iload (v := v16) (pc' := 260) X115 hx (hb hby at_258) rfl rfl ?_
                    by_cases hc133 : v11 < v16
                    · skip
                      refine i_icT (pc' := 267) X115 hx (hb hby at_260) (XT.ii_lt_t hc133) (by decide) (by decide) ?_
                      refine i_iconst (pc' := 268) (0 : Int32) X115 hx (hb hby at_267) rfl (by decide) ?_
                      have ev116 := hv116
                      simp only [if_pos hc132, if_pos hc133] at ev116
                      rw [ev116] at J117
                      exact J117 _ (X115.mono (by decide) (by decide))
                    · skip
                      refine i_icF (pc' := 263) X115 hx (hb hby at_260) rfl (XT.ii_lt_f hc133) ?_
                      refine i_iconst (pc' := 264) (1 : Int32) X115 hx (hb hby at_263) rfl (by decide) ?_
                      refine i_goto (pc' := 268) X115 hx (hb hby at_264) (by decide) (by decide) ?_
                      have ev116 := hv116
                      simp only [if_pos hc132, if_neg hc133] at ev116
                      rw [ev116] at J117
                      exact J117 _ (X115.mono (by decide) (by decide))
                  · skip
                    refine i_ifT (pc' := 267) X115 hx (hb hby at_253) (XT.i0_le_t hc132) (by decide) (by decide) ?_
                    refine i_iconst (pc' := 268) (0 : Int32) X115 hx (hb hby at_267) rfl (by decide) ?_
                    have ev116 := hv116
                    simp only [if_neg hc132] at ev116
                    rw [ev116] at J117
                    exact J117 _ (X115.mono (by decide) (by decide))
                by_cases hc134 : 0 < v12
                · skip
                  refine i_ifF (pc' := 237) X113 hx (hb hby at_234) rfl (XT.i0_le_f hc134) ?_
                  refine i_iload (v := v10) (pc' := 239) X113 hx (hb hby at_237) rfl rfl ?_
                  refine i_iload (v := v14) (pc' := 241) X113 hx (hb hby at_239) rfl rfl ?_
                  by_cases hc135 : v10 < v14
                  · skip
                    refine i_icT (pc' := 248) X113 hx (hb hby at_241) (XT.ii_lt_t hc135) (by decide) (by decide) ?_
                    refine i_iconst (pc' := 249) (0 : Int32) X113 hx (hb hby at_248) rfl (by decide) ?_
                    have ev114 := hv114
                    simp only [if_pos hc134, if_pos hc135] at ev114
                    rw [ev114] at J115
                    exact J115 _ (X113.mono (by decide) (by decide))
                  · skip
                    refine i_icF (pc' := 244) X113 hx (hb hby at_241) rfl (XT.ii_lt_f hc135) ?_
                    refine i_iconst (pc' := 245) (1 : Int32) X113 hx (hb hby at_244) rfl (by decide) ?_
                    refine i_goto (pc' := 249) X113 hx (hb hby at_245) (by decide) (by decide) ?_
                    have ev114 := hv114
                    simp only [if_pos hc134, if_neg hc135] at ev114
                    rw [ev114] at J115
                    exact J115 _ (X113.mono (by decide) (by decide))
                · skip
                  refine i_ifT (pc' := 248) X113 hx (hb hby at_234) (XT.i0_le_t hc134) (by decide) (by decide) ?_
                  refine i_iconst (pc' := 249) (0 : Int32) X113 hx (hb hby at_248) rfl (by decide) ?_
                  have ev114 := hv114
                  simp only [if_neg hc134] at ev114
                  rw [ev114] at J115
                  exact J115 _ (X113.mono (by decide) (by decide))
          by_cases hc136 : v18 = 0
          · skip
            refine i_ifF (pc' := 142) X17 hx (hb hby at_139) rfl (XT.i0_ne_f hc136) ?_
            refine i_iload (v := v10) (pc' := 144) X17 hx (hb hby at_142) rfl rfl ?_
            refine i_istore (L' := #[.val (.int p1), .val (.int p2), .val (.int p3), .val (.int p4), .val (.int p5), .val (.int p6), .val (.int v1), .val (.int v3), .val (.int v4), .val (.int v6), .val (.int v8), .val (.int v9), .val (.int v10), .val (.int v11), .val (.int v12), .val (.int v13), .val (.int v14), .val (.int v16), .val (.int v18), .val (.int v10), .unset, .unset, .unset, .unset, .unset, .unset]) (pc' := 146) X17 hx (hb hby at_144) rfl rfl ?_
            refine i_goto (pc' := 190) X17 hx (hb hby at_146) (by decide) (by decide) ?_
            have ev19 := hv19
            simp only [if_pos hc136] at ev19
            rw [ev19] at J20
            exact J20 _ (X17.mono (by decide) (by decide))
          · skip
            refine i_ifT (pc' := 149) X17 hx (hb hby at_139) (XT.i0_ne_t hc136) (by decide) (by decide) ?_
            refine i_iload (v := v18) (pc' := 151) X17 hx (hb hby at_149) rfl rfl ?_
            refine i_iconst (pc' := 152) (1 : Int32) X17 hx (hb hby at_151) rfl (by decide) ?_
            by_cases hc137 : v18 = (1 : Int32)
            · skip
              refine i_icF (pc' := 155) X17 hx (hb hby at_152) rfl (XT.ii_ne_f hc137) ?_
              refine i_iload (v := v11) (pc' := 157) X17 hx (hb hby at_155) rfl rfl ?_
              refine i_istore (L' := #[.val (.int p1), .val (.int p2), .val (.int p3), .val (.int p4), .val (.int p5), .val (.int p6), .val (.int v1), .val (.int v3), .val (.int v4), .val (.int v6), .val (.int v8), .val (.int v9), .val (.int v10), .val (.int v11), .val (.int v12), .val (.int v13), .val (.int v14), .val (.int v16), .val (.int v18), .val (.int v11), .unset, .unset, .unset, .unset, .unset, .unset]) (pc' := 159) X17 hx (hb hby at_157) rfl rfl ?_
              refine i_goto (pc' := 190) X17 hx (hb hby at_159) (by decide) (by decide) ?_
              have ev19 := hv19
              simp only [if_neg hc136, if_pos hc137] at ev19
              rw [ev19] at J20
              exact J20 _ (X17.mono (by decide) (by decide))
            · skip
              refine i_icT (pc' := 162) X17 hx (hb hby at_152) (XT.ii_ne_t hc137) (by decide) (by decide) ?_
              refine i_iload (v := v18) (pc' := 164) X17 hx (hb hby at_162) rfl rfl ?_
              refine i_iconst (pc' := 165) (2 : Int32) X17 hx (hb hby at_164) rfl (by decide) ?_
              by_cases hc138 : v18 = (2 : Int32)
              · skip
                refine i_icF (pc' := 168) X17 hx (hb hby at_165) rfl (XT.ii_ne_f hc138) ?_
                refine i_iload (v := p6) (pc' := 170) X17 hx (hb hby at_168) rfl rfl ?_
                refine i_iconst (pc' := 171) (2 : Int32) X17 hx (hb hby at_170) rfl (by decide) ?_
                refine i_iushr (pc' := 172) X17 hx (hb hby at_171) rfl ?_
                refine i_istore (L' := #[.val (.int p1), .val (.int p2), .val (.int p3), .val (.int p4), .val (.int p5), .val (.int p6), .val (.int v1), .val (.int v3), .val (.int v4), .val (.int v6), .val (.int v8), .val (.int v9), .val (.int v10), .val (.int v11), .val (.int v12), .val (.int v13), .val (.int v14), .val (.int v16), .val (.int v18), .val (.int (XT.ushr p6 (2 : Int32))), .unset, .unset, .unset, .unset, .unset, .unset]) (pc' := 174) X17 hx (hb hby at_172) rfl rfl ?_
                refine i_goto (pc' := 190) X17 hx (hb hby at_174) (by decide) (by decide) ?_
                have ev19 := hv19
                simp only [if_neg hc136, if_neg hc137, if_pos hc138] at ev19
                rw [ev19] at J20
                exact J20 _ (X17.mono (by decide) (by decide))
              · skip
                refine i_icT (pc' := 177) X17 hx (hb hby at_165) (XT.ii_ne_t hc138) (by decide) (by decide) ?_
                refine i_iload (v := v10) (pc' := 179) X17 hx (hb hby at_177) rfl rfl ?_
                refine i_iload (v := p6) (pc' := 181) X17 hx (hb hby at_179) rfl rfl ?_
                refine i_iconst (pc' := 182) (2 : Int32) X17 hx (hb hby at_181) rfl (by decide) ?_
                refine i_iushr (pc' := 183) X17 hx (hb hby at_182) rfl ?_
                refine i_sipush (pc' := 186) (255 : Int32) X17 hx (hb hby at_183) rfl (by decide) ?_
                refine i_iand (pc' := 187) X17 hx (hb hby at_186) rfl ?_
                refine i_iadd (pc' := 188) X17 hx (hb hby at_187) rfl ?_
                refine i_istore (L' := #[.val (.int p1), .val (.int p2), .val (.int p3), .val (.int p4), .val (.int p5), .val (.int p6), .val (.int v1), .val (.int v3), .val (.int v4), .val (.int v6), .val (.int v8), .val (.int v9), .val (.int v10), .val (.int v11), .val (.int v12), .val (.int v13), .val (.int v14), .val (.int v16), .val (.int v18), .val (.int (v10 + ((XT.ushr p6 (2 : Int32)) &&& (255 : Int32)))), .unset, .unset, .unset, .unset, .unset, .unset]) (pc' := 190) X17 hx (hb hby at_188) rfl rfl ?_
                have ev19 := hv19
                simp only [if_neg hc136, if_neg hc137, if_neg hc138] at ev19
                rw [ev19] at J20
                exact J20 _ (X17.mono (by decide) (by decide))
        by_cases hc139 : v6 = 0
        · skip
          refine i_ifT (pc' := 124) X15 hx (hb hby at_114) (XT.i0_eq_t hc139) (by decide) (by decide) ?_
          refine i_iload (v := v11) (pc' := 126) X15 hx (hb hby at_124) rfl rfl ?_
          refine i_iload (v := v9) (pc' := 128) X15 hx (hb hby at_126) rfl rfl ?_
          refine i_isub (pc' := 129) X15 hx (hb hby at_128) rfl ?_
          have ev16 := hv16
          simp only [if_pos hc139] at ev16
          rw [ev16] at J17
          exact J17 _ (X15.mono (by decide) (by decide))
        · skip
          refine i_ifF (pc' := 117) X15 hx (hb hby at_114) rfl (XT.i0_eq_f hc139) ?_
          refine i_iload (v := v11) (pc' := 119) X15 hx (hb hby at_117) rfl rfl ?_
          refine i_iconst (pc' := 120) (1 : Int32) X15 hx (hb hby at_119) rfl (by decide) ?_
          refine i_iadd (pc' := 121) X15 hx (hb hby at_120) rfl ?_
          refine i_goto (pc' := 129) X15 hx (hb hby at_121) (by decide) (by decide) ?_
          have ev16 := hv16
          simp only [if_neg hc139] at ev16
          rw [ev16] at J17
          exact J17 _ (X15.mono (by decide) (by decide))
      by_cases hc140 : v4 = 0
      · skip
        refine i_ifT (pc' := 105) X7 hx (hb hby at_95) (XT.i0_eq_t hc140) (by decide) (by decide) ?_
        refine i_iload (v := v10) (pc' := 107) X7 hx (hb hby at_105) rfl rfl ?_
        refine i_iload (v := v8) (pc' := 109) X7 hx (hb hby at_107) rfl rfl ?_
        refine i_isub (pc' := 110) X7 hx (hb hby at_109) rfl ?_
        have ev14 := hv14
        simp only [if_pos hc140] at ev14
        rw [ev14] at J15
        exact J15 _ (X7.mono (by decide) (by decide))
      · skip
        refine i_ifF (pc' := 98) X7 hx (hb hby at_95) rfl (XT.i0_eq_f hc140) ?_
        refine i_iload (v := v10) (pc' := 100) X7 hx (hb hby at_98) rfl rfl ?_
        refine i_iconst (pc' := 101) (1 : Int32) X7 hx (hb hby at_100) rfl (by decide) ?_
        refine i_iadd (pc' := 102) X7 hx (hb hby at_101) rfl ?_
        refine i_goto (pc' := 110) X7 hx (hb hby at_102) (by decide) (by decide) ?_
        have ev14 := hv14
        simp only [if_neg hc140] at ev14
        rw [ev14] at J15
        exact J15 _ (X7.mono (by decide) (by decide))
    by_cases hc141 : ((p1 >>> ((7 : Int32) &&& 31)) &&& (1 : Int32)) = 0
    · skip
      refine i_ifT (pc' := 44) X5 hx (hb hby at_37) (XT.i0_eq_t hc141) (by decide) (by decide) ?_
      refine i_iconst (pc' := 45) (0 : Int32) X5 hx (hb hby at_44) rfl (by decide) ?_
      have ev6 := hv6
      simp only [if_pos hc141] at ev6
      rw [ev6] at J7
      exact J7 _ (X5.mono (by decide) (by decide))
    · skip
      refine i_ifF (pc' := 40) X5 hx (hb hby at_37) rfl (XT.i0_eq_f hc141) ?_
      refine i_iconst (pc' := 41) (1 : Int32) X5 hx (hb hby at_40) rfl (by decide) ?_
      refine i_goto (pc' := 45) X5 hx (hb hby at_41) (by decide) (by decide) ?_
      have ev6 := hv6
      simp only [if_neg hc141] at ev6
      rw [ev6] at J7
      exact J7 _ (X5.mono (by decide) (by decide))
  by_cases hc142 : ((p1 >>> ((6 : Int32) &&& 31)) &&& (1 : Int32)) = 0
  · skip
    refine i_ifT (pc' := 28) X2 hx (hb hby at_21) (XT.i0_eq_t hc142) (by decide) (by decide) ?_
    refine i_iconst (pc' := 29) (0 : Int32) X2 hx (hb hby at_28) rfl (by decide) ?_
    have ev4 := hv4
    simp only [if_pos hc142] at ev4
    rw [ev4] at J5
    exact J5 _ (X2.mono (by decide) (by decide))
  · skip
    refine i_ifF (pc' := 24) X2 hx (hb hby at_21) rfl (XT.i0_eq_f hc142) ?_
    refine i_iconst (pc' := 25) (1 : Int32) X2 hx (hb hby at_24) rfl (by decide) ?_
    refine i_goto (pc' := 29) X2 hx (hb hby at_25) (by decide) (by decide) ?_
    have ev4 := hv4
    simp only [if_neg hc142] at ev4
    rw [ev4] at J5
    exact J5 _ (X2.mono (by decide) (by decide))
set_option maxRecDepth 65536 in
set_option maxHeartbeats 40000000 in
theorem comes_1 {Post : Tables → Env → Array Value → State → Outcome → State → Prop} (hpost : ∀ tb e args s v u, (limb_1_1.after args s (.returned v) u = true ∧ limb_1_2.after args s (.returned v) u = true ∧ True) → FrameEnd s (.returned v) u (Jvm.fieldLocs frame_1_writes args s ++ Jvm.arrayLocs frame_1_arrays args s ++ Jvm.staticLocs frame_1_statics s) 16 512 → Post tb e args s (.returned v) u) :
    ArmFor flags0 classFile x code maxLocals ret World_1 tables_1 room_1 Calls_1 rest_1 Pre_1 Post := by
  intro l hfl _ _ p e ha hc hk s m args below hf hA hF happ hP
  obtain ⟨hcalls, hrest, hpre⟩ := hP
  obtain ⟨-, -, -, hnamed, -, -, -, hat⟩ := (Spec.applies_iff hf).mp happ
  obtain ⟨hg, hn⟩ := and_e (Cond.before_iff.mp (show (Jvm.Cond.and given_1 narrow_1).before args s = true from hpre))
  obtain ⟨g0, k0⟩ := and_e hg
  obtain ⟨g1, k1⟩ := and_e k0
  obtain ⟨g2, k2⟩ := and_e k1
  obtain ⟨g3, k3⟩ := and_e k2
  obtain ⟨g4, k4⟩ := and_e k3
  obtain ⟨g5, k5⟩ := and_e k4
  obtain ⟨w0, w1, w2, w3, w4, w5, rfl⟩ : ∃ w0 w1 w2 w3 w4 w5 : Value, args = #[w0, w1, w2, w3, w4, w5] := by
    have hs : args.size = 6 := by simpa [Cond.value, given_1] using g0
    obtain ⟨L⟩ := args
    match L, hs with
    | [w0, w1, w2, w3, w4, w5], _ => exact ⟨w0, w1, w2, w3, w4, w5, rfl⟩
  have hw := fun d (hd : d ∈ tables_1) => atoms_spec (ws := Jvm.Cond.code x code maxLocals ret :: tables_1) hat d (List.mem_cons_of_mem _ hd)
  have hfit : Fit s := fun {y c} hc i hi => by
    obtain ⟨ha, rfl⟩ := Array.getElem?_eq_some_iff.mp hc
    have q := List.all_eq_true.mp ((Array.all_eq_true_iff_forall_mem.mp hF) _ (Array.getElem_mem ha)) i (List.mem_range.mpr hi)
    simpa [Array.getElem?_eq_getElem hi] using q
  obtain ⟨i0, ei0⟩ := is_v g1
  obtain rfl : w0 = (.int i0) := Option.some.inj ei0
  obtain ⟨i1, ei1⟩ := is_v g2
  obtain rfl : w1 = (.int i1) := Option.some.inj ei1
  obtain ⟨i2, ei2⟩ := is_v g3
  obtain rfl : w2 = (.int i2) := Option.some.inj ei2
  obtain ⟨i3, ei3⟩ := is_v g4
  obtain rfl : w3 = (.int i3) := Option.some.inj ei3
  obtain ⟨i4, ei4⟩ := is_v g5
  obtain rfl : w4 = (.int i4) := Option.some.inj ei4
  obtain ⟨i5, ei5⟩ := is_v k5
  obtain rfl : w5 = (.int i5) := Option.some.inj ei5
  obtain ⟨n, o, h1, h2, h3, _, L, rfl, ⟨rfl, N⟩, hq⟩ := rm0 l s _ hw tables_1 i0 i1 i2 i3 i4 i5 s.heap.size s.heap (Nat.le_refl _)  p e ha hc hk s m _ below hf ((Spec.applies_iff_loose hf).mp happ).1 ⟨rfl, State.Warmed39.refl s, rfl⟩ trivial
  refine ⟨n, _, h1, h2, h3, hpost _ _ _ _ _ _ ⟨Cond.after_iff.mpr rfl, Cond.after_iff.mpr (eq_i res_at (Term.int_eval (1)) rfl), trivial⟩ ⟨hq.1, hq.2.1, (hq.2.2.sift fun y hy => Or.inr (N y hy)).mono (by decide) (by decide)⟩⟩
theorem main_1_1 : Claimed_1_1 := comes_1 fun _ _ _ _ _ _ h hF => ⟨h.1, hF⟩
theorem main_1_2 : Claimed_1_2 := comes_1 fun _ _ _ _ _ _ h hF => ⟨h.2.1, hF⟩
end Jvm.Pilot.@@N@@
namespace Jvm.Pilot.@@N@@
open Jvm Jvm.ClassFile Sem Op Lib Jvm.Free Jvm.Stand Jvm.Pilot.@@N@@.Jvm.D
/-! MADE BY PROGRAM (witnessworld.py) out of the Statement's table words and the real class files: 10 classes; the members and pool entries that the words name. The judged class is class 1, her method 2. -/
namespace start1
open Jvm.ClassFile
def u (s : String) : CpInfo := .utf8 (stringToUtf16 s)
/-- a pool by its gaps: so many unusable entries, then the entry; so many at the end -/
def gap : Nat → List CpInfo → List CpInfo
  | 0, r => r
  | n + 1, r => .unusable :: gap n r
def poolList (es : List (Nat × CpInfo)) (last : Nat) : List CpInfo := es.foldr (fun e r => gap e.1 (e.2 :: r)) (gap last [])
def pool (es : List (Nat × CpInfo)) (last : Nat) : Array CpInfo := ⟨poolList es last⟩
def fileOf (pool : Array CpInfo) (this : Nat) (attrs : Array Attribute := #[]) (ms : Array MethodInfo := #[]) (fl : Nat := 33) (sup : Nat := 0) (ifs : Array Nat := #[]) (fds : Array FieldInfo := #[]) : ClassFile where
  minorVersion := 0
  majorVersion := 65
  constantPool := pool
  accessFlags := fl
  thisClass := this
  superClass := sup
  interfaces := ifs
  fields := fds
  methods := ms
  attributes := attrs
def plain (name : String) (sup : Option ClassId) : Class where
  name := name
  kind := .ordinary
  loader := none
  accessFlags := 33
  super := sup
  interfaces := #[]
  cf := none
  fields := #[]
  methods := #[]
  instanceTypes := #[]
  staticTypes := #[]
  resolved := #[]
  callSites := []
  init := .initialized
  statics := none
  mirror := none

def pool0 : Array CpInfo := pool [(5, u "<init>"), (0, u "()V"), (1, .class_ 10), (1, u "java/lang/Object")] 113

def k0c0 : Code := { maxStack := 0, maxLocals := 1, code := object_method_1_code, exceptionTable := #[], attributes := #[] }
def k0m0 : Method := { name := "<init>", desc := "()V", sig := { parameters := [], returnType := none }, accessFlags := 1, code := some k0c0 }
/-- java/lang/Object -/
def k0 : Class := { plain "java/lang/Object" none with
  accessFlags := 33
  interfaces := #[]
  cf := some (fileOf pool0 8 #[] #[{ accessFlags := 1, nameIndex := 5, descriptorIndex := 6, attributes := #[] }] 33 0 #[] #[])
  fields := #[]
  methods := #[k0m0]
  instanceTypes := #[]
  staticTypes := #[]
  resolved := Array.replicate 124 none
  statics := none }

def pool1 : Array CpInfo := pool [(2, .class_ 4), (1, u "java/lang/Object"), (0, u "<init>"), (0, u "()V"), (0, .methodref 8 9), (0, .class_ 10), (0, .nameAndType 11 12), (0, u "com/example/shoal_creek/shoalcreek/MatchedSuffixesLengthEndingAtPinLaw"), (0, u "slotsFor"), (0, u "(I)I"), (0, .integer 1073741823), (0, .integer 2147483647), (0, .class_ 16), (0, u "com/example/shoal_creek/shoalcreek/MatchedSuffixes"), (0, .methodref 15 18), (0, .nameAndType 5 19), (0, u "(I)V"), (0, .methodref 15 21), (0, .nameAndType 22 23), (0, u "remember"), (0, u "(III)V"), (0, .methodref 15 25), (0, .nameAndType 26 12), (0, u "lengthEndingAt"), (3, u "law"), (0, u "(IIIIII)Z")] 2

def k1m0 : Method := { name := "<init>", desc := "()V", sig := { parameters := [], returnType := none }, accessFlags := 1, code := none }
def k1c1 : Code := { maxStack := 2, maxLocals := 1, code := method_2_code, exceptionTable := #[], attributes := #[] }
def k1m1 : Method := { name := "slotsFor", desc := "(I)I", sig := { parameters := [.int], returnType := some .int }, accessFlags := 10, code := some k1c1 }
def k1c2 : Code := { maxStack := 4, maxLocals := 26, code := code, exceptionTable := #[], attributes := #[] }
def k1m2 : Method := { name := "law", desc := "(IIIIII)Z", sig := { parameters := [.int, .int, .int, .int, .int, .int], returnType := some .boolean }, accessFlags := 9, code := some k1c2 }
/-- com/example/shoal_creek/shoalcreek/MatchedSuffixesLengthEndingAtPinLaw -/
def k1 : Class := { plain "com/example/shoal_creek/shoalcreek/MatchedSuffixesLengthEndingAtPinLaw" (some 0) with
  accessFlags := 49
  interfaces := #[]
  cf := some (fileOf pool1 8 #[] #[{ accessFlags := 1, nameIndex := 5, descriptorIndex := 6, attributes := #[] }, { accessFlags := 10, nameIndex := 11, descriptorIndex := 12, attributes := #[] }, { accessFlags := 9, nameIndex := 30, descriptorIndex := 31, attributes := #[] }] 49 2 #[] #[])
  fields := #[]
  methods := #[k1m0, k1m1, k1m2]
  instanceTypes := #[]
  staticTypes := #[]
  resolved := Array.replicate 34 none
  statics := none }

def pool2 : Array CpInfo := pool [(1, .methodref 2 3), (0, .class_ 4), (0, .nameAndType 5 6), (0, u "java/lang/Object"), (0, u "<init>"), (0, u "()V"), (0, .fieldref 8 9), (0, .class_ 10), (0, .nameAndType 11 12), (0, u "com/example/shoal_creek/shoalcreek/MatchedSuffixes"), (0, u "newestEnd"), (0, u "I"), (0, .fieldref 8 14), (0, .nameAndType 15 12), (0, u "patternLength"), (0, .fieldref 8 17), (0, .nameAndType 18 19), (0, u "ends"), (0, u "[I"), (0, .fieldref 8 21), (0, .nameAndType 22 19), (0, u "lengths"), (0, .fieldref 8 24), (0, .nameAndType 25 19), (0, u "differings"), (0, .fieldref 8 27), (0, .nameAndType 28 29), (0, u "differing"), (0, u "C"), (0, .methodref 8 31), (0, .nameAndType 32 6), (0, u "allocate"), (0, .methodref 8 34), (0, .nameAndType 35 36), (0, u "keep"), (0, u "(III)V"), (0, .integer 1073741824), (0, .methodref 39 40), (0, .class_ 41), (0, .nameAndType 42 43), (0, u "java/lang/Math"), (0, u "max"), (0, u "(II)I"), (6, u "UNREAD"), (2, u "WHOLE"), (1, u "(I)V"), (2, u "lengthEndingAt"), (0, u "(I)I"), (7, u "remember")] 9

def k2c0 : Code := { maxStack := 2, maxLocals := 2, code := prog_18_method_1_code, exceptionTable := #[], attributes := #[] }
def k2m0 : Method := { name := "<init>", desc := "(I)V", sig := { parameters := [.int], returnType := none }, accessFlags := 0, code := some k2c0 }
def k2c1 : Code := { maxStack := 4, maxLocals := 3, code := prog_18_method_2_code, exceptionTable := #[], attributes := #[] }
def k2m1 : Method := { name := "lengthEndingAt", desc := "(I)I", sig := { parameters := [.int], returnType := some .int }, accessFlags := 0, code := some k2c1 }
def k2c2 : Code := { maxStack := 5, maxLocals := 4, code := prog_18_method_7_code, exceptionTable := #[], attributes := #[] }
def k2m2 : Method := { name := "remember", desc := "(III)V", sig := { parameters := [.int, .int, .int], returnType := none }, accessFlags := 0, code := some k2c2 }
def k2c3 : Code := { maxStack := 2, maxLocals := 2, code := prog_18_method_9_code, exceptionTable := #[], attributes := #[] }
def k2m3 : Method := { name := "allocate", desc := "()V", sig := { parameters := [], returnType := none }, accessFlags := 2, code := some k2c3 }
def k2c4 : Code := { maxStack := 3, maxLocals := 5, code := prog_18_method_10_code, exceptionTable := #[], attributes := #[] }
def k2m4 : Method := { name := "keep", desc := "(III)V", sig := { parameters := [.int, .int, .int], returnType := none }, accessFlags := 0, code := some k2c4 }
/-- com/example/shoal_creek/shoalcreek/MatchedSuffixes -/
def k2 : Class := { plain "com/example/shoal_creek/shoalcreek/MatchedSuffixes" (some 0) with
  accessFlags := 48
  interfaces := #[]
  cf := some (fileOf pool2 8 #[] #[{ accessFlags := 0, nameIndex := 5, descriptorIndex := 55, attributes := #[] }, { accessFlags := 0, nameIndex := 58, descriptorIndex := 59, attributes := #[] }, { accessFlags := 0, nameIndex := 67, descriptorIndex := 36, attributes := #[] }, { accessFlags := 2, nameIndex := 32, descriptorIndex := 6, attributes := #[] }, { accessFlags := 0, nameIndex := 35, descriptorIndex := 36, attributes := #[] }] 48 2 #[] #[{ accessFlags := 24, nameIndex := 50, descriptorIndex := 12, attributes := #[] }, { accessFlags := 24, nameIndex := 53, descriptorIndex := 12, attributes := #[] }, { accessFlags := 18, nameIndex := 15, descriptorIndex := 12, attributes := #[] }, { accessFlags := 2, nameIndex := 18, descriptorIndex := 19, attributes := #[] }, { accessFlags := 2, nameIndex := 22, descriptorIndex := 19, attributes := #[] }, { accessFlags := 2, nameIndex := 25, descriptorIndex := 19, attributes := #[] }, { accessFlags := 2, nameIndex := 11, descriptorIndex := 12, attributes := #[] }, { accessFlags := 2, nameIndex := 28, descriptorIndex := 29, attributes := #[] }])
  fields := #[{ name := "UNREAD", type := .int, accessFlags := 24, slot := 0, constantValue := 0 }, { name := "WHOLE", type := .int, accessFlags := 24, slot := 1, constantValue := 0 }, { name := "patternLength", type := .int, accessFlags := 18, slot := 0, constantValue := 0 }, { name := "ends", type := (.array .int), accessFlags := 2, slot := 1, constantValue := 0 }, { name := "lengths", type := (.array .int), accessFlags := 2, slot := 2, constantValue := 0 }, { name := "differings", type := (.array .int), accessFlags := 2, slot := 3, constantValue := 0 }, { name := "newestEnd", type := .int, accessFlags := 2, slot := 4, constantValue := 0 }, { name := "differing", type := .char, accessFlags := 2, slot := 5, constantValue := 0 }]
  methods := #[k2m0, k2m1, k2m2, k2m3, k2m4]
  instanceTypes := #[.int, (.array .int), (.array .int), (.array .int), .int, .char]
  staticTypes := #[.int, .int]
  resolved := Array.replicate 77 none
  statics := none }

def pool3 : Array CpInfo := pool [(1, .class_ 2), (0, u "java/lang/Math"), (1, .class_ 6), (1, u "java/lang/Object"), (0, u "<init>"), (0, u "()V"), (89, .class_ 100), (1, u "java/lang/Math$RandomNumberGeneratorHolder"), (71, u "negativeZeroFloatBits"), (0, u "J"), (2, u "negativeZeroDoubleBits"), (21, u "max"), (46, u "$assertionsDisabled"), (0, u "Z"), (88, u "(II)I"), (2, u "twoToTheDoubleScaleDown"), (0, u "D"), (4, u "twoToTheDoubleScaleUp"), (9, u "E"), (3, u "PI"), (2, u "TAU"), (2, u "DEGREES_TO_RADIANS"), (0, u "RADIANS_TO_DEGREES")] 94

def k3m0 : Method := { name := "<init>", desc := "()V", sig := { parameters := [], returnType := none }, accessFlags := 2, code := none }
def k3c1 : Code := { maxStack := 2, maxLocals := 2, code := jdk_29_method_65_code, exceptionTable := #[], attributes := #[] }
def k3m1 : Method := { name := "max", desc := "(II)I", sig := { parameters := [.int, .int], returnType := some .int }, accessFlags := 9, code := some k3c1 }
/-- java/lang/Math -/
def k3 : Class := { plain "java/lang/Math" (some 0) with
  accessFlags := 49
  interfaces := #[]
  cf := some (fileOf pool3 1 #[.nestMembers #[98]] #[{ accessFlags := 2, nameIndex := 7, descriptorIndex := 8, attributes := #[] }, { accessFlags := 9, nameIndex := 198, descriptorIndex := 335, attributes := #[] }] 49 4 #[] #[{ accessFlags := 25, nameIndex := 354, descriptorIndex := 339, attributes := #[] }, { accessFlags := 25, nameIndex := 358, descriptorIndex := 339, attributes := #[] }, { accessFlags := 25, nameIndex := 361, descriptorIndex := 339, attributes := #[] }, { accessFlags := 26, nameIndex := 364, descriptorIndex := 339, attributes := #[] }, { accessFlags := 26, nameIndex := 365, descriptorIndex := 339, attributes := #[] }, { accessFlags := 26, nameIndex := 172, descriptorIndex := 173, attributes := #[] }, { accessFlags := 26, nameIndex := 176, descriptorIndex := 173, attributes := #[] }, { accessFlags := 8, nameIndex := 344, descriptorIndex := 339, attributes := #[] }, { accessFlags := 8, nameIndex := 338, descriptorIndex := 339, attributes := #[] }, { accessFlags := 4120, nameIndex := 245, descriptorIndex := 246, attributes := #[] }])
  fields := #[{ name := "E", type := .double, accessFlags := 25, slot := 0, constantValue := 0 }, { name := "PI", type := .double, accessFlags := 25, slot := 1, constantValue := 0 }, { name := "TAU", type := .double, accessFlags := 25, slot := 2, constantValue := 0 }, { name := "DEGREES_TO_RADIANS", type := .double, accessFlags := 26, slot := 3, constantValue := 0 }, { name := "RADIANS_TO_DEGREES", type := .double, accessFlags := 26, slot := 4, constantValue := 0 }, { name := "negativeZeroFloatBits", type := .long, accessFlags := 26, slot := 5, constantValue := 0 }, { name := "negativeZeroDoubleBits", type := .long, accessFlags := 26, slot := 6, constantValue := 0 }, { name := "twoToTheDoubleScaleUp", type := .double, accessFlags := 8, slot := 7, constantValue := 0 }, { name := "twoToTheDoubleScaleDown", type := .double, accessFlags := 8, slot := 8, constantValue := 0 }, { name := "$assertionsDisabled", type := .boolean, accessFlags := 4120, slot := 9, constantValue := 0 }]
  methods := #[k3m0, k3m1]
  instanceTypes := #[]
  staticTypes := #[.double, .double, .double, .double, .double, .long, .long, .double, .double, .boolean]
  resolved := Array.replicate 460 none
  statics := none }

def pool4 : Array CpInfo := pool [(1, u "java/lang/Cloneable"), (0, .class_ 1), (0, u "java/lang/Object"), (0, .class_ 3)] 3

/-- java/lang/Cloneable -/
def k4 : Class := { plain "java/lang/Cloneable" (some 0) with
  accessFlags := 1537
  interfaces := #[]
  cf := some (fileOf pool4 2 #[] #[] 1537 4 #[] #[])
  fields := #[]
  methods := #[]
  instanceTypes := #[]
  staticTypes := #[]
  resolved := Array.replicate 8 none
  statics := none }

def pool5 : Array CpInfo := pool [(1, u "java/io/Serializable"), (0, .class_ 1), (0, u "java/lang/Object"), (0, .class_ 3)] 3

/-- java/io/Serializable -/
def k5 : Class := { plain "java/io/Serializable" (some 0) with
  accessFlags := 1537
  interfaces := #[]
  cf := some (fileOf pool5 2 #[] #[] 1537 4 #[] #[])
  fields := #[]
  methods := #[]
  instanceTypes := #[]
  staticTypes := #[]
  resolved := Array.replicate 8 none
  statics := none }

/-- the primitive byte -/
def k6 : Class := { plain "byte" none with kind := .primitive 'B', accessFlags := 0x411 }
/-- [B -/
def k7 : Class := { plain "[B" (some 0) with kind := .array 6 .byte, interfaces := #[4, 5], accessFlags := 1041 }

/-- the primitive int -/
def k8 : Class := { plain "int" none with kind := .primitive 'I', accessFlags := 0x411 }
/-- [I -/
def k9 : Class := { plain "[I" (some 0) with kind := .array 8 .int, interfaces := #[4, 5], accessFlags := 1041 }

def heap : Heap := #[]
def classes : Array Class := #[k0, k1, k2, k3, k4, k5, k6, k7, k8, k9]
def interned : List (Array UInt16 × Addr) := []
def slotsUsed : Nat := 0
def theMethod : MethodId := ⟨1, 2⟩
def args0 : Array Value := #[.int 5, .int 9, .int 3, .int 1, .int 7, .int 2]
def aboutOver (below : List Frame) : State where
  vm := { classes := classes, interned := interned.toArray }
  heap := heap
  slotsUsed := slotsUsed
  threads := #[{ frames := .invoking theMethod args0 :: below }]
def below0 : List Frame := [.native { method := ⟨0, 0⟩, args := #[] }]
def about1 : State := aboutOver below0
def p0 : Program := .bare "" "" ""
def e0 : Env := launch0.env 0 0 0
theorem w_frames : about1.frames = Frame.invoking theMethod args0 :: below0 := rfl
set_option maxRecDepth 65536 in
theorem w_args : argsFit about1.vm theMethod args0 = true := by decide +kernel
set_option maxRecDepth 65536 in
theorem w_heap : heapFits about1 = true := by decide +kernel
set_option maxRecDepth 65536 in
theorem w_runnable : about1.curStatus? = some .runnable := by decide +kernel
set_option maxRecDepth 65536 in
theorem w_alone : about1.alone = true := by decide +kernel
set_option maxRecDepth 65536 in
theorem w_named : about1.methodNamed? x = some theMethod := by decide +kernel
set_option maxRecDepth 65536 in
theorem w_hears : about1.hears theMethod below0 = true := by decide +kernel
set_option maxRecDepth 65536 in
theorem w_ripe : about1.ripe theMethod args0 below0 = true := by decide +kernel
theorem w_running : about1.status = .running := rfl
set_option maxRecDepth 65536 in
theorem w_room : about1.hasRoom e0.platform room_1 = true :=
  launch0.hasRoom_least _ room_1 (by decide +kernel) (by decide +kernel) (by decide +kernel) (by decide +kernel) (by decide +kernel) (by decide +kernel)
theorem allAtoms_all (ts : List Jvm.Cond) (a : Array Jvm.Value) (st : Jvm.State) : (allAtoms ts).before a st = ts.all (fun c => c.before a st) := by
  induction ts with
  | nil => rfl
  | cons c t ih =>
    show (Jvm.Cond.and c (allAtoms t)).before a st = _
    rw [Jvm.Cond.before_and, ih, List.all_cons]
def words1 : List Jvm.Cond := Jvm.Cond.code x code maxLocals ret :: tables_1
/-- a 'code' word, met by the world's own term for the bytes: nothing is compared byte by byte -/
theorem code_word {y : MethodName} {bytes : ByteArray} {mx : Nat} {rt : Option FieldType} {a : Array Value} {s : State} {m : MethodId} {meth : Method} {c : Code} (h1 : s.methodNamed? y = some m) (h2 : s.vm.method? m = some meth) (h3 : meth.code = some c) (h4 : c.code = bytes)
    (h5 : (c.maxLocals == mx && c.exceptionTable.isEmpty && decide (c.maxStack ≤ mostOperands) && decide (meth.sig.returnType = rt) && !meth.locks && decide (parseMethodDescriptor y.desc = some meth.sig)) = true) : (Jvm.Cond.code y bytes mx rt).before a s = true := by
  simp only [Bool.and_eq_true, beq_iff_eq, Bool.not_eq_true', decide_eq_true_eq] at h5
  obtain ⟨⟨⟨⟨⟨g1, g2⟩, g3⟩, g4⟩, g5⟩, g6⟩ := h5
  simp [Cond.before, Cond.holds, Cond.value, h1, h2, h3, h4, g1, g2, g3, g4, g5, g6]
def isCode : Jvm.Cond → Bool
  | .code _ _ _ _ => true
  | _ => false
theorem all_split {L : List Jvm.Cond} {P : Jvm.Cond → Bool} (h1 : L.all (fun c => isCode c || P c) = true) (h2 : ∀ c ∈ L.filter isCode, P c = true) : L.all P = true := by
  refine List.all_eq_true.mpr fun c hc => ?_
  have h := List.all_eq_true.mp h1 c hc
  rcases Bool.eq_false_or_eq_true (isCode c) with hi | hi
  · exact h2 c (List.mem_filter.mpr ⟨hc, hi⟩)
  · simpa [hi] using h
set_option maxRecDepth 65536 in
theorem w_c0 : (Jvm.Cond.code x code maxLocals ret).before args0 about1 = true := code_word (m := ⟨1, 2⟩) (meth := k1m2) (c := k1c2) (by decide +kernel) rfl rfl rfl (by decide +kernel)
set_option maxRecDepth 65536 in
theorem w_c1 : (Jvm.Cond.code ({ cls := "com/example/shoal_creek/shoalcreek/MatchedSuffixesLengthEndingAtPinLaw", name := "slotsFor", desc := "(I)I" } : Jvm.MethodName) method_2_code (1 : Nat) (Option.some Jvm.ClassFile.FieldType.int)).before args0 about1 = true := code_word (m := ⟨1, 1⟩) (meth := k1m1) (c := k1c1) (by decide +kernel) rfl rfl rfl (by decide +kernel)
set_option maxRecDepth 65536 in
theorem w_c2 : (Jvm.Cond.code ({ cls := "com/example/shoal_creek/shoalcreek/MatchedSuffixes", name := "<init>", desc := "(I)V" } : Jvm.MethodName) prog_18_method_1_code (2 : Nat) (Option.none : Option Jvm.ClassFile.FieldType)).before args0 about1 = true := code_word (m := ⟨2, 0⟩) (meth := k2m0) (c := k2c0) (by decide +kernel) rfl rfl rfl (by decide +kernel)
set_option maxRecDepth 65536 in
theorem w_c3 : (Jvm.Cond.code ({ cls := "java/lang/Object", name := "<init>", desc := "()V" } : Jvm.MethodName) object_method_1_code (1 : Nat) (Option.none : Option Jvm.ClassFile.FieldType)).before args0 about1 = true := code_word (m := ⟨0, 0⟩) (meth := k0m0) (c := k0c0) (by decide +kernel) rfl rfl rfl (by decide +kernel)
set_option maxRecDepth 65536 in
theorem w_c4 : (Jvm.Cond.code ({ cls := "com/example/shoal_creek/shoalcreek/MatchedSuffixes", name := "remember", desc := "(III)V" } : Jvm.MethodName) prog_18_method_7_code (4 : Nat) (Option.none : Option Jvm.ClassFile.FieldType)).before args0 about1 = true := code_word (m := ⟨2, 2⟩) (meth := k2m2) (c := k2c2) (by decide +kernel) rfl rfl rfl (by decide +kernel)
set_option maxRecDepth 65536 in
theorem w_c5 : (Jvm.Cond.code ({ cls := "com/example/shoal_creek/shoalcreek/MatchedSuffixes", name := "allocate", desc := "()V" } : Jvm.MethodName) prog_18_method_9_code (2 : Nat) (Option.none : Option Jvm.ClassFile.FieldType)).before args0 about1 = true := code_word (m := ⟨2, 3⟩) (meth := k2m3) (c := k2c3) (by decide +kernel) rfl rfl rfl (by decide +kernel)
set_option maxRecDepth 65536 in
theorem w_c6 : (Jvm.Cond.code ({ cls := "com/example/shoal_creek/shoalcreek/MatchedSuffixes", name := "keep", desc := "(III)V" } : Jvm.MethodName) prog_18_method_10_code (5 : Nat) (Option.none : Option Jvm.ClassFile.FieldType)).before args0 about1 = true := code_word (m := ⟨2, 4⟩) (meth := k2m4) (c := k2c4) (by decide +kernel) rfl rfl rfl (by decide +kernel)
set_option maxRecDepth 65536 in
theorem w_c7 : (Jvm.Cond.code ({ cls := "java/lang/Math", name := "max", desc := "(II)I" } : Jvm.MethodName) jdk_29_method_65_code (2 : Nat) (Option.some Jvm.ClassFile.FieldType.int)).before args0 about1 = true := code_word (m := ⟨3, 1⟩) (meth := k3m1) (c := k3c1) (by decide +kernel) rfl rfl rfl (by decide +kernel)
set_option maxRecDepth 65536 in
theorem w_c8 : (Jvm.Cond.code ({ cls := "com/example/shoal_creek/shoalcreek/MatchedSuffixes", name := "lengthEndingAt", desc := "(I)I" } : Jvm.MethodName) prog_18_method_2_code (3 : Nat) (Option.some Jvm.ClassFile.FieldType.int)).before args0 about1 = true := code_word (m := ⟨2, 1⟩) (meth := k2m1) (c := k2c1) (by decide +kernel) rfl rfl rfl (by decide +kernel)
def codes1 : List Jvm.Cond := [Jvm.Cond.code x code maxLocals ret, Jvm.Cond.code ({ cls := "com/example/shoal_creek/shoalcreek/MatchedSuffixesLengthEndingAtPinLaw", name := "slotsFor", desc := "(I)I" } : Jvm.MethodName) method_2_code (1 : Nat) (Option.some Jvm.ClassFile.FieldType.int), Jvm.Cond.code ({ cls := "com/example/shoal_creek/shoalcreek/MatchedSuffixes", name := "<init>", desc := "(I)V" } : Jvm.MethodName) prog_18_method_1_code (2 : Nat) (Option.none : Option Jvm.ClassFile.FieldType), Jvm.Cond.code ({ cls := "java/lang/Object", name := "<init>", desc := "()V" } : Jvm.MethodName) object_method_1_code (1 : Nat) (Option.none : Option Jvm.ClassFile.FieldType), Jvm.Cond.code ({ cls := "com/example/shoal_creek/shoalcreek/MatchedSuffixes", name := "remember", desc := "(III)V" } : Jvm.MethodName) prog_18_method_7_code (4 : Nat) (Option.none : Option Jvm.ClassFile.FieldType), Jvm.Cond.code ({ cls := "com/example/shoal_creek/shoalcreek/MatchedSuffixes", name := "allocate", desc := "()V" } : Jvm.MethodName) prog_18_method_9_code (2 : Nat) (Option.none : Option Jvm.ClassFile.FieldType), Jvm.Cond.code ({ cls := "com/example/shoal_creek/shoalcreek/MatchedSuffixes", name := "keep", desc := "(III)V" } : Jvm.MethodName) prog_18_method_10_code (5 : Nat) (Option.none : Option Jvm.ClassFile.FieldType), Jvm.Cond.code ({ cls := "java/lang/Math", name := "max", desc := "(II)I" } : Jvm.MethodName) jdk_29_method_65_code (2 : Nat) (Option.some Jvm.ClassFile.FieldType.int), Jvm.Cond.code ({ cls := "com/example/shoal_creek/shoalcreek/MatchedSuffixes", name := "lengthEndingAt", desc := "(I)I" } : Jvm.MethodName) prog_18_method_2_code (3 : Nat) (Option.some Jvm.ClassFile.FieldType.int)]
set_option maxRecDepth 65536 in
theorem codes_eq : words1.filter isCode = codes1 := rfl
theorem w_codes : ∀ c ∈ words1.filter isCode, c.before args0 about1 = true := by
  rw [codes_eq]
  intro c hc
  simp only [codes1, List.mem_cons, List.not_mem_nil, or_false] at hc
  rcases hc with rfl | rfl | rfl | rfl | rfl | rfl | rfl | rfl | rfl
  · exact w_c0
  · exact w_c1
  · exact w_c2
  · exact w_c3
  · exact w_c4
  · exact w_c5
  · exact w_c6
  · exact w_c7
  · exact w_c8
set_option maxRecDepth 65536 in
theorem w_t1 : (words1.take 24).all (fun c => isCode c || c.before args0 about1) = true := by decide +kernel
set_option maxRecDepth 65536 in
theorem w_t2 : ((words1.drop 24).take 24).all (fun c => isCode c || c.before args0 about1) = true := by decide +kernel
set_option maxRecDepth 65536 in
theorem w_t3 : ((words1.drop 24).drop 24).all (fun c => isCode c || c.before args0 about1) = true := by decide +kernel
theorem w_tables : (allAtoms (Jvm.Cond.code x code maxLocals ret :: tables_1)).before args0 about1 = true := by
  rw [allAtoms_all]
  show words1.all (fun c => c.before args0 about1) = true
  refine all_split ?_ w_codes
  rw [← List.take_append_drop 24 words1, List.all_append, w_t1, ← List.take_append_drop 24 (words1.drop 24), List.all_append, w_t2, w_t3]
  rfl
set_option maxRecDepth 65536 in
theorem w_case : (Jvm.Cond.and given_1 narrow_1).before args0 about1 = true := by decide +kernel
theorem w_applies : (headSpec (Jvm.Cond.code x code maxLocals ret :: tables_1) room_1).applies x e0.platform about1 = true :=
  (Spec.applies_iff w_frames).mpr ⟨w_running, w_runnable, w_alone, w_named, w_hears, w_ripe, w_room, w_tables⟩
theorem atStart : AtStart classFile x code maxLocals ret World_1 tables_1 room_1 Calls_1 rest_1 Pre_1 launch0 p0 e0 about1 theMethod args0 below0 :=
  ⟨lists_1, trivial, launch0.admits_env _ _ _, launch0.least_env, fairChoices_fair.cas, fairChoices_fair.clock, w_frames, w_args, w_heap, w_applies, trivial, trivial, w_case⟩
end start1
theorem witness_1 : WitnessClaimed_1 := ⟨start1.p0, start1.e0, start1.about1, start1.theMethod, start1.args0, start1.below0, start1.atStart⟩
end Jvm.Pilot.@@N@@
