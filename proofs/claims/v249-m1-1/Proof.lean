import JvmDerived
import JvmDerived.Pilot.@@N@@Statement
import JvmDerived.Pilot.@@N@@Code
set_option linter.unusedVariables false
set_option linter.unusedSimpArgs false
@@BLOCK:NumsL.lean.txt@@
namespace Jvm.Pilot.@@N@@
open Jvm Jvm.ClassFile Sem Op Lib Jvm.Free Jvm.Stand Jvm.LawKit Jvm.RoadKit Bundle Jvm.Pilot.@@N@@.Jvm.D
/-! OWN 1: a walk in continuation form: 'Go' says that from here the invocation ends well; one law a step carries it backwards -/
section OwnGo
variable {p : Program} {l : Launch} {e : Env} {R : Room} {s : State} {m : MethodId} {args : Array Value} {below : List Frame} {meth : Method} {c : Code} {Z : State} {y : MethodName} {bytes : ByteArray} {mx : Nat} {ret : Option FieldType} {n0 : Nat} {T T' : State} {h h' : Heap} {cells slots : Nat} {Q : Outcome → State → Prop} {pc pc' : Nat} {Ls : Array Slot} {st : List Value} {a0 : Array Value}
def Go (p : Program) (e : Env) (below : List Frame) (Q : Outcome → State → Prop) (t : State) : Prop := ∃ s₂ o, Steps p.tables e below t s₂ ∧ s₂.status = .running ∧ Ended s₂ below o ∧ Q o s₂
theorem Go.of {t t' : State} (k : ∀ u, Steps p.tables e below t' u → Steps p.tables e below t u) (G : Go p e below Q t') : Go p e below Q t := by
  obtain ⟨s₂, o, h1, h2⟩ := G; exact ⟨s₂, o, k _ h1, h2⟩
theorem Go.tr {t t' : State} (k : Steps p.tables e below t t') (G : Go p e below Q t') : Go p e below Q t := Go.of (fun _ h => k.trans h) G
/-- the place: all that a step asks of where the walk stands -/
def Pl (p : Program) (l : Launch) (e : Env) (R : Room) (s : State) (m : MethodId) (args : Array Value) (below : List Frame) (meth : Method) (c : Code) (Z : State) (y : MethodName) (bytes : ByteArray) (mx : Nat) (ret : Option FieldType) (n0 : Nat) (T : State) (h : Heap) (cells slots : Nat) : Prop :=
  (p.tables.exec = Jvm.exec ∧ Z.Warmed39 s.vm ∧ s.vm.findClass y.cls = some m.cls ∧ meth.name = y.name ∧ c.code = bytes ∧ c.maxLocals = mx ∧ meth.sig.returnType = ret ∧ meth.locks = false) ∧ ∃ locs, Stand p l e R s m args below meth c T locs cells slots ∧ Fr n0 locs ∧ T.heap = h
theorem Pl.here (P : Pl p l e R s m args below meth c Z y bytes mx ret n0 T h cells slots) : At T m c below := by obtain ⟨-, _, X, -⟩ := P; exact X.here
theorem Pl.hx (P : Pl p l e R s m args below meth c Z y bytes mx ret n0 T h cells slots) : p.tables.exec = Jvm.exec := P.1.1
theorem Pl.hZ (P : Pl p l e R s m args below meth c Z y bytes mx ret n0 T h cells slots) : Z.Warmed39 s.vm := P.1.2.1
theorem Pl.hown (P : Pl p l e R s m args below meth c Z y bytes mx ret n0 T h cells slots) : s.vm.findClass y.cls = some m.cls := P.1.2.2.1
theorem Pl.hnm (P : Pl p l e R s m args below meth c Z y bytes mx ret n0 T h cells slots) : meth.name = y.name := P.1.2.2.2.1
theorem Pl.hby (P : Pl p l e R s m args below meth c Z y bytes mx ret n0 T h cells slots) : c.code = bytes := P.1.2.2.2.2.1
theorem Pl.hml (P : Pl p l e R s m args below meth c Z y bytes mx ret n0 T h cells slots) : c.maxLocals = mx := P.1.2.2.2.2.2.1
theorem Pl.hrt (P : Pl p l e R s m args below meth c Z y bytes mx ret n0 T h cells slots) : meth.sig.returnType = ret := P.1.2.2.2.2.2.2.1
theorem Pl.hlk (P : Pl p l e R s m args below meth c Z y bytes mx ret n0 T h cells slots) : meth.locks = false := P.1.2.2.2.2.2.2.2
theorem Pl.up (P : Pl p l e R s m args below meth c Z y bytes mx ret n0 T h cells slots) {cells' slots' : Nat} (h1 : cells ≤ cells') (h2 : slots ≤ slots') : Pl p l e R s m args below meth c Z y bytes mx ret n0 T h cells' slots' := by
  obtain ⟨B, locs, X, N, eT⟩ := P
  exact ⟨B, locs, ⟨X.admits, X.cas, X.clock, X.frames, X.room, X.hears, X.method, X.code, X.here, X.tail, X.warmed, X.limits, X.bytes, X.same.mono h1 h2⟩, N, eT⟩
/-- a decode fact, with the place behind it -/
def D (b : ByteArray) (pc : Nat) (i : Instr) (n : Nat) (pc' : Nat) : Prop := decode b pc = .ok (i, n) ∧ pc + n = pc'
theorem Pl.dec (P : Pl p l e R s m args below meth c Z y bytes mx ret n0 T h cells slots) {i : Instr} {n : Nat} (hd : decode bytes pc = .ok (i, n)) : decode c.code pc = .ok (i, n) := by rw [P.hby]; exact hd

theorem g_iloadN (P : Pl p l e R s m args below meth c Z y bytes mx ret n0 T h cells slots) {k : Fin 4} {v : Int32} (hd : D bytes pc (.iload_n k) 1 pc') (hl : Ls[k.val]? = some (.val (.int v))) (G : Go p e below Q (T.setTop (mkF m pc' Ls (.int v :: st)))) : Go p e below Q (T.setTop (mkF m pc Ls st)) := by
  obtain ⟨hd, rfl⟩ := hd; exact Go.of (fun _ => XS.iloadN P.here P.hx rfl (P.dec hd) hl) G
theorem g_iload (P : Pl p l e R s m args below meth c Z y bytes mx ret n0 T h cells slots) {k : Nat} {v : Int32} (hd : D bytes pc (.iload k) 2 pc') (hl : Ls[k]? = some (.val (.int v))) (G : Go p e below Q (T.setTop (mkF m pc' Ls (.int v :: st)))) : Go p e below Q (T.setTop (mkF m pc Ls st)) := by
  obtain ⟨hd, rfl⟩ := hd; exact Go.of (fun _ => XS.iload P.here P.hx rfl (P.dec hd) hl) G
theorem g_lload (P : Pl p l e R s m args below meth c Z y bytes mx ret n0 T h cells slots) {k : Nat} {v : Int64} (hd : D bytes pc (.lload k) 2 pc') (hl : Ls[k]? = some (.val (.long v))) (G : Go p e below Q (T.setTop (mkF m pc' Ls (.long v :: st)))) : Go p e below Q (T.setTop (mkF m pc Ls st)) := by
  obtain ⟨hd, rfl⟩ := hd; exact Go.of (fun _ => XT.lload P.here P.hx rfl (P.dec hd) hl) G
theorem g_aloadN (P : Pl p l e R s m args below meth c Z y bytes mx ret n0 T h cells slots) {k : Fin 4} {v : Value} (hd : D bytes pc (.aload_n k) 1 pc') (hl : Ls[k.val]? = some (.val v)) (hv : v.isRef = true) (G : Go p e below Q (T.setTop (mkF m pc' Ls (v :: st)))) : Go p e below Q (T.setTop (mkF m pc Ls st)) := by
  obtain ⟨hd, rfl⟩ := hd; exact Go.of (fun _ => XS.aloadN P.here P.hx rfl (P.dec hd) hl hv) G
theorem g_aload (P : Pl p l e R s m args below meth c Z y bytes mx ret n0 T h cells slots) {k : Nat} {v : Value} (hd : D bytes pc (.aload k) 2 pc') (hl : Ls[k]? = some (.val v)) (hv : v.isRef = true) (G : Go p e below Q (T.setTop (mkF m pc' Ls (v :: st)))) : Go p e below Q (T.setTop (mkF m pc Ls st)) := by
  obtain ⟨hd, rfl⟩ := hd; exact Go.of (fun _ => XS.aload P.here P.hx rfl (P.dec hd) hl hv) G
theorem g_iconst (P : Pl p l e R s m args below meth c Z y bytes mx ret n0 T h cells slots) {i : Int} {v : Int32} (hd : D bytes pc (.iconst i) 1 pc') (hv : Int32.ofInt i = v) (G : Go p e below Q (T.setTop (mkF m pc' Ls (.int v :: st)))) : Go p e below Q (T.setTop (mkF m pc Ls st)) := by
  obtain ⟨hd, rfl⟩ := hd; subst hv; exact Go.of (fun _ => XS.iconst P.here P.hx rfl (P.dec hd)) G
theorem g_bipush (P : Pl p l e R s m args below meth c Z y bytes mx ret n0 T h cells slots) {i : Int} {v : Int32} (hd : D bytes pc (.bipush i) 2 pc') (hv : (Int8.ofInt i).toInt32 = v) (G : Go p e below Q (T.setTop (mkF m pc' Ls (.int v :: st)))) : Go p e below Q (T.setTop (mkF m pc Ls st)) := by
  obtain ⟨hd, rfl⟩ := hd; subst hv; exact Go.of (fun _ => XS.bipush P.here P.hx rfl (P.dec hd)) G
theorem g_aconstNull (P : Pl p l e R s m args below meth c Z y bytes mx ret n0 T h cells slots) (hd : D bytes pc .aconst_null 1 pc') (G : Go p e below Q (T.setTop (mkF m pc' Ls (.null :: st)))) : Go p e below Q (T.setTop (mkF m pc Ls st)) := by
  obtain ⟨hd, rfl⟩ := hd; exact Go.of (fun _ => XS.aconstNull P.here P.hx rfl (P.dec hd)) G
theorem g_iadd (P : Pl p l e R s m args below meth c Z y bytes mx ret n0 T h cells slots) {x z v : Int32} (hd : D bytes pc .iadd 1 pc') (hv : x + z = v) (G : Go p e below Q (T.setTop (mkF m pc' Ls (.int v :: st)))) : Go p e below Q (T.setTop (mkF m pc Ls (.int z :: .int x :: st))) := by
  obtain ⟨hd, rfl⟩ := hd; subst hv; exact Go.of (fun _ => XS.iadd P.here P.hx rfl (P.dec hd) rfl) G
theorem g_isub (P : Pl p l e R s m args below meth c Z y bytes mx ret n0 T h cells slots) {x z v : Int32} (hd : D bytes pc .isub 1 pc') (hv : x - z = v) (G : Go p e below Q (T.setTop (mkF m pc' Ls (.int v :: st)))) : Go p e below Q (T.setTop (mkF m pc Ls (.int z :: .int x :: st))) := by
  obtain ⟨hd, rfl⟩ := hd; subst hv; exact Go.of (fun _ => XS.isub P.here P.hx rfl (P.dec hd) rfl) G
theorem g_imul (P : Pl p l e R s m args below meth c Z y bytes mx ret n0 T h cells slots) {x z v : Int32} (hd : D bytes pc .imul 1 pc') (hv : x * z = v) (G : Go p e below Q (T.setTop (mkF m pc' Ls (.int v :: st)))) : Go p e below Q (T.setTop (mkF m pc Ls (.int z :: .int x :: st))) := by
  obtain ⟨hd, rfl⟩ := hd; subst hv; exact Go.of (fun _ => XS.imul P.here P.hx rfl (P.dec hd) rfl) G
theorem g_iand (P : Pl p l e R s m args below meth c Z y bytes mx ret n0 T h cells slots) {x z v : Int32} (hd : D bytes pc .iand 1 pc') (hv : x &&& z = v) (G : Go p e below Q (T.setTop (mkF m pc' Ls (.int v :: st)))) : Go p e below Q (T.setTop (mkF m pc Ls (.int z :: .int x :: st))) := by
  obtain ⟨hd, rfl⟩ := hd; subst hv; exact Go.of (fun _ => XS.iand P.here P.hx rfl (P.dec hd) rfl) G
theorem g_irem (P : Pl p l e R s m args below meth c Z y bytes mx ret n0 T h cells slots) {x z v : Int32} (hd : D bytes pc .irem 1 pc') (hz : z ≠ 0) (hv : x % z = v) (G : Go p e below Q (T.setTop (mkF m pc' Ls (.int v :: st)))) : Go p e below Q (T.setTop (mkF m pc Ls (.int z :: .int x :: st))) := by
  obtain ⟨hd, rfl⟩ := hd; subst hv; obtain ⟨-, _, X, -⟩ := id P; exact Go.of (fun _ => iremM X P.hx rfl (P.dec hd) rfl hz) G
theorem g_iushr (P : Pl p l e R s m args below meth c Z y bytes mx ret n0 T h cells slots) {x z v : Int32} (hd : D bytes pc .iushr 1 pc') (hv : XT.ushr x z = v) (G : Go p e below Q (T.setTop (mkF m pc' Ls (.int v :: st)))) : Go p e below Q (T.setTop (mkF m pc Ls (.int z :: .int x :: st))) := by
  obtain ⟨hd, rfl⟩ := hd; subst hv; exact Go.of (fun _ => XT.iushr P.here P.hx rfl (P.dec hd) rfl) G
theorem g_ineg (P : Pl p l e R s m args below meth c Z y bytes mx ret n0 T h cells slots) {x : Int32} (hd : D bytes pc .ineg 1 pc') (G : Go p e below Q (T.setTop (mkF m pc' Ls (.int (-x) :: st)))) : Go p e below Q (T.setTop (mkF m pc Ls (.int x :: st))) := by
  obtain ⟨hd, rfl⟩ := hd; exact Go.of (fun _ => XS.ineg P.here P.hx rfl (P.dec hd) rfl) G
theorem g_dup (P : Pl p l e R s m args below meth c Z y bytes mx ret n0 T h cells slots) {x : Value} (hd : D bytes pc .dup 1 pc') (hc : x.category = 1) (G : Go p e below Q (T.setTop (mkF m pc' Ls (x :: x :: st)))) : Go p e below Q (T.setTop (mkF m pc Ls (x :: st))) := by
  obtain ⟨hd, rfl⟩ := hd; exact Go.of (fun _ => XS.dup P.here P.hx rfl (P.dec hd) rfl hc) G
theorem g_pop (P : Pl p l e R s m args below meth c Z y bytes mx ret n0 T h cells slots) {x : Value} (hd : D bytes pc .pop 1 pc') (hc : x.category = 1) (G : Go p e below Q (T.setTop (mkF m pc' Ls st))) : Go p e below Q (T.setTop (mkF m pc Ls (x :: st))) := by
  obtain ⟨hd, rfl⟩ := hd; exact Go.of (fun _ => XT.pop P.here P.hx rfl (P.dec hd) rfl hc) G
theorem g_istoreN (P : Pl p l e R s m args below meth c Z y bytes mx ret n0 T h cells slots) {k : Fin 4} {x : Int32} (hd : D bytes pc (.istore_n k) 1 pc') (l' : Array Slot) (hl : storeLocals Ls k.val (.int x) = some l') (G : Go p e below Q (T.setTop (mkF m pc' l' st))) : Go p e below Q (T.setTop (mkF m pc Ls (.int x :: st))) := by
  obtain ⟨hd, rfl⟩ := hd; exact Go.of (fun _ => XS.istoreN P.here P.hx rfl (P.dec hd) rfl hl) G
theorem g_istore (P : Pl p l e R s m args below meth c Z y bytes mx ret n0 T h cells slots) {k : Nat} {x : Int32} (hd : D bytes pc (.istore k) 2 pc') (l' : Array Slot) (hl : storeLocals Ls k (.int x) = some l') (G : Go p e below Q (T.setTop (mkF m pc' l' st))) : Go p e below Q (T.setTop (mkF m pc Ls (.int x :: st))) := by
  obtain ⟨hd, rfl⟩ := hd; exact Go.of (fun _ => XS.istore P.here P.hx rfl (P.dec hd) rfl hl) G
theorem g_lstore (P : Pl p l e R s m args below meth c Z y bytes mx ret n0 T h cells slots) {k : Nat} {x : Int64} (hd : D bytes pc (.lstore k) 2 pc') (l' : Array Slot) (hl : storeLocals Ls k (.long x) = some l') (G : Go p e below Q (T.setTop (mkF m pc' l' st))) : Go p e below Q (T.setTop (mkF m pc Ls (.long x :: st))) := by
  obtain ⟨hd, rfl⟩ := hd; exact Go.of (fun _ => XT.lstore P.here P.hx rfl (P.dec hd) rfl hl) G
theorem g_astoreN (P : Pl p l e R s m args below meth c Z y bytes mx ret n0 T h cells slots) {k : Fin 4} {x : Value} (hd : D bytes pc (.astore_n k) 1 pc') (hv : x.isRef = true) (l' : Array Slot) (hl : storeLocals Ls k.val x = some l') (G : Go p e below Q (T.setTop (mkF m pc' l' st))) : Go p e below Q (T.setTop (mkF m pc Ls (x :: st))) := by
  obtain ⟨hd, rfl⟩ := hd; exact Go.of (fun _ => XS.astoreN P.here P.hx rfl (P.dec hd) rfl hv hl) G
theorem g_astore (P : Pl p l e R s m args below meth c Z y bytes mx ret n0 T h cells slots) {k : Nat} {x : Value} (hd : D bytes pc (.astore k) 2 pc') (hv : x.isRef = true) (l' : Array Slot) (hl : storeLocals Ls k x = some l') (G : Go p e below Q (T.setTop (mkF m pc' l' st))) : Go p e below Q (T.setTop (mkF m pc Ls (x :: st))) := by
  obtain ⟨hd, rfl⟩ := hd; exact Go.of (fun _ => XS.astore P.here P.hx rfl (P.dec hd) rfl hv hl) G
theorem g_iinc (P : Pl p l e R s m args below meth c Z y bytes mx ret n0 T h cells slots) {k : Nat} {cst : Int} {x w : Int32} (hd : D bytes pc (.iinc k cst) 3 pc') (hl : Ls[k]? = some (.val (.int x))) (hw : x + Int32.ofInt cst = w) (l' : Array Slot) (hl' : storeLocals Ls k (.int w) = some l') (G : Go p e below Q (T.setTop (mkF m pc' l' st))) : Go p e below Q (T.setTop (mkF m pc Ls st)) := by
  obtain ⟨hd, rfl⟩ := hd; subst hw; exact Go.of (fun _ => XS.iinc P.here P.hx rfl (P.dec hd) hl hl') G
theorem g_goto (P : Pl p l e R s m args below meth c Z y bytes mx ret n0 T h cells slots) {o : Int} {q : Nat} (hd : D bytes pc (.goto o) 3 q) (pc' : Nat) (ho : 0 ≤ (pc : Int) + o) (hp : ((pc : Int) + o).toNat = pc') (G : Go p e below Q (T.setTop (mkF m pc' Ls st))) : Go p e below Q (T.setTop (mkF m pc Ls st)) := by
  obtain ⟨hd, -⟩ := hd; exact Go.of (fun _ => XS.goto P.here P.hx rfl rfl (P.dec hd) ho hp) G
theorem g_ifYes (P : Pl p l e R s m args below meth c Z y bytes mx ret n0 T h cells slots) {cd : ClassFile.Cond} {x : Int32} {o : Int} {q : Nat} (hd : D bytes pc (.ifCond cd o) 3 q) (hc : ifCond.holds cd x = true) (pc' : Nat) (ho : 0 ≤ (pc : Int) + o) (hp : ((pc : Int) + o).toNat = pc') (G : Go p e below Q (T.setTop (mkF m pc' Ls st))) : Go p e below Q (T.setTop (mkF m pc Ls (.int x :: st))) := by
  obtain ⟨hd, -⟩ := hd; exact Go.of (fun _ => XS.ifYes P.here P.hx rfl rfl (P.dec hd) rfl hc ho hp) G
theorem g_ifNo (P : Pl p l e R s m args below meth c Z y bytes mx ret n0 T h cells slots) {cd : ClassFile.Cond} {x : Int32} {o : Int} (hd : D bytes pc (.ifCond cd o) 3 pc') (hc : ifCond.holds cd x = false) (G : Go p e below Q (T.setTop (mkF m pc' Ls st))) : Go p e below Q (T.setTop (mkF m pc Ls (.int x :: st))) := by
  obtain ⟨hd, rfl⟩ := hd; exact Go.of (fun _ => XS.ifNo P.here P.hx rfl (P.dec hd) rfl hc) G
theorem g_icmpYes (P : Pl p l e R s m args below meth c Z y bytes mx ret n0 T h cells slots) {cd : ClassFile.Cond} {x z : Int32} {o : Int} {q : Nat} (hd : D bytes pc (.if_icmp cd o) 3 q) (hc : if_icmp.holds cd x z = true) (pc' : Nat) (ho : 0 ≤ (pc : Int) + o) (hp : ((pc : Int) + o).toNat = pc') (G : Go p e below Q (T.setTop (mkF m pc' Ls st))) : Go p e below Q (T.setTop (mkF m pc Ls (.int z :: .int x :: st))) := by
  obtain ⟨hd, -⟩ := hd; exact Go.of (fun _ => XS.icmpYes P.here P.hx rfl rfl (P.dec hd) rfl hc ho hp) G
theorem g_icmpNo (P : Pl p l e R s m args below meth c Z y bytes mx ret n0 T h cells slots) {cd : ClassFile.Cond} {x z : Int32} {o : Int} (hd : D bytes pc (.if_icmp cd o) 3 pc') (hc : if_icmp.holds cd x z = false) (G : Go p e below Q (T.setTop (mkF m pc' Ls st))) : Go p e below Q (T.setTop (mkF m pc Ls (.int z :: .int x :: st))) := by
  obtain ⟨hd, rfl⟩ := hd; exact Go.of (fun _ => XS.icmpNo P.here P.hx rfl (P.dec hd) rfl hc) G
theorem g_acmpYes (P : Pl p l e R s m args below meth c Z y bytes mx ret n0 T h cells slots) {cd : ClassFile.ACond} {x z : Value} {o : Int} {q : Nat} (hd : D bytes pc (.if_acmp cd o) 3 q) (hx' : x.isRef = true) (hz' : z.isRef = true) (hc : XT.acmp cd x z = true) (pc' : Nat) (ho : 0 ≤ (pc : Int) + o) (hp : ((pc : Int) + o).toNat = pc') (G : Go p e below Q (T.setTop (mkF m pc' Ls st))) : Go p e below Q (T.setTop (mkF m pc Ls (z :: x :: st))) := by
  obtain ⟨hd, -⟩ := hd; exact Go.of (fun _ => XT.acmpYes P.here P.hx rfl rfl (P.dec hd) rfl hx' hz' hc ho hp) G
theorem g_acmpNo (P : Pl p l e R s m args below meth c Z y bytes mx ret n0 T h cells slots) {cd : ClassFile.ACond} {x z : Value} {o : Int} (hd : D bytes pc (.if_acmp cd o) 3 pc') (hx' : x.isRef = true) (hz' : z.isRef = true) (hc : XT.acmp cd x z = false) (G : Go p e below Q (T.setTop (mkF m pc' Ls st))) : Go p e below Q (T.setTop (mkF m pc Ls (z :: x :: st))) := by
  obtain ⟨hd, rfl⟩ := hd; exact Go.of (fun _ => XT.acmpNo P.here P.hx rfl (P.dec hd) rfl hx' hz' hc) G
theorem g_ldc (P : Pl p l e R s m args below meth c Z y bytes mx ret n0 T h cells slots) {index : Nat} {v : Int32} (hd : D bytes pc (.ldc index) 2 pc') (w : (Cond.constant y.cls index v).before a0 Z = true) (G : Go p e below Q (T.setTop (mkF m pc' Ls (.int v :: st)))) : Go p e below Q (T.setTop (mkF m pc Ls st)) := by
  obtain ⟨hd, rfl⟩ := hd; obtain ⟨-, _, X, -⟩ := id P; exact Go.of (fun _ => X.ldcI P.hx P.hown (mvT P.hZ w) rfl (P.dec hd)) G
/-! what the heap or the tables are asked -/
theorem g_getF (P : Pl p l e R s m args below meth c Z y bytes mx ret n0 T h cells slots) {R0 O n d host : String} {index : Nat} {a : Addr} {v : Value} (hd : D bytes pc (.getfield index) 3 pc') (w : (Cond.fieldLink y.cls index R0 n d).before a0 Z = true ∨ (Cond.fieldLinkNest y.cls index R0 n d host).before a0 Z = true) (via : Via Z R0 O n d) (F : Fld Z h a O n d v)
    (G : ∀ T', Pl p l e R s m args below meth c Z y bytes mx ret n0 T' h cells slots → Go p e below Q (T'.setTop (mkF m pc' Ls (v :: st)))) : Go p e below Q (T.setTop (mkF m pc Ls (.ref a :: st))) := by
  obtain ⟨hd, rfl⟩ := hd; obtain ⟨B, locs, X, N, eT⟩ := id P
  obtain ⟨T', X', e', stp⟩ := getF X P.hx P.hZ P.hown w via eT F (g := mkF m pc Ls (.ref a :: st)) rfl rfl (P.dec hd)
  exact Go.of stp (G T' ⟨B, locs, X', N, e'⟩)
theorem g_getS (P : Pl p l e R s m args below meth c Z y bytes mx ret n0 T h cells slots) {R0 O n d host : String} {index : Nat} {v : Value} (hd : D bytes pc (.getstatic index) 3 pc') (w : (Cond.fieldLink y.cls index R0 n d).before a0 Z = true ∨ (Cond.fieldLinkNest y.cls index R0 n d host).before a0 Z = true) (via : Via Z R0 O n d) (F : Sta Z h O n d v)
    (G : ∀ T', Pl p l e R s m args below meth c Z y bytes mx ret n0 T' h cells slots → Go p e below Q (T'.setTop (mkF m pc' Ls (v :: st)))) : Go p e below Q (T.setTop (mkF m pc Ls st)) := by
  obtain ⟨hd, rfl⟩ := hd; obtain ⟨B, locs, X, N, eT⟩ := id P
  obtain ⟨T', X', e', stp⟩ := getS2 X P.hx P.hZ P.hown w via eT F (g := mkF m pc Ls st) rfl (P.dec hd)
  exact Go.of stp (G T' ⟨B, locs, X', N, e'⟩)
theorem g_putF (P : Pl p l e R s m args below meth c Z y bytes mx ret n0 T h cells slots) {R0 O n d host C : String} {index kk : Nat} {ty : FieldType} {a : Addr} {v old : Value} (hd : D bytes pc (.putfield index) 3 pc') (w : (Cond.fieldLink y.cls index R0 n d).before a0 Z = true ∨ (Cond.fieldLinkNest y.cls index R0 n d host).before a0 Z = true) (via : Via Z R0 O n d) (F : Fld Z h a O n d old) (E : Exa Z h a C)
    (L : (Cond.lays C O n d).before a0 Z = true ∨ ((Cond.laysFinal C O n d).before a0 Z = true ∧ y.cls = O ∧ y.name = "<init>")) (wi : (Cond.instantiable C kk).before a0 Z = true) (hty : parseFieldDescriptor d = some ty) (hn : narrow ty v = v) (hf : fits ty v = true) (ge : n0 ≤ a)
    (G : ∀ T' h', Pl p l e R s m args below meth c Z y bytes mx ret n0 T' h' cells slots → Wr h h' a (Jvm.RoadKit.slotOf Z O n d) v → Go p e below Q (T'.setTop (mkF m pc' Ls st))) : Go p e below Q (T.setTop (mkF m pc Ls (v :: .ref a :: st))) := by
  obtain ⟨hd, rfl⟩ := hd; obtain ⟨B, locs, X, N, eT⟩ := id P
  obtain ⟨T', h', X', e', W, stp⟩ := putF X P.hx P.hZ P.hown w via eT F E (L.imp id fun q => ⟨q.1, q.2.1, P.hnm.trans q.2.2⟩) wi hty hn hf (g := mkF m pc Ls (v :: .ref a :: st)) rfl rfl (P.dec hd)
  exact Go.of stp (G T' h' ⟨B, _, X', Fr.snoc X' N ge, e'⟩ W)
theorem g_new (P : Pl p l e R s m args below meth c Z y bytes mx ret n0 T h cells slots) {C : String} {index n : Nat} (hd : D bytes pc (.new index) 3 pc') (w : (Cond.classLink y.cls index C).before a0 Z = true) (wi : (Cond.instantiable C n).before a0 Z = true) (wz : (Cond.initialized C).before a0 Z = true) (hc : cells + 1 ≤ R.cells) (hl : slots + n ≤ R.slots)
    (G : ∀ T' h' a, Pl p l e R s m args below meth c Z y bytes mx ret n0 T' h' (cells + 1) (slots + n) → h.size = a → Ext h h' → Exa Z h' a C → (∀ {O nm d : String} {ty : FieldType}, Laid Z a0 C O nm d → parseFieldDescriptor d = some ty → Fld Z h' a O nm d (defaultValue ty)) → Go p e below Q (T'.setTop (mkF m pc' Ls (.ref a :: st)))) : Go p e below Q (T.setTop (mkF m pc Ls st)) := by
  obtain ⟨hd, rfl⟩ := hd; obtain ⟨B, locs, X, N, eT⟩ := id P
  obtain ⟨T', h', X', e', E, A, F, -, stp⟩ := newO X P.hx P.hZ P.hown w wi wz eT (g := mkF m pc Ls st) rfl (P.dec hd) hc hl
  exact Go.of stp (G T' h' _ ⟨B, locs, X', N, e'⟩ rfl E A F)
theorem g_init (P : Pl p l e R s m args below meth c Z y bytes mx ret n0 T h cells slots) {idx : Nat} {a : Addr} (hd : D bytes pc (.invokespecial idx) 3 pc') (w1 : (Cond.methodLink y.cls idx Lib.objectInit).before a0 Z = true) (w2 : (Cond.instanceMethod Lib.objectInit).before a0 Z = true) (w3 : (Cond.code Lib.objectInit ⟨#[0xb1]⟩ 1 none).before a0 Z = true)
    (hs : Ls.size = mx) (hf : 1 ≤ R.frames) {W : Nat} (hW : (st.map fun v => v.category).sum = W) (hl : W + 12 ≤ R.locals)
    (G : ∀ T', Pl p l e R s m args below meth c Z y bytes mx ret n0 T' h cells slots → Go p e below Q (T'.setTop (mkF m pc' Ls st))) : Go p e below Q (T.setTop (mkF m pc Ls (.ref a :: st))) := by
  obtain ⟨hd, rfl⟩ := hd; obtain ⟨B, locs, X, N, eT⟩ := id P
  obtain ⟨T', X', e', stp⟩ := initO X P.hx P.hZ P.hown w1 w2 w3 eT (g := mkF m pc Ls (.ref a :: st)) rfl (by rw [P.hml]; exact hs) rfl (P.dec hd) hf (W := W) (by show 2 * 0 + _ ≤ W; omega) hl
  exact Go.of stp (G T' ⟨B, locs, X', N, e'⟩)
/-! what a body leaves; its contract; the ends -/
def Done (s : State) (R : Room) (n0 : Nat) (Qc : Option Value → Heap → Prop) (o : Outcome) (U : State) : Prop := ∃ v L, o = .returned v ∧ (Fr n0 L ∧ Qc v U.heap) ∧ FrameEnd s o U L R.cells R.slots
def Met (l : Launch) (Z : State) (y : MethodName) (bytes : ByteArray) (mx : Nat) (ret : Option FieldType) (rm : Room) (n0 : Nat) (as' : Array Value) (h : Heap) (Qc : Option Value → Heap → Prop) : Prop :=
  ∀ ws, MetFree l y (head1 (Jvm.Cond.code y bytes mx ret :: ws) rm) (fun a U => a = as' ∧ Z.Warmed39 U.vm ∧ U.heap = h) (fun _ _ _ _ _ => True) (fun _ U o U' => ∃ v L, o = .returned v ∧ (Fr n0 L ∧ Qc v U'.heap) ∧ FrameEnd U o U' L rm.cells rm.slots)
theorem Met.intro {Qc : Option Value → Heap → Prop} {rm : Room} {as' : Array Value} (pn : plainFor y = true)
    (body : ∀ p e s m below meth c T, Pl p l e rm s m as' below meth c Z y bytes mx ret n0 T h 0 0 → Go p e below (Done s rm n0 Qc) (T.setTop (entryFrame m as' mx))) : Met l Z y bytes mx ret rm n0 as' h Qc := by
  intro ws
  refine MetFree.of_bodySF pn hisR ?_
  intro p e s m args below meth c s₁ Bd hml0 hP hK
  obtain ⟨rfl, hZ, hh⟩ := hP
  have X0 : Stand p l e rm s m args below meth c s₁ [] 0 0 := Stand.of_body Bd
  have e0 : s₁.heap = h := by rw [← hh, Bd.state]; rfl
  exact body p e s m below meth c s₁ ⟨⟨Bd.exec, hZ, findClass_of_methodNamed Bd.named, (name_of_methodNamed Bd.named Bd.method).1, Bd.bytes, hml0, Bd.returns, BodyLoose.notSynchronized Bd⟩, [], X0, Fr.nil n0, e0⟩
theorem Go.cast {g g' : JFrame} (q : g = g') (G : Go p e below Q (T.setTop g')) : Go p e below Q (T.setTop g) := q ▸ G
theorem Go.fin {Qc : Option Value → Heap → Prop} {v : Option Value} {g : JFrame} (P : Pl p l e R s m args below meth c Z y bytes mx ret n0 T h cells slots) (hv : ret = none → v = none) (hc : cells ≤ R.cells) (hl : slots ≤ R.slots)
    (k : ∀ fs, (∀ (f : JFrame) (acts : List Action), f.method = m → f.locked = none → f.entered = [] → (doReturn e (T.setTop f) acts v).1 = T.setFrames fs) → Steps p.tables e below (T.setTop g) (T.setFrames fs)) (q : Qc v h) : Go p e below (Done s R n0 Qc) (T.setTop g) := by
  obtain ⟨B, locs, X, N, eT⟩ := id P
  obtain ⟨fs, hr, hrun, hended, hW, hsame⟩ := X.leave (v := v) (fun q => hv (P.hrt.symm.trans q)) P.hlk
  exact ⟨_, _, k fs hr, hrun, hended, v, locs, rfl, ⟨N, by show Qc v T.heap; rw [eT]; exact q⟩, ⟨_, rfl⟩, hW, hsame.mono hc hl⟩
theorem g_retI {Qc : Option Value → Heap → Prop} {z : Int32} (P : Pl p l e R s m args below meth c Z y bytes mx (some .int) n0 T h cells slots) (hd : D bytes pc .ireturn 1 pc') (hc : cells ≤ R.cells) (hl : slots ≤ R.slots) (q : Qc (some (.int z)) h) : Go p e below (Done s R n0 Qc) (T.setTop (mkF m pc Ls (.int z :: st))) := by
  obtain ⟨B, locs, X, N, eT⟩ := id P
  exact Go.fin P (fun q => by cases q) hc hl (fun fs hr => retOut X P.hx P.hrt rfl (Or.inl ⟨rfl, Or.inl rfl, _, rfl⟩) (P.dec hd.1) hr) q
theorem g_retZ {Qc : Option Value → Heap → Prop} {z : Int32} (P : Pl p l e R s m args below meth c Z y bytes mx (some .boolean) n0 T h cells slots) (hd : D bytes pc .ireturn 1 pc') (hz : z &&& 1 = z) (hc : cells ≤ R.cells) (hl : slots ≤ R.slots) (q : Qc (some (.int z)) h) : Go p e below (Done s R n0 Qc) (T.setTop (mkF m pc Ls (.int z :: st))) := by
  obtain ⟨B, locs, X, N, eT⟩ := id P
  exact Go.fin P (fun q => by cases q) hc hl (fun fs hr => retN X P.hx (t := .boolean) P.hrt (by simp) (P.dec hd.1) (by show ∀ (f : JFrame) (acts : List Action), _ → _ → _ → (doReturn e (T.setTop f) acts (some (.int (z &&& 1)))).1 = _; rw [hz]; exact hr)) q
theorem g_retA {Qc : Option Value → Heap → Prop} {w : Value} {t : FieldType} (P : Pl p l e R s m args below meth c Z y bytes mx (some t) n0 T h cells slots) (hd : D bytes pc .areturn 1 pc') (ht : t.isReference = true) (hw : w.isRef = true) (hn : narrow t w = w) (hc : cells ≤ R.cells) (hl : slots ≤ R.slots) (q : Qc (some w) h) : Go p e below (Done s R n0 Qc) (T.setTop (mkF m pc Ls (w :: st))) := by
  obtain ⟨B, locs, X, N, eT⟩ := id P
  exact Go.fin P (fun q => by cases q) hc hl (fun fs hr => retOut X P.hx P.hrt hn (Or.inr (Or.inr (Or.inr (Or.inr ⟨rfl, ht, hw⟩)))) (P.dec hd.1) hr) q
theorem g_ret {Qc : Option Value → Heap → Prop} (P : Pl p l e R s m args below meth c Z y bytes mx none n0 T h cells slots) (hd : D bytes pc .return_ 1 pc') (hc : cells ≤ R.cells) (hl : slots ≤ R.slots) (q : Qc none h) : Go p e below (Done s R n0 Qc) (T.setTop (mkF m pc Ls [])) := by
  obtain ⟨B, locs, X, N, eT⟩ := id P
  exact Go.fin P (fun _ => rfl) hc hl (fun fs hr => X.returnOut P.hx P.hrt (P.dec hd.1) hr) q
/-! the calls -/
theorem g_static (P : Pl p l e R s m args below meth c Z y bytes mx ret n0 T h cells slots) {y' : MethodName} {bytes' : ByteArray} {mx' : Nat} {ret' : Option FieldType} {rm : Room} {Qc : Option Value → Heap → Prop} {index : Nat} {ps : List FieldType} {r : Option FieldType} (argsL : List Value) {stk rest : List Value} {W : Nat}
    (hd : D bytes pc (.invokestatic index) 3 pc') (w1 : (Cond.methodLink y.cls index y').before a0 Z = true) (w2 : (Cond.static y').before a0 Z = true) (w3 : (Cond.initialized y'.cls).before a0 Z = true) (w4 : (Cond.code y' bytes' mx' ret').before a0 Z = true) (hy : y'.cls ≠ "java/lang/invoke/MethodHandle" ∧ y'.cls ≠ "java/lang/invoke/VarHandle")
    (M : Met l Z y' bytes' mx' ret' rm n0 argsL.toArray h Qc) (pd : parseMethodDescriptor y'.desc = some ⟨ps, r⟩) (hl : argsL.length = ps.length) (hs : stk = argsL.reverse ++ rest) (hmx : Ls.size = mx) (hW : (rest.map fun v => v.category).sum = W)
    (hf : rm.frames + 1 ≤ R.frames) (hlo : W + (mx' + 11) + rm.locals ≤ R.locals) (hc : cells + rm.cells ≤ R.cells) (hsl : slots + rm.slots ≤ R.slots)
    (G : ∀ v T' h', Pl p l e R s m args below meth c Z y bytes mx ret n0 T' h' (cells + rm.cells) (slots + rm.slots) → Qc v h' → Go p e below Q (T'.setTop (mkF m pc' Ls (v.toList ++ rest)))) : Go p e below Q (T.setTop (mkF m pc Ls stk)) := by
  obtain ⟨hd, rfl⟩ := hd; obtain ⟨B, locs, X, N, eT⟩ := id P
  obtain ⟨v, _, ⟨T', L', k', n'⟩, -, X', ⟨Lc, hQ, l', y'', z'⟩, stp⟩ := Jvm.LawKit.callS X P.hx (y := y') P.hown (mvT P.hZ w1) (mvT P.hZ w2) (mvT P.hZ w3) (mvT P.hZ w4) hy (backOf (W := W) (Q := fun v h L => Fr n0 L ∧ Qc v h) (M []) P.hZ w4 w3 hf hlo) (g := mkF m pc Ls stk) rfl (by rw [P.hml]; exact hmx) (argsL := argsL) (rest := rest) (lenOf pd hl) hs (by show 2 * 0 + _ ≤ W; omega) (P.dec hd) (fun _ _ => ⟨rfl, eT, hc, hsl⟩)
  dsimp only [Pt.U, Pt.locs, Pt.cells, Pt.slots] at X' l' y'' z' stp hQ
  subst l' y'' z'
  exact Go.of stp (G v T' T'.heap ⟨B, _, X', Fr.app N hQ.1, rfl⟩ hQ.2)
theorem g_special (P : Pl p l e R s m args below meth c Z y bytes mx ret n0 T h cells slots) {y' : MethodName} {bytes' : ByteArray} {mx' : Nat} {rm : Room} {Qc : Option Value → Heap → Prop} {index : Nat} {ps : List FieldType} {r : Option FieldType} (a : Addr) (argsL : List Value) {stk rest : List Value} {W : Nat}
    (hd : D bytes pc (.invokespecial index) 3 pc') (hin : y'.name = "<init>") (w1 : (Cond.methodLink y.cls index y').before a0 Z = true) (w2 : (Cond.instanceMethod y').before a0 Z = true) (w3 : (Cond.initialized y'.cls).before a0 Z = true) (w4 : (Cond.code y' bytes' mx' none).before a0 Z = true) (hy : y'.cls ≠ "java/lang/invoke/MethodHandle" ∧ y'.cls ≠ "java/lang/invoke/VarHandle")
    (M : Met l Z y' bytes' mx' none rm n0 (.ref a :: argsL).toArray h Qc) (pd : parseMethodDescriptor y'.desc = some ⟨ps, r⟩) (hl : argsL.length = ps.length) (hs : stk = argsL.reverse ++ .ref a :: rest) (hmx : Ls.size = mx) (hW : (rest.map fun v => v.category).sum = W)
    (hf : rm.frames + 1 ≤ R.frames) (hlo : W + (mx' + 11) + rm.locals ≤ R.locals) (hc : cells + rm.cells ≤ R.cells) (hsl : slots + rm.slots ≤ R.slots)
    (G : ∀ v T' h', Pl p l e R s m args below meth c Z y bytes mx ret n0 T' h' (cells + rm.cells) (slots + rm.slots) → Qc v h' → Go p e below Q (T'.setTop (mkF m pc' Ls (v.toList ++ rest)))) : Go p e below Q (T.setTop (mkF m pc Ls stk)) := by
  obtain ⟨hd, rfl⟩ := hd; obtain ⟨B, locs, X, N, eT⟩ := id P
  obtain ⟨v, _, ⟨T', L', k', n'⟩, -, X', ⟨Lc, hQ, l', y'', z'⟩, stp⟩ := X.specialBack P.hx (y := y') hin P.hown (mvT P.hZ w1) (mvT P.hZ w2) (mvT P.hZ w4) hy (backOf (W := W) (Q := fun v h L => Fr n0 L ∧ Qc v h) (M []) P.hZ w4 w3 hf hlo) (g := mkF m pc Ls stk) rfl (by rw [P.hml]; exact hmx) (Steps.refl _) (a := a) (argsL := argsL) (rest := rest) (lenOf pd hl) hs (by show 2 * 0 + _ ≤ W; omega) (P.dec hd) (fun _ _ => ⟨rfl, eT, hc, hsl⟩)
  dsimp only [Pt.U, Pt.locs, Pt.cells, Pt.slots] at X' l' y'' z' stp hQ
  subst l' y'' z'
  exact Go.tr stp (G v T' T'.heap ⟨B, _, X', Fr.app N hQ.1, rfl⟩ hQ.2)
theorem g_virtual (P : Pl p l e R s m args below meth c Z y bytes mx ret n0 T h cells slots) {y' : MethodName} {C : String} {bytes' : ByteArray} {mx' : Nat} {ret' : Option FieldType} {rm : Room} {Qc : Option Value → Heap → Prop} {index : Nat} {ps : List FieldType} {r : Option FieldType} (a : Addr) (argsL : List Value) {stk rest : List Value} {W : Nat}
    (hd : D bytes pc (.invokevirtual index) 3 pc') (w1 : (Cond.methodLink y.cls index y').before a0 Z = true) (w2 : (Cond.declares y').before a0 Z = true) (w3 : (Cond.selects C y' y').before a0 Z = true) (w4 : (Cond.instanceMethod y').before a0 Z = true) (w5 : (Cond.initialized y'.cls).before a0 Z = true) (w6 : (Cond.code y' bytes' mx' ret').before a0 Z = true) (hy : y'.cls ≠ "java/lang/invoke/MethodHandle" ∧ y'.cls ≠ "java/lang/invoke/VarHandle")
    (E : Exa Z h a C) (M : Met l Z y' bytes' mx' ret' rm n0 (.ref a :: argsL).toArray h Qc) (pd : parseMethodDescriptor y'.desc = some ⟨ps, r⟩) (hl : argsL.length = ps.length) (hs : stk = argsL.reverse ++ .ref a :: rest) (hmx : Ls.size = mx) (hW : (rest.map fun v => v.category).sum = W)
    (hf : rm.frames + 1 ≤ R.frames) (hlo : W + (mx' + 11) + rm.locals ≤ R.locals) (hc : cells + rm.cells ≤ R.cells) (hsl : slots + rm.slots ≤ R.slots)
    (G : ∀ v T' h', Pl p l e R s m args below meth c Z y bytes mx ret n0 T' h' (cells + rm.cells) (slots + rm.slots) → Qc v h' → Go p e below Q (T'.setTop (mkF m pc' Ls (v.toList ++ rest)))) : Go p e below Q (T.setTop (mkF m pc Ls stk)) := by
  obtain ⟨hd, rfl⟩ := hd; obtain ⟨B, locs, X, N, eT⟩ := id P
  obtain ⟨cq, kq, qa, qb, qc⟩ := isOf P.hZ eT E
  obtain ⟨v, _, ⟨T', L', k', n'⟩, -, X', ⟨Lc, hQ, l', y'', z'⟩, stp⟩ := X.virtualBack P.hx (y := y') (z := y') P.hown (mvT P.hZ w1) (mvT P.hZ w2) (notFace_of_selects (args := #[]) (mvT P.hZ w3)) (mvT P.hZ w3) (mvT P.hZ w4) hy (backOf (W := W) (Q := fun v h L => Fr n0 L ∧ Qc v h) (M []) P.hZ w6 w5 hf hlo) qa qc (g := mkF m pc Ls stk) rfl (by rw [P.hml]; exact hmx) (Steps.refl _) (argsL := argsL) (rest := rest) (lenOf pd hl) hs (by show 2 * 0 + _ ≤ W; omega) (P.dec hd) (fun _ _ => ⟨rfl, eT, hc, hsl⟩)
  dsimp only [Pt.U, Pt.locs, Pt.cells, Pt.slots] at X' l' y'' z' stp hQ
  subst l' y'' z'
  exact Go.tr stp (G v T' T'.heap ⟨B, _, X', Fr.app N hQ.1, rfl⟩ hQ.2)
end OwnGo
/-! OWN 2: small facts -/
section OwnSmall
variable {args : Array Value} {Z : State} {a b : Addr}
theorem ac_t (h : a = b) : XT.acmp .eq (.ref a) (.ref b) = true ∧ XT.acmp .ne (.ref a) (.ref b) = false := ⟨decide_eq_true (by rw [h]), decide_eq_false (fun q => q (by rw [h]))⟩
theorem ac_f (h : ¬ a = b) : XT.acmp .eq (.ref a) (.ref b) = false ∧ XT.acmp .ne (.ref a) (.ref b) = true := ⟨decide_eq_false (fun q => h (by cases q; rfl)), decide_eq_true (fun q => h (by cases q; rfl))⟩
theorem eqI {t : Term} {z : Int32} (h : (Cond.eq t (.int z)).value args Z none Z [] = some true) : t.eval args Z none [] Z = some (.int z) := Cond.eq_int (Cond.before_iff.mpr h) rfl
theorem nN (h : @Ne Nat a b) : a ≠ b := h
theorem ltN {n : Nat} (h : a < n) : @LT.lt Nat _ a n := h
theorem i32_of {i j : Int32} (h : i.toInt = j.toInt) : i = j := Int32.toInt_inj.mp h
theorem rem_mask (k n : Int32) (hn : 0 < n.toInt) : 0 ≤ ((k &&& 2147483647) % n).toInt ∧ ((k &&& 2147483647) % n).toInt < n.toInt := by
  rw [Jvm.Kit.i32_rem_nonneg (by rw [Jvm.Kit.i32_mask k 2147483647 (k := 31) (by decide) (by decide)]; exact Int.emod_nonneg _ (by decide))]
  exact ⟨Int.emod_nonneg _ (by omega), Int.emod_lt_of_pos _ hn⟩
theorem mask_nn (k : Int32) : ¬ (k &&& (2147483647 : Int32)) < 0 := by
  rw [Int32.lt_iff_toInt_lt, Jvm.Kit.i32_mask k 2147483647 (k := 31) (by decide) (by decide)]
  have : (0 : Int32).toInt = 0 := rfl
  have := Int.emod_nonneg k.toInt (show (2 ^ 31 : Int) ≠ 0 by decide)
  omega
theorem cases3 {i : Int32} (h : 0 ≤ i.toInt ∧ i.toInt < (3 : Int32).toInt) : i = 0 ∨ i = 1 ∨ i = 2 := by
  have h5 : (3 : Int32).toInt = 3 := rfl
  rcases (by omega : i.toInt = 0 ∨ i.toInt = 1 ∨ i.toInt = 2) with q | q | q
  · exact Or.inl (i32_of q)
  · exact Or.inr (Or.inl (i32_of q))
  · exact Or.inr (Or.inr (i32_of q))
theorem sta_keep {h h' : Heap} {C n d : String} {v : Value} {ws : List Addr} (F : Sta Z h C n d v) (K : Keep h h' ws) (q : ∀ x ∈ ws, ∃ c : Cell, h[x]? = some c ∧ c.vm.isStatics = false) : Sta Z h' C n d v := by
  obtain ⟨cf, i, k, f, st, cell, h1, h2, h3, h4, h5, h6, h7⟩ := F
  refine ⟨cf, i, k, f, st, cell, h1, h2, h3, h4, K.2.1 st cell h5 fun r => ?_, h6, h7⟩
  obtain ⟨c, q1, q2⟩ := q st r
  cases h5.symm.trans q1
  rw [h6] at q2; cases q2
theorem plain1 {h : Heap} {C : String} (A : Exa Z h a C) : ∀ x ∈ [a], ∃ c : Cell, h[x]? = some c ∧ c.vm.isStatics = false := fun x hx => by
  cases List.mem_singleton.mp hx; obtain ⟨c, _, q, -, -, r, -⟩ := A; exact ⟨c, q, r⟩
theorem cases4 {i : Int32} (h : 0 ≤ i.toInt ∧ i.toInt < (4 : Int32).toInt) : i = 0 ∨ i = 1 ∨ i = 2 ∨ i = 3 := by
  have h5 : (4 : Int32).toInt = 4 := rfl
  rcases (by omega : i.toInt = 0 ∨ i.toInt = 1 ∨ i.toInt = 2 ∨ i.toInt = 3) with q | q | q | q
  · exact Or.inl (i32_of q)
  · exact Or.inr (Or.inl (i32_of q))
  · exact Or.inr (Or.inr (Or.inl (i32_of q)))
  · exact Or.inr (Or.inr (Or.inr (i32_of q)))
theorem cases5 {i : Int32} (h : 0 ≤ i.toInt ∧ i.toInt < (5 : Int32).toInt) : i = 0 ∨ i = 1 ∨ i = 2 ∨ i = 3 ∨ i = 4 := by
  have h5 : (5 : Int32).toInt = 5 := rfl
  rcases (by omega : i.toInt = 0 ∨ i.toInt = 1 ∨ i.toInt = 2 ∨ i.toInt = 3 ∨ i.toInt = 4) with q | q | q | q | q
  · exact Or.inl (i32_of q)
  · exact Or.inr (Or.inl (i32_of q))
  · exact Or.inr (Or.inr (Or.inl (i32_of q)))
  · exact Or.inr (Or.inr (Or.inr (Or.inl (i32_of q))))
  · exact Or.inr (Or.inr (Or.inr (Or.inr (i32_of q))))
theorem cases7 {i : Int32} (h : 0 ≤ i.toInt ∧ i.toInt < (7 : Int32).toInt) : i = 0 ∨ i = 1 ∨ i = 2 ∨ i = 3 ∨ i = 4 ∨ i = 5 ∨ i = 6 := by
  have h5 : (7 : Int32).toInt = 7 := rfl
  rcases (by omega : i.toInt = 0 ∨ i.toInt = 1 ∨ i.toInt = 2 ∨ i.toInt = 3 ∨ i.toInt = 4 ∨ i.toInt = 5 ∨ i.toInt = 6) with q | q | q | q | q | q | q
  · exact Or.inl (i32_of q)
  · exact Or.inr (Or.inl (i32_of q))
  · exact Or.inr (Or.inr (Or.inl (i32_of q)))
  · exact Or.inr (Or.inr (Or.inr (Or.inl (i32_of q))))
  · exact Or.inr (Or.inr (Or.inr (Or.inr (Or.inl (i32_of q)))))
  · exact Or.inr (Or.inr (Or.inr (Or.inr (Or.inr (Or.inl (i32_of q))))))
  · exact Or.inr (Or.inr (Or.inr (Or.inr (Or.inr (Or.inr (i32_of q))))))
end OwnSmall
/-! OWN 3: more steps: longs, null tests, a switch, arrays as lists, casts -/
section OwnMore
variable {p : Program} {l : Launch} {e : Env} {R : Room} {s : State} {m : MethodId} {args : Array Value} {below : List Frame} {meth : Method} {c : Code} {Z : State} {y : MethodName} {bytes : ByteArray} {mx : Nat} {ret : Option FieldType} {n0 : Nat} {T T' : State} {h h' : Heap} {cells slots : Nat} {Q : Outcome → State → Prop} {pc pc' : Nat} {Ls : Array Slot} {st : List Value} {a0 : Array Value}
theorem g_sipush (P : Pl p l e R s m args below meth c Z y bytes mx ret n0 T h cells slots) {i : Int} {v : Int32} (hd : D bytes pc (.sipush i) 3 pc') (hv : (Int16.ofInt i).toInt32 = v) (G : Go p e below Q (T.setTop (mkF m pc' Ls (.int v :: st)))) : Go p e below Q (T.setTop (mkF m pc Ls st)) := by
  obtain ⟨hd, rfl⟩ := hd; subst hv; exact Go.of (fun _ => XS.sipush P.here P.hx rfl (P.dec hd)) G
theorem g_lconst (P : Pl p l e R s m args below meth c Z y bytes mx ret n0 T h cells slots) {k : Fin 2} {v : Int64} (hd : D bytes pc (.lconst k) 1 pc') (hv : Int64.ofNat k = v) (G : Go p e below Q (T.setTop (mkF m pc' Ls (.long v :: st)))) : Go p e below Q (T.setTop (mkF m pc Ls st)) := by
  obtain ⟨hd, rfl⟩ := hd; subst hv; exact Go.of (fun _ => XT.lconst P.here P.hx rfl (P.dec hd)) G
theorem g_ldc2 (P : Pl p l e R s m args below meth c Z y bytes mx ret n0 T h cells slots) {index : Nat} {v : Int64} (hd : D bytes pc (.ldc2_w index) 3 pc') (w : (Cond.constantLong y.cls index v).before a0 Z = true) (G : Go p e below Q (T.setTop (mkF m pc' Ls (.long v :: st)))) : Go p e below Q (T.setTop (mkF m pc Ls st)) := by
  obtain ⟨hd, rfl⟩ := hd; obtain ⟨-, _, X, -⟩ := id P; exact Go.of (fun _ => X.ldc2J P.hx P.hown (mvT P.hZ w) rfl (P.dec hd)) G
theorem g_ladd (P : Pl p l e R s m args below meth c Z y bytes mx ret n0 T h cells slots) {x z : Int64} (hd : D bytes pc .ladd 1 pc') (G : Go p e below Q (T.setTop (mkF m pc' Ls (.long (x + z) :: st)))) : Go p e below Q (T.setTop (mkF m pc Ls (.long z :: .long x :: st))) := by
  obtain ⟨hd, rfl⟩ := hd; exact Go.of (fun _ => XT.ladd P.here P.hx rfl (P.dec hd) rfl) G
theorem g_lsub (P : Pl p l e R s m args below meth c Z y bytes mx ret n0 T h cells slots) {x z : Int64} (hd : D bytes pc .lsub 1 pc') (G : Go p e below Q (T.setTop (mkF m pc' Ls (.long (x - z) :: st)))) : Go p e below Q (T.setTop (mkF m pc Ls (.long z :: .long x :: st))) := by
  obtain ⟨hd, rfl⟩ := hd; exact Go.of (fun _ => XT.lsub P.here P.hx rfl (P.dec hd) rfl) G
theorem g_lcmp (P : Pl p l e R s m args below meth c Z y bytes mx ret n0 T h cells slots) {x z : Int64} (hd : D bytes pc .lcmp 1 pc') (G : Go p e below Q (T.setTop (mkF m pc' Ls (.int (XT.cmpL x z) :: st)))) : Go p e below Q (T.setTop (mkF m pc Ls (.long z :: .long x :: st))) := by
  obtain ⟨hd, rfl⟩ := hd; exact Go.of (fun _ => XT.lcmp P.here P.hx rfl (P.dec hd) rfl) G
theorem g_i2l (P : Pl p l e R s m args below meth c Z y bytes mx ret n0 T h cells slots) {x : Int32} (hd : D bytes pc .i2l 1 pc') (G : Go p e below Q (T.setTop (mkF m pc' Ls (.long (x).toInt64 :: st)))) : Go p e below Q (T.setTop (mkF m pc Ls (.int x :: st))) := by
  obtain ⟨hd, rfl⟩ := hd; exact Go.of (fun _ => XT.i2l P.here P.hx rfl (P.dec hd) rfl) G
theorem g_l2i (P : Pl p l e R s m args below meth c Z y bytes mx ret n0 T h cells slots) {x : Int64} (hd : D bytes pc .l2i 1 pc') (G : Go p e below Q (T.setTop (mkF m pc' Ls (.int (x).toInt32 :: st)))) : Go p e below Q (T.setTop (mkF m pc Ls (.long x :: st))) := by
  obtain ⟨hd, rfl⟩ := hd; exact Go.of (fun _ => XT.l2i P.here P.hx rfl (P.dec hd) rfl) G
theorem g_i2b (P : Pl p l e R s m args below meth c Z y bytes mx ret n0 T h cells slots) {x : Int32} (hd : D bytes pc .i2b 1 pc') (G : Go p e below Q (T.setTop (mkF m pc' Ls (.int (x).toInt8.toInt32 :: st)))) : Go p e below Q (T.setTop (mkF m pc Ls (.int x :: st))) := by
  obtain ⟨hd, rfl⟩ := hd; exact Go.of (fun _ => XT.i2b P.here P.hx rfl (P.dec hd) rfl) G
theorem g_idiv (P : Pl p l e R s m args below meth c Z y bytes mx ret n0 T h cells slots) {x z v : Int32} (hd : D bytes pc .idiv 1 pc') (hz : z ≠ 0) (hv : x / z = v) (G : Go p e below Q (T.setTop (mkF m pc' Ls (.int v :: st)))) : Go p e below Q (T.setTop (mkF m pc Ls (.int z :: .int x :: st))) := by
  obtain ⟨hd, rfl⟩ := hd; subst hv; exact Go.of (fun _ => XS.idiv P.here P.hx rfl (P.dec hd) rfl hz) G
theorem g_ior (P : Pl p l e R s m args below meth c Z y bytes mx ret n0 T h cells slots) {x z v : Int32} (hd : D bytes pc .ior 1 pc') (hv : x ||| z = v) (G : Go p e below Q (T.setTop (mkF m pc' Ls (.int v :: st)))) : Go p e below Q (T.setTop (mkF m pc Ls (.int z :: .int x :: st))) := by
  obtain ⟨hd, rfl⟩ := hd; subst hv; exact Go.of (fun _ => XT.ior P.here P.hx rfl (P.dec hd) rfl) G
theorem g_ixor (P : Pl p l e R s m args below meth c Z y bytes mx ret n0 T h cells slots) {x z v : Int32} (hd : D bytes pc .ixor 1 pc') (hv : x ^^^ z = v) (G : Go p e below Q (T.setTop (mkF m pc' Ls (.int v :: st)))) : Go p e below Q (T.setTop (mkF m pc Ls (.int z :: .int x :: st))) := by
  obtain ⟨hd, rfl⟩ := hd; subst hv; exact Go.of (fun _ => XT.ixor P.here P.hx rfl (P.dec hd) rfl) G
theorem g_ishl (P : Pl p l e R s m args below meth c Z y bytes mx ret n0 T h cells slots) {x z v : Int32} (hd : D bytes pc .ishl 1 pc') (hv : x <<< (z &&& 31) = v) (G : Go p e below Q (T.setTop (mkF m pc' Ls (.int v :: st)))) : Go p e below Q (T.setTop (mkF m pc Ls (.int z :: .int x :: st))) := by
  obtain ⟨hd, rfl⟩ := hd; subst hv; exact Go.of (fun _ => XT.ishl P.here P.hx rfl (P.dec hd) rfl) G
theorem g_ishr (P : Pl p l e R s m args below meth c Z y bytes mx ret n0 T h cells slots) {x z v : Int32} (hd : D bytes pc .ishr 1 pc') (hv : x >>> (z &&& 31) = v) (G : Go p e below Q (T.setTop (mkF m pc' Ls (.int v :: st)))) : Go p e below Q (T.setTop (mkF m pc Ls (.int z :: .int x :: st))) := by
  obtain ⟨hd, rfl⟩ := hd; subst hv; exact Go.of (fun _ => XT.ishr P.here P.hx rfl (P.dec hd) rfl) G
theorem g_dupX1 (P : Pl p l e R s m args below meth c Z y bytes mx ret n0 T h cells slots) {x z : Value} (hd : D bytes pc .dup_x1 1 pc') (hc : x.category = 1) (hc' : z.category = 1) (G : Go p e below Q (T.setTop (mkF m pc' Ls (x :: z :: x :: st)))) : Go p e below Q (T.setTop (mkF m pc Ls (x :: z :: st))) := by
  obtain ⟨hd, rfl⟩ := hd; exact Go.of (fun _ => XT.dupX1 P.here P.hx rfl (P.dec hd) rfl hc hc') G
theorem g_dup2 (P : Pl p l e R s m args below meth c Z y bytes mx ret n0 T h cells slots) {x z : Value} (hd : D bytes pc .dup2 1 pc') (hc : x.category = 1) (hc' : z.category = 1) (G : Go p e below Q (T.setTop (mkF m pc' Ls (x :: z :: x :: z :: st)))) : Go p e below Q (T.setTop (mkF m pc Ls (x :: z :: st))) := by
  obtain ⟨hd, rfl⟩ := hd; exact Go.of (fun _ => XT.dup2 P.here P.hx rfl (P.dec hd) rfl hc hc') G
theorem g_ifnullYes (P : Pl p l e R s m args below meth c Z y bytes mx ret n0 T h cells slots) {o : Int} {q : Nat} (hd : D bytes pc (.ifnull o) 3 q) (pc' : Nat) (ho : 0 ≤ (pc : Int) + o) (hp : ((pc : Int) + o).toNat = pc') (G : Go p e below Q (T.setTop (mkF m pc' Ls st))) : Go p e below Q (T.setTop (mkF m pc Ls (.null :: st))) := by
  obtain ⟨hd, -⟩ := hd; exact Go.of (fun _ => XS.ifnullYes P.here P.hx rfl rfl (P.dec hd) rfl ho hp) G
theorem g_ifnullNo (P : Pl p l e R s m args below meth c Z y bytes mx ret n0 T h cells slots) {o : Int} {b : Addr} (hd : D bytes pc (.ifnull o) 3 pc') (G : Go p e below Q (T.setTop (mkF m pc' Ls st))) : Go p e below Q (T.setTop (mkF m pc Ls (.ref b :: st))) := by
  obtain ⟨hd, rfl⟩ := hd; exact Go.of (fun _ => XS.ifnullNo P.here P.hx rfl (P.dec hd) rfl) G
theorem g_ifnonnullYes (P : Pl p l e R s m args below meth c Z y bytes mx ret n0 T h cells slots) {o : Int} {q : Nat} {b : Addr} (hd : D bytes pc (.ifnonnull o) 3 q) (pc' : Nat) (ho : 0 ≤ (pc : Int) + o) (hp : ((pc : Int) + o).toNat = pc') (G : Go p e below Q (T.setTop (mkF m pc' Ls st))) : Go p e below Q (T.setTop (mkF m pc Ls (.ref b :: st))) := by
  obtain ⟨hd, -⟩ := hd; exact Go.of (fun _ => XT.ifnonnullYes P.here P.hx rfl rfl (P.dec hd) rfl ho hp) G
theorem g_ifnonnullNo (P : Pl p l e R s m args below meth c Z y bytes mx ret n0 T h cells slots) {o : Int} (hd : D bytes pc (.ifnonnull o) 3 pc') (G : Go p e below Q (T.setTop (mkF m pc' Ls st))) : Go p e below Q (T.setTop (mkF m pc Ls (.null :: st))) := by
  obtain ⟨hd, rfl⟩ := hd; exact Go.of (fun _ => XT.ifnonnullNo P.here P.hx rfl (P.dec hd) rfl) G
theorem g_tsw (P : Pl p l e R s m args below meth c Z y bytes mx ret n0 T h cells slots) {dflt low high : Int} {offs : Array Int} {len q : Nat} {o : Int} {i : Int32} (hd : D bytes pc (.tableswitch dflt low high offs) len q) (hin : ¬ (i.toInt < low ∨ i.toInt > high)) (hoff : offs[(i.toInt - low).toNat]? = some o) (pc' : Nat) (ho : 0 ≤ (pc : Int) + o) (hp : ((pc : Int) + o).toNat = pc') (G : Go p e below Q (T.setTop (mkF m pc' Ls st))) : Go p e below Q (T.setTop (mkF m pc Ls (.int i :: st))) := by
  obtain ⟨hd, -⟩ := hd; exact Go.of (fun _ => XS.tswIn (g := mkF m pc Ls (.int i :: st)) P.here P.hx rfl rfl (P.dec hd) rfl hin hoff ho hp) G
/-! an array as a list of values -/
def AL (Z : State) (h : Heap) (a : Addr) (k : ClassId) (ty : FieldType) (vs : List Value) : Prop := ∃ c : Cell, Arr Z h a c ty ∧ c.cls = k ∧ c.slots.toList = vs ∧ vs.length < 2 ^ 31
variable {a b : Addr} {k : ClassId} {ty : FieldType} {vs : List Value} {sl : Nat} {v : Value} {ws : List Addr}
theorem AL.lt (A : AL Z h a k ty vs) : @LT.lt Nat _ a h.size := by obtain ⟨c, q, -⟩ := A; exact q.lt
theorem AL.len (A : AL Z h a k ty vs) : vs.length < 2 ^ 31 := by obtain ⟨c, -, -, -, q⟩ := A; exact q
theorem AL.ext (A : AL Z h a k ty vs) (E : Ext h h') : AL Z h' a k ty vs := by obtain ⟨c, q, r⟩ := A; exact ⟨c, q.ext E, r⟩
theorem AL.other (A : AL Z h b k ty vs) (W : Wr h h' a sl v) (q : b ≠ a) : AL Z h' b k ty vs := by obtain ⟨c, A, r⟩ := A; exact ⟨c, A.other W q, r⟩
theorem AL.keep (A : AL Z h a k ty vs) (K : Keep h h' ws) (q : a ∉ ws) : AL Z h' a k ty vs := by obtain ⟨c, A, r⟩ := A; exact ⟨c, ⟨K.2.1 a c A.1 q, A.2⟩, r⟩
theorem AL.new {n : Int32} (A : Arr Z h a (newA k ty n) ty) (q : ¬ n < 0) : AL Z h a k ty (List.replicate n.toNatClampNeg (defaultValue ty)) :=
  ⟨_, A, rfl, by show (Array.replicate _ _).toList = _; rw [Array.toList_replicate], by rw [List.length_replicate]; exact (back32 q).2⟩
theorem AL.set (A : AL Z h a k ty vs) (W : Wr h h' a sl v) : AL Z h' a k ty (vs.set sl v) := by
  obtain ⟨c, A, r1, r2, r3⟩ := A
  refine ⟨_, A.same W, r1, ?_, by rw [List.length_set]; exact r3⟩
  show (c.slots.setIfInBounds sl v).toList = _
  rw [Array.toList_setIfInBounds, r2]
abbrev Ix (j : Int32) (i : Nat) : Prop := ¬ j < 0 ∧ j.toNatClampNeg = i
theorem Ix.of {j : Int32} {i : Nat} (q : j.toInt = i) : Ix j i := ⟨by rw [Int32.lt_iff_toInt_lt]; have : (0 : Int32).toInt = 0 := rfl; omega, by simp only [Int32.toNatClampNeg]; omega⟩
theorem Ix.inb {j : Int32} {i : Nat} {c : Cell} (I : Ix j i) (q : i < c.slots.toList.length) : ¬ (j < 0 ∨ c.slots.size ≤ j.toNatClampNeg) := by
  rw [Array.length_toList] at q
  rintro (r | r)
  · exact I.1 r
  · rw [I.2] at r; omega
theorem lt_of_get {vs : List Value} {i : Nat} (q : vs[i]? = some v) : i < vs.length := (List.getElem?_eq_some_iff.mp q).1
theorem g_newarray (P : Pl p l e R s m args below meth c Z y bytes mx ret n0 T h cells slots) {aty : ArrayType} {n : Int32} (hd : D bytes pc (.newarray aty) 2 pc') (w : (Cond.arrayClass (newarray.typeOf aty)).before a0 Z = true) (hn : ¬ n < 0) (cap : Nat) (hcap : n.toNatClampNeg ≤ cap) (hb : cap * 8 ≤ 536870912) (hc : cells + 1 ≤ R.cells) (hl : slots + cap ≤ R.slots) (ad : String) (had : "[" ++ (newarray.typeOf aty).toString = ad)
    (G : ∀ T' h' a k, Pl p l e R s m args below meth c Z y bytes mx ret n0 T' h' (cells + 1) (slots + cap) → h.size = a → Ext h h' → AL Z h' a k (newarray.typeOf aty) (List.replicate n.toNatClampNeg (defaultValue (newarray.typeOf aty))) → Exa Z h' a ad → Go p e below Q (T'.setTop (mkF m pc' Ls (.ref a :: st)))) : Go p e below Q (T.setTop (mkF m pc Ls (.int n :: st))) := by
  obtain ⟨hd, rfl⟩ := hd; obtain ⟨B, locs, X, N, eT⟩ := id P
  obtain ⟨T', h', cA, X', e', E, A, Ex, stp⟩ := newPE X P.hx P.hZ w eT (g := mkF m pc Ls (.int n :: st)) rfl (P.dec hd) rfl hn hcap hb hc hl had
  exact Go.of stp (G T' h' _ cA ⟨B, locs, X', N, e'⟩ rfl E (AL.new A hn) Ex)
theorem g_anewarray (P : Pl p l e R s m args below meth c Z y bytes mx ret n0 T h cells slots) {C : String} {index : Nat} {n : Int32} (hd : D bytes pc (.anewarray index) 3 pc') (w1 : (Cond.classLink y.cls index C).before a0 Z = true) (w2 : (Cond.arrayOver (.object C)).before a0 Z = true) (hn : ¬ n < 0) (cap : Nat) (hcap : n.toNatClampNeg ≤ cap) (hb : cap * 8 ≤ 536870912) (hc : cells + 1 ≤ R.cells) (hl : slots + cap ≤ R.slots) (ad : String) (had : "[" ++ (FieldType.object C).toString = ad)
    (G : ∀ T' h' a k, Pl p l e R s m args below meth c Z y bytes mx ret n0 T' h' (cells + 1) (slots + cap) → h.size = a → Ext h h' → AL Z h' a k (.object C) (List.replicate n.toNatClampNeg .null) → Exa Z h' a ad → Ovr Z k C → Go p e below Q (T'.setTop (mkF m pc' Ls (.ref a :: st)))) : Go p e below Q (T.setTop (mkF m pc Ls (.int n :: st))) := by
  obtain ⟨hd, rfl⟩ := hd; obtain ⟨B, locs, X, N, eT⟩ := id P
  obtain ⟨T', h', cA, X', e', E, A, Ex, O, stp⟩ := newRE X P.hx P.hZ P.hown w1 w2 eT (g := mkF m pc Ls (.int n :: st)) rfl (P.dec hd) rfl hn hcap hb hc hl had
  exact Go.of stp (G T' h' _ cA ⟨B, locs, X', N, e'⟩ rfl E (AL.new A hn) Ex O)
theorem g_arraylength (P : Pl p l e R s m args below meth c Z y bytes mx ret n0 T h cells slots) {z : Int32} (hd : D bytes pc .arraylength 1 pc') (A : AL Z h a k ty vs) (hz : vs.length.toInt32 = z) (G : Go p e below Q (T.setTop (mkF m pc' Ls (.int z :: st)))) : Go p e below Q (T.setTop (mkF m pc Ls (.ref a :: st))) := by
  obtain ⟨hd, rfl⟩ := hd; obtain ⟨B, locs, X, N, eT⟩ := id P; obtain ⟨cl, A, q1, q2, q3⟩ := A
  subst hz q2
  refine Go.of (fun u => X.arraylength P.hx (by rw [eT]; exact A.1) (State.isArrayOf_alike P.hZ.alike A.2.1) (g := mkF m pc Ls (.ref a :: st)) rfl rfl (P.dec hd) u) ?_
  rw [Array.length_toList] at G
  exact G
theorem g_iaload (P : Pl p l e R s m args below meth c Z y bytes mx ret n0 T h cells slots) {j : Int32} {i : Nat} (hd : D bytes pc .iaload 1 pc') (A : AL Z h a k .int vs) (I : Ix j i) (hv : vs[i]? = some v) (G : Go p e below Q (T.setTop (mkF m pc' Ls (v :: st)))) : Go p e below Q (T.setTop (mkF m pc Ls (.int j :: .ref a :: st))) := by
  obtain ⟨hd, rfl⟩ := hd; obtain ⟨B, locs, X, N, eT⟩ := id P; obtain ⟨cl, A, q1, rfl, q3⟩ := A
  exact Go.of (fun u => X.iaload P.hx (by rw [eT]; exact A.1) (State.isArrayOf_alike P.hZ.alike A.2.1) A.2.2 (I.inb (lt_of_get hv)) (by rw [I.2, ← Array.getElem?_toList]; exact hv) (g := mkF m pc Ls (.int j :: .ref a :: st)) rfl rfl (P.dec hd) u) G
theorem g_baload (P : Pl p l e R s m args below meth c Z y bytes mx ret n0 T h cells slots) {j : Int32} {i : Nat} (hd : D bytes pc .baload 1 pc') (A : AL Z h a k .byte vs) (I : Ix j i) (hv : vs[i]? = some v) (G : Go p e below Q (T.setTop (mkF m pc' Ls (v :: st)))) : Go p e below Q (T.setTop (mkF m pc Ls (.int j :: .ref a :: st))) := by
  obtain ⟨hd, rfl⟩ := hd; obtain ⟨B, locs, X, N, eT⟩ := id P; obtain ⟨cl, A, q1, rfl, q3⟩ := A
  exact Go.of (fun u => X.baloadBytes P.hx (by rw [eT]; exact A.1) (State.isArrayOf_alike P.hZ.alike A.2.1) A.2.2 (I.inb (lt_of_get hv)) (by rw [I.2, ← Array.getElem?_toList]; exact hv) (g := mkF m pc Ls (.int j :: .ref a :: st)) rfl rfl (P.dec hd) u) G
theorem g_aaload (P : Pl p l e R s m args below meth c Z y bytes mx ret n0 T h cells slots) {j : Int32} {i : Nat} (hd : D bytes pc .aaload 1 pc') (A : AL Z h a k ty vs) (hty : ty.isReference = true) (I : Ix j i) (hv : vs[i]? = some v) (G : Go p e below Q (T.setTop (mkF m pc' Ls (v :: st)))) : Go p e below Q (T.setTop (mkF m pc Ls (.int j :: .ref a :: st))) := by
  obtain ⟨hd, rfl⟩ := hd; obtain ⟨B, locs, X, N, eT⟩ := id P; obtain ⟨cl, A, q1, rfl, q3⟩ := A
  exact Go.of (fun u => X.aaload P.hx (by rw [eT]; exact A.1) (State.isArrayOf_alike P.hZ.alike A.2.1) hty A.2.2 (I.inb (lt_of_get hv)) (by rw [I.2, ← Array.getElem?_toList]; exact hv) (g := mkF m pc Ls (.int j :: .ref a :: st)) rfl rfl (P.dec hd) u) G
theorem g_iastore (P : Pl p l e R s m args below meth c Z y bytes mx ret n0 T h cells slots) {j x : Int32} {i : Nat} (hd : D bytes pc .iastore 1 pc') (A : AL Z h a k .int vs) (I : Ix j i) (hi : i < vs.length) (ge : n0 ≤ a)
    (G : ∀ T' h', Pl p l e R s m args below meth c Z y bytes mx ret n0 T' h' cells slots → Wr h h' a i (.int x) → AL Z h' a k .int (vs.set i (.int x)) → Go p e below Q (T'.setTop (mkF m pc' Ls st))) : Go p e below Q (T.setTop (mkF m pc Ls (.int x :: .int j :: .ref a :: st))) := by
  obtain ⟨hd, rfl⟩ := hd; obtain ⟨B, locs, X, N, eT⟩ := id P; obtain ⟨cl, A', q1, q2, q3⟩ := id A
  obtain ⟨T', h', X', e', W, stp⟩ := stI X P.hx P.hZ eT A' (j := j) (x := x) (I.inb (by rw [q2]; exact hi)) (g := mkF m pc Ls (.int x :: .int j :: .ref a :: st)) rfl rfl (P.dec hd)
  rw [I.2] at W
  exact Go.of stp (G T' h' ⟨B, _, X', Fr.snoc X' N ge, e'⟩ W (A.set W))
theorem g_bastoreB (P : Pl p l e R s m args below meth c Z y bytes mx ret n0 T h cells slots) {j x w : Int32} {i : Nat} (hd : D bytes pc .bastore 1 pc') (A : AL Z h a k .byte vs) (I : Ix j i) (hi : i < vs.length) (ge : n0 ≤ a) (hw : x.toInt8.toInt32 = w)
    (G : ∀ T' h', Pl p l e R s m args below meth c Z y bytes mx ret n0 T' h' cells slots → Wr h h' a i (.int w) → AL Z h' a k .byte (vs.set i (.int w)) → Go p e below Q (T'.setTop (mkF m pc' Ls st))) : Go p e below Q (T.setTop (mkF m pc Ls (.int x :: .int j :: .ref a :: st))) := by
  obtain ⟨hd, rfl⟩ := hd; obtain ⟨B, locs, X, N, eT⟩ := id P; obtain ⟨cl, A', q1, q2, q3⟩ := id A
  obtain ⟨T', h', X', e', W, stp⟩ := stB X P.hx P.hZ eT A' (j := j) (x := x) (I.inb (by rw [q2]; exact hi)) (g := mkF m pc Ls (.int x :: .int j :: .ref a :: st)) rfl rfl (P.dec hd)
  rw [I.2] at W
  have W : Wr h h' a i (.int w) := hw ▸ W
  exact Go.of stp (G T' h' ⟨B, _, X', Fr.snoc X' N ge, e'⟩ W (A.set W))
theorem g_bastoreZ (P : Pl p l e R s m args below meth c Z y bytes mx ret n0 T h cells slots) {j x w : Int32} {i : Nat} (hd : D bytes pc .bastore 1 pc') (A : AL Z h a k .boolean vs) (I : Ix j i) (hi : i < vs.length) (ge : n0 ≤ a) (hw : x &&& 1 = w)
    (G : ∀ T' h', Pl p l e R s m args below meth c Z y bytes mx ret n0 T' h' cells slots → Wr h h' a i (.int w) → AL Z h' a k .boolean (vs.set i (.int w)) → Go p e below Q (T'.setTop (mkF m pc' Ls st))) : Go p e below Q (T.setTop (mkF m pc Ls (.int x :: .int j :: .ref a :: st))) := by
  obtain ⟨hd, rfl⟩ := hd; obtain ⟨B, locs, X, N, eT⟩ := id P; obtain ⟨cl, A', q1, q2, q3⟩ := id A
  obtain ⟨T', h', X', e', W, stp⟩ := stZ X P.hx P.hZ eT A' (j := j) (x := x) (I.inb (by rw [q2]; exact hi)) (g := mkF m pc Ls (.int x :: .int j :: .ref a :: st)) rfl rfl (P.dec hd)
  rw [I.2] at W
  have W : Wr h h' a i (.int w) := hw ▸ W
  exact Go.of stp (G T' h' ⟨B, _, X', Fr.snoc X' N ge, e'⟩ W (A.set W))
theorem g_aastore (P : Pl p l e R s m args below meth c Z y bytes mx ret n0 T h cells slots) {j : Int32} {i : Nat} (hd : D bytes pc .aastore 1 pc') (A : AL Z h a k ty vs) (hty : ty.isReference = true) (I : Ix j i) (hi : i < vs.length) (F : Sto Z h a v) (ge : n0 ≤ a)
    (G : ∀ T' h', Pl p l e R s m args below meth c Z y bytes mx ret n0 T' h' cells slots → Wr h h' a i v → AL Z h' a k ty (vs.set i v) → Go p e below Q (T'.setTop (mkF m pc' Ls st))) : Go p e below Q (T.setTop (mkF m pc Ls (v :: .int j :: .ref a :: st))) := by
  obtain ⟨hd, rfl⟩ := hd; obtain ⟨B, locs, X, N, eT⟩ := id P; obtain ⟨cl, A', q1, q2, q3⟩ := id A
  obtain ⟨T', h', X', e', W, stp⟩ := stR X P.hx P.hZ eT A' (j := j) (v := v) (I.inb (by rw [q2]; exact hi)) hty F (g := mkF m pc Ls (v :: .int j :: .ref a :: st)) rfl rfl (P.dec hd)
  rw [I.2] at W
  exact Go.of stp (G T' h' ⟨B, _, X', Fr.snoc X' N ge, e'⟩ W (A.set W))
theorem g_clone (P : Pl p l e R s m args below meth c Z y bytes mx ret n0 T h cells slots) {ad : String} {index : Nat} (hd : D bytes pc (.invokevirtual index) 3 pc')
    (w1 : (Cond.methodLink y.cls index ⟨ad, "clone", "()Ljava/lang/Object;"⟩).before a0 Z = true) (w2 : (Cond.sameMethod ad "java/lang/Object" "clone" "()Ljava/lang/Object;").before a0 Z = true) (w3 : (Cond.native ⟨"java/lang/Object", "clone", "()Ljava/lang/Object;"⟩).before a0 Z = true)
    (w4 : (Cond.instanceMethod ⟨"java/lang/Object", "clone", "()Ljava/lang/Object;"⟩).before a0 Z = true) (w5 : (Cond.selects ad ⟨ad, "clone", "()Ljava/lang/Object;"⟩ ⟨"java/lang/Object", "clone", "()Ljava/lang/Object;"⟩).before a0 Z = true) (w6 : (Cond.castable ad "java/lang/Cloneable").before a0 Z = true)
    (A : AL Z h a k ty vs) (E : Exa Z h a ad) (fit : ∀ v ∈ vs, fits ty v = true) (hs : Ls.size = mx) (hf : 1 ≤ R.frames) {W : Nat} (hW : (st.map fun v => v.category).sum = W) (hl : W + 14 ≤ R.locals) (cap : Nat) (hcap : vs.length ≤ cap) (hc : cells + 1 ≤ R.cells) (hsl : slots + cap ≤ R.slots)
    (G : ∀ T' h' b, Pl p l e R s m args below meth c Z y bytes mx ret n0 T' h' (cells + 1) (slots + cap) → h.size = b → Ext h h' → AL Z h' b k ty vs → Exa Z h' b ad → Go p e below Q (T'.setTop (mkF m pc' Ls (.ref b :: st)))) : Go p e below Q (T.setTop (mkF m pc Ls (.ref a :: st))) := by
  obtain ⟨hd, rfl⟩ := hd; obtain ⟨B, locs, X, N, eT⟩ := id P; obtain ⟨cl, A, q1, q2, q3⟩ := A
  subst q2
  have FC : FitC Z cl := fitC_of A fun i hi v hv => fit v (by rw [← Array.getElem?_toList] at hv; exact List.mem_of_getElem? hv)
  obtain ⟨T', h', X', e', E', A', Ex, stp⟩ := cloneA X P.hx P.hZ P.hown w1 w2 w3 w4 w5 w6 eT A E FC (g := mkF m pc Ls (.ref a :: st)) rfl (by rw [P.hml]; exact hs) rfl (P.dec hd) hf (W := W) (by show 2 * 0 + _ ≤ W; omega) hl (by rw [← Array.length_toList]; exact hcap) hc hsl
  exact Go.of stp (G T' h' _ ⟨B, locs, X', N, e'⟩ rfl E' ⟨_, A', q1, rfl, q3⟩ Ex)
theorem AL.sto {x : Addr} {C : String} (A : AL Z h a k ty vs) (O : Ovr Z k C) (I : Ins Z h x C true) : Sto Z h a (.ref x) := by obtain ⟨cl, A, q, -⟩ := A; exact Sto.ofV A q O I
theorem g_checkcast (P : Pl p l e R s m args below meth c Z y bytes mx ret n0 T h cells slots) {K : String} {index : Nat} (hd : D bytes pc (.checkcast index) 3 pc') (w : (Cond.classLink y.cls index K).before a0 Z = true) (F : Ins Z h a K true)
    (G : ∀ T', Pl p l e R s m args below meth c Z y bytes mx ret n0 T' h cells slots → Go p e below Q (T'.setTop (mkF m pc' Ls (.ref a :: st)))) : Go p e below Q (T.setTop (mkF m pc Ls (.ref a :: st))) := by
  obtain ⟨hd, rfl⟩ := hd; obtain ⟨B, locs, X, N, eT⟩ := id P
  obtain ⟨T', X', e', stp⟩ := castY X P.hx P.hZ P.hown w eT F (g := mkF m pc Ls (.ref a :: st)) rfl rfl (P.dec hd)
  exact Go.of stp (G T' ⟨B, locs, X', N, e'⟩)
theorem g_instYes (P : Pl p l e R s m args below meth c Z y bytes mx ret n0 T h cells slots) {K : String} {index : Nat} (hd : D bytes pc (.instanceof index) 3 pc') (w : (Cond.classLink y.cls index K).before a0 Z = true) (F : Ins Z h a K true)
    (G : ∀ T', Pl p l e R s m args below meth c Z y bytes mx ret n0 T' h cells slots → Go p e below Q (T'.setTop (mkF m pc' Ls (.int 1 :: st)))) : Go p e below Q (T.setTop (mkF m pc Ls (.ref a :: st))) := by
  obtain ⟨hd, rfl⟩ := hd; obtain ⟨B, locs, X, N, eT⟩ := id P
  obtain ⟨T', X', e', stp⟩ := instY X P.hx P.hZ P.hown w eT F (g := mkF m pc Ls (.ref a :: st)) rfl rfl (P.dec hd)
  exact Go.of stp (G T' ⟨B, locs, X', N, e'⟩)
theorem g_instNo (P : Pl p l e R s m args below meth c Z y bytes mx ret n0 T h cells slots) {K C : String} {index : Nat} (hd : D bytes pc (.instanceof index) 3 pc') (w : (Cond.classLink y.cls index K).before a0 Z = true) (E : Exa Z h a C) (F : ∃ c t, Z.vm.findClass C = some c ∧ Z.vm.findClass K = some t ∧ Z.vm.assignable c t = false)
    (G : ∀ T', Pl p l e R s m args below meth c Z y bytes mx ret n0 T' h cells slots → Go p e below Q (T'.setTop (mkF m pc' Ls (.int 0 :: st)))) : Go p e below Q (T.setTop (mkF m pc Ls (.ref a :: st))) := by
  obtain ⟨hd, rfl⟩ := hd; obtain ⟨B, locs, X, N, eT⟩ := id P
  obtain ⟨T', X', e', stp⟩ := instNo X P.hx P.hZ P.hown w eT E F (g := mkF m pc Ls (.ref a :: st)) rfl rfl (P.dec hd)
  exact Go.of stp (G T' ⟨B, locs, X', N, e'⟩)
theorem g_virtualUp (P : Pl p l e R s m args below meth c Z y bytes mx ret n0 T h cells slots) {y1 y' : MethodName} {C owner : String} {bytes' : ByteArray} {mx' : Nat} {ret' : Option FieldType} {rm : Room} {Qc : Option Value → Heap → Prop} {index : Nat} {ps : List FieldType} {r : Option FieldType} (a : Addr) (argsL : List Value) {stk rest : List Value} {W : Nat}
    (hd : D bytes pc (.invokevirtual index) 3 pc') (w1 : (Cond.methodLink y.cls index y1).before a0 Z = true) (w0 : (Cond.sameMethod y1.cls owner y1.name y1.desc).before a0 Z = true) (w2 : (Cond.declares ⟨owner, y1.name, y1.desc⟩).before a0 Z = true) (ho : owner ≠ "java/lang/invoke/MethodHandle" ∧ owner ≠ "java/lang/invoke/VarHandle") (w3 : (Cond.selects C y1 y').before a0 Z = true) (w4 : (Cond.instanceMethod y').before a0 Z = true) (w5 : (Cond.initialized y'.cls).before a0 Z = true) (w6 : (Cond.code y' bytes' mx' ret').before a0 Z = true)
    (E : Exa Z h a C) (M : Met l Z y' bytes' mx' ret' rm n0 (.ref a :: argsL).toArray h Qc) (pd : parseMethodDescriptor y1.desc = some ⟨ps, r⟩) (hl : argsL.length = ps.length) (hs : stk = argsL.reverse ++ .ref a :: rest) (hmx : Ls.size = mx) (hW : (rest.map fun v => v.category).sum = W)
    (hf : rm.frames + 1 ≤ R.frames) (hlo : W + (mx' + 11) + rm.locals ≤ R.locals) (hc : cells + rm.cells ≤ R.cells) (hsl : slots + rm.slots ≤ R.slots)
    (G : ∀ v T' h', Pl p l e R s m args below meth c Z y bytes mx ret n0 T' h' (cells + rm.cells) (slots + rm.slots) → Qc v h' → Go p e below Q (T'.setTop (mkF m pc' Ls (v.toList ++ rest)))) : Go p e below Q (T.setTop (mkF m pc Ls stk)) := by
  obtain ⟨hd, rfl⟩ := hd; obtain ⟨B, locs, X, N, eT⟩ := id P
  obtain ⟨cq, kq, qa, qb, qc⟩ := isOf P.hZ eT E
  obtain ⟨v, _, ⟨T', L', k', n'⟩, -, X', ⟨Lc, hQ, l', y'', z'⟩, stp⟩ := X.virtualBackUp P.hx (x := y1) (y := y') (owner := owner) P.hown (mvT P.hZ w1) (mvT P.hZ w0) (mvT P.hZ w2) ho (mvT P.hZ w3) (mvT P.hZ w4) (backOf (W := W) (Q := fun v h L => Fr n0 L ∧ Qc v h) (M []) P.hZ w6 w5 hf hlo) qa qc (g := mkF m pc Ls stk) rfl (by rw [P.hml]; exact hmx) (Steps.refl _) (argsL := argsL) (rest := rest) (lenOf pd hl) hs (by show 2 * 0 + _ ≤ W; omega) (P.dec hd) (fun _ _ => ⟨rfl, eT, hc, hsl⟩)
  dsimp only [Pt.U, Pt.locs, Pt.cells, Pt.slots] at X' l' y'' z' stp hQ
  subst l' y'' z'
  exact Go.tr stp (G v T' T'.heap ⟨B, _, X', Fr.app N hQ.1, rfl⟩ hQ.2)
end OwnMore
theorem d0_0 : D code 0 (.iload_n 0) 1 1 := ⟨at_0, rfl⟩
theorem d0_1 : D code 1 (.iconst 3) 1 2 := ⟨at_1, rfl⟩
theorem d0_2 : D code 2 (.iand) 1 3 := ⟨at_2, rfl⟩
theorem d0_3 : D code 3 (.istore 4) 2 5 := ⟨at_3, rfl⟩
theorem d0_5 : D code 5 (.iload 4) 2 7 := ⟨at_5, rfl⟩
theorem d0_7 : D code 7 (.ifCond .ne 11) 3 10 := ⟨at_7, rfl⟩
theorem d0_10 : D code 10 (.getstatic 7) 3 13 := ⟨at_10, rfl⟩
theorem d0_13 : D code 13 (.astore 5) 2 15 := ⟨at_13, rfl⟩
theorem d0_15 : D code 15 (.goto 36) 3 18 := ⟨at_15, rfl⟩
theorem d0_18 : D code 18 (.iload 4) 2 20 := ⟨at_18, rfl⟩
theorem d0_20 : D code 20 (.iconst 1) 1 21 := ⟨at_20, rfl⟩
theorem d0_21 : D code 21 (.if_icmp .ne 11) 3 24 := ⟨at_21, rfl⟩
theorem d0_24 : D code 24 (.getstatic 13) 3 27 := ⟨at_24, rfl⟩
theorem d0_27 : D code 27 (.astore 5) 2 29 := ⟨at_27, rfl⟩
theorem d0_29 : D code 29 (.goto 22) 3 32 := ⟨at_29, rfl⟩
theorem d0_32 : D code 32 (.iload 4) 2 34 := ⟨at_32, rfl⟩
theorem d0_34 : D code 34 (.iconst 2) 1 35 := ⟨at_34, rfl⟩
theorem d0_35 : D code 35 (.if_icmp .ne 11) 3 38 := ⟨at_35, rfl⟩
theorem d0_38 : D code 38 (.getstatic 16) 3 41 := ⟨at_38, rfl⟩
theorem d0_41 : D code 41 (.astore 5) 2 43 := ⟨at_41, rfl⟩
theorem d0_43 : D code 43 (.goto 8) 3 46 := ⟨at_43, rfl⟩
theorem d0_46 : D code 46 (.getstatic 19) 3 49 := ⟨at_46, rfl⟩
theorem d0_49 : D code 49 (.astore 5) 2 51 := ⟨at_49, rfl⟩
theorem d0_51 : D code 51 (.iload 4) 2 53 := ⟨at_51, rfl⟩
theorem d0_53 : D code 53 (.iconst 1) 1 54 := ⟨at_53, rfl⟩
theorem d0_54 : D code 54 (.if_icmp .eq 9) 3 57 := ⟨at_54, rfl⟩
theorem d0_57 : D code 57 (.iload 4) 2 59 := ⟨at_57, rfl⟩
theorem d0_59 : D code 59 (.iconst 2) 1 60 := ⟨at_59, rfl⟩
theorem d0_60 : D code 60 (.if_icmp .ne 7) 3 63 := ⟨at_60, rfl⟩
theorem d0_63 : D code 63 (.iconst 1) 1 64 := ⟨at_63, rfl⟩
theorem d0_64 : D code 64 (.goto 4) 3 67 := ⟨at_64, rfl⟩
theorem d0_67 : D code 67 (.iconst 0) 1 68 := ⟨at_67, rfl⟩
theorem d0_68 : D code 68 (.istore 6) 2 70 := ⟨at_68, rfl⟩
theorem d0_70 : D code 70 (.iload 6) 2 72 := ⟨at_70, rfl⟩
theorem d0_72 : D code 72 (.ifCond .eq 10) 3 75 := ⟨at_72, rfl⟩
theorem d0_75 : D code 75 (.iload_n 1) 1 76 := ⟨at_75, rfl⟩
theorem d0_76 : D code 76 (.ldc 22) 2 78 := ⟨at_76, rfl⟩
theorem d0_78 : D code 78 (.iand) 1 79 := ⟨at_78, rfl⟩
theorem d0_79 : D code 79 (.goto 4) 3 82 := ⟨at_79, rfl⟩
theorem d0_82 : D code 82 (.iconst 0) 1 83 := ⟨at_82, rfl⟩
theorem d0_83 : D code 83 (.istore 7) 2 85 := ⟨at_83, rfl⟩
theorem d0_85 : D code 85 (.iload_n 2) 1 86 := ⟨at_85, rfl⟩
theorem d0_86 : D code 86 (.ldc 22) 2 88 := ⟨at_86, rfl⟩
theorem d0_88 : D code 88 (.iand) 1 89 := ⟨at_88, rfl⟩
theorem d0_89 : D code 89 (.istore 8) 2 91 := ⟨at_89, rfl⟩
theorem d0_91 : D code 91 (.iload_n 3) 1 92 := ⟨at_91, rfl⟩
theorem d0_92 : D code 92 (.iconst 1) 1 93 := ⟨at_92, rfl⟩
theorem d0_93 : D code 93 (.iand) 1 94 := ⟨at_93, rfl⟩
theorem d0_94 : D code 94 (.ifCond .eq 40) 3 97 := ⟨at_94, rfl⟩
theorem d0_97 : D code 97 (.iload 7) 2 99 := ⟨at_97, rfl⟩
theorem d0_99 : D code 99 (.i2l) 1 100 := ⟨at_99, rfl⟩
theorem d0_100 : D code 100 (.iload_n 3) 1 101 := ⟨at_100, rfl⟩
theorem d0_101 : D code 101 (.iconst 1) 1 102 := ⟨at_101, rfl⟩
theorem d0_102 : D code 102 (.iushr) 1 103 := ⟨at_102, rfl⟩
theorem d0_103 : D code 103 (.iconst 3) 1 104 := ⟨at_103, rfl⟩
theorem d0_104 : D code 104 (.iand) 1 105 := ⟨at_104, rfl⟩
theorem d0_105 : D code 105 (.iconst 3) 1 106 := ⟨at_105, rfl⟩
theorem d0_106 : D code 106 (.irem) 1 107 := ⟨at_106, rfl⟩
theorem d0_107 : D code 107 (.i2l) 1 108 := ⟨at_107, rfl⟩
theorem d0_108 : D code 108 (.ladd) 1 109 := ⟨at_108, rfl⟩
theorem d0_109 : D code 109 (.lconst 1) 1 110 := ⟨at_109, rfl⟩
theorem d0_110 : D code 110 (.lsub) 1 111 := ⟨at_110, rfl⟩
theorem d0_111 : D code 111 (.lstore 9) 2 113 := ⟨at_111, rfl⟩
theorem d0_113 : D code 113 (.lload 9) 2 115 := ⟨at_113, rfl⟩
theorem d0_115 : D code 115 (.lconst 0) 1 116 := ⟨at_115, rfl⟩
theorem d0_116 : D code 116 (.lcmp) 1 117 := ⟨at_116, rfl⟩
theorem d0_117 : D code 117 (.ifCond .lt 17) 3 120 := ⟨at_117, rfl⟩
theorem d0_120 : D code 120 (.lload 9) 2 122 := ⟨at_120, rfl⟩
theorem d0_122 : D code 122 (.ldc2_w 23) 3 125 := ⟨at_122, rfl⟩
theorem d0_125 : D code 125 (.lcmp) 1 126 := ⟨at_125, rfl⟩
theorem d0_126 : D code 126 (.ifCond .gt 8) 3 129 := ⟨at_126, rfl⟩
theorem d0_129 : D code 129 (.lload 9) 2 131 := ⟨at_129, rfl⟩
theorem d0_131 : D code 131 (.l2i) 1 132 := ⟨at_131, rfl⟩
theorem d0_132 : D code 132 (.istore 8) 2 134 := ⟨at_132, rfl⟩
theorem d0_134 : D code 134 (.new 25) 3 137 := ⟨at_134, rfl⟩
theorem d0_137 : D code 137 (.dup) 1 138 := ⟨at_137, rfl⟩
theorem d0_138 : D code 138 (.aload 5) 2 140 := ⟨at_138, rfl⟩
theorem d0_140 : D code 140 (.iload 7) 2 142 := ⟨at_140, rfl⟩
theorem d0_142 : D code 142 (.invokespecial 27) 3 145 := ⟨at_142, rfl⟩
theorem d0_145 : D code 145 (.astore 9) 2 147 := ⟨at_145, rfl⟩
theorem d0_147 : D code 147 (.aload 9) 2 149 := ⟨at_147, rfl⟩
theorem d0_149 : D code 149 (.iload 8) 2 151 := ⟨at_149, rfl⟩
theorem d0_151 : D code 151 (.invokevirtual 30) 3 154 := ⟨at_151, rfl⟩
theorem d0_154 : D code 154 (.istore 10) 2 156 := ⟨at_154, rfl⟩
theorem d0_156 : D code 156 (.iload 4) 2 158 := ⟨at_156, rfl⟩
theorem d0_158 : D code 158 (.ifCond .ne 18) 3 161 := ⟨at_158, rfl⟩
theorem d0_161 : D code 161 (.iload 8) 2 163 := ⟨at_161, rfl⟩
theorem d0_163 : D code 163 (.ifCond .ne 7) 3 166 := ⟨at_163, rfl⟩
theorem d0_166 : D code 166 (.iconst 1) 1 167 := ⟨at_166, rfl⟩
theorem d0_167 : D code 167 (.goto 4) 3 170 := ⟨at_167, rfl⟩
theorem d0_170 : D code 170 (.iconst 0) 1 171 := ⟨at_170, rfl⟩
theorem d0_171 : D code 171 (.istore 11) 2 173 := ⟨at_171, rfl⟩
theorem d0_173 : D code 173 (.goto 52) 3 176 := ⟨at_173, rfl⟩
theorem d0_176 : D code 176 (.iload 4) 2 178 := ⟨at_176, rfl⟩
theorem d0_178 : D code 178 (.iconst 1) 1 179 := ⟨at_178, rfl⟩
theorem d0_179 : D code 179 (.if_icmp .ne 20) 3 182 := ⟨at_179, rfl⟩
theorem d0_182 : D code 182 (.iload 8) 2 184 := ⟨at_182, rfl⟩
theorem d0_184 : D code 184 (.iload 7) 2 186 := ⟨at_184, rfl⟩
theorem d0_186 : D code 186 (.if_icmp .ne 7) 3 189 := ⟨at_186, rfl⟩
theorem d0_189 : D code 189 (.iconst 1) 1 190 := ⟨at_189, rfl⟩
theorem d0_190 : D code 190 (.goto 4) 3 193 := ⟨at_190, rfl⟩
theorem d0_193 : D code 193 (.iconst 0) 1 194 := ⟨at_193, rfl⟩
theorem d0_194 : D code 194 (.istore 11) 2 196 := ⟨at_194, rfl⟩
theorem d0_196 : D code 196 (.goto 29) 3 199 := ⟨at_196, rfl⟩
theorem d0_199 : D code 199 (.iload 4) 2 201 := ⟨at_199, rfl⟩
theorem d0_201 : D code 201 (.iconst 2) 1 202 := ⟨at_201, rfl⟩
theorem d0_202 : D code 202 (.if_icmp .ne 20) 3 205 := ⟨at_202, rfl⟩
theorem d0_205 : D code 205 (.iload 8) 2 207 := ⟨at_205, rfl⟩
theorem d0_207 : D code 207 (.iload 7) 2 209 := ⟨at_207, rfl⟩
theorem d0_209 : D code 209 (.if_icmp .gt 7) 3 212 := ⟨at_209, rfl⟩
theorem d0_212 : D code 212 (.iconst 1) 1 213 := ⟨at_212, rfl⟩
theorem d0_213 : D code 213 (.goto 4) 3 216 := ⟨at_213, rfl⟩
theorem d0_216 : D code 216 (.iconst 0) 1 217 := ⟨at_216, rfl⟩
theorem d0_217 : D code 217 (.istore 11) 2 219 := ⟨at_217, rfl⟩
theorem d0_219 : D code 219 (.goto 6) 3 222 := ⟨at_219, rfl⟩
theorem d0_222 : D code 222 (.iconst 1) 1 223 := ⟨at_222, rfl⟩
theorem d0_223 : D code 223 (.istore 11) 2 225 := ⟨at_223, rfl⟩
theorem d0_225 : D code 225 (.iload 10) 2 227 := ⟨at_225, rfl⟩
theorem d0_227 : D code 227 (.iload 11) 2 229 := ⟨at_227, rfl⟩
theorem d0_229 : D code 229 (.if_icmp .ne 7) 3 232 := ⟨at_229, rfl⟩
theorem d0_232 : D code 232 (.iconst 1) 1 233 := ⟨at_232, rfl⟩
theorem d0_233 : D code 233 (.goto 4) 3 236 := ⟨at_233, rfl⟩
theorem d0_237 : D code 237 (.ireturn) 1 238 := ⟨at_237, rfl⟩
theorem d1_0 : D prog_19_method_1_code 0 (.aload_n 0) 1 1 := ⟨by decide +kernel, rfl⟩
theorem d1_1 : D prog_19_method_1_code 1 (.invokespecial 1) 3 4 := ⟨by decide +kernel, rfl⟩
theorem d1_4 : D prog_19_method_1_code 4 (.iload_n 2) 1 5 := ⟨by decide +kernel, rfl⟩
theorem d1_5 : D prog_19_method_1_code 5 (.ifCond .ge 17) 3 8 := ⟨by decide +kernel, rfl⟩
theorem d1_22 : D prog_19_method_1_code 22 (.iload_n 2) 1 23 := ⟨by decide +kernel, rfl⟩
theorem d1_23 : D prog_19_method_1_code 23 (.ifCond .eq 27) 3 26 := ⟨by decide +kernel, rfl⟩
theorem d1_26 : D prog_19_method_1_code 26 (.aload_n 1) 1 27 := ⟨by decide +kernel, rfl⟩
theorem d1_27 : D prog_19_method_1_code 27 (.invokestatic 16) 3 30 := ⟨by decide +kernel, rfl⟩
theorem d1_30 : D prog_19_method_1_code 30 (.ifCond .ne 20) 3 33 := ⟨by decide +kernel, rfl⟩
theorem d1_50 : D prog_19_method_1_code 50 (.aload_n 0) 1 51 := ⟨by decide +kernel, rfl⟩
theorem d1_51 : D prog_19_method_1_code 51 (.aload_n 1) 1 52 := ⟨by decide +kernel, rfl⟩
theorem d1_52 : D prog_19_method_1_code 52 (.putfield 31) 3 55 := ⟨by decide +kernel, rfl⟩
theorem d1_55 : D prog_19_method_1_code 55 (.aload_n 0) 1 56 := ⟨by decide +kernel, rfl⟩
theorem d1_56 : D prog_19_method_1_code 56 (.iload_n 2) 1 57 := ⟨by decide +kernel, rfl⟩
theorem d1_57 : D prog_19_method_1_code 57 (.putfield 35) 3 60 := ⟨by decide +kernel, rfl⟩
theorem d1_60 : D prog_19_method_1_code 60 (.return_) 1 61 := ⟨by decide +kernel, rfl⟩
theorem d2_0 : D jdk_30_method_1_code 0 (.aload_n 0) 1 1 := ⟨by decide +kernel, rfl⟩
theorem d2_1 : D jdk_30_method_1_code 1 (.invokespecial 1) 3 4 := ⟨by decide +kernel, rfl⟩
theorem d2_4 : D jdk_30_method_1_code 4 (.return_) 1 5 := ⟨by decide +kernel, rfl⟩
theorem d4_0 : D prog_19_method_3_code 0 (.aload_n 0) 1 1 := ⟨by decide +kernel, rfl⟩
theorem d4_1 : D prog_19_method_3_code 1 (.getfield 31) 3 4 := ⟨by decide +kernel, rfl⟩
theorem d4_4 : D prog_19_method_3_code 4 (.invokevirtual 47) 3 7 := ⟨by decide +kernel, rfl⟩
theorem d4_7 : D prog_19_method_3_code 7 (.tableswitch 29 0 3 #[39, 51, 67, 83]) 29 36 := ⟨by decide +kernel, rfl⟩
theorem d4_46 : D prog_19_method_3_code 46 (.iload_n 1) 1 47 := ⟨by decide +kernel, rfl⟩
theorem d4_47 : D prog_19_method_3_code 47 (.ifCond .ne 7) 3 50 := ⟨by decide +kernel, rfl⟩
theorem d4_50 : D prog_19_method_3_code 50 (.iconst 1) 1 51 := ⟨by decide +kernel, rfl⟩
theorem d4_51 : D prog_19_method_3_code 51 (.goto 40) 3 54 := ⟨by decide +kernel, rfl⟩
theorem d4_54 : D prog_19_method_3_code 54 (.iconst 0) 1 55 := ⟨by decide +kernel, rfl⟩
theorem d4_55 : D prog_19_method_3_code 55 (.goto 36) 3 58 := ⟨by decide +kernel, rfl⟩
theorem d4_58 : D prog_19_method_3_code 58 (.iload_n 1) 1 59 := ⟨by decide +kernel, rfl⟩
theorem d4_59 : D prog_19_method_3_code 59 (.aload_n 0) 1 60 := ⟨by decide +kernel, rfl⟩
theorem d4_60 : D prog_19_method_3_code 60 (.getfield 35) 3 63 := ⟨by decide +kernel, rfl⟩
theorem d4_63 : D prog_19_method_3_code 63 (.if_icmp .ne 7) 3 66 := ⟨by decide +kernel, rfl⟩
theorem d4_66 : D prog_19_method_3_code 66 (.iconst 1) 1 67 := ⟨by decide +kernel, rfl⟩
theorem d4_67 : D prog_19_method_3_code 67 (.goto 24) 3 70 := ⟨by decide +kernel, rfl⟩
theorem d4_70 : D prog_19_method_3_code 70 (.iconst 0) 1 71 := ⟨by decide +kernel, rfl⟩
theorem d4_71 : D prog_19_method_3_code 71 (.goto 20) 3 74 := ⟨by decide +kernel, rfl⟩
theorem d4_74 : D prog_19_method_3_code 74 (.iload_n 1) 1 75 := ⟨by decide +kernel, rfl⟩
theorem d4_75 : D prog_19_method_3_code 75 (.aload_n 0) 1 76 := ⟨by decide +kernel, rfl⟩
theorem d4_76 : D prog_19_method_3_code 76 (.getfield 35) 3 79 := ⟨by decide +kernel, rfl⟩
theorem d4_79 : D prog_19_method_3_code 79 (.if_icmp .gt 7) 3 82 := ⟨by decide +kernel, rfl⟩
theorem d4_82 : D prog_19_method_3_code 82 (.iconst 1) 1 83 := ⟨by decide +kernel, rfl⟩
theorem d4_83 : D prog_19_method_3_code 83 (.goto 8) 3 86 := ⟨by decide +kernel, rfl⟩
theorem d4_86 : D prog_19_method_3_code 86 (.iconst 0) 1 87 := ⟨by decide +kernel, rfl⟩
theorem d4_87 : D prog_19_method_3_code 87 (.goto 4) 3 90 := ⟨by decide +kernel, rfl⟩
theorem d4_90 : D prog_19_method_3_code 90 (.iconst 1) 1 91 := ⟨by decide +kernel, rfl⟩
theorem d4_91 : D prog_19_method_3_code 91 (.ireturn) 1 92 := ⟨by decide +kernel, rfl⟩
theorem d5_0 : D jdk_37_method_2_code 0 (.aload_n 0) 1 1 := ⟨by decide +kernel, rfl⟩
theorem d5_1 : D jdk_37_method_2_code 1 (.getfield 7) 3 4 := ⟨by decide +kernel, rfl⟩
theorem d5_4 : D jdk_37_method_2_code 4 (.ireturn) 1 5 := ⟨by decide +kernel, rfl⟩
theorem d6_0 : D prog_19_method_2_code 0 (.aload_n 0) 1 1 := ⟨by decide +kernel, rfl⟩
theorem d6_1 : D prog_19_method_2_code 1 (.getstatic 39) 3 4 := ⟨by decide +kernel, rfl⟩
theorem d6_4 : D prog_19_method_2_code 4 (.if_acmp .eq 10) 3 7 := ⟨by decide +kernel, rfl⟩
theorem d6_7 : D prog_19_method_2_code 7 (.aload_n 0) 1 8 := ⟨by decide +kernel, rfl⟩
theorem d6_8 : D prog_19_method_2_code 8 (.getstatic 44) 3 11 := ⟨by decide +kernel, rfl⟩
theorem d6_11 : D prog_19_method_2_code 11 (.if_acmp .ne 7) 3 14 := ⟨by decide +kernel, rfl⟩
theorem d6_14 : D prog_19_method_2_code 14 (.iconst 1) 1 15 := ⟨by decide +kernel, rfl⟩
theorem d6_15 : D prog_19_method_2_code 15 (.goto 4) 3 18 := ⟨by decide +kernel, rfl⟩
theorem d6_18 : D prog_19_method_2_code 18 (.iconst 0) 1 19 := ⟨by decide +kernel, rfl⟩
theorem d6_19 : D prog_19_method_2_code 19 (.ireturn) 1 20 := ⟨by decide +kernel, rfl⟩
theorem pd_0 : parseMethodDescriptor "()V" = some ⟨[], none⟩ := by decide +kernel
theorem pd_1 : parseMethodDescriptor "(Lcom/example/bellwether/bellwether/mo/Scope$Type;)Z" = some ⟨[(.object "com/example/bellwether/bellwether/mo/Scope$Type")], some .boolean⟩ := by decide +kernel
theorem pd_2 : parseMethodDescriptor "()I" = some ⟨[], some .int⟩ := by decide +kernel
theorem pd_3 : parseMethodDescriptor "(Lcom/example/bellwether/bellwether/mo/Scope$Type;I)V" = some ⟨[(.object "com/example/bellwether/bellwether/mo/Scope$Type"), .int], none⟩ := by decide +kernel
theorem pd_4 : parseMethodDescriptor "(I)Z" = some ⟨[.int], some .boolean⟩ := by decide +kernel
set_option maxRecDepth 65536 in
set_option maxHeartbeats 40000000 in
theorem rm_record (l : Launch) (Z : State) (a0 : Array Value) (hw : ∀ d ∈ tables_1, d.before a0 Z = true) (h0 : Heap) (n0 : Nat) (r1 : Addr)  :
    Met l Z (⟨"java/lang/Record", "<init>", "()V"⟩ : MethodName) jdk_30_method_1_code 1 none ({ frames := 1, cells := 0, slots := 0, locals := 12 } : Room) n0 #[(.ref r1)] h0 (fun v h => v = none ∧ h = h0) := by
  refine Met.intro (by decide +kernel) ?_
  intro p e s m below meth c T0 P0
  refine Go.cast (g' := mkF m 0 #[.val (.ref r1)] []) (by first | (simp [entryFrame, mkF, argsToLocals, Value.category, maxLocals]; done) | rfl) ?_
  refine g_aloadN P0 d2_0 rfl rfl ?_
  refine g_init (W := 0) P0 d2_1 (hw _ (List.mem_of_getElem? (i := 15) rfl)) (hw _ (List.mem_of_getElem? (i := 16) rfl)) (hw _ (List.mem_of_getElem? (i := 17) rfl)) rfl (by decide) rfl (by decide) fun T1 P1 => ?_
  exact g_ret P1 d2_4 (by decide) (by decide) ⟨rfl, rfl⟩
set_option maxRecDepth 65536 in
set_option maxHeartbeats 40000000 in
theorem rm_takes (l : Launch) (Z : State) (a0 : Array Value) (hw : ∀ d ∈ tables_1, d.before a0 Z = true) (h0 : Heap) (n0 : Nat) (a_BASE_ONLY a_BASE_NTH_LEVEL a_BASE_SUBTREE a_BASE_ALL : Addr) (r : Addr) (z : Int32) (S_BASE_NTH_LEVEL : Sta Z h0 "com/example/bellwether/bellwether/mo/Scope$Type" "BASE_NTH_LEVEL" "Lcom/example/bellwether/bellwether/mo/Scope$Type;" (.ref a_BASE_NTH_LEVEL)) (S_BASE_SUBTREE : Sta Z h0 "com/example/bellwether/bellwether/mo/Scope$Type" "BASE_SUBTREE" "Lcom/example/bellwether/bellwether/mo/Scope$Type;" (.ref a_BASE_SUBTREE)) (hz : z = if r = a_BASE_NTH_LEVEL ∨ r = a_BASE_SUBTREE then 1 else 0) :
    Met l Z (⟨"com/example/bellwether/bellwether/mo/Scope", "takesLevel", "(Lcom/example/bellwether/bellwether/mo/Scope$Type;)Z"⟩ : MethodName) prog_19_method_2_code 1 (some .boolean) ({ frames := 0, cells := 0, slots := 0, locals := 0 } : Room) n0 #[(.ref r)] h0 (fun v h => v = some (.int z) ∧ h = h0) := by
  refine Met.intro (by decide +kernel) ?_
  intro p e s m below meth c T0 P0
  refine Go.cast (g' := mkF m 0 #[.val (.ref r)] []) (by first | (simp [entryFrame, mkF, argsToLocals, Value.category, maxLocals]; done) | rfl) ?_
  refine g_aloadN P0 d6_0 rfl rfl ?_
  refine g_getS (host := "") P0 d6_1 (Or.inl (hw _ (List.mem_of_getElem? (i := 43) rfl))) Via.refl S_BASE_NTH_LEVEL fun T2 P2 => ?_
  by_cases hc4 : r = a_BASE_NTH_LEVEL
  · refine g_acmpYes P2 d6_4 rfl rfl (ac_t hc4).1 14 (by decide) (by decide) ?_
    refine g_iconst (v := (1 : Int32)) P2 d6_14 (by rfl) ?_
    refine g_goto P2 d6_15 19 (by decide) (by decide) ?_
    exact g_retZ P2 d6_19 (by decide) (by decide) (by decide) ⟨by rw [hz, if_pos (Or.inl hc4)], rfl⟩
  · refine g_acmpNo P2 d6_4 rfl rfl (ac_f hc4).1 ?_
    refine g_aloadN P2 d6_7 rfl rfl ?_
    refine g_getS (host := "") P2 d6_8 (Or.inl (hw _ (List.mem_of_getElem? (i := 45) rfl))) Via.refl S_BASE_SUBTREE fun T3 P3 => ?_
    by_cases hc11 : r = a_BASE_SUBTREE
    · refine g_acmpNo P3 d6_11 rfl rfl (ac_t hc11).2 ?_
      refine g_iconst (v := (1 : Int32)) P3 d6_14 (by rfl) ?_
      refine g_goto P3 d6_15 19 (by decide) (by decide) ?_
      exact g_retZ P3 d6_19 (by decide) (by decide) (by decide) ⟨by rw [hz, if_pos (Or.inr hc11)], rfl⟩
    · refine g_acmpYes P3 d6_11 rfl rfl (ac_f hc11).2 18 (by decide) (by decide) ?_
      refine g_iconst (v := (0 : Int32)) P3 d6_18 (by rfl) ?_
      exact g_retZ P3 d6_19 (by decide) (by decide) (by decide) ⟨by rw [hz, if_neg (not_or.mpr ⟨hc4, hc11⟩)], rfl⟩
set_option maxRecDepth 65536 in
set_option maxHeartbeats 40000000 in
theorem rm_scope (l : Launch) (Z : State) (a0 : Array Value) (hw : ∀ d ∈ tables_1, d.before a0 Z = true) (h0 : Heap) (n0 : Nat) (a_BASE_ONLY a_BASE_NTH_LEVEL a_BASE_SUBTREE a_BASE_ALL : Addr) (a ty : Addr) (lv : Int32) (S_BASE_NTH_LEVEL : Sta Z h0 "com/example/bellwether/bellwether/mo/Scope$Type" "BASE_NTH_LEVEL" "Lcom/example/bellwether/bellwether/mo/Scope$Type;" (.ref a_BASE_NTH_LEVEL)) (S_BASE_SUBTREE : Sta Z h0 "com/example/bellwether/bellwether/mo/Scope$Type" "BASE_SUBTREE" "Lcom/example/bellwether/bellwether/mo/Scope$Type;" (.ref a_BASE_SUBTREE)) (hl : ¬ lv < 0) (hk : ¬ lv = 0 → ty = a_BASE_NTH_LEVEL ∨ ty = a_BASE_SUBTREE) (ge : n0 ≤ a) (A : Exa Z h0 a "com/example/bellwether/bellwether/mo/Scope") (F_type : Fld Z h0 a "com/example/bellwether/bellwether/mo/Scope" "type" "Lcom/example/bellwether/bellwether/mo/Scope$Type;" .null) (F_level : Fld Z h0 a "com/example/bellwether/bellwether/mo/Scope" "level" "I" (.int 0)) :
    Met l Z (⟨"com/example/bellwether/bellwether/mo/Scope", "<init>", "(Lcom/example/bellwether/bellwether/mo/Scope$Type;I)V"⟩ : MethodName) prog_19_method_1_code 3 none ({ frames := 2, cells := 0, slots := 0, locals := 40 } : Room) n0 #[(.ref a), (.ref ty), (.int lv)] h0 (fun v h => v = none ∧ Keep h0 h [a] ∧ Exa Z h a "com/example/bellwether/bellwether/mo/Scope" ∧ Fld Z h a "com/example/bellwether/bellwether/mo/Scope" "type" "Lcom/example/bellwether/bellwether/mo/Scope$Type;" (.ref ty) ∧ Fld Z h a "com/example/bellwether/bellwether/mo/Scope" "level" "I" (.int lv)) := by
  refine Met.intro (by decide +kernel) ?_
  intro p e s m below meth c T0 P0
  refine Go.cast (g' := mkF m 0 #[.val (.ref a), .val (.ref ty), .val (.int lv)] []) (by first | (simp [entryFrame, mkF, argsToLocals, Value.category, maxLocals]; done) | rfl) ?_
  refine g_aloadN P0 d1_0 rfl rfl ?_
  refine g_special P0 a [] (rest := []) (W := 0) d1_1 rfl (hw _ (List.mem_of_getElem? (i := 10) rfl)) (hw _ (List.mem_of_getElem? (i := 11) rfl)) (hw _ (List.mem_of_getElem? (i := 13) rfl)) (hw _ (List.mem_of_getElem? (i := 14) rfl)) (by decide) (rm_record l Z a0 hw h0 n0 a) pd_0 rfl rfl rfl rfl (by decide) (by decide) (by decide) (by decide) fun v4 T4 h4 P4 q4 => ?_
  obtain ⟨rfl, rfl⟩ := q4
  refine g_iloadN P4 d1_4 rfl ?_
  refine g_ifYes P4 d1_5 ((if0 _ _).trans (flt hl).2.1) 22 (by decide) (by decide) ?_
  refine g_iloadN P4 d1_22 rfl ?_
  by_cases hc23 : lv = (0 : Int32)
  · refine g_ifYes P4 d1_23 ((if0 _ _).trans (teq hc23).1) 50 (by decide) (by decide) ?_
    refine g_aloadN P4 d1_50 rfl rfl ?_
    refine g_aloadN P4 d1_51 rfl rfl ?_
    refine g_putF (host := "") P4 d1_52 (Or.inl (hw _ (List.mem_of_getElem? (i := 18) rfl))) Via.refl F_type A (Or.inr ⟨(hw _ (List.mem_of_getElem? (i := 19) rfl)), rfl, rfl⟩) (hw _ (List.mem_of_getElem? (i := 5) rfl)) (ty := (.object "com/example/bellwether/bellwether/mo/Scope$Type")) (by decide) rfl rfl ge fun T5 h5 P5 W5 => ?_
    have F_type := F_type.same W5
    have F_level := F_level.other W5 (Or.inr (slot_ne (Or.inr (hw _ (List.mem_of_getElem? (i := 21) rfl)) : Laid Z a0 "com/example/bellwether/bellwether/mo/Scope" "com/example/bellwether/bellwether/mo/Scope" "level" "I") (Or.inr (hw _ (List.mem_of_getElem? (i := 19) rfl)) : Laid Z a0 "com/example/bellwether/bellwether/mo/Scope" "com/example/bellwether/bellwether/mo/Scope" "type" "Lcom/example/bellwether/bellwether/mo/Scope$Type;") (by decide) (t := .int) (by decide) (t' := (.object "com/example/bellwether/bellwether/mo/Scope$Type")) (by decide)))
    have K := (Keep.refl _ [a]).wr W5 (Or.inl (List.mem_singleton.mpr rfl))
    have A := A.wr W5
    refine g_aloadN P5 d1_55 rfl rfl ?_
    refine g_iloadN P5 d1_56 rfl ?_
    refine g_putF (host := "") P5 d1_57 (Or.inl (hw _ (List.mem_of_getElem? (i := 20) rfl))) Via.refl F_level A (Or.inr ⟨(hw _ (List.mem_of_getElem? (i := 21) rfl)), rfl, rfl⟩) (hw _ (List.mem_of_getElem? (i := 5) rfl)) (ty := .int) (by decide) rfl rfl ge fun T6 h6 P6 W6 => ?_
    have F_level := F_level.same W6
    have F_type := F_type.other W6 (Or.inr (slot_ne (Or.inr (hw _ (List.mem_of_getElem? (i := 19) rfl)) : Laid Z a0 "com/example/bellwether/bellwether/mo/Scope" "com/example/bellwether/bellwether/mo/Scope" "type" "Lcom/example/bellwether/bellwether/mo/Scope$Type;") (Or.inr (hw _ (List.mem_of_getElem? (i := 21) rfl)) : Laid Z a0 "com/example/bellwether/bellwether/mo/Scope" "com/example/bellwether/bellwether/mo/Scope" "level" "I") (by decide) (t := (.object "com/example/bellwether/bellwether/mo/Scope$Type")) (by decide) (t' := .int) (by decide)))
    have K := K.wr W6 (Or.inl (List.mem_singleton.mpr rfl))
    have A := A.wr W6
    exact g_ret P6 d1_60 (by decide) (by decide) ⟨rfl, K, A, F_type, F_level⟩
  · refine g_ifNo P4 d1_23 ((if0 _ _).trans (feq hc23).1) ?_
    refine g_aloadN P4 d1_26 rfl rfl ?_
    refine g_static P4 [(.ref ty)] (rest := []) (W := 0) d1_27 (hw _ (List.mem_of_getElem? (i := 40) rfl)) (hw _ (List.mem_of_getElem? (i := 41) rfl)) (hw _ (List.mem_of_getElem? (i := 6) rfl)) (hw _ (List.mem_of_getElem? (i := 42) rfl)) (by decide) (rm_takes l Z a0 hw _ n0 a_BASE_ONLY a_BASE_NTH_LEVEL a_BASE_SUBTREE a_BASE_ALL ty 1 S_BASE_NTH_LEVEL S_BASE_SUBTREE (if_pos (hk hc23)).symm) pd_1 rfl rfl rfl rfl (by decide) (by decide) (by decide) (by decide) fun v7 T7 h7 P7 q7 => ?_
    obtain ⟨rfl, rfl⟩ := q7
    refine g_ifYes P7 d1_30 (by decide) 50 (by decide) (by decide) ?_
    refine g_aloadN P7 d1_50 rfl rfl ?_
    refine g_aloadN P7 d1_51 rfl rfl ?_
    refine g_putF (host := "") P7 d1_52 (Or.inl (hw _ (List.mem_of_getElem? (i := 18) rfl))) Via.refl F_type A (Or.inr ⟨(hw _ (List.mem_of_getElem? (i := 19) rfl)), rfl, rfl⟩) (hw _ (List.mem_of_getElem? (i := 5) rfl)) (ty := (.object "com/example/bellwether/bellwether/mo/Scope$Type")) (by decide) rfl rfl ge fun T8 h8 P8 W8 => ?_
    have F_type := F_type.same W8
    have F_level := F_level.other W8 (Or.inr (slot_ne (Or.inr (hw _ (List.mem_of_getElem? (i := 21) rfl)) : Laid Z a0 "com/example/bellwether/bellwether/mo/Scope" "com/example/bellwether/bellwether/mo/Scope" "level" "I") (Or.inr (hw _ (List.mem_of_getElem? (i := 19) rfl)) : Laid Z a0 "com/example/bellwether/bellwether/mo/Scope" "com/example/bellwether/bellwether/mo/Scope" "type" "Lcom/example/bellwether/bellwether/mo/Scope$Type;") (by decide) (t := .int) (by decide) (t' := (.object "com/example/bellwether/bellwether/mo/Scope$Type")) (by decide)))
    have K := (Keep.refl _ [a]).wr W8 (Or.inl (List.mem_singleton.mpr rfl))
    have A := A.wr W8
    refine g_aloadN P8 d1_55 rfl rfl ?_
    refine g_iloadN P8 d1_56 rfl ?_
    refine g_putF (host := "") P8 d1_57 (Or.inl (hw _ (List.mem_of_getElem? (i := 20) rfl))) Via.refl F_level A (Or.inr ⟨(hw _ (List.mem_of_getElem? (i := 21) rfl)), rfl, rfl⟩) (hw _ (List.mem_of_getElem? (i := 5) rfl)) (ty := .int) (by decide) rfl rfl ge fun T9 h9 P9 W9 => ?_
    have F_level := F_level.same W9
    have F_type := F_type.other W9 (Or.inr (slot_ne (Or.inr (hw _ (List.mem_of_getElem? (i := 19) rfl)) : Laid Z a0 "com/example/bellwether/bellwether/mo/Scope" "com/example/bellwether/bellwether/mo/Scope" "type" "Lcom/example/bellwether/bellwether/mo/Scope$Type;") (Or.inr (hw _ (List.mem_of_getElem? (i := 21) rfl)) : Laid Z a0 "com/example/bellwether/bellwether/mo/Scope" "com/example/bellwether/bellwether/mo/Scope" "level" "I") (by decide) (t := (.object "com/example/bellwether/bellwether/mo/Scope$Type")) (by decide) (t' := .int) (by decide)))
    have K := K.wr W9 (Or.inl (List.mem_singleton.mpr rfl))
    have A := A.wr W9
    exact g_ret P9 d1_60 (by decide) (by decide) ⟨rfl, K, A, F_type, F_level⟩
set_option maxRecDepth 65536 in
set_option maxHeartbeats 40000000 in
theorem rm_ordinal (l : Launch) (Z : State) (a0 : Array Value) (hw : ∀ d ∈ tables_1, d.before a0 Z = true) (h0 : Heap) (n0 : Nat) (r : Addr) (o : Int32) (F : Fld Z h0 r "java/lang/Enum" "ordinal" "I" (.int o)) :
    Met l Z (⟨"java/lang/Enum", "ordinal", "()I"⟩ : MethodName) jdk_37_method_2_code 1 (some .int) ({ frames := 0, cells := 0, slots := 0, locals := 0 } : Room) n0 #[(.ref r)] h0 (fun v h => v = some (.int o) ∧ h = h0) := by
  refine Met.intro (by decide +kernel) ?_
  intro p e s m below meth c T0 P0
  refine Go.cast (g' := mkF m 0 #[.val (.ref r)] []) (by first | (simp [entryFrame, mkF, argsToLocals, Value.category, maxLocals]; done) | rfl) ?_
  refine g_aloadN P0 d5_0 rfl rfl ?_
  refine g_getF (host := "") P0 d5_1 (Or.inl (hw _ (List.mem_of_getElem? (i := 34) rfl))) Via.refl F fun T10 P10 => ?_
  exact g_retI P10 d5_4 (by decide) (by decide) ⟨rfl, rfl⟩
set_option maxRecDepth 65536 in
set_option maxHeartbeats 40000000 in
theorem rm_meth (l : Launch) (Z : State) (a0 : Array Value) (hw : ∀ d ∈ tables_1, d.before a0 Z = true) (h0 : Heap) (n0 : Nat) (a ty : Addr) (dp lv o z : Int32) (F_type : Fld Z h0 a "com/example/bellwether/bellwether/mo/Scope" "type" "Lcom/example/bellwether/bellwether/mo/Scope$Type;" (.ref ty)) (F_level : Fld Z h0 a "com/example/bellwether/bellwether/mo/Scope" "level" "I" (.int lv)) (F_o : Fld Z h0 ty "java/lang/Enum" "ordinal" "I" (.int o)) (E_ty : Exa Z h0 ty "com/example/bellwether/bellwether/mo/Scope$Type") (ho : o = 0 ∨ o = 1 ∨ o = 2 ∨ o = 3) (hz : z = if o = 0 then (if dp = 0 then 1 else 0) else if o = 1 then (if dp = lv then 1 else 0) else if o = 2 then (if lv < dp then 0 else 1) else 1) :
    Met l Z (⟨"com/example/bellwether/bellwether/mo/Scope", "selects", "(I)Z"⟩ : MethodName) prog_19_method_3_code 2 (some .boolean) ({ frames := 1, cells := 0, slots := 0, locals := 20 } : Room) n0 #[(.ref a), (.int dp)] h0 (fun v h => v = some (.int z) ∧ h = h0) := by
  refine Met.intro (by decide +kernel) ?_
  intro p e s m below meth c T0 P0
  refine Go.cast (g' := mkF m 0 #[.val (.ref a), .val (.int dp)] []) (by first | (simp [entryFrame, mkF, argsToLocals, Value.category, maxLocals]; done) | rfl) ?_
  refine g_aloadN P0 d4_0 rfl rfl ?_
  refine g_getF (host := "") P0 d4_1 (Or.inl (hw _ (List.mem_of_getElem? (i := 18) rfl))) Via.refl F_type fun T11 P11 => ?_
  refine g_virtualUp P11 ty [] (rest := []) (W := 0) (owner := "java/lang/Enum") d4_4 (hw _ (List.mem_of_getElem? (i := 27) rfl)) (hw _ (List.mem_of_getElem? (i := 28) rfl)) (hw _ (List.mem_of_getElem? (i := 29) rfl)) (by decide) (hw _ (List.mem_of_getElem? (i := 31) rfl)) (hw _ (List.mem_of_getElem? (i := 30) rfl)) (hw _ (List.mem_of_getElem? (i := 32) rfl)) (hw _ (List.mem_of_getElem? (i := 33) rfl)) E_ty (rm_ordinal l Z a0 hw h0 n0 ty o F_o) pd_2 rfl rfl rfl rfl (by decide) (by decide) (by decide) (by decide) fun v12 T12 h12 P12 q12 => ?_
  obtain ⟨rfl, rfl⟩ := q12
  rcases ho with rfl | rfl | rfl | rfl
  · refine g_tsw P12 d4_7 (by decide) (o := 39) (by decide) 46 (by decide) (by decide) ?_
    refine g_iloadN P12 d4_46 rfl ?_
    by_cases hc47 : dp = (0 : Int32)
    · refine g_ifNo P12 d4_47 ((if0 _ _).trans (teq hc47).2) ?_
      refine g_iconst (v := (1 : Int32)) P12 d4_50 (by rfl) ?_
      refine g_goto P12 d4_51 91 (by decide) (by decide) ?_
      exact g_retZ P12 d4_91 (by decide) (by decide) (by decide) ⟨by rw [hz]; exact congrArg (fun z => some (Value.int z)) (if_pos hc47).symm, rfl⟩
    · refine g_ifYes P12 d4_47 ((if0 _ _).trans (feq hc47).2) 54 (by decide) (by decide) ?_
      refine g_iconst (v := (0 : Int32)) P12 d4_54 (by rfl) ?_
      refine g_goto P12 d4_55 91 (by decide) (by decide) ?_
      exact g_retZ P12 d4_91 (by decide) (by decide) (by decide) ⟨by rw [hz]; exact congrArg (fun z => some (Value.int z)) (if_neg hc47).symm, rfl⟩
  · refine g_tsw P12 d4_7 (by decide) (o := 51) (by decide) 58 (by decide) (by decide) ?_
    refine g_iloadN P12 d4_58 rfl ?_
    refine g_aloadN P12 d4_59 rfl rfl ?_
    refine g_getF (host := "") P12 d4_60 (Or.inl (hw _ (List.mem_of_getElem? (i := 20) rfl))) Via.refl F_level fun T13 P13 => ?_
    by_cases hc63 : dp = lv
    · refine g_icmpNo P13 d4_63 (teq hc63).2 ?_
      refine g_iconst (v := (1 : Int32)) P13 d4_66 (by rfl) ?_
      refine g_goto P13 d4_67 91 (by decide) (by decide) ?_
      exact g_retZ P13 d4_91 (by decide) (by decide) (by decide) ⟨by rw [hz]; exact congrArg (fun z => some (Value.int z)) (if_pos hc63).symm, rfl⟩
    · refine g_icmpYes P13 d4_63 (feq hc63).2 70 (by decide) (by decide) ?_
      refine g_iconst (v := (0 : Int32)) P13 d4_70 (by rfl) ?_
      refine g_goto P13 d4_71 91 (by decide) (by decide) ?_
      exact g_retZ P13 d4_91 (by decide) (by decide) (by decide) ⟨by rw [hz]; exact congrArg (fun z => some (Value.int z)) (if_neg hc63).symm, rfl⟩
  · refine g_tsw P12 d4_7 (by decide) (o := 67) (by decide) 74 (by decide) (by decide) ?_
    refine g_iloadN P12 d4_74 rfl ?_
    refine g_aloadN P12 d4_75 rfl rfl ?_
    refine g_getF (host := "") P12 d4_76 (Or.inl (hw _ (List.mem_of_getElem? (i := 20) rfl))) Via.refl F_level fun T14 P14 => ?_
    by_cases hc79 : lv < dp
    · refine g_icmpYes P14 d4_79 (tlt hc79).2.2.1 86 (by decide) (by decide) ?_
      refine g_iconst (v := (0 : Int32)) P14 d4_86 (by rfl) ?_
      refine g_goto P14 d4_87 91 (by decide) (by decide) ?_
      exact g_retZ P14 d4_91 (by decide) (by decide) (by decide) ⟨by rw [hz]; exact congrArg (fun z => some (Value.int z)) (if_pos hc79).symm, rfl⟩
    · refine g_icmpNo P14 d4_79 (flt hc79).2.2.1 ?_
      refine g_iconst (v := (1 : Int32)) P14 d4_82 (by rfl) ?_
      refine g_goto P14 d4_83 91 (by decide) (by decide) ?_
      exact g_retZ P14 d4_91 (by decide) (by decide) (by decide) ⟨by rw [hz]; exact congrArg (fun z => some (Value.int z)) (if_neg hc79).symm, rfl⟩
  · refine g_tsw P12 d4_7 (by decide) (o := 83) (by decide) 90 (by decide) (by decide) ?_
    refine g_iconst (v := (1 : Int32)) P12 d4_90 (by rfl) ?_
    exact g_retZ P12 d4_91 (by decide) (by decide) (by decide) ⟨by rw [hz]; rfl, rfl⟩
set_option maxRecDepth 65536 in
set_option maxHeartbeats 40000000 in
theorem rm_law (l : Launch) (Z : State) (a0 : Array Value) (hw : ∀ d ∈ tables_1, d.before a0 Z = true) (h0 : Heap) (n0 : Nat) (a_BASE_ONLY a_BASE_NTH_LEVEL a_BASE_SUBTREE a_BASE_ALL : Addr) (p1 p2 p3 p4 : Int32) (Z0 : n0 ≤ h0.size) (S_BASE_ONLY : Sta Z h0 "com/example/bellwether/bellwether/mo/Scope$Type" "BASE_ONLY" "Lcom/example/bellwether/bellwether/mo/Scope$Type;" (.ref a_BASE_ONLY)) (S_BASE_NTH_LEVEL : Sta Z h0 "com/example/bellwether/bellwether/mo/Scope$Type" "BASE_NTH_LEVEL" "Lcom/example/bellwether/bellwether/mo/Scope$Type;" (.ref a_BASE_NTH_LEVEL)) (S_BASE_SUBTREE : Sta Z h0 "com/example/bellwether/bellwether/mo/Scope$Type" "BASE_SUBTREE" "Lcom/example/bellwether/bellwether/mo/Scope$Type;" (.ref a_BASE_SUBTREE)) (S_BASE_ALL : Sta Z h0 "com/example/bellwether/bellwether/mo/Scope$Type" "BASE_ALL" "Lcom/example/bellwether/bellwether/mo/Scope$Type;" (.ref a_BASE_ALL)) (E_BASE_ONLY : Exa Z h0 a_BASE_ONLY "com/example/bellwether/bellwether/mo/Scope$Type") (E_BASE_NTH_LEVEL : Exa Z h0 a_BASE_NTH_LEVEL "com/example/bellwether/bellwether/mo/Scope$Type") (E_BASE_SUBTREE : Exa Z h0 a_BASE_SUBTREE "com/example/bellwether/bellwether/mo/Scope$Type") (E_BASE_ALL : Exa Z h0 a_BASE_ALL "com/example/bellwether/bellwether/mo/Scope$Type") (F_BASE_ONLY : Fld Z h0 a_BASE_ONLY "java/lang/Enum" "ordinal" "I" (.int (0 : Int32))) (F_BASE_NTH_LEVEL : Fld Z h0 a_BASE_NTH_LEVEL "java/lang/Enum" "ordinal" "I" (.int (1 : Int32))) (F_BASE_SUBTREE : Fld Z h0 a_BASE_SUBTREE "java/lang/Enum" "ordinal" "I" (.int (2 : Int32))) (F_BASE_ALL : Fld Z h0 a_BASE_ALL "java/lang/Enum" "ordinal" "I" (.int (3 : Int32))) :
    Met l Z x code maxLocals ret room_1 n0 #[(.int p1), (.int p2), (.int p3), (.int p4)] h0 (fun v _ => v = some (.int 1)) := by
  refine Met.intro (by decide +kernel) ?_
  intro p e s m below meth c T0 P0
  refine Go.cast (g' := mkF m 0 #[.val (.int p1), .val (.int p2), .val (.int p3), .val (.int p4), .unset, .unset, .unset, .unset, .unset, .unset, .unset, .unset] []) (by first | (simp [entryFrame, mkF, argsToLocals, Value.category, maxLocals]; done) | rfl) ?_
  refine g_iloadN P0 d0_0 rfl ?_
  refine g_iconst (v := (3 : Int32)) P0 d0_1 (by rfl) ?_
  refine g_iand (v := (p1 &&& (3 : Int32))) P0 d0_2 rfl ?_
  have h3 := Jvm.Kit.i32_mask p1 3 (k := 2) (by decide) (by decide)
  have hi : (p1 &&& (3 : Int32)) = 0 ∨ (p1 &&& (3 : Int32)) = 1 ∨ (p1 &&& (3 : Int32)) = 2 ∨ (p1 &&& (3 : Int32)) = 3 := cases4 ⟨by omega, by have : (4 : Int32).toInt = 4 := rfl; omega⟩
  have M_BASE_ONLY := ltN E_BASE_ONLY.lt
  have M_BASE_NTH_LEVEL := ltN E_BASE_NTH_LEVEL.lt
  have M_BASE_SUBTREE := ltN E_BASE_SUBTREE.lt
  have M_BASE_ALL := ltN E_BASE_ALL.lt
  generalize (p1 &&& (3 : Int32)) = t at hi ⊢
  clear h3
  have hlv : ¬ (p2 &&& (2147483647 : Int32)) < 0 := mask_nn p2
  have hdp : ¬ (p3 &&& (2147483647 : Int32)) < 0 := mask_nn p3
  rcases hi with rfl | rfl | rfl | rfl
  · refine g_istore P0 d0_3 #[.val (.int p1), .val (.int p2), .val (.int p3), .val (.int p4), .val (.int (0 : Int32)), .unset, .unset, .unset, .unset, .unset, .unset, .unset] rfl ?_
    refine g_iload P0 d0_5 rfl ?_
    refine g_ifNo P0 d0_7 (by decide) ?_
    refine g_getS (host := "") P0 d0_10 (Or.inl (hw _ (List.mem_of_getElem? (i := 0) rfl))) Via.refl S_BASE_ONLY fun T15 P15 => ?_
    refine g_astore P15 d0_13 rfl #[.val (.int p1), .val (.int p2), .val (.int p3), .val (.int p4), .val (.int (0 : Int32)), .val (.ref a_BASE_ONLY), .unset, .unset, .unset, .unset, .unset, .unset] rfl ?_
    refine g_goto P15 d0_15 51 (by decide) (by decide) ?_
    refine g_iload P15 d0_51 rfl ?_
    refine g_iconst (v := (1 : Int32)) P15 d0_53 (by rfl) ?_
    refine g_icmpNo P15 d0_54 (by decide) ?_
    refine g_iload P15 d0_57 rfl ?_
    refine g_iconst (v := (2 : Int32)) P15 d0_59 (by rfl) ?_
    refine g_icmpYes P15 d0_60 (by decide) 67 (by decide) (by decide) ?_
    refine g_iconst (v := (0 : Int32)) P15 d0_67 (by rfl) ?_
    refine g_istore P15 d0_68 #[.val (.int p1), .val (.int p2), .val (.int p3), .val (.int p4), .val (.int (0 : Int32)), .val (.ref a_BASE_ONLY), .val (.int (0 : Int32)), .unset, .unset, .unset, .unset, .unset] rfl ?_
    refine g_iload P15 d0_70 rfl ?_
    refine g_ifYes P15 d0_72 (by decide) 82 (by decide) (by decide) ?_
    refine g_iconst (v := (0 : Int32)) P15 d0_82 (by rfl) ?_
    refine g_istore P15 d0_83 #[.val (.int p1), .val (.int p2), .val (.int p3), .val (.int p4), .val (.int (0 : Int32)), .val (.ref a_BASE_ONLY), .val (.int (0 : Int32)), .val (.int (0 : Int32)), .unset, .unset, .unset, .unset] rfl ?_
    refine g_iloadN P15 d0_85 rfl ?_
    refine g_ldc (v := (2147483647 : Int32)) P15 d0_86 (hw _ (List.mem_of_getElem? (i := 3) rfl)) ?_
    refine g_iand (v := (p3 &&& (2147483647 : Int32))) P15 d0_88 rfl ?_
    refine g_istore P15 d0_89 #[.val (.int p1), .val (.int p2), .val (.int p3), .val (.int p4), .val (.int (0 : Int32)), .val (.ref a_BASE_ONLY), .val (.int (0 : Int32)), .val (.int (0 : Int32)), .val (.int (p3 &&& (2147483647 : Int32))), .unset, .unset, .unset] rfl ?_
    refine g_iloadN P15 d0_91 rfl ?_
    refine g_iconst (v := (1 : Int32)) P15 d0_92 (by rfl) ?_
    refine g_iand (v := (p4 &&& (1 : Int32))) P15 d0_93 rfl ?_
    by_cases hc94 : (p4 &&& (1 : Int32)) = (0 : Int32)
    · refine g_ifYes P15 d0_94 ((if0 _ _).trans (teq hc94).1) 134 (by decide) (by decide) ?_
      generalize (p3 &&& (2147483647 : Int32)) = dp
      refine g_new P15 d0_134 (hw _ (List.mem_of_getElem? (i := 4) rfl)) (hw _ (List.mem_of_getElem? (i := 5) rfl)) (hw _ (List.mem_of_getElem? (i := 6) rfl)) (by decide) (by decide) fun T16 h16 sc P16 e16 E16 A16 F16 => ?_
      have E := E16
      have S_BASE_ONLY := S_BASE_ONLY.ext E
      have E_BASE_ONLY := E_BASE_ONLY.ext E
      have F_BASE_ONLY := F_BASE_ONLY.ext E
      have S_BASE_NTH_LEVEL := S_BASE_NTH_LEVEL.ext E
      have E_BASE_NTH_LEVEL := E_BASE_NTH_LEVEL.ext E
      have F_BASE_NTH_LEVEL := F_BASE_NTH_LEVEL.ext E
      have S_BASE_SUBTREE := S_BASE_SUBTREE.ext E
      have E_BASE_SUBTREE := E_BASE_SUBTREE.ext E
      have F_BASE_SUBTREE := F_BASE_SUBTREE.ext E
      have S_BASE_ALL := S_BASE_ALL.ext E
      have E_BASE_ALL := E_BASE_ALL.ext E
      have F_BASE_ALL := F_BASE_ALL.ext E
      have gsc : n0 ≤ sc := by omega
      have nS : ∀ {x : Addr}, @LT.lt Nat _ x h0.size → x ∉ [sc] := fun {x} q r => by have : @Eq Nat x sc := List.mem_singleton.mp r; omega
      have F_type := F16 (Or.inr (hw _ (List.mem_of_getElem? (i := 19) rfl)) : Laid Z a0 "com/example/bellwether/bellwether/mo/Scope" "com/example/bellwether/bellwether/mo/Scope" "type" "Lcom/example/bellwether/bellwether/mo/Scope$Type;") (ty := (.object "com/example/bellwether/bellwether/mo/Scope$Type")) (by decide)
      have F_level := F16 (Or.inr (hw _ (List.mem_of_getElem? (i := 21) rfl)) : Laid Z a0 "com/example/bellwether/bellwether/mo/Scope" "com/example/bellwether/bellwether/mo/Scope" "level" "I") (ty := .int) (by decide)
      refine g_dup P16 d0_137 rfl ?_
      refine g_aload P16 d0_138 rfl rfl ?_
      refine g_iload P16 d0_140 rfl ?_
      refine g_special P16 sc [(.ref a_BASE_ONLY), (.int (0 : Int32))] (rest := [(.ref sc)]) (W := 1) d0_142 rfl (hw _ (List.mem_of_getElem? (i := 7) rfl)) (hw _ (List.mem_of_getElem? (i := 8) rfl)) (hw _ (List.mem_of_getElem? (i := 6) rfl)) (hw _ (List.mem_of_getElem? (i := 9) rfl)) (by decide) (rm_scope l Z a0 hw _ n0 a_BASE_ONLY a_BASE_NTH_LEVEL a_BASE_SUBTREE a_BASE_ALL sc a_BASE_ONLY (0 : Int32) S_BASE_NTH_LEVEL S_BASE_SUBTREE (by decide) (fun q => absurd rfl q) gsc A16 F_type F_level) pd_3 rfl rfl rfl rfl (by decide) (by decide) (by decide) (by decide) fun v17 T17 h17 P17 q17 => ?_
      obtain ⟨rfl, K, A, F_type, F_level⟩ := q17
      have S_BASE_ONLY := S_BASE_ONLY
      have E_BASE_ONLY := E_BASE_ONLY.keep K
      have E_BASE_NTH_LEVEL := E_BASE_NTH_LEVEL.keep K
      have E_BASE_SUBTREE := E_BASE_SUBTREE.keep K
      have E_BASE_ALL := E_BASE_ALL.keep K
      have F_BASE_ONLY := F_BASE_ONLY.keep K (nS M_BASE_ONLY)
      have F_BASE_NTH_LEVEL := F_BASE_NTH_LEVEL.keep K (nS M_BASE_NTH_LEVEL)
      have F_BASE_SUBTREE := F_BASE_SUBTREE.keep K (nS M_BASE_SUBTREE)
      have F_BASE_ALL := F_BASE_ALL.keep K (nS M_BASE_ALL)
      refine g_astore P17 d0_145 rfl #[.val (.int p1), .val (.int p2), .val (.int p3), .val (.int p4), .val (.int (0 : Int32)), .val (.ref a_BASE_ONLY), .val (.int (0 : Int32)), .val (.int (0 : Int32)), .val (.int dp), .val (.ref sc), .unset, .unset] rfl ?_
      refine g_aload P17 d0_147 rfl rfl ?_
      refine g_iload P17 d0_149 rfl ?_
      by_cases hq : dp = 0
      · refine g_virtual P17 sc [(.int dp)] (rest := []) (W := 0) d0_151 (hw _ (List.mem_of_getElem? (i := 22) rfl)) (hw _ (List.mem_of_getElem? (i := 23) rfl)) (hw _ (List.mem_of_getElem? (i := 25) rfl)) (hw _ (List.mem_of_getElem? (i := 24) rfl)) (hw _ (List.mem_of_getElem? (i := 6) rfl)) (hw _ (List.mem_of_getElem? (i := 26) rfl)) (by decide) A (rm_meth l Z a0 hw _ n0 sc a_BASE_ONLY dp (0 : Int32) (0 : Int32) (1 : Int32) F_type F_level F_BASE_ONLY E_BASE_ONLY (by decide) (by simp [hq])) pd_4 rfl rfl rfl rfl (by decide) (by decide) (by decide) (by decide) fun v18 T18 h18 P18 q18 => ?_
        obtain ⟨rfl, rfl⟩ := q18
        refine g_istore P18 d0_154 #[.val (.int p1), .val (.int p2), .val (.int p3), .val (.int p4), .val (.int (0 : Int32)), .val (.ref a_BASE_ONLY), .val (.int (0 : Int32)), .val (.int (0 : Int32)), .val (.int dp), .val (.ref sc), .val (.int (1 : Int32)), .unset] rfl ?_
        refine g_iload P18 d0_156 rfl ?_
        refine g_ifNo P18 d0_158 (by decide) ?_
        refine g_iload P18 d0_161 rfl ?_
        refine g_ifNo P18 d0_163 ((if0 _ _).trans (teq hq).2) ?_
        refine g_iconst (v := (1 : Int32)) P18 d0_166 (by rfl) ?_
        refine g_goto P18 d0_167 171 (by decide) (by decide) ?_
        refine g_istore P18 d0_171 #[.val (.int p1), .val (.int p2), .val (.int p3), .val (.int p4), .val (.int (0 : Int32)), .val (.ref a_BASE_ONLY), .val (.int (0 : Int32)), .val (.int (0 : Int32)), .val (.int dp), .val (.ref sc), .val (.int (1 : Int32)), .val (.int (1 : Int32))] rfl ?_
        refine g_goto P18 d0_173 225 (by decide) (by decide) ?_
        refine g_iload P18 d0_225 rfl ?_
        refine g_iload P18 d0_227 rfl ?_
        refine g_icmpNo P18 d0_229 (by decide) ?_
        refine g_iconst (v := (1 : Int32)) P18 d0_232 (by rfl) ?_
        refine g_goto P18 d0_233 237 (by decide) (by decide) ?_
        exact g_retZ P18 d0_237 (by decide) (by decide) (by decide) rfl
      · refine g_virtual P17 sc [(.int dp)] (rest := []) (W := 0) d0_151 (hw _ (List.mem_of_getElem? (i := 22) rfl)) (hw _ (List.mem_of_getElem? (i := 23) rfl)) (hw _ (List.mem_of_getElem? (i := 25) rfl)) (hw _ (List.mem_of_getElem? (i := 24) rfl)) (hw _ (List.mem_of_getElem? (i := 6) rfl)) (hw _ (List.mem_of_getElem? (i := 26) rfl)) (by decide) A (rm_meth l Z a0 hw _ n0 sc a_BASE_ONLY dp (0 : Int32) (0 : Int32) (0 : Int32) F_type F_level F_BASE_ONLY E_BASE_ONLY (by decide) (by simp [hq])) pd_4 rfl rfl rfl rfl (by decide) (by decide) (by decide) (by decide) fun v19 T19 h19 P19 q19 => ?_
        obtain ⟨rfl, rfl⟩ := q19
        refine g_istore P19 d0_154 #[.val (.int p1), .val (.int p2), .val (.int p3), .val (.int p4), .val (.int (0 : Int32)), .val (.ref a_BASE_ONLY), .val (.int (0 : Int32)), .val (.int (0 : Int32)), .val (.int dp), .val (.ref sc), .val (.int (0 : Int32)), .unset] rfl ?_
        refine g_iload P19 d0_156 rfl ?_
        refine g_ifNo P19 d0_158 (by decide) ?_
        refine g_iload P19 d0_161 rfl ?_
        refine g_ifYes P19 d0_163 ((if0 _ _).trans (feq hq).2) 170 (by decide) (by decide) ?_
        refine g_iconst (v := (0 : Int32)) P19 d0_170 (by rfl) ?_
        refine g_istore P19 d0_171 #[.val (.int p1), .val (.int p2), .val (.int p3), .val (.int p4), .val (.int (0 : Int32)), .val (.ref a_BASE_ONLY), .val (.int (0 : Int32)), .val (.int (0 : Int32)), .val (.int dp), .val (.ref sc), .val (.int (0 : Int32)), .val (.int (0 : Int32))] rfl ?_
        refine g_goto P19 d0_173 225 (by decide) (by decide) ?_
        refine g_iload P19 d0_225 rfl ?_
        refine g_iload P19 d0_227 rfl ?_
        refine g_icmpNo P19 d0_229 (by decide) ?_
        refine g_iconst (v := (1 : Int32)) P19 d0_232 (by rfl) ?_
        refine g_goto P19 d0_233 237 (by decide) (by decide) ?_
        exact g_retZ P19 d0_237 (by decide) (by decide) (by decide) rfl
    · refine g_ifNo P15 d0_94 ((if0 _ _).trans (feq hc94).1) ?_
      refine g_iload P15 d0_97 rfl ?_
      refine g_i2l P15 d0_99 ?_
      refine g_iloadN P15 d0_100 rfl ?_
      refine g_iconst (v := (1 : Int32)) P15 d0_101 (by rfl) ?_
      refine g_iushr (v := (XT.ushr p4 (1 : Int32))) P15 d0_102 rfl ?_
      refine g_iconst (v := (3 : Int32)) P15 d0_103 (by rfl) ?_
      refine g_iand (v := ((XT.ushr p4 (1 : Int32)) &&& (3 : Int32))) P15 d0_104 rfl ?_
      refine g_iconst (v := (3 : Int32)) P15 d0_105 (by rfl) ?_
      refine g_irem (v := (((XT.ushr p4 (1 : Int32)) &&& (3 : Int32)) % (3 : Int32))) P15 d0_106 (by decide) rfl ?_
      refine g_i2l P15 d0_107 ?_
      refine g_ladd P15 d0_108 ?_
      refine g_lconst (v := (1 : Int64)) P15 d0_109 (by rfl) ?_
      refine g_lsub P15 d0_110 ?_
      refine g_lstore P15 d0_111 #[.val (.int p1), .val (.int p2), .val (.int p3), .val (.int p4), .val (.int (0 : Int32)), .val (.ref a_BASE_ONLY), .val (.int (0 : Int32)), .val (.int (0 : Int32)), .val (.int (p3 &&& (2147483647 : Int32))), .val (.long ((((0 : Int32)).toInt64 + ((((XT.ushr p4 (1 : Int32)) &&& (3 : Int32)) % (3 : Int32))).toInt64) - (1 : Int64))), .second, .unset] rfl ?_
      generalize ((((0 : Int32)).toInt64 + ((((XT.ushr p4 (1 : Int32)) &&& (3 : Int32)) % (3 : Int32))).toInt64) - (1 : Int64)) = cand
      refine g_lload P15 d0_113 rfl ?_
      refine g_lconst (v := (0 : Int64)) P15 d0_115 (by rfl) ?_
      refine g_lcmp P15 d0_116 ?_
      by_cases hc117 : (XT.cmpL cand (0 : Int64)) < (0 : Int32)
      · refine g_ifYes P15 d0_117 ((if0 _ _).trans (tlt hc117).1) 134 (by decide) (by decide) ?_
        generalize (p3 &&& (2147483647 : Int32)) = dp
        refine g_new P15 d0_134 (hw _ (List.mem_of_getElem? (i := 4) rfl)) (hw _ (List.mem_of_getElem? (i := 5) rfl)) (hw _ (List.mem_of_getElem? (i := 6) rfl)) (by decide) (by decide) fun T20 h20 sc P20 e20 E20 A20 F20 => ?_
        have E := E20
        have S_BASE_ONLY := S_BASE_ONLY.ext E
        have E_BASE_ONLY := E_BASE_ONLY.ext E
        have F_BASE_ONLY := F_BASE_ONLY.ext E
        have S_BASE_NTH_LEVEL := S_BASE_NTH_LEVEL.ext E
        have E_BASE_NTH_LEVEL := E_BASE_NTH_LEVEL.ext E
        have F_BASE_NTH_LEVEL := F_BASE_NTH_LEVEL.ext E
        have S_BASE_SUBTREE := S_BASE_SUBTREE.ext E
        have E_BASE_SUBTREE := E_BASE_SUBTREE.ext E
        have F_BASE_SUBTREE := F_BASE_SUBTREE.ext E
        have S_BASE_ALL := S_BASE_ALL.ext E
        have E_BASE_ALL := E_BASE_ALL.ext E
        have F_BASE_ALL := F_BASE_ALL.ext E
        have gsc : n0 ≤ sc := by omega
        have nS : ∀ {x : Addr}, @LT.lt Nat _ x h0.size → x ∉ [sc] := fun {x} q r => by have : @Eq Nat x sc := List.mem_singleton.mp r; omega
        have F_type := F20 (Or.inr (hw _ (List.mem_of_getElem? (i := 19) rfl)) : Laid Z a0 "com/example/bellwether/bellwether/mo/Scope" "com/example/bellwether/bellwether/mo/Scope" "type" "Lcom/example/bellwether/bellwether/mo/Scope$Type;") (ty := (.object "com/example/bellwether/bellwether/mo/Scope$Type")) (by decide)
        have F_level := F20 (Or.inr (hw _ (List.mem_of_getElem? (i := 21) rfl)) : Laid Z a0 "com/example/bellwether/bellwether/mo/Scope" "com/example/bellwether/bellwether/mo/Scope" "level" "I") (ty := .int) (by decide)
        refine g_dup P20 d0_137 rfl ?_
        refine g_aload P20 d0_138 rfl rfl ?_
        refine g_iload P20 d0_140 rfl ?_
        refine g_special P20 sc [(.ref a_BASE_ONLY), (.int (0 : Int32))] (rest := [(.ref sc)]) (W := 1) d0_142 rfl (hw _ (List.mem_of_getElem? (i := 7) rfl)) (hw _ (List.mem_of_getElem? (i := 8) rfl)) (hw _ (List.mem_of_getElem? (i := 6) rfl)) (hw _ (List.mem_of_getElem? (i := 9) rfl)) (by decide) (rm_scope l Z a0 hw _ n0 a_BASE_ONLY a_BASE_NTH_LEVEL a_BASE_SUBTREE a_BASE_ALL sc a_BASE_ONLY (0 : Int32) S_BASE_NTH_LEVEL S_BASE_SUBTREE (by decide) (fun q => absurd rfl q) gsc A20 F_type F_level) pd_3 rfl rfl rfl rfl (by decide) (by decide) (by decide) (by decide) fun v21 T21 h21 P21 q21 => ?_
        obtain ⟨rfl, K, A, F_type, F_level⟩ := q21
        have S_BASE_ONLY := S_BASE_ONLY
        have E_BASE_ONLY := E_BASE_ONLY.keep K
        have E_BASE_NTH_LEVEL := E_BASE_NTH_LEVEL.keep K
        have E_BASE_SUBTREE := E_BASE_SUBTREE.keep K
        have E_BASE_ALL := E_BASE_ALL.keep K
        have F_BASE_ONLY := F_BASE_ONLY.keep K (nS M_BASE_ONLY)
        have F_BASE_NTH_LEVEL := F_BASE_NTH_LEVEL.keep K (nS M_BASE_NTH_LEVEL)
        have F_BASE_SUBTREE := F_BASE_SUBTREE.keep K (nS M_BASE_SUBTREE)
        have F_BASE_ALL := F_BASE_ALL.keep K (nS M_BASE_ALL)
        refine g_astore P21 d0_145 rfl #[.val (.int p1), .val (.int p2), .val (.int p3), .val (.int p4), .val (.int (0 : Int32)), .val (.ref a_BASE_ONLY), .val (.int (0 : Int32)), .val (.int (0 : Int32)), .val (.int dp), .val (.ref sc), .unset, .unset] rfl ?_
        refine g_aload P21 d0_147 rfl rfl ?_
        refine g_iload P21 d0_149 rfl ?_
        by_cases hq : dp = 0
        · refine g_virtual P21 sc [(.int dp)] (rest := []) (W := 0) d0_151 (hw _ (List.mem_of_getElem? (i := 22) rfl)) (hw _ (List.mem_of_getElem? (i := 23) rfl)) (hw _ (List.mem_of_getElem? (i := 25) rfl)) (hw _ (List.mem_of_getElem? (i := 24) rfl)) (hw _ (List.mem_of_getElem? (i := 6) rfl)) (hw _ (List.mem_of_getElem? (i := 26) rfl)) (by decide) A (rm_meth l Z a0 hw _ n0 sc a_BASE_ONLY dp (0 : Int32) (0 : Int32) (1 : Int32) F_type F_level F_BASE_ONLY E_BASE_ONLY (by decide) (by simp [hq])) pd_4 rfl rfl rfl rfl (by decide) (by decide) (by decide) (by decide) fun v22 T22 h22 P22 q22 => ?_
          obtain ⟨rfl, rfl⟩ := q22
          refine g_istore P22 d0_154 #[.val (.int p1), .val (.int p2), .val (.int p3), .val (.int p4), .val (.int (0 : Int32)), .val (.ref a_BASE_ONLY), .val (.int (0 : Int32)), .val (.int (0 : Int32)), .val (.int dp), .val (.ref sc), .val (.int (1 : Int32)), .unset] rfl ?_
          refine g_iload P22 d0_156 rfl ?_
          refine g_ifNo P22 d0_158 (by decide) ?_
          refine g_iload P22 d0_161 rfl ?_
          refine g_ifNo P22 d0_163 ((if0 _ _).trans (teq hq).2) ?_
          refine g_iconst (v := (1 : Int32)) P22 d0_166 (by rfl) ?_
          refine g_goto P22 d0_167 171 (by decide) (by decide) ?_
          refine g_istore P22 d0_171 #[.val (.int p1), .val (.int p2), .val (.int p3), .val (.int p4), .val (.int (0 : Int32)), .val (.ref a_BASE_ONLY), .val (.int (0 : Int32)), .val (.int (0 : Int32)), .val (.int dp), .val (.ref sc), .val (.int (1 : Int32)), .val (.int (1 : Int32))] rfl ?_
          refine g_goto P22 d0_173 225 (by decide) (by decide) ?_
          refine g_iload P22 d0_225 rfl ?_
          refine g_iload P22 d0_227 rfl ?_
          refine g_icmpNo P22 d0_229 (by decide) ?_
          refine g_iconst (v := (1 : Int32)) P22 d0_232 (by rfl) ?_
          refine g_goto P22 d0_233 237 (by decide) (by decide) ?_
          exact g_retZ P22 d0_237 (by decide) (by decide) (by decide) rfl
        · refine g_virtual P21 sc [(.int dp)] (rest := []) (W := 0) d0_151 (hw _ (List.mem_of_getElem? (i := 22) rfl)) (hw _ (List.mem_of_getElem? (i := 23) rfl)) (hw _ (List.mem_of_getElem? (i := 25) rfl)) (hw _ (List.mem_of_getElem? (i := 24) rfl)) (hw _ (List.mem_of_getElem? (i := 6) rfl)) (hw _ (List.mem_of_getElem? (i := 26) rfl)) (by decide) A (rm_meth l Z a0 hw _ n0 sc a_BASE_ONLY dp (0 : Int32) (0 : Int32) (0 : Int32) F_type F_level F_BASE_ONLY E_BASE_ONLY (by decide) (by simp [hq])) pd_4 rfl rfl rfl rfl (by decide) (by decide) (by decide) (by decide) fun v23 T23 h23 P23 q23 => ?_
          obtain ⟨rfl, rfl⟩ := q23
          refine g_istore P23 d0_154 #[.val (.int p1), .val (.int p2), .val (.int p3), .val (.int p4), .val (.int (0 : Int32)), .val (.ref a_BASE_ONLY), .val (.int (0 : Int32)), .val (.int (0 : Int32)), .val (.int dp), .val (.ref sc), .val (.int (0 : Int32)), .unset] rfl ?_
          refine g_iload P23 d0_156 rfl ?_
          refine g_ifNo P23 d0_158 (by decide) ?_
          refine g_iload P23 d0_161 rfl ?_
          refine g_ifYes P23 d0_163 ((if0 _ _).trans (feq hq).2) 170 (by decide) (by decide) ?_
          refine g_iconst (v := (0 : Int32)) P23 d0_170 (by rfl) ?_
          refine g_istore P23 d0_171 #[.val (.int p1), .val (.int p2), .val (.int p3), .val (.int p4), .val (.int (0 : Int32)), .val (.ref a_BASE_ONLY), .val (.int (0 : Int32)), .val (.int (0 : Int32)), .val (.int dp), .val (.ref sc), .val (.int (0 : Int32)), .val (.int (0 : Int32))] rfl ?_
          refine g_goto P23 d0_173 225 (by decide) (by decide) ?_
          refine g_iload P23 d0_225 rfl ?_
          refine g_iload P23 d0_227 rfl ?_
          refine g_icmpNo P23 d0_229 (by decide) ?_
          refine g_iconst (v := (1 : Int32)) P23 d0_232 (by rfl) ?_
          refine g_goto P23 d0_233 237 (by decide) (by decide) ?_
          exact g_retZ P23 d0_237 (by decide) (by decide) (by decide) rfl
      · refine g_ifNo P15 d0_117 ((if0 _ _).trans (flt hc117).1) ?_
        refine g_lload P15 d0_120 rfl ?_
        refine g_ldc2 (v := (2147483647 : Int64)) P15 d0_122 (hw _ (List.mem_of_getElem? (i := 47) rfl)) ?_
        refine g_lcmp P15 d0_125 ?_
        by_cases hc126 : (0 : Int32) < (XT.cmpL cand (2147483647 : Int64))
        · refine g_ifYes P15 d0_126 ((if0 _ _).trans (tlt hc126).2.2.1) 134 (by decide) (by decide) ?_
          generalize (p3 &&& (2147483647 : Int32)) = dp
          refine g_new P15 d0_134 (hw _ (List.mem_of_getElem? (i := 4) rfl)) (hw _ (List.mem_of_getElem? (i := 5) rfl)) (hw _ (List.mem_of_getElem? (i := 6) rfl)) (by decide) (by decide) fun T24 h24 sc P24 e24 E24 A24 F24 => ?_
          have E := E24
          have S_BASE_ONLY := S_BASE_ONLY.ext E
          have E_BASE_ONLY := E_BASE_ONLY.ext E
          have F_BASE_ONLY := F_BASE_ONLY.ext E
          have S_BASE_NTH_LEVEL := S_BASE_NTH_LEVEL.ext E
          have E_BASE_NTH_LEVEL := E_BASE_NTH_LEVEL.ext E
          have F_BASE_NTH_LEVEL := F_BASE_NTH_LEVEL.ext E
          have S_BASE_SUBTREE := S_BASE_SUBTREE.ext E
          have E_BASE_SUBTREE := E_BASE_SUBTREE.ext E
          have F_BASE_SUBTREE := F_BASE_SUBTREE.ext E
          have S_BASE_ALL := S_BASE_ALL.ext E
          have E_BASE_ALL := E_BASE_ALL.ext E
          have F_BASE_ALL := F_BASE_ALL.ext E
          have gsc : n0 ≤ sc := by omega
          have nS : ∀ {x : Addr}, @LT.lt Nat _ x h0.size → x ∉ [sc] := fun {x} q r => by have : @Eq Nat x sc := List.mem_singleton.mp r; omega
          have F_type := F24 (Or.inr (hw _ (List.mem_of_getElem? (i := 19) rfl)) : Laid Z a0 "com/example/bellwether/bellwether/mo/Scope" "com/example/bellwether/bellwether/mo/Scope" "type" "Lcom/example/bellwether/bellwether/mo/Scope$Type;") (ty := (.object "com/example/bellwether/bellwether/mo/Scope$Type")) (by decide)
          have F_level := F24 (Or.inr (hw _ (List.mem_of_getElem? (i := 21) rfl)) : Laid Z a0 "com/example/bellwether/bellwether/mo/Scope" "com/example/bellwether/bellwether/mo/Scope" "level" "I") (ty := .int) (by decide)
          refine g_dup P24 d0_137 rfl ?_
          refine g_aload P24 d0_138 rfl rfl ?_
          refine g_iload P24 d0_140 rfl ?_
          refine g_special P24 sc [(.ref a_BASE_ONLY), (.int (0 : Int32))] (rest := [(.ref sc)]) (W := 1) d0_142 rfl (hw _ (List.mem_of_getElem? (i := 7) rfl)) (hw _ (List.mem_of_getElem? (i := 8) rfl)) (hw _ (List.mem_of_getElem? (i := 6) rfl)) (hw _ (List.mem_of_getElem? (i := 9) rfl)) (by decide) (rm_scope l Z a0 hw _ n0 a_BASE_ONLY a_BASE_NTH_LEVEL a_BASE_SUBTREE a_BASE_ALL sc a_BASE_ONLY (0 : Int32) S_BASE_NTH_LEVEL S_BASE_SUBTREE (by decide) (fun q => absurd rfl q) gsc A24 F_type F_level) pd_3 rfl rfl rfl rfl (by decide) (by decide) (by decide) (by decide) fun v25 T25 h25 P25 q25 => ?_
          obtain ⟨rfl, K, A, F_type, F_level⟩ := q25
          have S_BASE_ONLY := S_BASE_ONLY
          have E_BASE_ONLY := E_BASE_ONLY.keep K
          have E_BASE_NTH_LEVEL := E_BASE_NTH_LEVEL.keep K
          have E_BASE_SUBTREE := E_BASE_SUBTREE.keep K
          have E_BASE_ALL := E_BASE_ALL.keep K
          have F_BASE_ONLY := F_BASE_ONLY.keep K (nS M_BASE_ONLY)
          have F_BASE_NTH_LEVEL := F_BASE_NTH_LEVEL.keep K (nS M_BASE_NTH_LEVEL)
          have F_BASE_SUBTREE := F_BASE_SUBTREE.keep K (nS M_BASE_SUBTREE)
          have F_BASE_ALL := F_BASE_ALL.keep K (nS M_BASE_ALL)
          refine g_astore P25 d0_145 rfl #[.val (.int p1), .val (.int p2), .val (.int p3), .val (.int p4), .val (.int (0 : Int32)), .val (.ref a_BASE_ONLY), .val (.int (0 : Int32)), .val (.int (0 : Int32)), .val (.int dp), .val (.ref sc), .unset, .unset] rfl ?_
          refine g_aload P25 d0_147 rfl rfl ?_
          refine g_iload P25 d0_149 rfl ?_
          by_cases hq : dp = 0
          · refine g_virtual P25 sc [(.int dp)] (rest := []) (W := 0) d0_151 (hw _ (List.mem_of_getElem? (i := 22) rfl)) (hw _ (List.mem_of_getElem? (i := 23) rfl)) (hw _ (List.mem_of_getElem? (i := 25) rfl)) (hw _ (List.mem_of_getElem? (i := 24) rfl)) (hw _ (List.mem_of_getElem? (i := 6) rfl)) (hw _ (List.mem_of_getElem? (i := 26) rfl)) (by decide) A (rm_meth l Z a0 hw _ n0 sc a_BASE_ONLY dp (0 : Int32) (0 : Int32) (1 : Int32) F_type F_level F_BASE_ONLY E_BASE_ONLY (by decide) (by simp [hq])) pd_4 rfl rfl rfl rfl (by decide) (by decide) (by decide) (by decide) fun v26 T26 h26 P26 q26 => ?_
            obtain ⟨rfl, rfl⟩ := q26
            refine g_istore P26 d0_154 #[.val (.int p1), .val (.int p2), .val (.int p3), .val (.int p4), .val (.int (0 : Int32)), .val (.ref a_BASE_ONLY), .val (.int (0 : Int32)), .val (.int (0 : Int32)), .val (.int dp), .val (.ref sc), .val (.int (1 : Int32)), .unset] rfl ?_
            refine g_iload P26 d0_156 rfl ?_
            refine g_ifNo P26 d0_158 (by decide) ?_
            refine g_iload P26 d0_161 rfl ?_
            refine g_ifNo P26 d0_163 ((if0 _ _).trans (teq hq).2) ?_
            refine g_iconst (v := (1 : Int32)) P26 d0_166 (by rfl) ?_
            refine g_goto P26 d0_167 171 (by decide) (by decide) ?_
            refine g_istore P26 d0_171 #[.val (.int p1), .val (.int p2), .val (.int p3), .val (.int p4), .val (.int (0 : Int32)), .val (.ref a_BASE_ONLY), .val (.int (0 : Int32)), .val (.int (0 : Int32)), .val (.int dp), .val (.ref sc), .val (.int (1 : Int32)), .val (.int (1 : Int32))] rfl ?_
            refine g_goto P26 d0_173 225 (by decide) (by decide) ?_
            refine g_iload P26 d0_225 rfl ?_
            refine g_iload P26 d0_227 rfl ?_
            refine g_icmpNo P26 d0_229 (by decide) ?_
            refine g_iconst (v := (1 : Int32)) P26 d0_232 (by rfl) ?_
            refine g_goto P26 d0_233 237 (by decide) (by decide) ?_
            exact g_retZ P26 d0_237 (by decide) (by decide) (by decide) rfl
          · refine g_virtual P25 sc [(.int dp)] (rest := []) (W := 0) d0_151 (hw _ (List.mem_of_getElem? (i := 22) rfl)) (hw _ (List.mem_of_getElem? (i := 23) rfl)) (hw _ (List.mem_of_getElem? (i := 25) rfl)) (hw _ (List.mem_of_getElem? (i := 24) rfl)) (hw _ (List.mem_of_getElem? (i := 6) rfl)) (hw _ (List.mem_of_getElem? (i := 26) rfl)) (by decide) A (rm_meth l Z a0 hw _ n0 sc a_BASE_ONLY dp (0 : Int32) (0 : Int32) (0 : Int32) F_type F_level F_BASE_ONLY E_BASE_ONLY (by decide) (by simp [hq])) pd_4 rfl rfl rfl rfl (by decide) (by decide) (by decide) (by decide) fun v27 T27 h27 P27 q27 => ?_
            obtain ⟨rfl, rfl⟩ := q27
            refine g_istore P27 d0_154 #[.val (.int p1), .val (.int p2), .val (.int p3), .val (.int p4), .val (.int (0 : Int32)), .val (.ref a_BASE_ONLY), .val (.int (0 : Int32)), .val (.int (0 : Int32)), .val (.int dp), .val (.ref sc), .val (.int (0 : Int32)), .unset] rfl ?_
            refine g_iload P27 d0_156 rfl ?_
            refine g_ifNo P27 d0_158 (by decide) ?_
            refine g_iload P27 d0_161 rfl ?_
            refine g_ifYes P27 d0_163 ((if0 _ _).trans (feq hq).2) 170 (by decide) (by decide) ?_
            refine g_iconst (v := (0 : Int32)) P27 d0_170 (by rfl) ?_
            refine g_istore P27 d0_171 #[.val (.int p1), .val (.int p2), .val (.int p3), .val (.int p4), .val (.int (0 : Int32)), .val (.ref a_BASE_ONLY), .val (.int (0 : Int32)), .val (.int (0 : Int32)), .val (.int dp), .val (.ref sc), .val (.int (0 : Int32)), .val (.int (0 : Int32))] rfl ?_
            refine g_goto P27 d0_173 225 (by decide) (by decide) ?_
            refine g_iload P27 d0_225 rfl ?_
            refine g_iload P27 d0_227 rfl ?_
            refine g_icmpNo P27 d0_229 (by decide) ?_
            refine g_iconst (v := (1 : Int32)) P27 d0_232 (by rfl) ?_
            refine g_goto P27 d0_233 237 (by decide) (by decide) ?_
            exact g_retZ P27 d0_237 (by decide) (by decide) (by decide) rfl
        · refine g_ifNo P15 d0_126 ((if0 _ _).trans (flt hc126).2.2.1) ?_
          refine g_lload P15 d0_129 rfl ?_
          refine g_l2i P15 d0_131 ?_
          refine g_istore P15 d0_132 #[.val (.int p1), .val (.int p2), .val (.int p3), .val (.int p4), .val (.int (0 : Int32)), .val (.ref a_BASE_ONLY), .val (.int (0 : Int32)), .val (.int (0 : Int32)), .val (.int (cand).toInt32), .val (.long cand), .second, .unset] rfl ?_
          generalize (cand).toInt32 = dp
          refine g_new P15 d0_134 (hw _ (List.mem_of_getElem? (i := 4) rfl)) (hw _ (List.mem_of_getElem? (i := 5) rfl)) (hw _ (List.mem_of_getElem? (i := 6) rfl)) (by decide) (by decide) fun T28 h28 sc P28 e28 E28 A28 F28 => ?_
          have E := E28
          have S_BASE_ONLY := S_BASE_ONLY.ext E
          have E_BASE_ONLY := E_BASE_ONLY.ext E
          have F_BASE_ONLY := F_BASE_ONLY.ext E
          have S_BASE_NTH_LEVEL := S_BASE_NTH_LEVEL.ext E
          have E_BASE_NTH_LEVEL := E_BASE_NTH_LEVEL.ext E
          have F_BASE_NTH_LEVEL := F_BASE_NTH_LEVEL.ext E
          have S_BASE_SUBTREE := S_BASE_SUBTREE.ext E
          have E_BASE_SUBTREE := E_BASE_SUBTREE.ext E
          have F_BASE_SUBTREE := F_BASE_SUBTREE.ext E
          have S_BASE_ALL := S_BASE_ALL.ext E
          have E_BASE_ALL := E_BASE_ALL.ext E
          have F_BASE_ALL := F_BASE_ALL.ext E
          have gsc : n0 ≤ sc := by omega
          have nS : ∀ {x : Addr}, @LT.lt Nat _ x h0.size → x ∉ [sc] := fun {x} q r => by have : @Eq Nat x sc := List.mem_singleton.mp r; omega
          have F_type := F28 (Or.inr (hw _ (List.mem_of_getElem? (i := 19) rfl)) : Laid Z a0 "com/example/bellwether/bellwether/mo/Scope" "com/example/bellwether/bellwether/mo/Scope" "type" "Lcom/example/bellwether/bellwether/mo/Scope$Type;") (ty := (.object "com/example/bellwether/bellwether/mo/Scope$Type")) (by decide)
          have F_level := F28 (Or.inr (hw _ (List.mem_of_getElem? (i := 21) rfl)) : Laid Z a0 "com/example/bellwether/bellwether/mo/Scope" "com/example/bellwether/bellwether/mo/Scope" "level" "I") (ty := .int) (by decide)
          refine g_dup P28 d0_137 rfl ?_
          refine g_aload P28 d0_138 rfl rfl ?_
          refine g_iload P28 d0_140 rfl ?_
          refine g_special P28 sc [(.ref a_BASE_ONLY), (.int (0 : Int32))] (rest := [(.ref sc)]) (W := 1) d0_142 rfl (hw _ (List.mem_of_getElem? (i := 7) rfl)) (hw _ (List.mem_of_getElem? (i := 8) rfl)) (hw _ (List.mem_of_getElem? (i := 6) rfl)) (hw _ (List.mem_of_getElem? (i := 9) rfl)) (by decide) (rm_scope l Z a0 hw _ n0 a_BASE_ONLY a_BASE_NTH_LEVEL a_BASE_SUBTREE a_BASE_ALL sc a_BASE_ONLY (0 : Int32) S_BASE_NTH_LEVEL S_BASE_SUBTREE (by decide) (fun q => absurd rfl q) gsc A28 F_type F_level) pd_3 rfl rfl rfl rfl (by decide) (by decide) (by decide) (by decide) fun v29 T29 h29 P29 q29 => ?_
          obtain ⟨rfl, K, A, F_type, F_level⟩ := q29
          have S_BASE_ONLY := S_BASE_ONLY
          have E_BASE_ONLY := E_BASE_ONLY.keep K
          have E_BASE_NTH_LEVEL := E_BASE_NTH_LEVEL.keep K
          have E_BASE_SUBTREE := E_BASE_SUBTREE.keep K
          have E_BASE_ALL := E_BASE_ALL.keep K
          have F_BASE_ONLY := F_BASE_ONLY.keep K (nS M_BASE_ONLY)
          have F_BASE_NTH_LEVEL := F_BASE_NTH_LEVEL.keep K (nS M_BASE_NTH_LEVEL)
          have F_BASE_SUBTREE := F_BASE_SUBTREE.keep K (nS M_BASE_SUBTREE)
          have F_BASE_ALL := F_BASE_ALL.keep K (nS M_BASE_ALL)
          refine g_astore P29 d0_145 rfl #[.val (.int p1), .val (.int p2), .val (.int p3), .val (.int p4), .val (.int (0 : Int32)), .val (.ref a_BASE_ONLY), .val (.int (0 : Int32)), .val (.int (0 : Int32)), .val (.int dp), .val (.ref sc), .unset, .unset] rfl ?_
          refine g_aload P29 d0_147 rfl rfl ?_
          refine g_iload P29 d0_149 rfl ?_
          by_cases hq : dp = 0
          · refine g_virtual P29 sc [(.int dp)] (rest := []) (W := 0) d0_151 (hw _ (List.mem_of_getElem? (i := 22) rfl)) (hw _ (List.mem_of_getElem? (i := 23) rfl)) (hw _ (List.mem_of_getElem? (i := 25) rfl)) (hw _ (List.mem_of_getElem? (i := 24) rfl)) (hw _ (List.mem_of_getElem? (i := 6) rfl)) (hw _ (List.mem_of_getElem? (i := 26) rfl)) (by decide) A (rm_meth l Z a0 hw _ n0 sc a_BASE_ONLY dp (0 : Int32) (0 : Int32) (1 : Int32) F_type F_level F_BASE_ONLY E_BASE_ONLY (by decide) (by simp [hq])) pd_4 rfl rfl rfl rfl (by decide) (by decide) (by decide) (by decide) fun v30 T30 h30 P30 q30 => ?_
            obtain ⟨rfl, rfl⟩ := q30
            refine g_istore P30 d0_154 #[.val (.int p1), .val (.int p2), .val (.int p3), .val (.int p4), .val (.int (0 : Int32)), .val (.ref a_BASE_ONLY), .val (.int (0 : Int32)), .val (.int (0 : Int32)), .val (.int dp), .val (.ref sc), .val (.int (1 : Int32)), .unset] rfl ?_
            refine g_iload P30 d0_156 rfl ?_
            refine g_ifNo P30 d0_158 (by decide) ?_
            refine g_iload P30 d0_161 rfl ?_
            refine g_ifNo P30 d0_163 ((if0 _ _).trans (teq hq).2) ?_
            refine g_iconst (v := (1 : Int32)) P30 d0_166 (by rfl) ?_
            refine g_goto P30 d0_167 171 (by decide) (by decide) ?_
            refine g_istore P30 d0_171 #[.val (.int p1), .val (.int p2), .val (.int p3), .val (.int p4), .val (.int (0 : Int32)), .val (.ref a_BASE_ONLY), .val (.int (0 : Int32)), .val (.int (0 : Int32)), .val (.int dp), .val (.ref sc), .val (.int (1 : Int32)), .val (.int (1 : Int32))] rfl ?_
            refine g_goto P30 d0_173 225 (by decide) (by decide) ?_
            refine g_iload P30 d0_225 rfl ?_
            refine g_iload P30 d0_227 rfl ?_
            refine g_icmpNo P30 d0_229 (by decide) ?_
            refine g_iconst (v := (1 : Int32)) P30 d0_232 (by rfl) ?_
            refine g_goto P30 d0_233 237 (by decide) (by decide) ?_
            exact g_retZ P30 d0_237 (by decide) (by decide) (by decide) rfl
          · refine g_virtual P29 sc [(.int dp)] (rest := []) (W := 0) d0_151 (hw _ (List.mem_of_getElem? (i := 22) rfl)) (hw _ (List.mem_of_getElem? (i := 23) rfl)) (hw _ (List.mem_of_getElem? (i := 25) rfl)) (hw _ (List.mem_of_getElem? (i := 24) rfl)) (hw _ (List.mem_of_getElem? (i := 6) rfl)) (hw _ (List.mem_of_getElem? (i := 26) rfl)) (by decide) A (rm_meth l Z a0 hw _ n0 sc a_BASE_ONLY dp (0 : Int32) (0 : Int32) (0 : Int32) F_type F_level F_BASE_ONLY E_BASE_ONLY (by decide) (by simp [hq])) pd_4 rfl rfl rfl rfl (by decide) (by decide) (by decide) (by decide) fun v31 T31 h31 P31 q31 => ?_
            obtain ⟨rfl, rfl⟩ := q31
            refine g_istore P31 d0_154 #[.val (.int p1), .val (.int p2), .val (.int p3), .val (.int p4), .val (.int (0 : Int32)), .val (.ref a_BASE_ONLY), .val (.int (0 : Int32)), .val (.int (0 : Int32)), .val (.int dp), .val (.ref sc), .val (.int (0 : Int32)), .unset] rfl ?_
            refine g_iload P31 d0_156 rfl ?_
            refine g_ifNo P31 d0_158 (by decide) ?_
            refine g_iload P31 d0_161 rfl ?_
            refine g_ifYes P31 d0_163 ((if0 _ _).trans (feq hq).2) 170 (by decide) (by decide) ?_
            refine g_iconst (v := (0 : Int32)) P31 d0_170 (by rfl) ?_
            refine g_istore P31 d0_171 #[.val (.int p1), .val (.int p2), .val (.int p3), .val (.int p4), .val (.int (0 : Int32)), .val (.ref a_BASE_ONLY), .val (.int (0 : Int32)), .val (.int (0 : Int32)), .val (.int dp), .val (.ref sc), .val (.int (0 : Int32)), .val (.int (0 : Int32))] rfl ?_
            refine g_goto P31 d0_173 225 (by decide) (by decide) ?_
            refine g_iload P31 d0_225 rfl ?_
            refine g_iload P31 d0_227 rfl ?_
            refine g_icmpNo P31 d0_229 (by decide) ?_
            refine g_iconst (v := (1 : Int32)) P31 d0_232 (by rfl) ?_
            refine g_goto P31 d0_233 237 (by decide) (by decide) ?_
            exact g_retZ P31 d0_237 (by decide) (by decide) (by decide) rfl
  · refine g_istore P0 d0_3 #[.val (.int p1), .val (.int p2), .val (.int p3), .val (.int p4), .val (.int (1 : Int32)), .unset, .unset, .unset, .unset, .unset, .unset, .unset] rfl ?_
    refine g_iload P0 d0_5 rfl ?_
    refine g_ifYes P0 d0_7 (by decide) 18 (by decide) (by decide) ?_
    refine g_iload P0 d0_18 rfl ?_
    refine g_iconst (v := (1 : Int32)) P0 d0_20 (by rfl) ?_
    refine g_icmpNo P0 d0_21 (by decide) ?_
    refine g_getS (host := "") P0 d0_24 (Or.inl (hw _ (List.mem_of_getElem? (i := 46) rfl))) Via.refl S_BASE_NTH_LEVEL fun T32 P32 => ?_
    refine g_astore P32 d0_27 rfl #[.val (.int p1), .val (.int p2), .val (.int p3), .val (.int p4), .val (.int (1 : Int32)), .val (.ref a_BASE_NTH_LEVEL), .unset, .unset, .unset, .unset, .unset, .unset] rfl ?_
    refine g_goto P32 d0_29 51 (by decide) (by decide) ?_
    refine g_iload P32 d0_51 rfl ?_
    refine g_iconst (v := (1 : Int32)) P32 d0_53 (by rfl) ?_
    refine g_icmpYes P32 d0_54 (by decide) 63 (by decide) (by decide) ?_
    refine g_iconst (v := (1 : Int32)) P32 d0_63 (by rfl) ?_
    refine g_goto P32 d0_64 68 (by decide) (by decide) ?_
    refine g_istore P32 d0_68 #[.val (.int p1), .val (.int p2), .val (.int p3), .val (.int p4), .val (.int (1 : Int32)), .val (.ref a_BASE_NTH_LEVEL), .val (.int (1 : Int32)), .unset, .unset, .unset, .unset, .unset] rfl ?_
    refine g_iload P32 d0_70 rfl ?_
    refine g_ifNo P32 d0_72 (by decide) ?_
    refine g_iloadN P32 d0_75 rfl ?_
    refine g_ldc (v := (2147483647 : Int32)) P32 d0_76 (hw _ (List.mem_of_getElem? (i := 3) rfl)) ?_
    refine g_iand (v := (p2 &&& (2147483647 : Int32))) P32 d0_78 rfl ?_
    refine g_goto P32 d0_79 83 (by decide) (by decide) ?_
    refine g_istore P32 d0_83 #[.val (.int p1), .val (.int p2), .val (.int p3), .val (.int p4), .val (.int (1 : Int32)), .val (.ref a_BASE_NTH_LEVEL), .val (.int (1 : Int32)), .val (.int (p2 &&& (2147483647 : Int32))), .unset, .unset, .unset, .unset] rfl ?_
    refine g_iloadN P32 d0_85 rfl ?_
    refine g_ldc (v := (2147483647 : Int32)) P32 d0_86 (hw _ (List.mem_of_getElem? (i := 3) rfl)) ?_
    refine g_iand (v := (p3 &&& (2147483647 : Int32))) P32 d0_88 rfl ?_
    refine g_istore P32 d0_89 #[.val (.int p1), .val (.int p2), .val (.int p3), .val (.int p4), .val (.int (1 : Int32)), .val (.ref a_BASE_NTH_LEVEL), .val (.int (1 : Int32)), .val (.int (p2 &&& (2147483647 : Int32))), .val (.int (p3 &&& (2147483647 : Int32))), .unset, .unset, .unset] rfl ?_
    refine g_iloadN P32 d0_91 rfl ?_
    refine g_iconst (v := (1 : Int32)) P32 d0_92 (by rfl) ?_
    refine g_iand (v := (p4 &&& (1 : Int32))) P32 d0_93 rfl ?_
    by_cases hc94 : (p4 &&& (1 : Int32)) = (0 : Int32)
    · refine g_ifYes P32 d0_94 ((if0 _ _).trans (teq hc94).1) 134 (by decide) (by decide) ?_
      generalize (p3 &&& (2147483647 : Int32)) = dp
      refine g_new P32 d0_134 (hw _ (List.mem_of_getElem? (i := 4) rfl)) (hw _ (List.mem_of_getElem? (i := 5) rfl)) (hw _ (List.mem_of_getElem? (i := 6) rfl)) (by decide) (by decide) fun T33 h33 sc P33 e33 E33 A33 F33 => ?_
      have E := E33
      have S_BASE_ONLY := S_BASE_ONLY.ext E
      have E_BASE_ONLY := E_BASE_ONLY.ext E
      have F_BASE_ONLY := F_BASE_ONLY.ext E
      have S_BASE_NTH_LEVEL := S_BASE_NTH_LEVEL.ext E
      have E_BASE_NTH_LEVEL := E_BASE_NTH_LEVEL.ext E
      have F_BASE_NTH_LEVEL := F_BASE_NTH_LEVEL.ext E
      have S_BASE_SUBTREE := S_BASE_SUBTREE.ext E
      have E_BASE_SUBTREE := E_BASE_SUBTREE.ext E
      have F_BASE_SUBTREE := F_BASE_SUBTREE.ext E
      have S_BASE_ALL := S_BASE_ALL.ext E
      have E_BASE_ALL := E_BASE_ALL.ext E
      have F_BASE_ALL := F_BASE_ALL.ext E
      have gsc : n0 ≤ sc := by omega
      have nS : ∀ {x : Addr}, @LT.lt Nat _ x h0.size → x ∉ [sc] := fun {x} q r => by have : @Eq Nat x sc := List.mem_singleton.mp r; omega
      have F_type := F33 (Or.inr (hw _ (List.mem_of_getElem? (i := 19) rfl)) : Laid Z a0 "com/example/bellwether/bellwether/mo/Scope" "com/example/bellwether/bellwether/mo/Scope" "type" "Lcom/example/bellwether/bellwether/mo/Scope$Type;") (ty := (.object "com/example/bellwether/bellwether/mo/Scope$Type")) (by decide)
      have F_level := F33 (Or.inr (hw _ (List.mem_of_getElem? (i := 21) rfl)) : Laid Z a0 "com/example/bellwether/bellwether/mo/Scope" "com/example/bellwether/bellwether/mo/Scope" "level" "I") (ty := .int) (by decide)
      refine g_dup P33 d0_137 rfl ?_
      refine g_aload P33 d0_138 rfl rfl ?_
      refine g_iload P33 d0_140 rfl ?_
      refine g_special P33 sc [(.ref a_BASE_NTH_LEVEL), (.int (p2 &&& (2147483647 : Int32)))] (rest := [(.ref sc)]) (W := 1) d0_142 rfl (hw _ (List.mem_of_getElem? (i := 7) rfl)) (hw _ (List.mem_of_getElem? (i := 8) rfl)) (hw _ (List.mem_of_getElem? (i := 6) rfl)) (hw _ (List.mem_of_getElem? (i := 9) rfl)) (by decide) (rm_scope l Z a0 hw _ n0 a_BASE_ONLY a_BASE_NTH_LEVEL a_BASE_SUBTREE a_BASE_ALL sc a_BASE_NTH_LEVEL (p2 &&& (2147483647 : Int32)) S_BASE_NTH_LEVEL S_BASE_SUBTREE hlv (fun _ => Or.inl rfl) gsc A33 F_type F_level) pd_3 rfl rfl rfl rfl (by decide) (by decide) (by decide) (by decide) fun v34 T34 h34 P34 q34 => ?_
      obtain ⟨rfl, K, A, F_type, F_level⟩ := q34
      have S_BASE_ONLY := S_BASE_ONLY
      have E_BASE_ONLY := E_BASE_ONLY.keep K
      have E_BASE_NTH_LEVEL := E_BASE_NTH_LEVEL.keep K
      have E_BASE_SUBTREE := E_BASE_SUBTREE.keep K
      have E_BASE_ALL := E_BASE_ALL.keep K
      have F_BASE_ONLY := F_BASE_ONLY.keep K (nS M_BASE_ONLY)
      have F_BASE_NTH_LEVEL := F_BASE_NTH_LEVEL.keep K (nS M_BASE_NTH_LEVEL)
      have F_BASE_SUBTREE := F_BASE_SUBTREE.keep K (nS M_BASE_SUBTREE)
      have F_BASE_ALL := F_BASE_ALL.keep K (nS M_BASE_ALL)
      refine g_astore P34 d0_145 rfl #[.val (.int p1), .val (.int p2), .val (.int p3), .val (.int p4), .val (.int (1 : Int32)), .val (.ref a_BASE_NTH_LEVEL), .val (.int (1 : Int32)), .val (.int (p2 &&& (2147483647 : Int32))), .val (.int dp), .val (.ref sc), .unset, .unset] rfl ?_
      refine g_aload P34 d0_147 rfl rfl ?_
      refine g_iload P34 d0_149 rfl ?_
      by_cases hq : dp = (p2 &&& (2147483647 : Int32))
      · refine g_virtual P34 sc [(.int dp)] (rest := []) (W := 0) d0_151 (hw _ (List.mem_of_getElem? (i := 22) rfl)) (hw _ (List.mem_of_getElem? (i := 23) rfl)) (hw _ (List.mem_of_getElem? (i := 25) rfl)) (hw _ (List.mem_of_getElem? (i := 24) rfl)) (hw _ (List.mem_of_getElem? (i := 6) rfl)) (hw _ (List.mem_of_getElem? (i := 26) rfl)) (by decide) A (rm_meth l Z a0 hw _ n0 sc a_BASE_NTH_LEVEL dp (p2 &&& (2147483647 : Int32)) (1 : Int32) (1 : Int32) F_type F_level F_BASE_NTH_LEVEL E_BASE_NTH_LEVEL (by decide) (by simp [hq])) pd_4 rfl rfl rfl rfl (by decide) (by decide) (by decide) (by decide) fun v35 T35 h35 P35 q35 => ?_
        obtain ⟨rfl, rfl⟩ := q35
        refine g_istore P35 d0_154 #[.val (.int p1), .val (.int p2), .val (.int p3), .val (.int p4), .val (.int (1 : Int32)), .val (.ref a_BASE_NTH_LEVEL), .val (.int (1 : Int32)), .val (.int (p2 &&& (2147483647 : Int32))), .val (.int dp), .val (.ref sc), .val (.int (1 : Int32)), .unset] rfl ?_
        refine g_iload P35 d0_156 rfl ?_
        refine g_ifYes P35 d0_158 (by decide) 176 (by decide) (by decide) ?_
        refine g_iload P35 d0_176 rfl ?_
        refine g_iconst (v := (1 : Int32)) P35 d0_178 (by rfl) ?_
        refine g_icmpNo P35 d0_179 (by decide) ?_
        refine g_iload P35 d0_182 rfl ?_
        refine g_iload P35 d0_184 rfl ?_
        refine g_icmpNo P35 d0_186 (teq hq).2 ?_
        refine g_iconst (v := (1 : Int32)) P35 d0_189 (by rfl) ?_
        refine g_goto P35 d0_190 194 (by decide) (by decide) ?_
        refine g_istore P35 d0_194 #[.val (.int p1), .val (.int p2), .val (.int p3), .val (.int p4), .val (.int (1 : Int32)), .val (.ref a_BASE_NTH_LEVEL), .val (.int (1 : Int32)), .val (.int (p2 &&& (2147483647 : Int32))), .val (.int dp), .val (.ref sc), .val (.int (1 : Int32)), .val (.int (1 : Int32))] rfl ?_
        refine g_goto P35 d0_196 225 (by decide) (by decide) ?_
        refine g_iload P35 d0_225 rfl ?_
        refine g_iload P35 d0_227 rfl ?_
        refine g_icmpNo P35 d0_229 (by decide) ?_
        refine g_iconst (v := (1 : Int32)) P35 d0_232 (by rfl) ?_
        refine g_goto P35 d0_233 237 (by decide) (by decide) ?_
        exact g_retZ P35 d0_237 (by decide) (by decide) (by decide) rfl
      · refine g_virtual P34 sc [(.int dp)] (rest := []) (W := 0) d0_151 (hw _ (List.mem_of_getElem? (i := 22) rfl)) (hw _ (List.mem_of_getElem? (i := 23) rfl)) (hw _ (List.mem_of_getElem? (i := 25) rfl)) (hw _ (List.mem_of_getElem? (i := 24) rfl)) (hw _ (List.mem_of_getElem? (i := 6) rfl)) (hw _ (List.mem_of_getElem? (i := 26) rfl)) (by decide) A (rm_meth l Z a0 hw _ n0 sc a_BASE_NTH_LEVEL dp (p2 &&& (2147483647 : Int32)) (1 : Int32) (0 : Int32) F_type F_level F_BASE_NTH_LEVEL E_BASE_NTH_LEVEL (by decide) (by simp [hq])) pd_4 rfl rfl rfl rfl (by decide) (by decide) (by decide) (by decide) fun v36 T36 h36 P36 q36 => ?_
        obtain ⟨rfl, rfl⟩ := q36
        refine g_istore P36 d0_154 #[.val (.int p1), .val (.int p2), .val (.int p3), .val (.int p4), .val (.int (1 : Int32)), .val (.ref a_BASE_NTH_LEVEL), .val (.int (1 : Int32)), .val (.int (p2 &&& (2147483647 : Int32))), .val (.int dp), .val (.ref sc), .val (.int (0 : Int32)), .unset] rfl ?_
        refine g_iload P36 d0_156 rfl ?_
        refine g_ifYes P36 d0_158 (by decide) 176 (by decide) (by decide) ?_
        refine g_iload P36 d0_176 rfl ?_
        refine g_iconst (v := (1 : Int32)) P36 d0_178 (by rfl) ?_
        refine g_icmpNo P36 d0_179 (by decide) ?_
        refine g_iload P36 d0_182 rfl ?_
        refine g_iload P36 d0_184 rfl ?_
        refine g_icmpYes P36 d0_186 (feq hq).2 193 (by decide) (by decide) ?_
        refine g_iconst (v := (0 : Int32)) P36 d0_193 (by rfl) ?_
        refine g_istore P36 d0_194 #[.val (.int p1), .val (.int p2), .val (.int p3), .val (.int p4), .val (.int (1 : Int32)), .val (.ref a_BASE_NTH_LEVEL), .val (.int (1 : Int32)), .val (.int (p2 &&& (2147483647 : Int32))), .val (.int dp), .val (.ref sc), .val (.int (0 : Int32)), .val (.int (0 : Int32))] rfl ?_
        refine g_goto P36 d0_196 225 (by decide) (by decide) ?_
        refine g_iload P36 d0_225 rfl ?_
        refine g_iload P36 d0_227 rfl ?_
        refine g_icmpNo P36 d0_229 (by decide) ?_
        refine g_iconst (v := (1 : Int32)) P36 d0_232 (by rfl) ?_
        refine g_goto P36 d0_233 237 (by decide) (by decide) ?_
        exact g_retZ P36 d0_237 (by decide) (by decide) (by decide) rfl
    · refine g_ifNo P32 d0_94 ((if0 _ _).trans (feq hc94).1) ?_
      refine g_iload P32 d0_97 rfl ?_
      refine g_i2l P32 d0_99 ?_
      refine g_iloadN P32 d0_100 rfl ?_
      refine g_iconst (v := (1 : Int32)) P32 d0_101 (by rfl) ?_
      refine g_iushr (v := (XT.ushr p4 (1 : Int32))) P32 d0_102 rfl ?_
      refine g_iconst (v := (3 : Int32)) P32 d0_103 (by rfl) ?_
      refine g_iand (v := ((XT.ushr p4 (1 : Int32)) &&& (3 : Int32))) P32 d0_104 rfl ?_
      refine g_iconst (v := (3 : Int32)) P32 d0_105 (by rfl) ?_
      refine g_irem (v := (((XT.ushr p4 (1 : Int32)) &&& (3 : Int32)) % (3 : Int32))) P32 d0_106 (by decide) rfl ?_
      refine g_i2l P32 d0_107 ?_
      refine g_ladd P32 d0_108 ?_
      refine g_lconst (v := (1 : Int64)) P32 d0_109 (by rfl) ?_
      refine g_lsub P32 d0_110 ?_
      refine g_lstore P32 d0_111 #[.val (.int p1), .val (.int p2), .val (.int p3), .val (.int p4), .val (.int (1 : Int32)), .val (.ref a_BASE_NTH_LEVEL), .val (.int (1 : Int32)), .val (.int (p2 &&& (2147483647 : Int32))), .val (.int (p3 &&& (2147483647 : Int32))), .val (.long ((((p2 &&& (2147483647 : Int32))).toInt64 + ((((XT.ushr p4 (1 : Int32)) &&& (3 : Int32)) % (3 : Int32))).toInt64) - (1 : Int64))), .second, .unset] rfl ?_
      generalize ((((p2 &&& (2147483647 : Int32))).toInt64 + ((((XT.ushr p4 (1 : Int32)) &&& (3 : Int32)) % (3 : Int32))).toInt64) - (1 : Int64)) = cand
      refine g_lload P32 d0_113 rfl ?_
      refine g_lconst (v := (0 : Int64)) P32 d0_115 (by rfl) ?_
      refine g_lcmp P32 d0_116 ?_
      by_cases hc117 : (XT.cmpL cand (0 : Int64)) < (0 : Int32)
      · refine g_ifYes P32 d0_117 ((if0 _ _).trans (tlt hc117).1) 134 (by decide) (by decide) ?_
        generalize (p3 &&& (2147483647 : Int32)) = dp
        refine g_new P32 d0_134 (hw _ (List.mem_of_getElem? (i := 4) rfl)) (hw _ (List.mem_of_getElem? (i := 5) rfl)) (hw _ (List.mem_of_getElem? (i := 6) rfl)) (by decide) (by decide) fun T37 h37 sc P37 e37 E37 A37 F37 => ?_
        have E := E37
        have S_BASE_ONLY := S_BASE_ONLY.ext E
        have E_BASE_ONLY := E_BASE_ONLY.ext E
        have F_BASE_ONLY := F_BASE_ONLY.ext E
        have S_BASE_NTH_LEVEL := S_BASE_NTH_LEVEL.ext E
        have E_BASE_NTH_LEVEL := E_BASE_NTH_LEVEL.ext E
        have F_BASE_NTH_LEVEL := F_BASE_NTH_LEVEL.ext E
        have S_BASE_SUBTREE := S_BASE_SUBTREE.ext E
        have E_BASE_SUBTREE := E_BASE_SUBTREE.ext E
        have F_BASE_SUBTREE := F_BASE_SUBTREE.ext E
        have S_BASE_ALL := S_BASE_ALL.ext E
        have E_BASE_ALL := E_BASE_ALL.ext E
        have F_BASE_ALL := F_BASE_ALL.ext E
        have gsc : n0 ≤ sc := by omega
        have nS : ∀ {x : Addr}, @LT.lt Nat _ x h0.size → x ∉ [sc] := fun {x} q r => by have : @Eq Nat x sc := List.mem_singleton.mp r; omega
        have F_type := F37 (Or.inr (hw _ (List.mem_of_getElem? (i := 19) rfl)) : Laid Z a0 "com/example/bellwether/bellwether/mo/Scope" "com/example/bellwether/bellwether/mo/Scope" "type" "Lcom/example/bellwether/bellwether/mo/Scope$Type;") (ty := (.object "com/example/bellwether/bellwether/mo/Scope$Type")) (by decide)
        have F_level := F37 (Or.inr (hw _ (List.mem_of_getElem? (i := 21) rfl)) : Laid Z a0 "com/example/bellwether/bellwether/mo/Scope" "com/example/bellwether/bellwether/mo/Scope" "level" "I") (ty := .int) (by decide)
        refine g_dup P37 d0_137 rfl ?_
        refine g_aload P37 d0_138 rfl rfl ?_
        refine g_iload P37 d0_140 rfl ?_
        refine g_special P37 sc [(.ref a_BASE_NTH_LEVEL), (.int (p2 &&& (2147483647 : Int32)))] (rest := [(.ref sc)]) (W := 1) d0_142 rfl (hw _ (List.mem_of_getElem? (i := 7) rfl)) (hw _ (List.mem_of_getElem? (i := 8) rfl)) (hw _ (List.mem_of_getElem? (i := 6) rfl)) (hw _ (List.mem_of_getElem? (i := 9) rfl)) (by decide) (rm_scope l Z a0 hw _ n0 a_BASE_ONLY a_BASE_NTH_LEVEL a_BASE_SUBTREE a_BASE_ALL sc a_BASE_NTH_LEVEL (p2 &&& (2147483647 : Int32)) S_BASE_NTH_LEVEL S_BASE_SUBTREE hlv (fun _ => Or.inl rfl) gsc A37 F_type F_level) pd_3 rfl rfl rfl rfl (by decide) (by decide) (by decide) (by decide) fun v38 T38 h38 P38 q38 => ?_
        obtain ⟨rfl, K, A, F_type, F_level⟩ := q38
        have S_BASE_ONLY := S_BASE_ONLY
        have E_BASE_ONLY := E_BASE_ONLY.keep K
        have E_BASE_NTH_LEVEL := E_BASE_NTH_LEVEL.keep K
        have E_BASE_SUBTREE := E_BASE_SUBTREE.keep K
        have E_BASE_ALL := E_BASE_ALL.keep K
        have F_BASE_ONLY := F_BASE_ONLY.keep K (nS M_BASE_ONLY)
        have F_BASE_NTH_LEVEL := F_BASE_NTH_LEVEL.keep K (nS M_BASE_NTH_LEVEL)
        have F_BASE_SUBTREE := F_BASE_SUBTREE.keep K (nS M_BASE_SUBTREE)
        have F_BASE_ALL := F_BASE_ALL.keep K (nS M_BASE_ALL)
        refine g_astore P38 d0_145 rfl #[.val (.int p1), .val (.int p2), .val (.int p3), .val (.int p4), .val (.int (1 : Int32)), .val (.ref a_BASE_NTH_LEVEL), .val (.int (1 : Int32)), .val (.int (p2 &&& (2147483647 : Int32))), .val (.int dp), .val (.ref sc), .unset, .unset] rfl ?_
        refine g_aload P38 d0_147 rfl rfl ?_
        refine g_iload P38 d0_149 rfl ?_
        by_cases hq : dp = (p2 &&& (2147483647 : Int32))
        · refine g_virtual P38 sc [(.int dp)] (rest := []) (W := 0) d0_151 (hw _ (List.mem_of_getElem? (i := 22) rfl)) (hw _ (List.mem_of_getElem? (i := 23) rfl)) (hw _ (List.mem_of_getElem? (i := 25) rfl)) (hw _ (List.mem_of_getElem? (i := 24) rfl)) (hw _ (List.mem_of_getElem? (i := 6) rfl)) (hw _ (List.mem_of_getElem? (i := 26) rfl)) (by decide) A (rm_meth l Z a0 hw _ n0 sc a_BASE_NTH_LEVEL dp (p2 &&& (2147483647 : Int32)) (1 : Int32) (1 : Int32) F_type F_level F_BASE_NTH_LEVEL E_BASE_NTH_LEVEL (by decide) (by simp [hq])) pd_4 rfl rfl rfl rfl (by decide) (by decide) (by decide) (by decide) fun v39 T39 h39 P39 q39 => ?_
          obtain ⟨rfl, rfl⟩ := q39
          refine g_istore P39 d0_154 #[.val (.int p1), .val (.int p2), .val (.int p3), .val (.int p4), .val (.int (1 : Int32)), .val (.ref a_BASE_NTH_LEVEL), .val (.int (1 : Int32)), .val (.int (p2 &&& (2147483647 : Int32))), .val (.int dp), .val (.ref sc), .val (.int (1 : Int32)), .unset] rfl ?_
          refine g_iload P39 d0_156 rfl ?_
          refine g_ifYes P39 d0_158 (by decide) 176 (by decide) (by decide) ?_
          refine g_iload P39 d0_176 rfl ?_
          refine g_iconst (v := (1 : Int32)) P39 d0_178 (by rfl) ?_
          refine g_icmpNo P39 d0_179 (by decide) ?_
          refine g_iload P39 d0_182 rfl ?_
          refine g_iload P39 d0_184 rfl ?_
          refine g_icmpNo P39 d0_186 (teq hq).2 ?_
          refine g_iconst (v := (1 : Int32)) P39 d0_189 (by rfl) ?_
          refine g_goto P39 d0_190 194 (by decide) (by decide) ?_
          refine g_istore P39 d0_194 #[.val (.int p1), .val (.int p2), .val (.int p3), .val (.int p4), .val (.int (1 : Int32)), .val (.ref a_BASE_NTH_LEVEL), .val (.int (1 : Int32)), .val (.int (p2 &&& (2147483647 : Int32))), .val (.int dp), .val (.ref sc), .val (.int (1 : Int32)), .val (.int (1 : Int32))] rfl ?_
          refine g_goto P39 d0_196 225 (by decide) (by decide) ?_
          refine g_iload P39 d0_225 rfl ?_
          refine g_iload P39 d0_227 rfl ?_
          refine g_icmpNo P39 d0_229 (by decide) ?_
          refine g_iconst (v := (1 : Int32)) P39 d0_232 (by rfl) ?_
          refine g_goto P39 d0_233 237 (by decide) (by decide) ?_
          exact g_retZ P39 d0_237 (by decide) (by decide) (by decide) rfl
        · refine g_virtual P38 sc [(.int dp)] (rest := []) (W := 0) d0_151 (hw _ (List.mem_of_getElem? (i := 22) rfl)) (hw _ (List.mem_of_getElem? (i := 23) rfl)) (hw _ (List.mem_of_getElem? (i := 25) rfl)) (hw _ (List.mem_of_getElem? (i := 24) rfl)) (hw _ (List.mem_of_getElem? (i := 6) rfl)) (hw _ (List.mem_of_getElem? (i := 26) rfl)) (by decide) A (rm_meth l Z a0 hw _ n0 sc a_BASE_NTH_LEVEL dp (p2 &&& (2147483647 : Int32)) (1 : Int32) (0 : Int32) F_type F_level F_BASE_NTH_LEVEL E_BASE_NTH_LEVEL (by decide) (by simp [hq])) pd_4 rfl rfl rfl rfl (by decide) (by decide) (by decide) (by decide) fun v40 T40 h40 P40 q40 => ?_
          obtain ⟨rfl, rfl⟩ := q40
          refine g_istore P40 d0_154 #[.val (.int p1), .val (.int p2), .val (.int p3), .val (.int p4), .val (.int (1 : Int32)), .val (.ref a_BASE_NTH_LEVEL), .val (.int (1 : Int32)), .val (.int (p2 &&& (2147483647 : Int32))), .val (.int dp), .val (.ref sc), .val (.int (0 : Int32)), .unset] rfl ?_
          refine g_iload P40 d0_156 rfl ?_
          refine g_ifYes P40 d0_158 (by decide) 176 (by decide) (by decide) ?_
          refine g_iload P40 d0_176 rfl ?_
          refine g_iconst (v := (1 : Int32)) P40 d0_178 (by rfl) ?_
          refine g_icmpNo P40 d0_179 (by decide) ?_
          refine g_iload P40 d0_182 rfl ?_
          refine g_iload P40 d0_184 rfl ?_
          refine g_icmpYes P40 d0_186 (feq hq).2 193 (by decide) (by decide) ?_
          refine g_iconst (v := (0 : Int32)) P40 d0_193 (by rfl) ?_
          refine g_istore P40 d0_194 #[.val (.int p1), .val (.int p2), .val (.int p3), .val (.int p4), .val (.int (1 : Int32)), .val (.ref a_BASE_NTH_LEVEL), .val (.int (1 : Int32)), .val (.int (p2 &&& (2147483647 : Int32))), .val (.int dp), .val (.ref sc), .val (.int (0 : Int32)), .val (.int (0 : Int32))] rfl ?_
          refine g_goto P40 d0_196 225 (by decide) (by decide) ?_
          refine g_iload P40 d0_225 rfl ?_
          refine g_iload P40 d0_227 rfl ?_
          refine g_icmpNo P40 d0_229 (by decide) ?_
          refine g_iconst (v := (1 : Int32)) P40 d0_232 (by rfl) ?_
          refine g_goto P40 d0_233 237 (by decide) (by decide) ?_
          exact g_retZ P40 d0_237 (by decide) (by decide) (by decide) rfl
      · refine g_ifNo P32 d0_117 ((if0 _ _).trans (flt hc117).1) ?_
        refine g_lload P32 d0_120 rfl ?_
        refine g_ldc2 (v := (2147483647 : Int64)) P32 d0_122 (hw _ (List.mem_of_getElem? (i := 47) rfl)) ?_
        refine g_lcmp P32 d0_125 ?_
        by_cases hc126 : (0 : Int32) < (XT.cmpL cand (2147483647 : Int64))
        · refine g_ifYes P32 d0_126 ((if0 _ _).trans (tlt hc126).2.2.1) 134 (by decide) (by decide) ?_
          generalize (p3 &&& (2147483647 : Int32)) = dp
          refine g_new P32 d0_134 (hw _ (List.mem_of_getElem? (i := 4) rfl)) (hw _ (List.mem_of_getElem? (i := 5) rfl)) (hw _ (List.mem_of_getElem? (i := 6) rfl)) (by decide) (by decide) fun T41 h41 sc P41 e41 E41 A41 F41 => ?_
          have E := E41
          have S_BASE_ONLY := S_BASE_ONLY.ext E
          have E_BASE_ONLY := E_BASE_ONLY.ext E
          have F_BASE_ONLY := F_BASE_ONLY.ext E
          have S_BASE_NTH_LEVEL := S_BASE_NTH_LEVEL.ext E
          have E_BASE_NTH_LEVEL := E_BASE_NTH_LEVEL.ext E
          have F_BASE_NTH_LEVEL := F_BASE_NTH_LEVEL.ext E
          have S_BASE_SUBTREE := S_BASE_SUBTREE.ext E
          have E_BASE_SUBTREE := E_BASE_SUBTREE.ext E
          have F_BASE_SUBTREE := F_BASE_SUBTREE.ext E
          have S_BASE_ALL := S_BASE_ALL.ext E
          have E_BASE_ALL := E_BASE_ALL.ext E
          have F_BASE_ALL := F_BASE_ALL.ext E
          have gsc : n0 ≤ sc := by omega
          have nS : ∀ {x : Addr}, @LT.lt Nat _ x h0.size → x ∉ [sc] := fun {x} q r => by have : @Eq Nat x sc := List.mem_singleton.mp r; omega
          have F_type := F41 (Or.inr (hw _ (List.mem_of_getElem? (i := 19) rfl)) : Laid Z a0 "com/example/bellwether/bellwether/mo/Scope" "com/example/bellwether/bellwether/mo/Scope" "type" "Lcom/example/bellwether/bellwether/mo/Scope$Type;") (ty := (.object "com/example/bellwether/bellwether/mo/Scope$Type")) (by decide)
          have F_level := F41 (Or.inr (hw _ (List.mem_of_getElem? (i := 21) rfl)) : Laid Z a0 "com/example/bellwether/bellwether/mo/Scope" "com/example/bellwether/bellwether/mo/Scope" "level" "I") (ty := .int) (by decide)
          refine g_dup P41 d0_137 rfl ?_
          refine g_aload P41 d0_138 rfl rfl ?_
          refine g_iload P41 d0_140 rfl ?_
          refine g_special P41 sc [(.ref a_BASE_NTH_LEVEL), (.int (p2 &&& (2147483647 : Int32)))] (rest := [(.ref sc)]) (W := 1) d0_142 rfl (hw _ (List.mem_of_getElem? (i := 7) rfl)) (hw _ (List.mem_of_getElem? (i := 8) rfl)) (hw _ (List.mem_of_getElem? (i := 6) rfl)) (hw _ (List.mem_of_getElem? (i := 9) rfl)) (by decide) (rm_scope l Z a0 hw _ n0 a_BASE_ONLY a_BASE_NTH_LEVEL a_BASE_SUBTREE a_BASE_ALL sc a_BASE_NTH_LEVEL (p2 &&& (2147483647 : Int32)) S_BASE_NTH_LEVEL S_BASE_SUBTREE hlv (fun _ => Or.inl rfl) gsc A41 F_type F_level) pd_3 rfl rfl rfl rfl (by decide) (by decide) (by decide) (by decide) fun v42 T42 h42 P42 q42 => ?_
          obtain ⟨rfl, K, A, F_type, F_level⟩ := q42
          have S_BASE_ONLY := S_BASE_ONLY
          have E_BASE_ONLY := E_BASE_ONLY.keep K
          have E_BASE_NTH_LEVEL := E_BASE_NTH_LEVEL.keep K
          have E_BASE_SUBTREE := E_BASE_SUBTREE.keep K
          have E_BASE_ALL := E_BASE_ALL.keep K
          have F_BASE_ONLY := F_BASE_ONLY.keep K (nS M_BASE_ONLY)
          have F_BASE_NTH_LEVEL := F_BASE_NTH_LEVEL.keep K (nS M_BASE_NTH_LEVEL)
          have F_BASE_SUBTREE := F_BASE_SUBTREE.keep K (nS M_BASE_SUBTREE)
          have F_BASE_ALL := F_BASE_ALL.keep K (nS M_BASE_ALL)
          refine g_astore P42 d0_145 rfl #[.val (.int p1), .val (.int p2), .val (.int p3), .val (.int p4), .val (.int (1 : Int32)), .val (.ref a_BASE_NTH_LEVEL), .val (.int (1 : Int32)), .val (.int (p2 &&& (2147483647 : Int32))), .val (.int dp), .val (.ref sc), .unset, .unset] rfl ?_
          refine g_aload P42 d0_147 rfl rfl ?_
          refine g_iload P42 d0_149 rfl ?_
          by_cases hq : dp = (p2 &&& (2147483647 : Int32))
          · refine g_virtual P42 sc [(.int dp)] (rest := []) (W := 0) d0_151 (hw _ (List.mem_of_getElem? (i := 22) rfl)) (hw _ (List.mem_of_getElem? (i := 23) rfl)) (hw _ (List.mem_of_getElem? (i := 25) rfl)) (hw _ (List.mem_of_getElem? (i := 24) rfl)) (hw _ (List.mem_of_getElem? (i := 6) rfl)) (hw _ (List.mem_of_getElem? (i := 26) rfl)) (by decide) A (rm_meth l Z a0 hw _ n0 sc a_BASE_NTH_LEVEL dp (p2 &&& (2147483647 : Int32)) (1 : Int32) (1 : Int32) F_type F_level F_BASE_NTH_LEVEL E_BASE_NTH_LEVEL (by decide) (by simp [hq])) pd_4 rfl rfl rfl rfl (by decide) (by decide) (by decide) (by decide) fun v43 T43 h43 P43 q43 => ?_
            obtain ⟨rfl, rfl⟩ := q43
            refine g_istore P43 d0_154 #[.val (.int p1), .val (.int p2), .val (.int p3), .val (.int p4), .val (.int (1 : Int32)), .val (.ref a_BASE_NTH_LEVEL), .val (.int (1 : Int32)), .val (.int (p2 &&& (2147483647 : Int32))), .val (.int dp), .val (.ref sc), .val (.int (1 : Int32)), .unset] rfl ?_
            refine g_iload P43 d0_156 rfl ?_
            refine g_ifYes P43 d0_158 (by decide) 176 (by decide) (by decide) ?_
            refine g_iload P43 d0_176 rfl ?_
            refine g_iconst (v := (1 : Int32)) P43 d0_178 (by rfl) ?_
            refine g_icmpNo P43 d0_179 (by decide) ?_
            refine g_iload P43 d0_182 rfl ?_
            refine g_iload P43 d0_184 rfl ?_
            refine g_icmpNo P43 d0_186 (teq hq).2 ?_
            refine g_iconst (v := (1 : Int32)) P43 d0_189 (by rfl) ?_
            refine g_goto P43 d0_190 194 (by decide) (by decide) ?_
            refine g_istore P43 d0_194 #[.val (.int p1), .val (.int p2), .val (.int p3), .val (.int p4), .val (.int (1 : Int32)), .val (.ref a_BASE_NTH_LEVEL), .val (.int (1 : Int32)), .val (.int (p2 &&& (2147483647 : Int32))), .val (.int dp), .val (.ref sc), .val (.int (1 : Int32)), .val (.int (1 : Int32))] rfl ?_
            refine g_goto P43 d0_196 225 (by decide) (by decide) ?_
            refine g_iload P43 d0_225 rfl ?_
            refine g_iload P43 d0_227 rfl ?_
            refine g_icmpNo P43 d0_229 (by decide) ?_
            refine g_iconst (v := (1 : Int32)) P43 d0_232 (by rfl) ?_
            refine g_goto P43 d0_233 237 (by decide) (by decide) ?_
            exact g_retZ P43 d0_237 (by decide) (by decide) (by decide) rfl
          · refine g_virtual P42 sc [(.int dp)] (rest := []) (W := 0) d0_151 (hw _ (List.mem_of_getElem? (i := 22) rfl)) (hw _ (List.mem_of_getElem? (i := 23) rfl)) (hw _ (List.mem_of_getElem? (i := 25) rfl)) (hw _ (List.mem_of_getElem? (i := 24) rfl)) (hw _ (List.mem_of_getElem? (i := 6) rfl)) (hw _ (List.mem_of_getElem? (i := 26) rfl)) (by decide) A (rm_meth l Z a0 hw _ n0 sc a_BASE_NTH_LEVEL dp (p2 &&& (2147483647 : Int32)) (1 : Int32) (0 : Int32) F_type F_level F_BASE_NTH_LEVEL E_BASE_NTH_LEVEL (by decide) (by simp [hq])) pd_4 rfl rfl rfl rfl (by decide) (by decide) (by decide) (by decide) fun v44 T44 h44 P44 q44 => ?_
            obtain ⟨rfl, rfl⟩ := q44
            refine g_istore P44 d0_154 #[.val (.int p1), .val (.int p2), .val (.int p3), .val (.int p4), .val (.int (1 : Int32)), .val (.ref a_BASE_NTH_LEVEL), .val (.int (1 : Int32)), .val (.int (p2 &&& (2147483647 : Int32))), .val (.int dp), .val (.ref sc), .val (.int (0 : Int32)), .unset] rfl ?_
            refine g_iload P44 d0_156 rfl ?_
            refine g_ifYes P44 d0_158 (by decide) 176 (by decide) (by decide) ?_
            refine g_iload P44 d0_176 rfl ?_
            refine g_iconst (v := (1 : Int32)) P44 d0_178 (by rfl) ?_
            refine g_icmpNo P44 d0_179 (by decide) ?_
            refine g_iload P44 d0_182 rfl ?_
            refine g_iload P44 d0_184 rfl ?_
            refine g_icmpYes P44 d0_186 (feq hq).2 193 (by decide) (by decide) ?_
            refine g_iconst (v := (0 : Int32)) P44 d0_193 (by rfl) ?_
            refine g_istore P44 d0_194 #[.val (.int p1), .val (.int p2), .val (.int p3), .val (.int p4), .val (.int (1 : Int32)), .val (.ref a_BASE_NTH_LEVEL), .val (.int (1 : Int32)), .val (.int (p2 &&& (2147483647 : Int32))), .val (.int dp), .val (.ref sc), .val (.int (0 : Int32)), .val (.int (0 : Int32))] rfl ?_
            refine g_goto P44 d0_196 225 (by decide) (by decide) ?_
            refine g_iload P44 d0_225 rfl ?_
            refine g_iload P44 d0_227 rfl ?_
            refine g_icmpNo P44 d0_229 (by decide) ?_
            refine g_iconst (v := (1 : Int32)) P44 d0_232 (by rfl) ?_
            refine g_goto P44 d0_233 237 (by decide) (by decide) ?_
            exact g_retZ P44 d0_237 (by decide) (by decide) (by decide) rfl
        · refine g_ifNo P32 d0_126 ((if0 _ _).trans (flt hc126).2.2.1) ?_
          refine g_lload P32 d0_129 rfl ?_
          refine g_l2i P32 d0_131 ?_
          refine g_istore P32 d0_132 #[.val (.int p1), .val (.int p2), .val (.int p3), .val (.int p4), .val (.int (1 : Int32)), .val (.ref a_BASE_NTH_LEVEL), .val (.int (1 : Int32)), .val (.int (p2 &&& (2147483647 : Int32))), .val (.int (cand).toInt32), .val (.long cand), .second, .unset] rfl ?_
          generalize (cand).toInt32 = dp
          refine g_new P32 d0_134 (hw _ (List.mem_of_getElem? (i := 4) rfl)) (hw _ (List.mem_of_getElem? (i := 5) rfl)) (hw _ (List.mem_of_getElem? (i := 6) rfl)) (by decide) (by decide) fun T45 h45 sc P45 e45 E45 A45 F45 => ?_
          have E := E45
          have S_BASE_ONLY := S_BASE_ONLY.ext E
          have E_BASE_ONLY := E_BASE_ONLY.ext E
          have F_BASE_ONLY := F_BASE_ONLY.ext E
          have S_BASE_NTH_LEVEL := S_BASE_NTH_LEVEL.ext E
          have E_BASE_NTH_LEVEL := E_BASE_NTH_LEVEL.ext E
          have F_BASE_NTH_LEVEL := F_BASE_NTH_LEVEL.ext E
          have S_BASE_SUBTREE := S_BASE_SUBTREE.ext E
          have E_BASE_SUBTREE := E_BASE_SUBTREE.ext E
          have F_BASE_SUBTREE := F_BASE_SUBTREE.ext E
          have S_BASE_ALL := S_BASE_ALL.ext E
          have E_BASE_ALL := E_BASE_ALL.ext E
          have F_BASE_ALL := F_BASE_ALL.ext E
          have gsc : n0 ≤ sc := by omega
          have nS : ∀ {x : Addr}, @LT.lt Nat _ x h0.size → x ∉ [sc] := fun {x} q r => by have : @Eq Nat x sc := List.mem_singleton.mp r; omega
          have F_type := F45 (Or.inr (hw _ (List.mem_of_getElem? (i := 19) rfl)) : Laid Z a0 "com/example/bellwether/bellwether/mo/Scope" "com/example/bellwether/bellwether/mo/Scope" "type" "Lcom/example/bellwether/bellwether/mo/Scope$Type;") (ty := (.object "com/example/bellwether/bellwether/mo/Scope$Type")) (by decide)
          have F_level := F45 (Or.inr (hw _ (List.mem_of_getElem? (i := 21) rfl)) : Laid Z a0 "com/example/bellwether/bellwether/mo/Scope" "com/example/bellwether/bellwether/mo/Scope" "level" "I") (ty := .int) (by decide)
          refine g_dup P45 d0_137 rfl ?_
          refine g_aload P45 d0_138 rfl rfl ?_
          refine g_iload P45 d0_140 rfl ?_
          refine g_special P45 sc [(.ref a_BASE_NTH_LEVEL), (.int (p2 &&& (2147483647 : Int32)))] (rest := [(.ref sc)]) (W := 1) d0_142 rfl (hw _ (List.mem_of_getElem? (i := 7) rfl)) (hw _ (List.mem_of_getElem? (i := 8) rfl)) (hw _ (List.mem_of_getElem? (i := 6) rfl)) (hw _ (List.mem_of_getElem? (i := 9) rfl)) (by decide) (rm_scope l Z a0 hw _ n0 a_BASE_ONLY a_BASE_NTH_LEVEL a_BASE_SUBTREE a_BASE_ALL sc a_BASE_NTH_LEVEL (p2 &&& (2147483647 : Int32)) S_BASE_NTH_LEVEL S_BASE_SUBTREE hlv (fun _ => Or.inl rfl) gsc A45 F_type F_level) pd_3 rfl rfl rfl rfl (by decide) (by decide) (by decide) (by decide) fun v46 T46 h46 P46 q46 => ?_
          obtain ⟨rfl, K, A, F_type, F_level⟩ := q46
          have S_BASE_ONLY := S_BASE_ONLY
          have E_BASE_ONLY := E_BASE_ONLY.keep K
          have E_BASE_NTH_LEVEL := E_BASE_NTH_LEVEL.keep K
          have E_BASE_SUBTREE := E_BASE_SUBTREE.keep K
          have E_BASE_ALL := E_BASE_ALL.keep K
          have F_BASE_ONLY := F_BASE_ONLY.keep K (nS M_BASE_ONLY)
          have F_BASE_NTH_LEVEL := F_BASE_NTH_LEVEL.keep K (nS M_BASE_NTH_LEVEL)
          have F_BASE_SUBTREE := F_BASE_SUBTREE.keep K (nS M_BASE_SUBTREE)
          have F_BASE_ALL := F_BASE_ALL.keep K (nS M_BASE_ALL)
          refine g_astore P46 d0_145 rfl #[.val (.int p1), .val (.int p2), .val (.int p3), .val (.int p4), .val (.int (1 : Int32)), .val (.ref a_BASE_NTH_LEVEL), .val (.int (1 : Int32)), .val (.int (p2 &&& (2147483647 : Int32))), .val (.int dp), .val (.ref sc), .unset, .unset] rfl ?_
          refine g_aload P46 d0_147 rfl rfl ?_
          refine g_iload P46 d0_149 rfl ?_
          by_cases hq : dp = (p2 &&& (2147483647 : Int32))
          · refine g_virtual P46 sc [(.int dp)] (rest := []) (W := 0) d0_151 (hw _ (List.mem_of_getElem? (i := 22) rfl)) (hw _ (List.mem_of_getElem? (i := 23) rfl)) (hw _ (List.mem_of_getElem? (i := 25) rfl)) (hw _ (List.mem_of_getElem? (i := 24) rfl)) (hw _ (List.mem_of_getElem? (i := 6) rfl)) (hw _ (List.mem_of_getElem? (i := 26) rfl)) (by decide) A (rm_meth l Z a0 hw _ n0 sc a_BASE_NTH_LEVEL dp (p2 &&& (2147483647 : Int32)) (1 : Int32) (1 : Int32) F_type F_level F_BASE_NTH_LEVEL E_BASE_NTH_LEVEL (by decide) (by simp [hq])) pd_4 rfl rfl rfl rfl (by decide) (by decide) (by decide) (by decide) fun v47 T47 h47 P47 q47 => ?_
            obtain ⟨rfl, rfl⟩ := q47
            refine g_istore P47 d0_154 #[.val (.int p1), .val (.int p2), .val (.int p3), .val (.int p4), .val (.int (1 : Int32)), .val (.ref a_BASE_NTH_LEVEL), .val (.int (1 : Int32)), .val (.int (p2 &&& (2147483647 : Int32))), .val (.int dp), .val (.ref sc), .val (.int (1 : Int32)), .unset] rfl ?_
            refine g_iload P47 d0_156 rfl ?_
            refine g_ifYes P47 d0_158 (by decide) 176 (by decide) (by decide) ?_
            refine g_iload P47 d0_176 rfl ?_
            refine g_iconst (v := (1 : Int32)) P47 d0_178 (by rfl) ?_
            refine g_icmpNo P47 d0_179 (by decide) ?_
            refine g_iload P47 d0_182 rfl ?_
            refine g_iload P47 d0_184 rfl ?_
            refine g_icmpNo P47 d0_186 (teq hq).2 ?_
            refine g_iconst (v := (1 : Int32)) P47 d0_189 (by rfl) ?_
            refine g_goto P47 d0_190 194 (by decide) (by decide) ?_
            refine g_istore P47 d0_194 #[.val (.int p1), .val (.int p2), .val (.int p3), .val (.int p4), .val (.int (1 : Int32)), .val (.ref a_BASE_NTH_LEVEL), .val (.int (1 : Int32)), .val (.int (p2 &&& (2147483647 : Int32))), .val (.int dp), .val (.ref sc), .val (.int (1 : Int32)), .val (.int (1 : Int32))] rfl ?_
            refine g_goto P47 d0_196 225 (by decide) (by decide) ?_
            refine g_iload P47 d0_225 rfl ?_
            refine g_iload P47 d0_227 rfl ?_
            refine g_icmpNo P47 d0_229 (by decide) ?_
            refine g_iconst (v := (1 : Int32)) P47 d0_232 (by rfl) ?_
            refine g_goto P47 d0_233 237 (by decide) (by decide) ?_
            exact g_retZ P47 d0_237 (by decide) (by decide) (by decide) rfl
          · refine g_virtual P46 sc [(.int dp)] (rest := []) (W := 0) d0_151 (hw _ (List.mem_of_getElem? (i := 22) rfl)) (hw _ (List.mem_of_getElem? (i := 23) rfl)) (hw _ (List.mem_of_getElem? (i := 25) rfl)) (hw _ (List.mem_of_getElem? (i := 24) rfl)) (hw _ (List.mem_of_getElem? (i := 6) rfl)) (hw _ (List.mem_of_getElem? (i := 26) rfl)) (by decide) A (rm_meth l Z a0 hw _ n0 sc a_BASE_NTH_LEVEL dp (p2 &&& (2147483647 : Int32)) (1 : Int32) (0 : Int32) F_type F_level F_BASE_NTH_LEVEL E_BASE_NTH_LEVEL (by decide) (by simp [hq])) pd_4 rfl rfl rfl rfl (by decide) (by decide) (by decide) (by decide) fun v48 T48 h48 P48 q48 => ?_
            obtain ⟨rfl, rfl⟩ := q48
            refine g_istore P48 d0_154 #[.val (.int p1), .val (.int p2), .val (.int p3), .val (.int p4), .val (.int (1 : Int32)), .val (.ref a_BASE_NTH_LEVEL), .val (.int (1 : Int32)), .val (.int (p2 &&& (2147483647 : Int32))), .val (.int dp), .val (.ref sc), .val (.int (0 : Int32)), .unset] rfl ?_
            refine g_iload P48 d0_156 rfl ?_
            refine g_ifYes P48 d0_158 (by decide) 176 (by decide) (by decide) ?_
            refine g_iload P48 d0_176 rfl ?_
            refine g_iconst (v := (1 : Int32)) P48 d0_178 (by rfl) ?_
            refine g_icmpNo P48 d0_179 (by decide) ?_
            refine g_iload P48 d0_182 rfl ?_
            refine g_iload P48 d0_184 rfl ?_
            refine g_icmpYes P48 d0_186 (feq hq).2 193 (by decide) (by decide) ?_
            refine g_iconst (v := (0 : Int32)) P48 d0_193 (by rfl) ?_
            refine g_istore P48 d0_194 #[.val (.int p1), .val (.int p2), .val (.int p3), .val (.int p4), .val (.int (1 : Int32)), .val (.ref a_BASE_NTH_LEVEL), .val (.int (1 : Int32)), .val (.int (p2 &&& (2147483647 : Int32))), .val (.int dp), .val (.ref sc), .val (.int (0 : Int32)), .val (.int (0 : Int32))] rfl ?_
            refine g_goto P48 d0_196 225 (by decide) (by decide) ?_
            refine g_iload P48 d0_225 rfl ?_
            refine g_iload P48 d0_227 rfl ?_
            refine g_icmpNo P48 d0_229 (by decide) ?_
            refine g_iconst (v := (1 : Int32)) P48 d0_232 (by rfl) ?_
            refine g_goto P48 d0_233 237 (by decide) (by decide) ?_
            exact g_retZ P48 d0_237 (by decide) (by decide) (by decide) rfl
  · refine g_istore P0 d0_3 #[.val (.int p1), .val (.int p2), .val (.int p3), .val (.int p4), .val (.int (2 : Int32)), .unset, .unset, .unset, .unset, .unset, .unset, .unset] rfl ?_
    refine g_iload P0 d0_5 rfl ?_
    refine g_ifYes P0 d0_7 (by decide) 18 (by decide) (by decide) ?_
    refine g_iload P0 d0_18 rfl ?_
    refine g_iconst (v := (1 : Int32)) P0 d0_20 (by rfl) ?_
    refine g_icmpYes P0 d0_21 (by decide) 32 (by decide) (by decide) ?_
    refine g_iload P0 d0_32 rfl ?_
    refine g_iconst (v := (2 : Int32)) P0 d0_34 (by rfl) ?_
    refine g_icmpNo P0 d0_35 (by decide) ?_
    refine g_getS (host := "") P0 d0_38 (Or.inl (hw _ (List.mem_of_getElem? (i := 38) rfl))) Via.refl S_BASE_SUBTREE fun T49 P49 => ?_
    refine g_astore P49 d0_41 rfl #[.val (.int p1), .val (.int p2), .val (.int p3), .val (.int p4), .val (.int (2 : Int32)), .val (.ref a_BASE_SUBTREE), .unset, .unset, .unset, .unset, .unset, .unset] rfl ?_
    refine g_goto P49 d0_43 51 (by decide) (by decide) ?_
    refine g_iload P49 d0_51 rfl ?_
    refine g_iconst (v := (1 : Int32)) P49 d0_53 (by rfl) ?_
    refine g_icmpNo P49 d0_54 (by decide) ?_
    refine g_iload P49 d0_57 rfl ?_
    refine g_iconst (v := (2 : Int32)) P49 d0_59 (by rfl) ?_
    refine g_icmpNo P49 d0_60 (by decide) ?_
    refine g_iconst (v := (1 : Int32)) P49 d0_63 (by rfl) ?_
    refine g_goto P49 d0_64 68 (by decide) (by decide) ?_
    refine g_istore P49 d0_68 #[.val (.int p1), .val (.int p2), .val (.int p3), .val (.int p4), .val (.int (2 : Int32)), .val (.ref a_BASE_SUBTREE), .val (.int (1 : Int32)), .unset, .unset, .unset, .unset, .unset] rfl ?_
    refine g_iload P49 d0_70 rfl ?_
    refine g_ifNo P49 d0_72 (by decide) ?_
    refine g_iloadN P49 d0_75 rfl ?_
    refine g_ldc (v := (2147483647 : Int32)) P49 d0_76 (hw _ (List.mem_of_getElem? (i := 3) rfl)) ?_
    refine g_iand (v := (p2 &&& (2147483647 : Int32))) P49 d0_78 rfl ?_
    refine g_goto P49 d0_79 83 (by decide) (by decide) ?_
    refine g_istore P49 d0_83 #[.val (.int p1), .val (.int p2), .val (.int p3), .val (.int p4), .val (.int (2 : Int32)), .val (.ref a_BASE_SUBTREE), .val (.int (1 : Int32)), .val (.int (p2 &&& (2147483647 : Int32))), .unset, .unset, .unset, .unset] rfl ?_
    refine g_iloadN P49 d0_85 rfl ?_
    refine g_ldc (v := (2147483647 : Int32)) P49 d0_86 (hw _ (List.mem_of_getElem? (i := 3) rfl)) ?_
    refine g_iand (v := (p3 &&& (2147483647 : Int32))) P49 d0_88 rfl ?_
    refine g_istore P49 d0_89 #[.val (.int p1), .val (.int p2), .val (.int p3), .val (.int p4), .val (.int (2 : Int32)), .val (.ref a_BASE_SUBTREE), .val (.int (1 : Int32)), .val (.int (p2 &&& (2147483647 : Int32))), .val (.int (p3 &&& (2147483647 : Int32))), .unset, .unset, .unset] rfl ?_
    refine g_iloadN P49 d0_91 rfl ?_
    refine g_iconst (v := (1 : Int32)) P49 d0_92 (by rfl) ?_
    refine g_iand (v := (p4 &&& (1 : Int32))) P49 d0_93 rfl ?_
    by_cases hc94 : (p4 &&& (1 : Int32)) = (0 : Int32)
    · refine g_ifYes P49 d0_94 ((if0 _ _).trans (teq hc94).1) 134 (by decide) (by decide) ?_
      generalize (p3 &&& (2147483647 : Int32)) = dp
      refine g_new P49 d0_134 (hw _ (List.mem_of_getElem? (i := 4) rfl)) (hw _ (List.mem_of_getElem? (i := 5) rfl)) (hw _ (List.mem_of_getElem? (i := 6) rfl)) (by decide) (by decide) fun T50 h50 sc P50 e50 E50 A50 F50 => ?_
      have E := E50
      have S_BASE_ONLY := S_BASE_ONLY.ext E
      have E_BASE_ONLY := E_BASE_ONLY.ext E
      have F_BASE_ONLY := F_BASE_ONLY.ext E
      have S_BASE_NTH_LEVEL := S_BASE_NTH_LEVEL.ext E
      have E_BASE_NTH_LEVEL := E_BASE_NTH_LEVEL.ext E
      have F_BASE_NTH_LEVEL := F_BASE_NTH_LEVEL.ext E
      have S_BASE_SUBTREE := S_BASE_SUBTREE.ext E
      have E_BASE_SUBTREE := E_BASE_SUBTREE.ext E
      have F_BASE_SUBTREE := F_BASE_SUBTREE.ext E
      have S_BASE_ALL := S_BASE_ALL.ext E
      have E_BASE_ALL := E_BASE_ALL.ext E
      have F_BASE_ALL := F_BASE_ALL.ext E
      have gsc : n0 ≤ sc := by omega
      have nS : ∀ {x : Addr}, @LT.lt Nat _ x h0.size → x ∉ [sc] := fun {x} q r => by have : @Eq Nat x sc := List.mem_singleton.mp r; omega
      have F_type := F50 (Or.inr (hw _ (List.mem_of_getElem? (i := 19) rfl)) : Laid Z a0 "com/example/bellwether/bellwether/mo/Scope" "com/example/bellwether/bellwether/mo/Scope" "type" "Lcom/example/bellwether/bellwether/mo/Scope$Type;") (ty := (.object "com/example/bellwether/bellwether/mo/Scope$Type")) (by decide)
      have F_level := F50 (Or.inr (hw _ (List.mem_of_getElem? (i := 21) rfl)) : Laid Z a0 "com/example/bellwether/bellwether/mo/Scope" "com/example/bellwether/bellwether/mo/Scope" "level" "I") (ty := .int) (by decide)
      refine g_dup P50 d0_137 rfl ?_
      refine g_aload P50 d0_138 rfl rfl ?_
      refine g_iload P50 d0_140 rfl ?_
      refine g_special P50 sc [(.ref a_BASE_SUBTREE), (.int (p2 &&& (2147483647 : Int32)))] (rest := [(.ref sc)]) (W := 1) d0_142 rfl (hw _ (List.mem_of_getElem? (i := 7) rfl)) (hw _ (List.mem_of_getElem? (i := 8) rfl)) (hw _ (List.mem_of_getElem? (i := 6) rfl)) (hw _ (List.mem_of_getElem? (i := 9) rfl)) (by decide) (rm_scope l Z a0 hw _ n0 a_BASE_ONLY a_BASE_NTH_LEVEL a_BASE_SUBTREE a_BASE_ALL sc a_BASE_SUBTREE (p2 &&& (2147483647 : Int32)) S_BASE_NTH_LEVEL S_BASE_SUBTREE hlv (fun _ => Or.inr rfl) gsc A50 F_type F_level) pd_3 rfl rfl rfl rfl (by decide) (by decide) (by decide) (by decide) fun v51 T51 h51 P51 q51 => ?_
      obtain ⟨rfl, K, A, F_type, F_level⟩ := q51
      have S_BASE_ONLY := S_BASE_ONLY
      have E_BASE_ONLY := E_BASE_ONLY.keep K
      have E_BASE_NTH_LEVEL := E_BASE_NTH_LEVEL.keep K
      have E_BASE_SUBTREE := E_BASE_SUBTREE.keep K
      have E_BASE_ALL := E_BASE_ALL.keep K
      have F_BASE_ONLY := F_BASE_ONLY.keep K (nS M_BASE_ONLY)
      have F_BASE_NTH_LEVEL := F_BASE_NTH_LEVEL.keep K (nS M_BASE_NTH_LEVEL)
      have F_BASE_SUBTREE := F_BASE_SUBTREE.keep K (nS M_BASE_SUBTREE)
      have F_BASE_ALL := F_BASE_ALL.keep K (nS M_BASE_ALL)
      refine g_astore P51 d0_145 rfl #[.val (.int p1), .val (.int p2), .val (.int p3), .val (.int p4), .val (.int (2 : Int32)), .val (.ref a_BASE_SUBTREE), .val (.int (1 : Int32)), .val (.int (p2 &&& (2147483647 : Int32))), .val (.int dp), .val (.ref sc), .unset, .unset] rfl ?_
      refine g_aload P51 d0_147 rfl rfl ?_
      refine g_iload P51 d0_149 rfl ?_
      by_cases hq : (p2 &&& (2147483647 : Int32)) < dp
      · refine g_virtual P51 sc [(.int dp)] (rest := []) (W := 0) d0_151 (hw _ (List.mem_of_getElem? (i := 22) rfl)) (hw _ (List.mem_of_getElem? (i := 23) rfl)) (hw _ (List.mem_of_getElem? (i := 25) rfl)) (hw _ (List.mem_of_getElem? (i := 24) rfl)) (hw _ (List.mem_of_getElem? (i := 6) rfl)) (hw _ (List.mem_of_getElem? (i := 26) rfl)) (by decide) A (rm_meth l Z a0 hw _ n0 sc a_BASE_SUBTREE dp (p2 &&& (2147483647 : Int32)) (2 : Int32) (0 : Int32) F_type F_level F_BASE_SUBTREE E_BASE_SUBTREE (by decide) (by simp [hq])) pd_4 rfl rfl rfl rfl (by decide) (by decide) (by decide) (by decide) fun v52 T52 h52 P52 q52 => ?_
        obtain ⟨rfl, rfl⟩ := q52
        refine g_istore P52 d0_154 #[.val (.int p1), .val (.int p2), .val (.int p3), .val (.int p4), .val (.int (2 : Int32)), .val (.ref a_BASE_SUBTREE), .val (.int (1 : Int32)), .val (.int (p2 &&& (2147483647 : Int32))), .val (.int dp), .val (.ref sc), .val (.int (0 : Int32)), .unset] rfl ?_
        refine g_iload P52 d0_156 rfl ?_
        refine g_ifYes P52 d0_158 (by decide) 176 (by decide) (by decide) ?_
        refine g_iload P52 d0_176 rfl ?_
        refine g_iconst (v := (1 : Int32)) P52 d0_178 (by rfl) ?_
        refine g_icmpYes P52 d0_179 (by decide) 199 (by decide) (by decide) ?_
        refine g_iload P52 d0_199 rfl ?_
        refine g_iconst (v := (2 : Int32)) P52 d0_201 (by rfl) ?_
        refine g_icmpNo P52 d0_202 (by decide) ?_
        refine g_iload P52 d0_205 rfl ?_
        refine g_iload P52 d0_207 rfl ?_
        refine g_icmpYes P52 d0_209 (tlt hq).2.2.1 216 (by decide) (by decide) ?_
        refine g_iconst (v := (0 : Int32)) P52 d0_216 (by rfl) ?_
        refine g_istore P52 d0_217 #[.val (.int p1), .val (.int p2), .val (.int p3), .val (.int p4), .val (.int (2 : Int32)), .val (.ref a_BASE_SUBTREE), .val (.int (1 : Int32)), .val (.int (p2 &&& (2147483647 : Int32))), .val (.int dp), .val (.ref sc), .val (.int (0 : Int32)), .val (.int (0 : Int32))] rfl ?_
        refine g_goto P52 d0_219 225 (by decide) (by decide) ?_
        refine g_iload P52 d0_225 rfl ?_
        refine g_iload P52 d0_227 rfl ?_
        refine g_icmpNo P52 d0_229 (by decide) ?_
        refine g_iconst (v := (1 : Int32)) P52 d0_232 (by rfl) ?_
        refine g_goto P52 d0_233 237 (by decide) (by decide) ?_
        exact g_retZ P52 d0_237 (by decide) (by decide) (by decide) rfl
      · refine g_virtual P51 sc [(.int dp)] (rest := []) (W := 0) d0_151 (hw _ (List.mem_of_getElem? (i := 22) rfl)) (hw _ (List.mem_of_getElem? (i := 23) rfl)) (hw _ (List.mem_of_getElem? (i := 25) rfl)) (hw _ (List.mem_of_getElem? (i := 24) rfl)) (hw _ (List.mem_of_getElem? (i := 6) rfl)) (hw _ (List.mem_of_getElem? (i := 26) rfl)) (by decide) A (rm_meth l Z a0 hw _ n0 sc a_BASE_SUBTREE dp (p2 &&& (2147483647 : Int32)) (2 : Int32) (1 : Int32) F_type F_level F_BASE_SUBTREE E_BASE_SUBTREE (by decide) (by simp [hq])) pd_4 rfl rfl rfl rfl (by decide) (by decide) (by decide) (by decide) fun v53 T53 h53 P53 q53 => ?_
        obtain ⟨rfl, rfl⟩ := q53
        refine g_istore P53 d0_154 #[.val (.int p1), .val (.int p2), .val (.int p3), .val (.int p4), .val (.int (2 : Int32)), .val (.ref a_BASE_SUBTREE), .val (.int (1 : Int32)), .val (.int (p2 &&& (2147483647 : Int32))), .val (.int dp), .val (.ref sc), .val (.int (1 : Int32)), .unset] rfl ?_
        refine g_iload P53 d0_156 rfl ?_
        refine g_ifYes P53 d0_158 (by decide) 176 (by decide) (by decide) ?_
        refine g_iload P53 d0_176 rfl ?_
        refine g_iconst (v := (1 : Int32)) P53 d0_178 (by rfl) ?_
        refine g_icmpYes P53 d0_179 (by decide) 199 (by decide) (by decide) ?_
        refine g_iload P53 d0_199 rfl ?_
        refine g_iconst (v := (2 : Int32)) P53 d0_201 (by rfl) ?_
        refine g_icmpNo P53 d0_202 (by decide) ?_
        refine g_iload P53 d0_205 rfl ?_
        refine g_iload P53 d0_207 rfl ?_
        refine g_icmpNo P53 d0_209 (flt hq).2.2.1 ?_
        refine g_iconst (v := (1 : Int32)) P53 d0_212 (by rfl) ?_
        refine g_goto P53 d0_213 217 (by decide) (by decide) ?_
        refine g_istore P53 d0_217 #[.val (.int p1), .val (.int p2), .val (.int p3), .val (.int p4), .val (.int (2 : Int32)), .val (.ref a_BASE_SUBTREE), .val (.int (1 : Int32)), .val (.int (p2 &&& (2147483647 : Int32))), .val (.int dp), .val (.ref sc), .val (.int (1 : Int32)), .val (.int (1 : Int32))] rfl ?_
        refine g_goto P53 d0_219 225 (by decide) (by decide) ?_
        refine g_iload P53 d0_225 rfl ?_
        refine g_iload P53 d0_227 rfl ?_
        refine g_icmpNo P53 d0_229 (by decide) ?_
        refine g_iconst (v := (1 : Int32)) P53 d0_232 (by rfl) ?_
        refine g_goto P53 d0_233 237 (by decide) (by decide) ?_
        exact g_retZ P53 d0_237 (by decide) (by decide) (by decide) rfl
    · refine g_ifNo P49 d0_94 ((if0 _ _).trans (feq hc94).1) ?_
      refine g_iload P49 d0_97 rfl ?_
      refine g_i2l P49 d0_99 ?_
      refine g_iloadN P49 d0_100 rfl ?_
      refine g_iconst (v := (1 : Int32)) P49 d0_101 (by rfl) ?_
      refine g_iushr (v := (XT.ushr p4 (1 : Int32))) P49 d0_102 rfl ?_
      refine g_iconst (v := (3 : Int32)) P49 d0_103 (by rfl) ?_
      refine g_iand (v := ((XT.ushr p4 (1 : Int32)) &&& (3 : Int32))) P49 d0_104 rfl ?_
      refine g_iconst (v := (3 : Int32)) P49 d0_105 (by rfl) ?_
      refine g_irem (v := (((XT.ushr p4 (1 : Int32)) &&& (3 : Int32)) % (3 : Int32))) P49 d0_106 (by decide) rfl ?_
      refine g_i2l P49 d0_107 ?_
      refine g_ladd P49 d0_108 ?_
      refine g_lconst (v := (1 : Int64)) P49 d0_109 (by rfl) ?_
      refine g_lsub P49 d0_110 ?_
      refine g_lstore P49 d0_111 #[.val (.int p1), .val (.int p2), .val (.int p3), .val (.int p4), .val (.int (2 : Int32)), .val (.ref a_BASE_SUBTREE), .val (.int (1 : Int32)), .val (.int (p2 &&& (2147483647 : Int32))), .val (.int (p3 &&& (2147483647 : Int32))), .val (.long ((((p2 &&& (2147483647 : Int32))).toInt64 + ((((XT.ushr p4 (1 : Int32)) &&& (3 : Int32)) % (3 : Int32))).toInt64) - (1 : Int64))), .second, .unset] rfl ?_
      generalize ((((p2 &&& (2147483647 : Int32))).toInt64 + ((((XT.ushr p4 (1 : Int32)) &&& (3 : Int32)) % (3 : Int32))).toInt64) - (1 : Int64)) = cand
      refine g_lload P49 d0_113 rfl ?_
      refine g_lconst (v := (0 : Int64)) P49 d0_115 (by rfl) ?_
      refine g_lcmp P49 d0_116 ?_
      by_cases hc117 : (XT.cmpL cand (0 : Int64)) < (0 : Int32)
      · refine g_ifYes P49 d0_117 ((if0 _ _).trans (tlt hc117).1) 134 (by decide) (by decide) ?_
        generalize (p3 &&& (2147483647 : Int32)) = dp
        refine g_new P49 d0_134 (hw _ (List.mem_of_getElem? (i := 4) rfl)) (hw _ (List.mem_of_getElem? (i := 5) rfl)) (hw _ (List.mem_of_getElem? (i := 6) rfl)) (by decide) (by decide) fun T54 h54 sc P54 e54 E54 A54 F54 => ?_
        have E := E54
        have S_BASE_ONLY := S_BASE_ONLY.ext E
        have E_BASE_ONLY := E_BASE_ONLY.ext E
        have F_BASE_ONLY := F_BASE_ONLY.ext E
        have S_BASE_NTH_LEVEL := S_BASE_NTH_LEVEL.ext E
        have E_BASE_NTH_LEVEL := E_BASE_NTH_LEVEL.ext E
        have F_BASE_NTH_LEVEL := F_BASE_NTH_LEVEL.ext E
        have S_BASE_SUBTREE := S_BASE_SUBTREE.ext E
        have E_BASE_SUBTREE := E_BASE_SUBTREE.ext E
        have F_BASE_SUBTREE := F_BASE_SUBTREE.ext E
        have S_BASE_ALL := S_BASE_ALL.ext E
        have E_BASE_ALL := E_BASE_ALL.ext E
        have F_BASE_ALL := F_BASE_ALL.ext E
        have gsc : n0 ≤ sc := by omega
        have nS : ∀ {x : Addr}, @LT.lt Nat _ x h0.size → x ∉ [sc] := fun {x} q r => by have : @Eq Nat x sc := List.mem_singleton.mp r; omega
        have F_type := F54 (Or.inr (hw _ (List.mem_of_getElem? (i := 19) rfl)) : Laid Z a0 "com/example/bellwether/bellwether/mo/Scope" "com/example/bellwether/bellwether/mo/Scope" "type" "Lcom/example/bellwether/bellwether/mo/Scope$Type;") (ty := (.object "com/example/bellwether/bellwether/mo/Scope$Type")) (by decide)
        have F_level := F54 (Or.inr (hw _ (List.mem_of_getElem? (i := 21) rfl)) : Laid Z a0 "com/example/bellwether/bellwether/mo/Scope" "com/example/bellwether/bellwether/mo/Scope" "level" "I") (ty := .int) (by decide)
        refine g_dup P54 d0_137 rfl ?_
        refine g_aload P54 d0_138 rfl rfl ?_
        refine g_iload P54 d0_140 rfl ?_
        refine g_special P54 sc [(.ref a_BASE_SUBTREE), (.int (p2 &&& (2147483647 : Int32)))] (rest := [(.ref sc)]) (W := 1) d0_142 rfl (hw _ (List.mem_of_getElem? (i := 7) rfl)) (hw _ (List.mem_of_getElem? (i := 8) rfl)) (hw _ (List.mem_of_getElem? (i := 6) rfl)) (hw _ (List.mem_of_getElem? (i := 9) rfl)) (by decide) (rm_scope l Z a0 hw _ n0 a_BASE_ONLY a_BASE_NTH_LEVEL a_BASE_SUBTREE a_BASE_ALL sc a_BASE_SUBTREE (p2 &&& (2147483647 : Int32)) S_BASE_NTH_LEVEL S_BASE_SUBTREE hlv (fun _ => Or.inr rfl) gsc A54 F_type F_level) pd_3 rfl rfl rfl rfl (by decide) (by decide) (by decide) (by decide) fun v55 T55 h55 P55 q55 => ?_
        obtain ⟨rfl, K, A, F_type, F_level⟩ := q55
        have S_BASE_ONLY := S_BASE_ONLY
        have E_BASE_ONLY := E_BASE_ONLY.keep K
        have E_BASE_NTH_LEVEL := E_BASE_NTH_LEVEL.keep K
        have E_BASE_SUBTREE := E_BASE_SUBTREE.keep K
        have E_BASE_ALL := E_BASE_ALL.keep K
        have F_BASE_ONLY := F_BASE_ONLY.keep K (nS M_BASE_ONLY)
        have F_BASE_NTH_LEVEL := F_BASE_NTH_LEVEL.keep K (nS M_BASE_NTH_LEVEL)
        have F_BASE_SUBTREE := F_BASE_SUBTREE.keep K (nS M_BASE_SUBTREE)
        have F_BASE_ALL := F_BASE_ALL.keep K (nS M_BASE_ALL)
        refine g_astore P55 d0_145 rfl #[.val (.int p1), .val (.int p2), .val (.int p3), .val (.int p4), .val (.int (2 : Int32)), .val (.ref a_BASE_SUBTREE), .val (.int (1 : Int32)), .val (.int (p2 &&& (2147483647 : Int32))), .val (.int dp), .val (.ref sc), .unset, .unset] rfl ?_
        refine g_aload P55 d0_147 rfl rfl ?_
        refine g_iload P55 d0_149 rfl ?_
        by_cases hq : (p2 &&& (2147483647 : Int32)) < dp
        · refine g_virtual P55 sc [(.int dp)] (rest := []) (W := 0) d0_151 (hw _ (List.mem_of_getElem? (i := 22) rfl)) (hw _ (List.mem_of_getElem? (i := 23) rfl)) (hw _ (List.mem_of_getElem? (i := 25) rfl)) (hw _ (List.mem_of_getElem? (i := 24) rfl)) (hw _ (List.mem_of_getElem? (i := 6) rfl)) (hw _ (List.mem_of_getElem? (i := 26) rfl)) (by decide) A (rm_meth l Z a0 hw _ n0 sc a_BASE_SUBTREE dp (p2 &&& (2147483647 : Int32)) (2 : Int32) (0 : Int32) F_type F_level F_BASE_SUBTREE E_BASE_SUBTREE (by decide) (by simp [hq])) pd_4 rfl rfl rfl rfl (by decide) (by decide) (by decide) (by decide) fun v56 T56 h56 P56 q56 => ?_
          obtain ⟨rfl, rfl⟩ := q56
          refine g_istore P56 d0_154 #[.val (.int p1), .val (.int p2), .val (.int p3), .val (.int p4), .val (.int (2 : Int32)), .val (.ref a_BASE_SUBTREE), .val (.int (1 : Int32)), .val (.int (p2 &&& (2147483647 : Int32))), .val (.int dp), .val (.ref sc), .val (.int (0 : Int32)), .unset] rfl ?_
          refine g_iload P56 d0_156 rfl ?_
          refine g_ifYes P56 d0_158 (by decide) 176 (by decide) (by decide) ?_
          refine g_iload P56 d0_176 rfl ?_
          refine g_iconst (v := (1 : Int32)) P56 d0_178 (by rfl) ?_
          refine g_icmpYes P56 d0_179 (by decide) 199 (by decide) (by decide) ?_
          refine g_iload P56 d0_199 rfl ?_
          refine g_iconst (v := (2 : Int32)) P56 d0_201 (by rfl) ?_
          refine g_icmpNo P56 d0_202 (by decide) ?_
          refine g_iload P56 d0_205 rfl ?_
          refine g_iload P56 d0_207 rfl ?_
          refine g_icmpYes P56 d0_209 (tlt hq).2.2.1 216 (by decide) (by decide) ?_
          refine g_iconst (v := (0 : Int32)) P56 d0_216 (by rfl) ?_
          refine g_istore P56 d0_217 #[.val (.int p1), .val (.int p2), .val (.int p3), .val (.int p4), .val (.int (2 : Int32)), .val (.ref a_BASE_SUBTREE), .val (.int (1 : Int32)), .val (.int (p2 &&& (2147483647 : Int32))), .val (.int dp), .val (.ref sc), .val (.int (0 : Int32)), .val (.int (0 : Int32))] rfl ?_
          refine g_goto P56 d0_219 225 (by decide) (by decide) ?_
          refine g_iload P56 d0_225 rfl ?_
          refine g_iload P56 d0_227 rfl ?_
          refine g_icmpNo P56 d0_229 (by decide) ?_
          refine g_iconst (v := (1 : Int32)) P56 d0_232 (by rfl) ?_
          refine g_goto P56 d0_233 237 (by decide) (by decide) ?_
          exact g_retZ P56 d0_237 (by decide) (by decide) (by decide) rfl
        · refine g_virtual P55 sc [(.int dp)] (rest := []) (W := 0) d0_151 (hw _ (List.mem_of_getElem? (i := 22) rfl)) (hw _ (List.mem_of_getElem? (i := 23) rfl)) (hw _ (List.mem_of_getElem? (i := 25) rfl)) (hw _ (List.mem_of_getElem? (i := 24) rfl)) (hw _ (List.mem_of_getElem? (i := 6) rfl)) (hw _ (List.mem_of_getElem? (i := 26) rfl)) (by decide) A (rm_meth l Z a0 hw _ n0 sc a_BASE_SUBTREE dp (p2 &&& (2147483647 : Int32)) (2 : Int32) (1 : Int32) F_type F_level F_BASE_SUBTREE E_BASE_SUBTREE (by decide) (by simp [hq])) pd_4 rfl rfl rfl rfl (by decide) (by decide) (by decide) (by decide) fun v57 T57 h57 P57 q57 => ?_
          obtain ⟨rfl, rfl⟩ := q57
          refine g_istore P57 d0_154 #[.val (.int p1), .val (.int p2), .val (.int p3), .val (.int p4), .val (.int (2 : Int32)), .val (.ref a_BASE_SUBTREE), .val (.int (1 : Int32)), .val (.int (p2 &&& (2147483647 : Int32))), .val (.int dp), .val (.ref sc), .val (.int (1 : Int32)), .unset] rfl ?_
          refine g_iload P57 d0_156 rfl ?_
          refine g_ifYes P57 d0_158 (by decide) 176 (by decide) (by decide) ?_
          refine g_iload P57 d0_176 rfl ?_
          refine g_iconst (v := (1 : Int32)) P57 d0_178 (by rfl) ?_
          refine g_icmpYes P57 d0_179 (by decide) 199 (by decide) (by decide) ?_
          refine g_iload P57 d0_199 rfl ?_
          refine g_iconst (v := (2 : Int32)) P57 d0_201 (by rfl) ?_
          refine g_icmpNo P57 d0_202 (by decide) ?_
          refine g_iload P57 d0_205 rfl ?_
          refine g_iload P57 d0_207 rfl ?_
          refine g_icmpNo P57 d0_209 (flt hq).2.2.1 ?_
          refine g_iconst (v := (1 : Int32)) P57 d0_212 (by rfl) ?_
          refine g_goto P57 d0_213 217 (by decide) (by decide) ?_
          refine g_istore P57 d0_217 #[.val (.int p1), .val (.int p2), .val (.int p3), .val (.int p4), .val (.int (2 : Int32)), .val (.ref a_BASE_SUBTREE), .val (.int (1 : Int32)), .val (.int (p2 &&& (2147483647 : Int32))), .val (.int dp), .val (.ref sc), .val (.int (1 : Int32)), .val (.int (1 : Int32))] rfl ?_
          refine g_goto P57 d0_219 225 (by decide) (by decide) ?_
          refine g_iload P57 d0_225 rfl ?_
          refine g_iload P57 d0_227 rfl ?_
          refine g_icmpNo P57 d0_229 (by decide) ?_
          refine g_iconst (v := (1 : Int32)) P57 d0_232 (by rfl) ?_
          refine g_goto P57 d0_233 237 (by decide) (by decide) ?_
          exact g_retZ P57 d0_237 (by decide) (by decide) (by decide) rfl
      · refine g_ifNo P49 d0_117 ((if0 _ _).trans (flt hc117).1) ?_
        refine g_lload P49 d0_120 rfl ?_
        refine g_ldc2 (v := (2147483647 : Int64)) P49 d0_122 (hw _ (List.mem_of_getElem? (i := 47) rfl)) ?_
        refine g_lcmp P49 d0_125 ?_
        by_cases hc126 : (0 : Int32) < (XT.cmpL cand (2147483647 : Int64))
        · refine g_ifYes P49 d0_126 ((if0 _ _).trans (tlt hc126).2.2.1) 134 (by decide) (by decide) ?_
          generalize (p3 &&& (2147483647 : Int32)) = dp
          refine g_new P49 d0_134 (hw _ (List.mem_of_getElem? (i := 4) rfl)) (hw _ (List.mem_of_getElem? (i := 5) rfl)) (hw _ (List.mem_of_getElem? (i := 6) rfl)) (by decide) (by decide) fun T58 h58 sc P58 e58 E58 A58 F58 => ?_
          have E := E58
          have S_BASE_ONLY := S_BASE_ONLY.ext E
          have E_BASE_ONLY := E_BASE_ONLY.ext E
          have F_BASE_ONLY := F_BASE_ONLY.ext E
          have S_BASE_NTH_LEVEL := S_BASE_NTH_LEVEL.ext E
          have E_BASE_NTH_LEVEL := E_BASE_NTH_LEVEL.ext E
          have F_BASE_NTH_LEVEL := F_BASE_NTH_LEVEL.ext E
          have S_BASE_SUBTREE := S_BASE_SUBTREE.ext E
          have E_BASE_SUBTREE := E_BASE_SUBTREE.ext E
          have F_BASE_SUBTREE := F_BASE_SUBTREE.ext E
          have S_BASE_ALL := S_BASE_ALL.ext E
          have E_BASE_ALL := E_BASE_ALL.ext E
          have F_BASE_ALL := F_BASE_ALL.ext E
          have gsc : n0 ≤ sc := by omega
          have nS : ∀ {x : Addr}, @LT.lt Nat _ x h0.size → x ∉ [sc] := fun {x} q r => by have : @Eq Nat x sc := List.mem_singleton.mp r; omega
          have F_type := F58 (Or.inr (hw _ (List.mem_of_getElem? (i := 19) rfl)) : Laid Z a0 "com/example/bellwether/bellwether/mo/Scope" "com/example/bellwether/bellwether/mo/Scope" "type" "Lcom/example/bellwether/bellwether/mo/Scope$Type;") (ty := (.object "com/example/bellwether/bellwether/mo/Scope$Type")) (by decide)
          have F_level := F58 (Or.inr (hw _ (List.mem_of_getElem? (i := 21) rfl)) : Laid Z a0 "com/example/bellwether/bellwether/mo/Scope" "com/example/bellwether/bellwether/mo/Scope" "level" "I") (ty := .int) (by decide)
          refine g_dup P58 d0_137 rfl ?_
          refine g_aload P58 d0_138 rfl rfl ?_
          refine g_iload P58 d0_140 rfl ?_
          refine g_special P58 sc [(.ref a_BASE_SUBTREE), (.int (p2 &&& (2147483647 : Int32)))] (rest := [(.ref sc)]) (W := 1) d0_142 rfl (hw _ (List.mem_of_getElem? (i := 7) rfl)) (hw _ (List.mem_of_getElem? (i := 8) rfl)) (hw _ (List.mem_of_getElem? (i := 6) rfl)) (hw _ (List.mem_of_getElem? (i := 9) rfl)) (by decide) (rm_scope l Z a0 hw _ n0 a_BASE_ONLY a_BASE_NTH_LEVEL a_BASE_SUBTREE a_BASE_ALL sc a_BASE_SUBTREE (p2 &&& (2147483647 : Int32)) S_BASE_NTH_LEVEL S_BASE_SUBTREE hlv (fun _ => Or.inr rfl) gsc A58 F_type F_level) pd_3 rfl rfl rfl rfl (by decide) (by decide) (by decide) (by decide) fun v59 T59 h59 P59 q59 => ?_
          obtain ⟨rfl, K, A, F_type, F_level⟩ := q59
          have S_BASE_ONLY := S_BASE_ONLY
          have E_BASE_ONLY := E_BASE_ONLY.keep K
          have E_BASE_NTH_LEVEL := E_BASE_NTH_LEVEL.keep K
          have E_BASE_SUBTREE := E_BASE_SUBTREE.keep K
          have E_BASE_ALL := E_BASE_ALL.keep K
          have F_BASE_ONLY := F_BASE_ONLY.keep K (nS M_BASE_ONLY)
          have F_BASE_NTH_LEVEL := F_BASE_NTH_LEVEL.keep K (nS M_BASE_NTH_LEVEL)
          have F_BASE_SUBTREE := F_BASE_SUBTREE.keep K (nS M_BASE_SUBTREE)
          have F_BASE_ALL := F_BASE_ALL.keep K (nS M_BASE_ALL)
          refine g_astore P59 d0_145 rfl #[.val (.int p1), .val (.int p2), .val (.int p3), .val (.int p4), .val (.int (2 : Int32)), .val (.ref a_BASE_SUBTREE), .val (.int (1 : Int32)), .val (.int (p2 &&& (2147483647 : Int32))), .val (.int dp), .val (.ref sc), .unset, .unset] rfl ?_
          refine g_aload P59 d0_147 rfl rfl ?_
          refine g_iload P59 d0_149 rfl ?_
          by_cases hq : (p2 &&& (2147483647 : Int32)) < dp
          · refine g_virtual P59 sc [(.int dp)] (rest := []) (W := 0) d0_151 (hw _ (List.mem_of_getElem? (i := 22) rfl)) (hw _ (List.mem_of_getElem? (i := 23) rfl)) (hw _ (List.mem_of_getElem? (i := 25) rfl)) (hw _ (List.mem_of_getElem? (i := 24) rfl)) (hw _ (List.mem_of_getElem? (i := 6) rfl)) (hw _ (List.mem_of_getElem? (i := 26) rfl)) (by decide) A (rm_meth l Z a0 hw _ n0 sc a_BASE_SUBTREE dp (p2 &&& (2147483647 : Int32)) (2 : Int32) (0 : Int32) F_type F_level F_BASE_SUBTREE E_BASE_SUBTREE (by decide) (by simp [hq])) pd_4 rfl rfl rfl rfl (by decide) (by decide) (by decide) (by decide) fun v60 T60 h60 P60 q60 => ?_
            obtain ⟨rfl, rfl⟩ := q60
            refine g_istore P60 d0_154 #[.val (.int p1), .val (.int p2), .val (.int p3), .val (.int p4), .val (.int (2 : Int32)), .val (.ref a_BASE_SUBTREE), .val (.int (1 : Int32)), .val (.int (p2 &&& (2147483647 : Int32))), .val (.int dp), .val (.ref sc), .val (.int (0 : Int32)), .unset] rfl ?_
            refine g_iload P60 d0_156 rfl ?_
            refine g_ifYes P60 d0_158 (by decide) 176 (by decide) (by decide) ?_
            refine g_iload P60 d0_176 rfl ?_
            refine g_iconst (v := (1 : Int32)) P60 d0_178 (by rfl) ?_
            refine g_icmpYes P60 d0_179 (by decide) 199 (by decide) (by decide) ?_
            refine g_iload P60 d0_199 rfl ?_
            refine g_iconst (v := (2 : Int32)) P60 d0_201 (by rfl) ?_
            refine g_icmpNo P60 d0_202 (by decide) ?_
            refine g_iload P60 d0_205 rfl ?_
            refine g_iload P60 d0_207 rfl ?_
            refine g_icmpYes P60 d0_209 (tlt hq).2.2.1 216 (by decide) (by decide) ?_
            refine g_iconst (v := (0 : Int32)) P60 d0_216 (by rfl) ?_
            refine g_istore P60 d0_217 #[.val (.int p1), .val (.int p2), .val (.int p3), .val (.int p4), .val (.int (2 : Int32)), .val (.ref a_BASE_SUBTREE), .val (.int (1 : Int32)), .val (.int (p2 &&& (2147483647 : Int32))), .val (.int dp), .val (.ref sc), .val (.int (0 : Int32)), .val (.int (0 : Int32))] rfl ?_
            refine g_goto P60 d0_219 225 (by decide) (by decide) ?_
            refine g_iload P60 d0_225 rfl ?_
            refine g_iload P60 d0_227 rfl ?_
            refine g_icmpNo P60 d0_229 (by decide) ?_
            refine g_iconst (v := (1 : Int32)) P60 d0_232 (by rfl) ?_
            refine g_goto P60 d0_233 237 (by decide) (by decide) ?_
            exact g_retZ P60 d0_237 (by decide) (by decide) (by decide) rfl
          · refine g_virtual P59 sc [(.int dp)] (rest := []) (W := 0) d0_151 (hw _ (List.mem_of_getElem? (i := 22) rfl)) (hw _ (List.mem_of_getElem? (i := 23) rfl)) (hw _ (List.mem_of_getElem? (i := 25) rfl)) (hw _ (List.mem_of_getElem? (i := 24) rfl)) (hw _ (List.mem_of_getElem? (i := 6) rfl)) (hw _ (List.mem_of_getElem? (i := 26) rfl)) (by decide) A (rm_meth l Z a0 hw _ n0 sc a_BASE_SUBTREE dp (p2 &&& (2147483647 : Int32)) (2 : Int32) (1 : Int32) F_type F_level F_BASE_SUBTREE E_BASE_SUBTREE (by decide) (by simp [hq])) pd_4 rfl rfl rfl rfl (by decide) (by decide) (by decide) (by decide) fun v61 T61 h61 P61 q61 => ?_
            obtain ⟨rfl, rfl⟩ := q61
            refine g_istore P61 d0_154 #[.val (.int p1), .val (.int p2), .val (.int p3), .val (.int p4), .val (.int (2 : Int32)), .val (.ref a_BASE_SUBTREE), .val (.int (1 : Int32)), .val (.int (p2 &&& (2147483647 : Int32))), .val (.int dp), .val (.ref sc), .val (.int (1 : Int32)), .unset] rfl ?_
            refine g_iload P61 d0_156 rfl ?_
            refine g_ifYes P61 d0_158 (by decide) 176 (by decide) (by decide) ?_
            refine g_iload P61 d0_176 rfl ?_
            refine g_iconst (v := (1 : Int32)) P61 d0_178 (by rfl) ?_
            refine g_icmpYes P61 d0_179 (by decide) 199 (by decide) (by decide) ?_
            refine g_iload P61 d0_199 rfl ?_
            refine g_iconst (v := (2 : Int32)) P61 d0_201 (by rfl) ?_
            refine g_icmpNo P61 d0_202 (by decide) ?_
            refine g_iload P61 d0_205 rfl ?_
            refine g_iload P61 d0_207 rfl ?_
            refine g_icmpNo P61 d0_209 (flt hq).2.2.1 ?_
            refine g_iconst (v := (1 : Int32)) P61 d0_212 (by rfl) ?_
            refine g_goto P61 d0_213 217 (by decide) (by decide) ?_
            refine g_istore P61 d0_217 #[.val (.int p1), .val (.int p2), .val (.int p3), .val (.int p4), .val (.int (2 : Int32)), .val (.ref a_BASE_SUBTREE), .val (.int (1 : Int32)), .val (.int (p2 &&& (2147483647 : Int32))), .val (.int dp), .val (.ref sc), .val (.int (1 : Int32)), .val (.int (1 : Int32))] rfl ?_
            refine g_goto P61 d0_219 225 (by decide) (by decide) ?_
            refine g_iload P61 d0_225 rfl ?_
            refine g_iload P61 d0_227 rfl ?_
            refine g_icmpNo P61 d0_229 (by decide) ?_
            refine g_iconst (v := (1 : Int32)) P61 d0_232 (by rfl) ?_
            refine g_goto P61 d0_233 237 (by decide) (by decide) ?_
            exact g_retZ P61 d0_237 (by decide) (by decide) (by decide) rfl
        · refine g_ifNo P49 d0_126 ((if0 _ _).trans (flt hc126).2.2.1) ?_
          refine g_lload P49 d0_129 rfl ?_
          refine g_l2i P49 d0_131 ?_
          refine g_istore P49 d0_132 #[.val (.int p1), .val (.int p2), .val (.int p3), .val (.int p4), .val (.int (2 : Int32)), .val (.ref a_BASE_SUBTREE), .val (.int (1 : Int32)), .val (.int (p2 &&& (2147483647 : Int32))), .val (.int (cand).toInt32), .val (.long cand), .second, .unset] rfl ?_
          generalize (cand).toInt32 = dp
          refine g_new P49 d0_134 (hw _ (List.mem_of_getElem? (i := 4) rfl)) (hw _ (List.mem_of_getElem? (i := 5) rfl)) (hw _ (List.mem_of_getElem? (i := 6) rfl)) (by decide) (by decide) fun T62 h62 sc P62 e62 E62 A62 F62 => ?_
          have E := E62
          have S_BASE_ONLY := S_BASE_ONLY.ext E
          have E_BASE_ONLY := E_BASE_ONLY.ext E
          have F_BASE_ONLY := F_BASE_ONLY.ext E
          have S_BASE_NTH_LEVEL := S_BASE_NTH_LEVEL.ext E
          have E_BASE_NTH_LEVEL := E_BASE_NTH_LEVEL.ext E
          have F_BASE_NTH_LEVEL := F_BASE_NTH_LEVEL.ext E
          have S_BASE_SUBTREE := S_BASE_SUBTREE.ext E
          have E_BASE_SUBTREE := E_BASE_SUBTREE.ext E
          have F_BASE_SUBTREE := F_BASE_SUBTREE.ext E
          have S_BASE_ALL := S_BASE_ALL.ext E
          have E_BASE_ALL := E_BASE_ALL.ext E
          have F_BASE_ALL := F_BASE_ALL.ext E
          have gsc : n0 ≤ sc := by omega
          have nS : ∀ {x : Addr}, @LT.lt Nat _ x h0.size → x ∉ [sc] := fun {x} q r => by have : @Eq Nat x sc := List.mem_singleton.mp r; omega
          have F_type := F62 (Or.inr (hw _ (List.mem_of_getElem? (i := 19) rfl)) : Laid Z a0 "com/example/bellwether/bellwether/mo/Scope" "com/example/bellwether/bellwether/mo/Scope" "type" "Lcom/example/bellwether/bellwether/mo/Scope$Type;") (ty := (.object "com/example/bellwether/bellwether/mo/Scope$Type")) (by decide)
          have F_level := F62 (Or.inr (hw _ (List.mem_of_getElem? (i := 21) rfl)) : Laid Z a0 "com/example/bellwether/bellwether/mo/Scope" "com/example/bellwether/bellwether/mo/Scope" "level" "I") (ty := .int) (by decide)
          refine g_dup P62 d0_137 rfl ?_
          refine g_aload P62 d0_138 rfl rfl ?_
          refine g_iload P62 d0_140 rfl ?_
          refine g_special P62 sc [(.ref a_BASE_SUBTREE), (.int (p2 &&& (2147483647 : Int32)))] (rest := [(.ref sc)]) (W := 1) d0_142 rfl (hw _ (List.mem_of_getElem? (i := 7) rfl)) (hw _ (List.mem_of_getElem? (i := 8) rfl)) (hw _ (List.mem_of_getElem? (i := 6) rfl)) (hw _ (List.mem_of_getElem? (i := 9) rfl)) (by decide) (rm_scope l Z a0 hw _ n0 a_BASE_ONLY a_BASE_NTH_LEVEL a_BASE_SUBTREE a_BASE_ALL sc a_BASE_SUBTREE (p2 &&& (2147483647 : Int32)) S_BASE_NTH_LEVEL S_BASE_SUBTREE hlv (fun _ => Or.inr rfl) gsc A62 F_type F_level) pd_3 rfl rfl rfl rfl (by decide) (by decide) (by decide) (by decide) fun v63 T63 h63 P63 q63 => ?_
          obtain ⟨rfl, K, A, F_type, F_level⟩ := q63
          have S_BASE_ONLY := S_BASE_ONLY
          have E_BASE_ONLY := E_BASE_ONLY.keep K
          have E_BASE_NTH_LEVEL := E_BASE_NTH_LEVEL.keep K
          have E_BASE_SUBTREE := E_BASE_SUBTREE.keep K
          have E_BASE_ALL := E_BASE_ALL.keep K
          have F_BASE_ONLY := F_BASE_ONLY.keep K (nS M_BASE_ONLY)
          have F_BASE_NTH_LEVEL := F_BASE_NTH_LEVEL.keep K (nS M_BASE_NTH_LEVEL)
          have F_BASE_SUBTREE := F_BASE_SUBTREE.keep K (nS M_BASE_SUBTREE)
          have F_BASE_ALL := F_BASE_ALL.keep K (nS M_BASE_ALL)
          refine g_astore P63 d0_145 rfl #[.val (.int p1), .val (.int p2), .val (.int p3), .val (.int p4), .val (.int (2 : Int32)), .val (.ref a_BASE_SUBTREE), .val (.int (1 : Int32)), .val (.int (p2 &&& (2147483647 : Int32))), .val (.int dp), .val (.ref sc), .unset, .unset] rfl ?_
          refine g_aload P63 d0_147 rfl rfl ?_
          refine g_iload P63 d0_149 rfl ?_
          by_cases hq : (p2 &&& (2147483647 : Int32)) < dp
          · refine g_virtual P63 sc [(.int dp)] (rest := []) (W := 0) d0_151 (hw _ (List.mem_of_getElem? (i := 22) rfl)) (hw _ (List.mem_of_getElem? (i := 23) rfl)) (hw _ (List.mem_of_getElem? (i := 25) rfl)) (hw _ (List.mem_of_getElem? (i := 24) rfl)) (hw _ (List.mem_of_getElem? (i := 6) rfl)) (hw _ (List.mem_of_getElem? (i := 26) rfl)) (by decide) A (rm_meth l Z a0 hw _ n0 sc a_BASE_SUBTREE dp (p2 &&& (2147483647 : Int32)) (2 : Int32) (0 : Int32) F_type F_level F_BASE_SUBTREE E_BASE_SUBTREE (by decide) (by simp [hq])) pd_4 rfl rfl rfl rfl (by decide) (by decide) (by decide) (by decide) fun v64 T64 h64 P64 q64 => ?_
            obtain ⟨rfl, rfl⟩ := q64
            refine g_istore P64 d0_154 #[.val (.int p1), .val (.int p2), .val (.int p3), .val (.int p4), .val (.int (2 : Int32)), .val (.ref a_BASE_SUBTREE), .val (.int (1 : Int32)), .val (.int (p2 &&& (2147483647 : Int32))), .val (.int dp), .val (.ref sc), .val (.int (0 : Int32)), .unset] rfl ?_
            refine g_iload P64 d0_156 rfl ?_
            refine g_ifYes P64 d0_158 (by decide) 176 (by decide) (by decide) ?_
            refine g_iload P64 d0_176 rfl ?_
            refine g_iconst (v := (1 : Int32)) P64 d0_178 (by rfl) ?_
            refine g_icmpYes P64 d0_179 (by decide) 199 (by decide) (by decide) ?_
            refine g_iload P64 d0_199 rfl ?_
            refine g_iconst (v := (2 : Int32)) P64 d0_201 (by rfl) ?_
            refine g_icmpNo P64 d0_202 (by decide) ?_
            refine g_iload P64 d0_205 rfl ?_
            refine g_iload P64 d0_207 rfl ?_
            refine g_icmpYes P64 d0_209 (tlt hq).2.2.1 216 (by decide) (by decide) ?_
            refine g_iconst (v := (0 : Int32)) P64 d0_216 (by rfl) ?_
            refine g_istore P64 d0_217 #[.val (.int p1), .val (.int p2), .val (.int p3), .val (.int p4), .val (.int (2 : Int32)), .val (.ref a_BASE_SUBTREE), .val (.int (1 : Int32)), .val (.int (p2 &&& (2147483647 : Int32))), .val (.int dp), .val (.ref sc), .val (.int (0 : Int32)), .val (.int (0 : Int32))] rfl ?_
            refine g_goto P64 d0_219 225 (by decide) (by decide) ?_
            refine g_iload P64 d0_225 rfl ?_
            refine g_iload P64 d0_227 rfl ?_
            refine g_icmpNo P64 d0_229 (by decide) ?_
            refine g_iconst (v := (1 : Int32)) P64 d0_232 (by rfl) ?_
            refine g_goto P64 d0_233 237 (by decide) (by decide) ?_
            exact g_retZ P64 d0_237 (by decide) (by decide) (by decide) rfl
          · refine g_virtual P63 sc [(.int dp)] (rest := []) (W := 0) d0_151 (hw _ (List.mem_of_getElem? (i := 22) rfl)) (hw _ (List.mem_of_getElem? (i := 23) rfl)) (hw _ (List.mem_of_getElem? (i := 25) rfl)) (hw _ (List.mem_of_getElem? (i := 24) rfl)) (hw _ (List.mem_of_getElem? (i := 6) rfl)) (hw _ (List.mem_of_getElem? (i := 26) rfl)) (by decide) A (rm_meth l Z a0 hw _ n0 sc a_BASE_SUBTREE dp (p2 &&& (2147483647 : Int32)) (2 : Int32) (1 : Int32) F_type F_level F_BASE_SUBTREE E_BASE_SUBTREE (by decide) (by simp [hq])) pd_4 rfl rfl rfl rfl (by decide) (by decide) (by decide) (by decide) fun v65 T65 h65 P65 q65 => ?_
            obtain ⟨rfl, rfl⟩ := q65
            refine g_istore P65 d0_154 #[.val (.int p1), .val (.int p2), .val (.int p3), .val (.int p4), .val (.int (2 : Int32)), .val (.ref a_BASE_SUBTREE), .val (.int (1 : Int32)), .val (.int (p2 &&& (2147483647 : Int32))), .val (.int dp), .val (.ref sc), .val (.int (1 : Int32)), .unset] rfl ?_
            refine g_iload P65 d0_156 rfl ?_
            refine g_ifYes P65 d0_158 (by decide) 176 (by decide) (by decide) ?_
            refine g_iload P65 d0_176 rfl ?_
            refine g_iconst (v := (1 : Int32)) P65 d0_178 (by rfl) ?_
            refine g_icmpYes P65 d0_179 (by decide) 199 (by decide) (by decide) ?_
            refine g_iload P65 d0_199 rfl ?_
            refine g_iconst (v := (2 : Int32)) P65 d0_201 (by rfl) ?_
            refine g_icmpNo P65 d0_202 (by decide) ?_
            refine g_iload P65 d0_205 rfl ?_
            refine g_iload P65 d0_207 rfl ?_
            refine g_icmpNo P65 d0_209 (flt hq).2.2.1 ?_
            refine g_iconst (v := (1 : Int32)) P65 d0_212 (by rfl) ?_
            refine g_goto P65 d0_213 217 (by decide) (by decide) ?_
            refine g_istore P65 d0_217 #[.val (.int p1), .val (.int p2), .val (.int p3), .val (.int p4), .val (.int (2 : Int32)), .val (.ref a_BASE_SUBTREE), .val (.int (1 : Int32)), .val (.int (p2 &&& (2147483647 : Int32))), .val (.int dp), .val (.ref sc), .val (.int (1 : Int32)), .val (.int (1 : Int32))] rfl ?_
            refine g_goto P65 d0_219 225 (by decide) (by decide) ?_
            refine g_iload P65 d0_225 rfl ?_
            refine g_iload P65 d0_227 rfl ?_
            refine g_icmpNo P65 d0_229 (by decide) ?_
            refine g_iconst (v := (1 : Int32)) P65 d0_232 (by rfl) ?_
            refine g_goto P65 d0_233 237 (by decide) (by decide) ?_
            exact g_retZ P65 d0_237 (by decide) (by decide) (by decide) rfl
  · refine g_istore P0 d0_3 #[.val (.int p1), .val (.int p2), .val (.int p3), .val (.int p4), .val (.int (3 : Int32)), .unset, .unset, .unset, .unset, .unset, .unset, .unset] rfl ?_
    refine g_iload P0 d0_5 rfl ?_
    refine g_ifYes P0 d0_7 (by decide) 18 (by decide) (by decide) ?_
    refine g_iload P0 d0_18 rfl ?_
    refine g_iconst (v := (1 : Int32)) P0 d0_20 (by rfl) ?_
    refine g_icmpYes P0 d0_21 (by decide) 32 (by decide) (by decide) ?_
    refine g_iload P0 d0_32 rfl ?_
    refine g_iconst (v := (2 : Int32)) P0 d0_34 (by rfl) ?_
    refine g_icmpYes P0 d0_35 (by decide) 46 (by decide) (by decide) ?_
    refine g_getS (host := "") P0 d0_46 (Or.inl (hw _ (List.mem_of_getElem? (i := 36) rfl))) Via.refl S_BASE_ALL fun T66 P66 => ?_
    refine g_astore P66 d0_49 rfl #[.val (.int p1), .val (.int p2), .val (.int p3), .val (.int p4), .val (.int (3 : Int32)), .val (.ref a_BASE_ALL), .unset, .unset, .unset, .unset, .unset, .unset] rfl ?_
    refine g_iload P66 d0_51 rfl ?_
    refine g_iconst (v := (1 : Int32)) P66 d0_53 (by rfl) ?_
    refine g_icmpNo P66 d0_54 (by decide) ?_
    refine g_iload P66 d0_57 rfl ?_
    refine g_iconst (v := (2 : Int32)) P66 d0_59 (by rfl) ?_
    refine g_icmpYes P66 d0_60 (by decide) 67 (by decide) (by decide) ?_
    refine g_iconst (v := (0 : Int32)) P66 d0_67 (by rfl) ?_
    refine g_istore P66 d0_68 #[.val (.int p1), .val (.int p2), .val (.int p3), .val (.int p4), .val (.int (3 : Int32)), .val (.ref a_BASE_ALL), .val (.int (0 : Int32)), .unset, .unset, .unset, .unset, .unset] rfl ?_
    refine g_iload P66 d0_70 rfl ?_
    refine g_ifYes P66 d0_72 (by decide) 82 (by decide) (by decide) ?_
    refine g_iconst (v := (0 : Int32)) P66 d0_82 (by rfl) ?_
    refine g_istore P66 d0_83 #[.val (.int p1), .val (.int p2), .val (.int p3), .val (.int p4), .val (.int (3 : Int32)), .val (.ref a_BASE_ALL), .val (.int (0 : Int32)), .val (.int (0 : Int32)), .unset, .unset, .unset, .unset] rfl ?_
    refine g_iloadN P66 d0_85 rfl ?_
    refine g_ldc (v := (2147483647 : Int32)) P66 d0_86 (hw _ (List.mem_of_getElem? (i := 3) rfl)) ?_
    refine g_iand (v := (p3 &&& (2147483647 : Int32))) P66 d0_88 rfl ?_
    refine g_istore P66 d0_89 #[.val (.int p1), .val (.int p2), .val (.int p3), .val (.int p4), .val (.int (3 : Int32)), .val (.ref a_BASE_ALL), .val (.int (0 : Int32)), .val (.int (0 : Int32)), .val (.int (p3 &&& (2147483647 : Int32))), .unset, .unset, .unset] rfl ?_
    refine g_iloadN P66 d0_91 rfl ?_
    refine g_iconst (v := (1 : Int32)) P66 d0_92 (by rfl) ?_
    refine g_iand (v := (p4 &&& (1 : Int32))) P66 d0_93 rfl ?_
    by_cases hc94 : (p4 &&& (1 : Int32)) = (0 : Int32)
    · refine g_ifYes P66 d0_94 ((if0 _ _).trans (teq hc94).1) 134 (by decide) (by decide) ?_
      generalize (p3 &&& (2147483647 : Int32)) = dp
      refine g_new P66 d0_134 (hw _ (List.mem_of_getElem? (i := 4) rfl)) (hw _ (List.mem_of_getElem? (i := 5) rfl)) (hw _ (List.mem_of_getElem? (i := 6) rfl)) (by decide) (by decide) fun T67 h67 sc P67 e67 E67 A67 F67 => ?_
      have E := E67
      have S_BASE_ONLY := S_BASE_ONLY.ext E
      have E_BASE_ONLY := E_BASE_ONLY.ext E
      have F_BASE_ONLY := F_BASE_ONLY.ext E
      have S_BASE_NTH_LEVEL := S_BASE_NTH_LEVEL.ext E
      have E_BASE_NTH_LEVEL := E_BASE_NTH_LEVEL.ext E
      have F_BASE_NTH_LEVEL := F_BASE_NTH_LEVEL.ext E
      have S_BASE_SUBTREE := S_BASE_SUBTREE.ext E
      have E_BASE_SUBTREE := E_BASE_SUBTREE.ext E
      have F_BASE_SUBTREE := F_BASE_SUBTREE.ext E
      have S_BASE_ALL := S_BASE_ALL.ext E
      have E_BASE_ALL := E_BASE_ALL.ext E
      have F_BASE_ALL := F_BASE_ALL.ext E
      have gsc : n0 ≤ sc := by omega
      have nS : ∀ {x : Addr}, @LT.lt Nat _ x h0.size → x ∉ [sc] := fun {x} q r => by have : @Eq Nat x sc := List.mem_singleton.mp r; omega
      have F_type := F67 (Or.inr (hw _ (List.mem_of_getElem? (i := 19) rfl)) : Laid Z a0 "com/example/bellwether/bellwether/mo/Scope" "com/example/bellwether/bellwether/mo/Scope" "type" "Lcom/example/bellwether/bellwether/mo/Scope$Type;") (ty := (.object "com/example/bellwether/bellwether/mo/Scope$Type")) (by decide)
      have F_level := F67 (Or.inr (hw _ (List.mem_of_getElem? (i := 21) rfl)) : Laid Z a0 "com/example/bellwether/bellwether/mo/Scope" "com/example/bellwether/bellwether/mo/Scope" "level" "I") (ty := .int) (by decide)
      refine g_dup P67 d0_137 rfl ?_
      refine g_aload P67 d0_138 rfl rfl ?_
      refine g_iload P67 d0_140 rfl ?_
      refine g_special P67 sc [(.ref a_BASE_ALL), (.int (0 : Int32))] (rest := [(.ref sc)]) (W := 1) d0_142 rfl (hw _ (List.mem_of_getElem? (i := 7) rfl)) (hw _ (List.mem_of_getElem? (i := 8) rfl)) (hw _ (List.mem_of_getElem? (i := 6) rfl)) (hw _ (List.mem_of_getElem? (i := 9) rfl)) (by decide) (rm_scope l Z a0 hw _ n0 a_BASE_ONLY a_BASE_NTH_LEVEL a_BASE_SUBTREE a_BASE_ALL sc a_BASE_ALL (0 : Int32) S_BASE_NTH_LEVEL S_BASE_SUBTREE (by decide) (fun q => absurd rfl q) gsc A67 F_type F_level) pd_3 rfl rfl rfl rfl (by decide) (by decide) (by decide) (by decide) fun v68 T68 h68 P68 q68 => ?_
      obtain ⟨rfl, K, A, F_type, F_level⟩ := q68
      have S_BASE_ONLY := S_BASE_ONLY
      have E_BASE_ONLY := E_BASE_ONLY.keep K
      have E_BASE_NTH_LEVEL := E_BASE_NTH_LEVEL.keep K
      have E_BASE_SUBTREE := E_BASE_SUBTREE.keep K
      have E_BASE_ALL := E_BASE_ALL.keep K
      have F_BASE_ONLY := F_BASE_ONLY.keep K (nS M_BASE_ONLY)
      have F_BASE_NTH_LEVEL := F_BASE_NTH_LEVEL.keep K (nS M_BASE_NTH_LEVEL)
      have F_BASE_SUBTREE := F_BASE_SUBTREE.keep K (nS M_BASE_SUBTREE)
      have F_BASE_ALL := F_BASE_ALL.keep K (nS M_BASE_ALL)
      refine g_astore P68 d0_145 rfl #[.val (.int p1), .val (.int p2), .val (.int p3), .val (.int p4), .val (.int (3 : Int32)), .val (.ref a_BASE_ALL), .val (.int (0 : Int32)), .val (.int (0 : Int32)), .val (.int dp), .val (.ref sc), .unset, .unset] rfl ?_
      refine g_aload P68 d0_147 rfl rfl ?_
      refine g_iload P68 d0_149 rfl ?_
      refine g_virtual P68 sc [(.int dp)] (rest := []) (W := 0) d0_151 (hw _ (List.mem_of_getElem? (i := 22) rfl)) (hw _ (List.mem_of_getElem? (i := 23) rfl)) (hw _ (List.mem_of_getElem? (i := 25) rfl)) (hw _ (List.mem_of_getElem? (i := 24) rfl)) (hw _ (List.mem_of_getElem? (i := 6) rfl)) (hw _ (List.mem_of_getElem? (i := 26) rfl)) (by decide) A (rm_meth l Z a0 hw _ n0 sc a_BASE_ALL dp (0 : Int32) (3 : Int32) (1 : Int32) F_type F_level F_BASE_ALL E_BASE_ALL (by decide) (by simp)) pd_4 rfl rfl rfl rfl (by decide) (by decide) (by decide) (by decide) fun v69 T69 h69 P69 q69 => ?_
      obtain ⟨rfl, rfl⟩ := q69
      refine g_istore P69 d0_154 #[.val (.int p1), .val (.int p2), .val (.int p3), .val (.int p4), .val (.int (3 : Int32)), .val (.ref a_BASE_ALL), .val (.int (0 : Int32)), .val (.int (0 : Int32)), .val (.int dp), .val (.ref sc), .val (.int (1 : Int32)), .unset] rfl ?_
      refine g_iload P69 d0_156 rfl ?_
      refine g_ifYes P69 d0_158 (by decide) 176 (by decide) (by decide) ?_
      refine g_iload P69 d0_176 rfl ?_
      refine g_iconst (v := (1 : Int32)) P69 d0_178 (by rfl) ?_
      refine g_icmpYes P69 d0_179 (by decide) 199 (by decide) (by decide) ?_
      refine g_iload P69 d0_199 rfl ?_
      refine g_iconst (v := (2 : Int32)) P69 d0_201 (by rfl) ?_
      refine g_icmpYes P69 d0_202 (by decide) 222 (by decide) (by decide) ?_
      refine g_iconst (v := (1 : Int32)) P69 d0_222 (by rfl) ?_
      refine g_istore P69 d0_223 #[.val (.int p1), .val (.int p2), .val (.int p3), .val (.int p4), .val (.int (3 : Int32)), .val (.ref a_BASE_ALL), .val (.int (0 : Int32)), .val (.int (0 : Int32)), .val (.int dp), .val (.ref sc), .val (.int (1 : Int32)), .val (.int (1 : Int32))] rfl ?_
      refine g_iload P69 d0_225 rfl ?_
      refine g_iload P69 d0_227 rfl ?_
      refine g_icmpNo P69 d0_229 (by decide) ?_
      refine g_iconst (v := (1 : Int32)) P69 d0_232 (by rfl) ?_
      refine g_goto P69 d0_233 237 (by decide) (by decide) ?_
      exact g_retZ P69 d0_237 (by decide) (by decide) (by decide) rfl
    · refine g_ifNo P66 d0_94 ((if0 _ _).trans (feq hc94).1) ?_
      refine g_iload P66 d0_97 rfl ?_
      refine g_i2l P66 d0_99 ?_
      refine g_iloadN P66 d0_100 rfl ?_
      refine g_iconst (v := (1 : Int32)) P66 d0_101 (by rfl) ?_
      refine g_iushr (v := (XT.ushr p4 (1 : Int32))) P66 d0_102 rfl ?_
      refine g_iconst (v := (3 : Int32)) P66 d0_103 (by rfl) ?_
      refine g_iand (v := ((XT.ushr p4 (1 : Int32)) &&& (3 : Int32))) P66 d0_104 rfl ?_
      refine g_iconst (v := (3 : Int32)) P66 d0_105 (by rfl) ?_
      refine g_irem (v := (((XT.ushr p4 (1 : Int32)) &&& (3 : Int32)) % (3 : Int32))) P66 d0_106 (by decide) rfl ?_
      refine g_i2l P66 d0_107 ?_
      refine g_ladd P66 d0_108 ?_
      refine g_lconst (v := (1 : Int64)) P66 d0_109 (by rfl) ?_
      refine g_lsub P66 d0_110 ?_
      refine g_lstore P66 d0_111 #[.val (.int p1), .val (.int p2), .val (.int p3), .val (.int p4), .val (.int (3 : Int32)), .val (.ref a_BASE_ALL), .val (.int (0 : Int32)), .val (.int (0 : Int32)), .val (.int (p3 &&& (2147483647 : Int32))), .val (.long ((((0 : Int32)).toInt64 + ((((XT.ushr p4 (1 : Int32)) &&& (3 : Int32)) % (3 : Int32))).toInt64) - (1 : Int64))), .second, .unset] rfl ?_
      generalize ((((0 : Int32)).toInt64 + ((((XT.ushr p4 (1 : Int32)) &&& (3 : Int32)) % (3 : Int32))).toInt64) - (1 : Int64)) = cand
      refine g_lload P66 d0_113 rfl ?_
      refine g_lconst (v := (0 : Int64)) P66 d0_115 (by rfl) ?_
      refine g_lcmp P66 d0_116 ?_
      by_cases hc117 : (XT.cmpL cand (0 : Int64)) < (0 : Int32)
      · refine g_ifYes P66 d0_117 ((if0 _ _).trans (tlt hc117).1) 134 (by decide) (by decide) ?_
        generalize (p3 &&& (2147483647 : Int32)) = dp
        refine g_new P66 d0_134 (hw _ (List.mem_of_getElem? (i := 4) rfl)) (hw _ (List.mem_of_getElem? (i := 5) rfl)) (hw _ (List.mem_of_getElem? (i := 6) rfl)) (by decide) (by decide) fun T70 h70 sc P70 e70 E70 A70 F70 => ?_
        have E := E70
        have S_BASE_ONLY := S_BASE_ONLY.ext E
        have E_BASE_ONLY := E_BASE_ONLY.ext E
        have F_BASE_ONLY := F_BASE_ONLY.ext E
        have S_BASE_NTH_LEVEL := S_BASE_NTH_LEVEL.ext E
        have E_BASE_NTH_LEVEL := E_BASE_NTH_LEVEL.ext E
        have F_BASE_NTH_LEVEL := F_BASE_NTH_LEVEL.ext E
        have S_BASE_SUBTREE := S_BASE_SUBTREE.ext E
        have E_BASE_SUBTREE := E_BASE_SUBTREE.ext E
        have F_BASE_SUBTREE := F_BASE_SUBTREE.ext E
        have S_BASE_ALL := S_BASE_ALL.ext E
        have E_BASE_ALL := E_BASE_ALL.ext E
        have F_BASE_ALL := F_BASE_ALL.ext E
        have gsc : n0 ≤ sc := by omega
        have nS : ∀ {x : Addr}, @LT.lt Nat _ x h0.size → x ∉ [sc] := fun {x} q r => by have : @Eq Nat x sc := List.mem_singleton.mp r; omega
        have F_type := F70 (Or.inr (hw _ (List.mem_of_getElem? (i := 19) rfl)) : Laid Z a0 "com/example/bellwether/bellwether/mo/Scope" "com/example/bellwether/bellwether/mo/Scope" "type" "Lcom/example/bellwether/bellwether/mo/Scope$Type;") (ty := (.object "com/example/bellwether/bellwether/mo/Scope$Type")) (by decide)
        have F_level := F70 (Or.inr (hw _ (List.mem_of_getElem? (i := 21) rfl)) : Laid Z a0 "com/example/bellwether/bellwether/mo/Scope" "com/example/bellwether/bellwether/mo/Scope" "level" "I") (ty := .int) (by decide)
        refine g_dup P70 d0_137 rfl ?_
        refine g_aload P70 d0_138 rfl rfl ?_
        refine g_iload P70 d0_140 rfl ?_
        refine g_special P70 sc [(.ref a_BASE_ALL), (.int (0 : Int32))] (rest := [(.ref sc)]) (W := 1) d0_142 rfl (hw _ (List.mem_of_getElem? (i := 7) rfl)) (hw _ (List.mem_of_getElem? (i := 8) rfl)) (hw _ (List.mem_of_getElem? (i := 6) rfl)) (hw _ (List.mem_of_getElem? (i := 9) rfl)) (by decide) (rm_scope l Z a0 hw _ n0 a_BASE_ONLY a_BASE_NTH_LEVEL a_BASE_SUBTREE a_BASE_ALL sc a_BASE_ALL (0 : Int32) S_BASE_NTH_LEVEL S_BASE_SUBTREE (by decide) (fun q => absurd rfl q) gsc A70 F_type F_level) pd_3 rfl rfl rfl rfl (by decide) (by decide) (by decide) (by decide) fun v71 T71 h71 P71 q71 => ?_
        obtain ⟨rfl, K, A, F_type, F_level⟩ := q71
        have S_BASE_ONLY := S_BASE_ONLY
        have E_BASE_ONLY := E_BASE_ONLY.keep K
        have E_BASE_NTH_LEVEL := E_BASE_NTH_LEVEL.keep K
        have E_BASE_SUBTREE := E_BASE_SUBTREE.keep K
        have E_BASE_ALL := E_BASE_ALL.keep K
        have F_BASE_ONLY := F_BASE_ONLY.keep K (nS M_BASE_ONLY)
        have F_BASE_NTH_LEVEL := F_BASE_NTH_LEVEL.keep K (nS M_BASE_NTH_LEVEL)
        have F_BASE_SUBTREE := F_BASE_SUBTREE.keep K (nS M_BASE_SUBTREE)
        have F_BASE_ALL := F_BASE_ALL.keep K (nS M_BASE_ALL)
        refine g_astore P71 d0_145 rfl #[.val (.int p1), .val (.int p2), .val (.int p3), .val (.int p4), .val (.int (3 : Int32)), .val (.ref a_BASE_ALL), .val (.int (0 : Int32)), .val (.int (0 : Int32)), .val (.int dp), .val (.ref sc), .unset, .unset] rfl ?_
        refine g_aload P71 d0_147 rfl rfl ?_
        refine g_iload P71 d0_149 rfl ?_
        refine g_virtual P71 sc [(.int dp)] (rest := []) (W := 0) d0_151 (hw _ (List.mem_of_getElem? (i := 22) rfl)) (hw _ (List.mem_of_getElem? (i := 23) rfl)) (hw _ (List.mem_of_getElem? (i := 25) rfl)) (hw _ (List.mem_of_getElem? (i := 24) rfl)) (hw _ (List.mem_of_getElem? (i := 6) rfl)) (hw _ (List.mem_of_getElem? (i := 26) rfl)) (by decide) A (rm_meth l Z a0 hw _ n0 sc a_BASE_ALL dp (0 : Int32) (3 : Int32) (1 : Int32) F_type F_level F_BASE_ALL E_BASE_ALL (by decide) (by simp)) pd_4 rfl rfl rfl rfl (by decide) (by decide) (by decide) (by decide) fun v72 T72 h72 P72 q72 => ?_
        obtain ⟨rfl, rfl⟩ := q72
        refine g_istore P72 d0_154 #[.val (.int p1), .val (.int p2), .val (.int p3), .val (.int p4), .val (.int (3 : Int32)), .val (.ref a_BASE_ALL), .val (.int (0 : Int32)), .val (.int (0 : Int32)), .val (.int dp), .val (.ref sc), .val (.int (1 : Int32)), .unset] rfl ?_
        refine g_iload P72 d0_156 rfl ?_
        refine g_ifYes P72 d0_158 (by decide) 176 (by decide) (by decide) ?_
        refine g_iload P72 d0_176 rfl ?_
        refine g_iconst (v := (1 : Int32)) P72 d0_178 (by rfl) ?_
        refine g_icmpYes P72 d0_179 (by decide) 199 (by decide) (by decide) ?_
        refine g_iload P72 d0_199 rfl ?_
        refine g_iconst (v := (2 : Int32)) P72 d0_201 (by rfl) ?_
        refine g_icmpYes P72 d0_202 (by decide) 222 (by decide) (by decide) ?_
        refine g_iconst (v := (1 : Int32)) P72 d0_222 (by rfl) ?_
        refine g_istore P72 d0_223 #[.val (.int p1), .val (.int p2), .val (.int p3), .val (.int p4), .val (.int (3 : Int32)), .val (.ref a_BASE_ALL), .val (.int (0 : Int32)), .val (.int (0 : Int32)), .val (.int dp), .val (.ref sc), .val (.int (1 : Int32)), .val (.int (1 : Int32))] rfl ?_
        refine g_iload P72 d0_225 rfl ?_
        refine g_iload P72 d0_227 rfl ?_
        refine g_icmpNo P72 d0_229 (by decide) ?_
        refine g_iconst (v := (1 : Int32)) P72 d0_232 (by rfl) ?_
        refine g_goto P72 d0_233 237 (by decide) (by decide) ?_
        exact g_retZ P72 d0_237 (by decide) (by decide) (by decide) rfl
      · refine g_ifNo P66 d0_117 ((if0 _ _).trans (flt hc117).1) ?_
        refine g_lload P66 d0_120 rfl ?_
        refine g_ldc2 (v := (2147483647 : Int64)) P66 d0_122 (hw _ (List.mem_of_getElem? (i := 47) rfl)) ?_
        refine g_lcmp P66 d0_125 ?_
        by_cases hc126 : (0 : Int32) < (XT.cmpL cand (2147483647 : Int64))
        · refine g_ifYes P66 d0_126 ((if0 _ _).trans (tlt hc126).2.2.1) 134 (by decide) (by decide) ?_
          generalize (p3 &&& (2147483647 : Int32)) = dp
          refine g_new P66 d0_134 (hw _ (List.mem_of_getElem? (i := 4) rfl)) (hw _ (List.mem_of_getElem? (i := 5) rfl)) (hw _ (List.mem_of_getElem? (i := 6) rfl)) (by decide) (by decide) fun T73 h73 sc P73 e73 E73 A73 F73 => ?_
          have E := E73
          have S_BASE_ONLY := S_BASE_ONLY.ext E
          have E_BASE_ONLY := E_BASE_ONLY.ext E
          have F_BASE_ONLY := F_BASE_ONLY.ext E
          have S_BASE_NTH_LEVEL := S_BASE_NTH_LEVEL.ext E
          have E_BASE_NTH_LEVEL := E_BASE_NTH_LEVEL.ext E
          have F_BASE_NTH_LEVEL := F_BASE_NTH_LEVEL.ext E
          have S_BASE_SUBTREE := S_BASE_SUBTREE.ext E
          have E_BASE_SUBTREE := E_BASE_SUBTREE.ext E
          have F_BASE_SUBTREE := F_BASE_SUBTREE.ext E
          have S_BASE_ALL := S_BASE_ALL.ext E
          have E_BASE_ALL := E_BASE_ALL.ext E
          have F_BASE_ALL := F_BASE_ALL.ext E
          have gsc : n0 ≤ sc := by omega
          have nS : ∀ {x : Addr}, @LT.lt Nat _ x h0.size → x ∉ [sc] := fun {x} q r => by have : @Eq Nat x sc := List.mem_singleton.mp r; omega
          have F_type := F73 (Or.inr (hw _ (List.mem_of_getElem? (i := 19) rfl)) : Laid Z a0 "com/example/bellwether/bellwether/mo/Scope" "com/example/bellwether/bellwether/mo/Scope" "type" "Lcom/example/bellwether/bellwether/mo/Scope$Type;") (ty := (.object "com/example/bellwether/bellwether/mo/Scope$Type")) (by decide)
          have F_level := F73 (Or.inr (hw _ (List.mem_of_getElem? (i := 21) rfl)) : Laid Z a0 "com/example/bellwether/bellwether/mo/Scope" "com/example/bellwether/bellwether/mo/Scope" "level" "I") (ty := .int) (by decide)
          refine g_dup P73 d0_137 rfl ?_
          refine g_aload P73 d0_138 rfl rfl ?_
          refine g_iload P73 d0_140 rfl ?_
          refine g_special P73 sc [(.ref a_BASE_ALL), (.int (0 : Int32))] (rest := [(.ref sc)]) (W := 1) d0_142 rfl (hw _ (List.mem_of_getElem? (i := 7) rfl)) (hw _ (List.mem_of_getElem? (i := 8) rfl)) (hw _ (List.mem_of_getElem? (i := 6) rfl)) (hw _ (List.mem_of_getElem? (i := 9) rfl)) (by decide) (rm_scope l Z a0 hw _ n0 a_BASE_ONLY a_BASE_NTH_LEVEL a_BASE_SUBTREE a_BASE_ALL sc a_BASE_ALL (0 : Int32) S_BASE_NTH_LEVEL S_BASE_SUBTREE (by decide) (fun q => absurd rfl q) gsc A73 F_type F_level) pd_3 rfl rfl rfl rfl (by decide) (by decide) (by decide) (by decide) fun v74 T74 h74 P74 q74 => ?_
          obtain ⟨rfl, K, A, F_type, F_level⟩ := q74
          have S_BASE_ONLY := S_BASE_ONLY
          have E_BASE_ONLY := E_BASE_ONLY.keep K
          have E_BASE_NTH_LEVEL := E_BASE_NTH_LEVEL.keep K
          have E_BASE_SUBTREE := E_BASE_SUBTREE.keep K
          have E_BASE_ALL := E_BASE_ALL.keep K
          have F_BASE_ONLY := F_BASE_ONLY.keep K (nS M_BASE_ONLY)
          have F_BASE_NTH_LEVEL := F_BASE_NTH_LEVEL.keep K (nS M_BASE_NTH_LEVEL)
          have F_BASE_SUBTREE := F_BASE_SUBTREE.keep K (nS M_BASE_SUBTREE)
          have F_BASE_ALL := F_BASE_ALL.keep K (nS M_BASE_ALL)
          refine g_astore P74 d0_145 rfl #[.val (.int p1), .val (.int p2), .val (.int p3), .val (.int p4), .val (.int (3 : Int32)), .val (.ref a_BASE_ALL), .val (.int (0 : Int32)), .val (.int (0 : Int32)), .val (.int dp), .val (.ref sc), .unset, .unset] rfl ?_
          refine g_aload P74 d0_147 rfl rfl ?_
          refine g_iload P74 d0_149 rfl ?_
          refine g_virtual P74 sc [(.int dp)] (rest := []) (W := 0) d0_151 (hw _ (List.mem_of_getElem? (i := 22) rfl)) (hw _ (List.mem_of_getElem? (i := 23) rfl)) (hw _ (List.mem_of_getElem? (i := 25) rfl)) (hw _ (List.mem_of_getElem? (i := 24) rfl)) (hw _ (List.mem_of_getElem? (i := 6) rfl)) (hw _ (List.mem_of_getElem? (i := 26) rfl)) (by decide) A (rm_meth l Z a0 hw _ n0 sc a_BASE_ALL dp (0 : Int32) (3 : Int32) (1 : Int32) F_type F_level F_BASE_ALL E_BASE_ALL (by decide) (by simp)) pd_4 rfl rfl rfl rfl (by decide) (by decide) (by decide) (by decide) fun v75 T75 h75 P75 q75 => ?_
          obtain ⟨rfl, rfl⟩ := q75
          refine g_istore P75 d0_154 #[.val (.int p1), .val (.int p2), .val (.int p3), .val (.int p4), .val (.int (3 : Int32)), .val (.ref a_BASE_ALL), .val (.int (0 : Int32)), .val (.int (0 : Int32)), .val (.int dp), .val (.ref sc), .val (.int (1 : Int32)), .unset] rfl ?_
          refine g_iload P75 d0_156 rfl ?_
          refine g_ifYes P75 d0_158 (by decide) 176 (by decide) (by decide) ?_
          refine g_iload P75 d0_176 rfl ?_
          refine g_iconst (v := (1 : Int32)) P75 d0_178 (by rfl) ?_
          refine g_icmpYes P75 d0_179 (by decide) 199 (by decide) (by decide) ?_
          refine g_iload P75 d0_199 rfl ?_
          refine g_iconst (v := (2 : Int32)) P75 d0_201 (by rfl) ?_
          refine g_icmpYes P75 d0_202 (by decide) 222 (by decide) (by decide) ?_
          refine g_iconst (v := (1 : Int32)) P75 d0_222 (by rfl) ?_
          refine g_istore P75 d0_223 #[.val (.int p1), .val (.int p2), .val (.int p3), .val (.int p4), .val (.int (3 : Int32)), .val (.ref a_BASE_ALL), .val (.int (0 : Int32)), .val (.int (0 : Int32)), .val (.int dp), .val (.ref sc), .val (.int (1 : Int32)), .val (.int (1 : Int32))] rfl ?_
          refine g_iload P75 d0_225 rfl ?_
          refine g_iload P75 d0_227 rfl ?_
          refine g_icmpNo P75 d0_229 (by decide) ?_
          refine g_iconst (v := (1 : Int32)) P75 d0_232 (by rfl) ?_
          refine g_goto P75 d0_233 237 (by decide) (by decide) ?_
          exact g_retZ P75 d0_237 (by decide) (by decide) (by decide) rfl
        · refine g_ifNo P66 d0_126 ((if0 _ _).trans (flt hc126).2.2.1) ?_
          refine g_lload P66 d0_129 rfl ?_
          refine g_l2i P66 d0_131 ?_
          refine g_istore P66 d0_132 #[.val (.int p1), .val (.int p2), .val (.int p3), .val (.int p4), .val (.int (3 : Int32)), .val (.ref a_BASE_ALL), .val (.int (0 : Int32)), .val (.int (0 : Int32)), .val (.int (cand).toInt32), .val (.long cand), .second, .unset] rfl ?_
          generalize (cand).toInt32 = dp
          refine g_new P66 d0_134 (hw _ (List.mem_of_getElem? (i := 4) rfl)) (hw _ (List.mem_of_getElem? (i := 5) rfl)) (hw _ (List.mem_of_getElem? (i := 6) rfl)) (by decide) (by decide) fun T76 h76 sc P76 e76 E76 A76 F76 => ?_
          have E := E76
          have S_BASE_ONLY := S_BASE_ONLY.ext E
          have E_BASE_ONLY := E_BASE_ONLY.ext E
          have F_BASE_ONLY := F_BASE_ONLY.ext E
          have S_BASE_NTH_LEVEL := S_BASE_NTH_LEVEL.ext E
          have E_BASE_NTH_LEVEL := E_BASE_NTH_LEVEL.ext E
          have F_BASE_NTH_LEVEL := F_BASE_NTH_LEVEL.ext E
          have S_BASE_SUBTREE := S_BASE_SUBTREE.ext E
          have E_BASE_SUBTREE := E_BASE_SUBTREE.ext E
          have F_BASE_SUBTREE := F_BASE_SUBTREE.ext E
          have S_BASE_ALL := S_BASE_ALL.ext E
          have E_BASE_ALL := E_BASE_ALL.ext E
          have F_BASE_ALL := F_BASE_ALL.ext E
          have gsc : n0 ≤ sc := by omega
          have nS : ∀ {x : Addr}, @LT.lt Nat _ x h0.size → x ∉ [sc] := fun {x} q r => by have : @Eq Nat x sc := List.mem_singleton.mp r; omega
          have F_type := F76 (Or.inr (hw _ (List.mem_of_getElem? (i := 19) rfl)) : Laid Z a0 "com/example/bellwether/bellwether/mo/Scope" "com/example/bellwether/bellwether/mo/Scope" "type" "Lcom/example/bellwether/bellwether/mo/Scope$Type;") (ty := (.object "com/example/bellwether/bellwether/mo/Scope$Type")) (by decide)
          have F_level := F76 (Or.inr (hw _ (List.mem_of_getElem? (i := 21) rfl)) : Laid Z a0 "com/example/bellwether/bellwether/mo/Scope" "com/example/bellwether/bellwether/mo/Scope" "level" "I") (ty := .int) (by decide)
          refine g_dup P76 d0_137 rfl ?_
          refine g_aload P76 d0_138 rfl rfl ?_
          refine g_iload P76 d0_140 rfl ?_
          refine g_special P76 sc [(.ref a_BASE_ALL), (.int (0 : Int32))] (rest := [(.ref sc)]) (W := 1) d0_142 rfl (hw _ (List.mem_of_getElem? (i := 7) rfl)) (hw _ (List.mem_of_getElem? (i := 8) rfl)) (hw _ (List.mem_of_getElem? (i := 6) rfl)) (hw _ (List.mem_of_getElem? (i := 9) rfl)) (by decide) (rm_scope l Z a0 hw _ n0 a_BASE_ONLY a_BASE_NTH_LEVEL a_BASE_SUBTREE a_BASE_ALL sc a_BASE_ALL (0 : Int32) S_BASE_NTH_LEVEL S_BASE_SUBTREE (by decide) (fun q => absurd rfl q) gsc A76 F_type F_level) pd_3 rfl rfl rfl rfl (by decide) (by decide) (by decide) (by decide) fun v77 T77 h77 P77 q77 => ?_
          obtain ⟨rfl, K, A, F_type, F_level⟩ := q77
          have S_BASE_ONLY := S_BASE_ONLY
          have E_BASE_ONLY := E_BASE_ONLY.keep K
          have E_BASE_NTH_LEVEL := E_BASE_NTH_LEVEL.keep K
          have E_BASE_SUBTREE := E_BASE_SUBTREE.keep K
          have E_BASE_ALL := E_BASE_ALL.keep K
          have F_BASE_ONLY := F_BASE_ONLY.keep K (nS M_BASE_ONLY)
          have F_BASE_NTH_LEVEL := F_BASE_NTH_LEVEL.keep K (nS M_BASE_NTH_LEVEL)
          have F_BASE_SUBTREE := F_BASE_SUBTREE.keep K (nS M_BASE_SUBTREE)
          have F_BASE_ALL := F_BASE_ALL.keep K (nS M_BASE_ALL)
          refine g_astore P77 d0_145 rfl #[.val (.int p1), .val (.int p2), .val (.int p3), .val (.int p4), .val (.int (3 : Int32)), .val (.ref a_BASE_ALL), .val (.int (0 : Int32)), .val (.int (0 : Int32)), .val (.int dp), .val (.ref sc), .unset, .unset] rfl ?_
          refine g_aload P77 d0_147 rfl rfl ?_
          refine g_iload P77 d0_149 rfl ?_
          refine g_virtual P77 sc [(.int dp)] (rest := []) (W := 0) d0_151 (hw _ (List.mem_of_getElem? (i := 22) rfl)) (hw _ (List.mem_of_getElem? (i := 23) rfl)) (hw _ (List.mem_of_getElem? (i := 25) rfl)) (hw _ (List.mem_of_getElem? (i := 24) rfl)) (hw _ (List.mem_of_getElem? (i := 6) rfl)) (hw _ (List.mem_of_getElem? (i := 26) rfl)) (by decide) A (rm_meth l Z a0 hw _ n0 sc a_BASE_ALL dp (0 : Int32) (3 : Int32) (1 : Int32) F_type F_level F_BASE_ALL E_BASE_ALL (by decide) (by simp)) pd_4 rfl rfl rfl rfl (by decide) (by decide) (by decide) (by decide) fun v78 T78 h78 P78 q78 => ?_
          obtain ⟨rfl, rfl⟩ := q78
          refine g_istore P78 d0_154 #[.val (.int p1), .val (.int p2), .val (.int p3), .val (.int p4), .val (.int (3 : Int32)), .val (.ref a_BASE_ALL), .val (.int (0 : Int32)), .val (.int (0 : Int32)), .val (.int dp), .val (.ref sc), .val (.int (1 : Int32)), .unset] rfl ?_
          refine g_iload P78 d0_156 rfl ?_
          refine g_ifYes P78 d0_158 (by decide) 176 (by decide) (by decide) ?_
          refine g_iload P78 d0_176 rfl ?_
          refine g_iconst (v := (1 : Int32)) P78 d0_178 (by rfl) ?_
          refine g_icmpYes P78 d0_179 (by decide) 199 (by decide) (by decide) ?_
          refine g_iload P78 d0_199 rfl ?_
          refine g_iconst (v := (2 : Int32)) P78 d0_201 (by rfl) ?_
          refine g_icmpYes P78 d0_202 (by decide) 222 (by decide) (by decide) ?_
          refine g_iconst (v := (1 : Int32)) P78 d0_222 (by rfl) ?_
          refine g_istore P78 d0_223 #[.val (.int p1), .val (.int p2), .val (.int p3), .val (.int p4), .val (.int (3 : Int32)), .val (.ref a_BASE_ALL), .val (.int (0 : Int32)), .val (.int (0 : Int32)), .val (.int dp), .val (.ref sc), .val (.int (1 : Int32)), .val (.int (1 : Int32))] rfl ?_
          refine g_iload P78 d0_225 rfl ?_
          refine g_iload P78 d0_227 rfl ?_
          refine g_icmpNo P78 d0_229 (by decide) ?_
          refine g_iconst (v := (1 : Int32)) P78 d0_232 (by rfl) ?_
          refine g_goto P78 d0_233 237 (by decide) (by decide) ?_
          exact g_retZ P78 d0_237 (by decide) (by decide) (by decide) rfl
set_option maxRecDepth 65536 in
set_option maxHeartbeats 40000000 in
theorem comes_1 {Post : Tables → Env → Array Value → State → Outcome → State → Prop} (hpost : ∀ tb e args s v u, (limb_1_1.after args s (.returned v) u = true ∧ limb_1_2.after args s (.returned v) u = true ∧ True) → FrameEnd s (.returned v) u (Jvm.fieldLocs frame_1_writes args s ++ Jvm.arrayLocs frame_1_arrays args s ++ Jvm.staticLocs frame_1_statics s) 16 128 → Post tb e args s (.returned v) u) :
    ArmFor flags0 classFile x code maxLocals ret World_1 tables_1 room_1 Calls_1 rest_1 Pre_1 Post := by
  intro l hfl _ _ p e ha hc hk s m args below hf hA hF happ hP
  obtain ⟨hcalls, hrest, hpre⟩ := hP
  obtain ⟨-, -, -, hnamed, -, -, -, hat⟩ := (Spec.applies_iff hf).mp happ
  obtain ⟨hg, hn⟩ := and_e (Cond.before_iff.mp (show (Jvm.Cond.and given_1 narrow_1).before args s = true from hpre))
  obtain ⟨g0, g1⟩ := and_e hg
  obtain ⟨u0, g2⟩ := and_e g1
  obtain ⟨u1, g3⟩ := and_e g2
  obtain ⟨u2, g4⟩ := and_e g3
  obtain ⟨w0, w1, w2, w3, rfl⟩ : ∃ w0 w1 w2 w3 : Value, args = #[w0, w1, w2, w3] := by
    have hs : args.size = 4 := by simpa [Cond.value, given_1] using g0
    obtain ⟨L⟩ := args
    match L, hs with
    | [w0, w1, w2, w3], _ => exact ⟨w0, w1, w2, w3, rfl⟩
  have hw := fun d (hd : d ∈ tables_1) => atoms_spec (ws := Jvm.Cond.code x code maxLocals ret :: tables_1) hat d (List.mem_cons_of_mem _ hd)
  have hfit : Fit s := fun {y c} hc i hi => by
    obtain ⟨ha, rfl⟩ := Array.getElem?_eq_some_iff.mp hc
    have q := List.all_eq_true.mp ((Array.all_eq_true_iff_forall_mem.mp hF) _ (Array.getElem_mem ha)) i (List.mem_range.mpr hi)
    simpa [Array.getElem?_eq_getElem hi] using q
  obtain ⟨i0, e0⟩ := is_v u0
  obtain rfl : w0 = (.int i0) := Option.some.inj e0
  obtain ⟨i1, e1⟩ := is_v u1
  obtain rfl : w1 = (.int i1) := Option.some.inj e1
  obtain ⟨i2, e2⟩ := is_v u2
  obtain rfl : w2 = (.int i2) := Option.some.inj e2
  obtain ⟨i3, e3⟩ := is_v g4
  obtain rfl : w3 = (.int i3) := Option.some.inj e3
  obtain ⟨k0, r0⟩ := and_e hn
  obtain ⟨k1, r1⟩ := and_e r0
  obtain ⟨k2, r2⟩ := and_e r1
  obtain ⟨k3, r3⟩ := and_e r2
  obtain ⟨k4, r4⟩ := and_e r3
  obtain ⟨k5, r5⟩ := and_e r4
  obtain ⟨k6, k7⟩ := and_e r5
  obtain ⟨a_BASE_ONLY, ev_BASE_ONLY⟩ := exa_v k0
  have S_BASE_ONLY : Sta s s.heap "com/example/bellwether/bellwether/mo/Scope$Type" "BASE_ONLY" "Lcom/example/bellwether/bellwether/mo/Scope$Type;" (.ref a_BASE_ONLY) := Sta.start ev_BASE_ONLY (Or.inr ⟨(hw _ (List.mem_of_getElem? (i := 1) rfl)), (hw _ (List.mem_of_getElem? (i := 2) rfl))⟩)
  have E_BASE_ONLY : Exa s s.heap a_BASE_ONLY "com/example/bellwether/bellwether/mo/Scope$Type" := Exa.start ev_BASE_ONLY k0
  obtain ⟨a_BASE_ALL, ev_BASE_ALL⟩ := exa_v k2
  have S_BASE_ALL : Sta s s.heap "com/example/bellwether/bellwether/mo/Scope$Type" "BASE_ALL" "Lcom/example/bellwether/bellwether/mo/Scope$Type;" (.ref a_BASE_ALL) := Sta.start ev_BASE_ALL (Or.inr ⟨(hw _ (List.mem_of_getElem? (i := 1) rfl)), (hw _ (List.mem_of_getElem? (i := 37) rfl))⟩)
  have E_BASE_ALL : Exa s s.heap a_BASE_ALL "com/example/bellwether/bellwether/mo/Scope$Type" := Exa.start ev_BASE_ALL k2
  obtain ⟨a_BASE_SUBTREE, ev_BASE_SUBTREE⟩ := exa_v k4
  have S_BASE_SUBTREE : Sta s s.heap "com/example/bellwether/bellwether/mo/Scope$Type" "BASE_SUBTREE" "Lcom/example/bellwether/bellwether/mo/Scope$Type;" (.ref a_BASE_SUBTREE) := Sta.start ev_BASE_SUBTREE (Or.inr ⟨(hw _ (List.mem_of_getElem? (i := 1) rfl)), (hw _ (List.mem_of_getElem? (i := 39) rfl))⟩)
  have E_BASE_SUBTREE : Exa s s.heap a_BASE_SUBTREE "com/example/bellwether/bellwether/mo/Scope$Type" := Exa.start ev_BASE_SUBTREE k4
  obtain ⟨a_BASE_NTH_LEVEL, ev_BASE_NTH_LEVEL⟩ := exa_v k5
  have S_BASE_NTH_LEVEL : Sta s s.heap "com/example/bellwether/bellwether/mo/Scope$Type" "BASE_NTH_LEVEL" "Lcom/example/bellwether/bellwether/mo/Scope$Type;" (.ref a_BASE_NTH_LEVEL) := Sta.start ev_BASE_NTH_LEVEL (Or.inr ⟨(hw _ (List.mem_of_getElem? (i := 1) rfl)), (hw _ (List.mem_of_getElem? (i := 44) rfl))⟩)
  have E_BASE_NTH_LEVEL : Exa s s.heap a_BASE_NTH_LEVEL "com/example/bellwether/bellwether/mo/Scope$Type" := Exa.start ev_BASE_NTH_LEVEL k5
  have F_BASE_ONLY : Fld s s.heap a_BASE_ONLY "java/lang/Enum" "ordinal" "I" (.int (0 : Int32)) := Fld.start ((fld_at ev_BASE_ONLY).symm.trans (eqI k1))
  have F_BASE_ALL : Fld s s.heap a_BASE_ALL "java/lang/Enum" "ordinal" "I" (.int (3 : Int32)) := Fld.start ((fld_at ev_BASE_ALL).symm.trans (eqI k3))
  have F_BASE_SUBTREE : Fld s s.heap a_BASE_SUBTREE "java/lang/Enum" "ordinal" "I" (.int (2 : Int32)) := Fld.start ((fld_at ev_BASE_SUBTREE).symm.trans (eqI k6))
  have F_BASE_NTH_LEVEL : Fld s s.heap a_BASE_NTH_LEVEL "java/lang/Enum" "ordinal" "I" (.int (1 : Int32)) := Fld.start ((fld_at ev_BASE_NTH_LEVEL).symm.trans (eqI k7))
  obtain ⟨n, o, h1, h2, h3, _, L, rfl, ⟨N, rfl⟩, hq⟩ := (rm_law l s _ hw s.heap s.heap.size a_BASE_ONLY a_BASE_NTH_LEVEL a_BASE_SUBTREE a_BASE_ALL i0 i1 i2 i3 (Nat.le_refl _) S_BASE_ONLY S_BASE_NTH_LEVEL S_BASE_SUBTREE S_BASE_ALL E_BASE_ONLY E_BASE_NTH_LEVEL E_BASE_SUBTREE E_BASE_ALL F_BASE_ONLY F_BASE_NTH_LEVEL F_BASE_SUBTREE F_BASE_ALL) tables_1 p e ha hc hk s m _ below hf ((Spec.applies_iff_loose hf).mp happ).1 ⟨rfl, State.Warmed39.refl s, rfl⟩ trivial
  refine ⟨n, _, h1, h2, h3, hpost _ _ _ _ _ _ ⟨Cond.after_iff.mpr rfl, Cond.after_iff.mpr (eq_i res_at (Term.int_eval (1)) rfl), trivial⟩ ⟨hq.1, hq.2.1, (hq.2.2.sift fun y hy => Or.inr (N y hy)).mono (by decide) (by decide)⟩⟩
theorem main_1_1 : Claimed_1_1 := comes_1 fun _ _ _ _ _ _ h hF => ⟨h.1, hF⟩
theorem main_1_2 : Claimed_1_2 := comes_1 fun _ _ _ _ _ _ h hF => ⟨h.2.1, hF⟩
end Jvm.Pilot.@@N@@
namespace Jvm.Pilot.@@N@@
open Jvm Jvm.ClassFile Sem Op Lib Jvm.Free Jvm.Stand Jvm.Pilot.@@N@@.Jvm.D
/-! MADE BY PROGRAM (witnessworld.py) out of the Statement's table words and the real class files: 14 classes; the members and pool entries that the words name. The judged class is class 1, her method 1. -/
namespace start1
open Jvm.ClassFile
def u (s : String) : CpInfo := .utf8 (stringToUtf16 s)
/-- a pool by its gaps: so many unusable entries, then the entry; so many at the end -/
def gap : Nat → List CpInfo → List CpInfo
  | 0, r => r
  | n + 1, r => .unusable :: gap n r
def poolList (es : List (Nat × CpInfo)) (last : Nat) : List CpInfo := es.foldr (fun e r => gap e.1 (e.2 :: r)) (gap last [])
def pool (es : List (Nat × CpInfo)) (last : Nat) : Array CpInfo := ⟨poolList es last⟩
def fileOf (pool : Array CpInfo) (this : Nat) (attrs : Array Attribute := #[]) (ms : Array MethodInfo := #[]) (fl : Nat := 33) (sup : Nat := 0) (ifs : Array Nat := #[]) (fds : Array FieldInfo := #[]) : ClassFile where
  minorVersion := 0
  majorVersion := 65
  constantPool := pool
  accessFlags := fl
  thisClass := this
  superClass := sup
  interfaces := ifs
  fields := fds
  methods := ms
  attributes := attrs
def plain (name : String) (sup : Option ClassId) : Class where
  name := name
  kind := .ordinary
  loader := none
  accessFlags := 33
  super := sup
  interfaces := #[]
  cf := none
  fields := #[]
  methods := #[]
  instanceTypes := #[]
  staticTypes := #[]
  resolved := #[]
  callSites := []
  init := .initialized
  statics := none
  mirror := none

def pool0 : Array CpInfo := pool [(5, u "<init>"), (0, u "()V"), (1, .class_ 10), (1, u "java/lang/Object")] 113

def k0c0 : Code := { maxStack := 0, maxLocals := 1, code := object_method_1_code, exceptionTable := #[], attributes := #[] }
def k0m0 : Method := { name := "<init>", desc := "()V", sig := { parameters := [], returnType := none }, accessFlags := 1, code := some k0c0 }
/-- java/lang/Object -/
def k0 : Class := { plain "java/lang/Object" none with
  accessFlags := 33
  interfaces := #[]
  cf := some (fileOf pool0 8 #[] #[{ accessFlags := 1, nameIndex := 5, descriptorIndex := 6, attributes := #[] }] 33 0 #[] #[])
  fields := #[]
  methods := #[k0m0]
  instanceTypes := #[]
  staticTypes := #[]
  resolved := Array.replicate 124 none
  statics := none }

def pool1 : Array CpInfo := pool [(2, .class_ 4), (1, u "java/lang/Object"), (0, u "<init>"), (0, u "()V"), (0, .fieldref 8 9), (0, .class_ 10), (0, .nameAndType 11 12), (0, u "com/example/bellwether/bellwether/mo/Scope$Type"), (0, u "BASE_ONLY"), (0, u "Lcom/example/bellwether/bellwether/mo/Scope$Type;"), (0, .fieldref 8 14), (0, .nameAndType 15 12), (0, u "BASE_NTH_LEVEL"), (0, .fieldref 8 17), (0, .nameAndType 18 12), (0, u "BASE_SUBTREE"), (0, .fieldref 8 20), (0, .nameAndType 21 12), (0, u "BASE_ALL"), (0, .integer 2147483647), (0, .long 2147483647), (1, .class_ 26), (0, u "com/example/bellwether/bellwether/mo/Scope"), (0, .methodref 25 28), (0, .nameAndType 5 29), (0, u "(Lcom/example/bellwether/bellwether/mo/Scope$Type;I)V"), (0, .methodref 25 31), (0, .nameAndType 32 33), (0, u "selects"), (0, u "(I)Z"), (0, .class_ 35), (0, u "com/example/bellwether/bellwether/mo/ScopeSelectsPinLaw"), (2, u "law"), (0, u "(IIII)Z")] 5

def k1m0 : Method := { name := "<init>", desc := "()V", sig := { parameters := [], returnType := none }, accessFlags := 1, code := none }
def k1c1 : Code := { maxStack := 4, maxLocals := 12, code := code, exceptionTable := #[], attributes := #[] }
def k1m1 : Method := { name := "law", desc := "(IIII)Z", sig := { parameters := [.int, .int, .int, .int], returnType := some .boolean }, accessFlags := 9, code := some k1c1 }
/-- com/example/bellwether/bellwether/mo/ScopeSelectsPinLaw -/
def k1 : Class := { plain "com/example/bellwether/bellwether/mo/ScopeSelectsPinLaw" (some 0) with
  accessFlags := 49
  interfaces := #[]
  cf := some (fileOf pool1 34 #[] #[{ accessFlags := 1, nameIndex := 5, descriptorIndex := 6, attributes := #[] }, { accessFlags := 9, nameIndex := 38, descriptorIndex := 39, attributes := #[] }] 49 2 #[] #[])
  fields := #[]
  methods := #[k1m0, k1m1]
  instanceTypes := #[]
  staticTypes := #[]
  resolved := Array.replicate 45 none
  statics := none }

def pool2 : Array CpInfo := pool [(1, .class_ 2), (0, u "java/lang/constant/Constable"), (0, .class_ 4), (0, u "java/lang/Object")] 6

/-- java/lang/constant/Constable -/
def k2 : Class := { plain "java/lang/constant/Constable" (some 0) with
  accessFlags := 1537
  interfaces := #[]
  cf := some (fileOf pool2 1 #[] #[] 1537 3 #[] #[])
  fields := #[]
  methods := #[]
  instanceTypes := #[]
  staticTypes := #[]
  resolved := Array.replicate 11 none
  statics := none }

def pool3 : Array CpInfo := pool [(1, .class_ 2), (0, u "java/lang/Comparable"), (0, .class_ 4), (0, u "java/lang/Object")] 7

/-- java/lang/Comparable -/
def k3 : Class := { plain "java/lang/Comparable" (some 0) with
  accessFlags := 1537
  interfaces := #[]
  cf := some (fileOf pool3 1 #[] #[] 1537 3 #[] #[])
  fields := #[]
  methods := #[]
  instanceTypes := #[]
  staticTypes := #[]
  resolved := Array.replicate 12 none
  statics := none }

def pool4 : Array CpInfo := pool [(1, .class_ 2), (0, u "java/io/Serializable"), (0, .class_ 4), (0, u "java/lang/Object")] 2

/-- java/io/Serializable -/
def k4 : Class := { plain "java/io/Serializable" (some 0) with
  accessFlags := 1537
  interfaces := #[]
  cf := some (fileOf pool4 1 #[] #[] 1537 3 #[] #[])
  fields := #[]
  methods := #[]
  instanceTypes := #[]
  staticTypes := #[]
  resolved := Array.replicate 7 none
  statics := none }

def pool5 : Array CpInfo := pool [(2, .class_ 4), (1, u "java/lang/Enum"), (0, u "name"), (0, u "Ljava/lang/String;"), (0, .fieldref 2 8), (0, .nameAndType 9 10), (0, u "ordinal"), (0, u "I"), (1, .class_ 14), (1, u "java/lang/Object"), (4, u "hash"), (86, .class_ 108), (1, u "java/lang/Enum$EnumDesc"), (2, .class_ 112), (0, u "java/lang/constant/Constable"), (0, .class_ 114), (0, u "java/lang/Comparable"), (0, .class_ 116), (0, u "java/io/Serializable"), (9, u "()I")] 77

def k5c0 : Code := { maxStack := 1, maxLocals := 1, code := jdk_37_method_2_code, exceptionTable := #[], attributes := #[] }
def k5m0 : Method := { name := "ordinal", desc := "()I", sig := { parameters := [], returnType := some .int }, accessFlags := 17, code := some k5c0 }
/-- java/lang/Enum -/
def k5 : Class := { plain "java/lang/Enum" (some 0) with
  accessFlags := 1057
  interfaces := #[2, 3, 4]
  cf := some (fileOf pool5 2 #[.nestMembers #[106]] #[{ accessFlags := 17, nameIndex := 9, descriptorIndex := 126, attributes := #[] }] 1057 12 #[111, 113, 115] #[{ accessFlags := 18, nameIndex := 5, descriptorIndex := 6, attributes := #[] }, { accessFlags := 18, nameIndex := 9, descriptorIndex := 10, attributes := #[] }, { accessFlags := 2, nameIndex := 19, descriptorIndex := 10, attributes := #[] }])
  fields := #[{ name := "name", type := (.object "java/lang/String"), accessFlags := 18, slot := 0, constantValue := 0 }, { name := "ordinal", type := .int, accessFlags := 18, slot := 1, constantValue := 0 }, { name := "hash", type := .int, accessFlags := 2, slot := 2, constantValue := 0 }]
  methods := #[k5m0]
  instanceTypes := #[(.object "java/lang/String"), .int, .int]
  staticTypes := #[]
  resolved := Array.replicate 204 none
  statics := none }

def pool6 : Array CpInfo := pool [(1, .class_ 2), (0, u "com/example/bellwether/bellwether/mo/Scope$Type"), (2, u "BASE_ONLY"), (0, u "Lcom/example/bellwether/bellwether/mo/Scope$Type;"), (2, u "BASE_NTH_LEVEL"), (2, u "BASE_SUBTREE"), (2, u "BASE_ALL"), (2, u "$VALUES"), (0, u "[Lcom/example/bellwether/bellwether/mo/Scope$Type;"), (6, .class_ 28), (1, u "java/lang/Enum"), (27, .class_ 57), (0, u "com/example/bellwether/bellwether/mo/Scope")] 2

/-- com/example/bellwether/bellwether/mo/Scope$Type -/
def k6 : Class := { plain "com/example/bellwether/bellwether/mo/Scope$Type" (some 5) with
  accessFlags := 16433
  interfaces := #[]
  cf := some (fileOf pool6 1 #[.nestHost 56] #[] 16433 26 #[] #[{ accessFlags := 16409, nameIndex := 5, descriptorIndex := 6, attributes := #[] }, { accessFlags := 16409, nameIndex := 9, descriptorIndex := 6, attributes := #[] }, { accessFlags := 16409, nameIndex := 12, descriptorIndex := 6, attributes := #[] }, { accessFlags := 16409, nameIndex := 15, descriptorIndex := 6, attributes := #[] }, { accessFlags := 4122, nameIndex := 18, descriptorIndex := 19, attributes := #[] }])
  fields := #[{ name := "BASE_ONLY", type := (.object "com/example/bellwether/bellwether/mo/Scope$Type"), accessFlags := 16409, slot := 0, constantValue := 0 }, { name := "BASE_NTH_LEVEL", type := (.object "com/example/bellwether/bellwether/mo/Scope$Type"), accessFlags := 16409, slot := 1, constantValue := 0 }, { name := "BASE_SUBTREE", type := (.object "com/example/bellwether/bellwether/mo/Scope$Type"), accessFlags := 16409, slot := 2, constantValue := 0 }, { name := "BASE_ALL", type := (.object "com/example/bellwether/bellwether/mo/Scope$Type"), accessFlags := 16409, slot := 3, constantValue := 0 }, { name := "$VALUES", type := (.array (.object "com/example/bellwether/bellwether/mo/Scope$Type")), accessFlags := 4122, slot := 4, constantValue := 0 }]
  methods := #[]
  instanceTypes := #[(.object "java/lang/String"), .int, .int]
  staticTypes := #[(.object "com/example/bellwether/bellwether/mo/Scope$Type"), (.object "com/example/bellwether/bellwether/mo/Scope$Type"), (.object "com/example/bellwether/bellwether/mo/Scope$Type"), (.object "com/example/bellwether/bellwether/mo/Scope$Type"), (.array (.object "com/example/bellwether/bellwether/mo/Scope$Type"))]
  resolved := Array.replicate 60 none
  statics := some 0 }

def pool7 : Array CpInfo := pool [(1, .methodref 2 3), (0, .class_ 4), (0, .nameAndType 5 6), (0, u "java/lang/Object"), (0, u "<init>"), (0, u "()V"), (0, .class_ 8), (0, u "java/lang/Record")] 13

def k7c0 : Code := { maxStack := 1, maxLocals := 1, code := jdk_30_method_1_code, exceptionTable := #[], attributes := #[] }
def k7m0 : Method := { name := "<init>", desc := "()V", sig := { parameters := [], returnType := none }, accessFlags := 4, code := some k7c0 }
/-- java/lang/Record -/
def k7 : Class := { plain "java/lang/Record" (some 0) with
  accessFlags := 1057
  interfaces := #[]
  cf := some (fileOf pool7 7 #[] #[{ accessFlags := 4, nameIndex := 5, descriptorIndex := 6, attributes := #[] }] 1057 2 #[] #[])
  fields := #[]
  methods := #[k7m0]
  instanceTypes := #[]
  staticTypes := #[]
  resolved := Array.replicate 22 none
  statics := none }

def pool8 : Array CpInfo := pool [(1, .methodref 2 3), (0, .class_ 4), (0, .nameAndType 5 6), (0, u "java/lang/Record"), (0, u "<init>"), (0, u "()V"), (9, .methodref 17 18), (0, .class_ 19), (0, .nameAndType 20 21), (0, u "com/example/bellwether/bellwether/mo/Scope"), (0, u "takesLevel"), (0, u "(Lcom/example/bellwether/bellwether/mo/Scope$Type;)Z"), (9, .fieldref 17 32), (0, .nameAndType 33 34), (0, u "type"), (0, u "Lcom/example/bellwether/bellwether/mo/Scope$Type;"), (0, .fieldref 17 36), (0, .nameAndType 37 38), (0, u "level"), (0, u "I"), (0, .fieldref 40 41), (0, .class_ 42), (0, .nameAndType 43 34), (0, u "com/example/bellwether/bellwether/mo/Scope$Type"), (0, u "BASE_NTH_LEVEL"), (0, .fieldref 40 45), (0, .nameAndType 46 34), (0, u "BASE_SUBTREE"), (0, .methodref 40 48), (0, .nameAndType 49 50), (0, u "ordinal"), (0, u "()I"), (19, u "BASE_ONLY"), (2, u "(Lcom/example/bellwether/bellwether/mo/Scope$Type;I)V"), (2, u "Lcom/example/bellwether/bellwether/mo/Scope;"), (4, u "selects"), (0, u "(I)Z")] 38

def k8c0 : Code := { maxStack := 3, maxLocals := 3, code := prog_19_method_1_code, exceptionTable := #[], attributes := #[] }
def k8m0 : Method := { name := "<init>", desc := "(Lcom/example/bellwether/bellwether/mo/Scope$Type;I)V", sig := { parameters := [(.object "com/example/bellwether/bellwether/mo/Scope$Type"), .int], returnType := none }, accessFlags := 1, code := some k8c0 }
def k8c1 : Code := { maxStack := 2, maxLocals := 1, code := prog_19_method_2_code, exceptionTable := #[], attributes := #[] }
def k8m1 : Method := { name := "takesLevel", desc := "(Lcom/example/bellwether/bellwether/mo/Scope$Type;)Z", sig := { parameters := [(.object "com/example/bellwether/bellwether/mo/Scope$Type")], returnType := some .boolean }, accessFlags := 9, code := some k8c1 }
def k8c2 : Code := { maxStack := 4, maxLocals := 2, code := prog_19_method_3_code, exceptionTable := #[], attributes := #[] }
def k8m2 : Method := { name := "selects", desc := "(I)Z", sig := { parameters := [.int], returnType := some .boolean }, accessFlags := 0, code := some k8c2 }
/-- com/example/bellwether/bellwether/mo/Scope -/
def k8 : Class := { plain "com/example/bellwether/bellwether/mo/Scope" (some 7) with
  accessFlags := 49
  interfaces := #[]
  cf := some (fileOf pool8 17 #[.nestMembers #[40]] #[{ accessFlags := 1, nameIndex := 5, descriptorIndex := 73, attributes := #[] }, { accessFlags := 9, nameIndex := 20, descriptorIndex := 21, attributes := #[] }, { accessFlags := 0, nameIndex := 81, descriptorIndex := 82, attributes := #[] }] 49 2 #[] #[{ accessFlags := 18, nameIndex := 33, descriptorIndex := 34, attributes := #[] }, { accessFlags := 18, nameIndex := 37, descriptorIndex := 38, attributes := #[] }, { accessFlags := 25, nameIndex := 70, descriptorIndex := 76, attributes := #[] }])
  fields := #[{ name := "type", type := (.object "com/example/bellwether/bellwether/mo/Scope$Type"), accessFlags := 18, slot := 0, constantValue := 0 }, { name := "level", type := .int, accessFlags := 18, slot := 1, constantValue := 0 }, { name := "BASE_ONLY", type := (.object "com/example/bellwether/bellwether/mo/Scope"), accessFlags := 25, slot := 0, constantValue := 0 }]
  methods := #[k8m0, k8m1, k8m2]
  instanceTypes := #[(.object "com/example/bellwether/bellwether/mo/Scope$Type"), .int]
  staticTypes := #[(.object "com/example/bellwether/bellwether/mo/Scope")]
  resolved := Array.replicate 121 none
  statics := none }

def pool9 : Array CpInfo := pool [(1, u "java/lang/Cloneable"), (0, .class_ 1), (0, u "java/lang/Object"), (0, .class_ 3)] 3

/-- java/lang/Cloneable -/
def k9 : Class := { plain "java/lang/Cloneable" (some 0) with
  accessFlags := 1537
  interfaces := #[]
  cf := some (fileOf pool9 2 #[] #[] 1537 4 #[] #[])
  fields := #[]
  methods := #[]
  instanceTypes := #[]
  staticTypes := #[]
  resolved := Array.replicate 8 none
  statics := none }

/-- the primitive byte -/
def k10 : Class := { plain "byte" none with kind := .primitive 'B', accessFlags := 0x411 }
/-- [B -/
def k11 : Class := { plain "[B" (some 0) with kind := .array 10 .byte, interfaces := #[9, 4], accessFlags := 1041 }

/-- the primitive int -/
def k12 : Class := { plain "int" none with kind := .primitive 'I', accessFlags := 0x411 }
/-- [I -/
def k13 : Class := { plain "[I" (some 0) with kind := .array 12 .int, interfaces := #[9, 4], accessFlags := 1041 }

def heap : Heap := #[{ cls := 6, slots := #[.ref 1, .ref 2, .ref 3, .ref 4, .null], vm := .statics 6 },
  { cls := 6, slots := #[.null, .int 0, .int 0], vm := .none },
  { cls := 6, slots := #[.null, .int 1, .int 0], vm := .none },
  { cls := 6, slots := #[.null, .int 2, .int 0], vm := .none },
  { cls := 6, slots := #[.null, .int 3, .int 0], vm := .none }]
def classes : Array Class := #[k0, k1, k2, k3, k4, k5, k6, k7, k8, k9, k10, k11, k12, k13]
def interned : List (Array UInt16 × Addr) := []
def slotsUsed : Nat := 17
def theMethod : MethodId := ⟨1, 1⟩
def args0 : Array Value := #[.int 5, .int 3, .int 2, .int 1]
def aboutOver (below : List Frame) : State where
  vm := { classes := classes, interned := interned.toArray }
  heap := heap
  slotsUsed := slotsUsed
  threads := #[{ frames := .invoking theMethod args0 :: below }]
def below0 : List Frame := [.native { method := ⟨0, 0⟩, args := #[] }]
def about1 : State := aboutOver below0
def p0 : Program := .bare "" "" ""
def e0 : Env := launch0.env 0 0 0
theorem w_frames : about1.frames = Frame.invoking theMethod args0 :: below0 := rfl
set_option maxRecDepth 65536 in
theorem w_args : argsFit about1.vm theMethod args0 = true := by decide +kernel
set_option maxRecDepth 65536 in
theorem w_heap : heapFits about1 = true := by decide +kernel
set_option maxRecDepth 65536 in
theorem w_runnable : about1.curStatus? = some .runnable := by decide +kernel
set_option maxRecDepth 65536 in
theorem w_alone : about1.alone = true := by decide +kernel
set_option maxRecDepth 65536 in
theorem w_named : about1.methodNamed? x = some theMethod := by decide +kernel
set_option maxRecDepth 65536 in
theorem w_hears : about1.hears theMethod below0 = true := by decide +kernel
set_option maxRecDepth 65536 in
theorem w_ripe : about1.ripe theMethod args0 below0 = true := by decide +kernel
theorem w_running : about1.status = .running := rfl
set_option maxRecDepth 65536 in
theorem w_room : about1.hasRoom e0.platform room_1 = true :=
  launch0.hasRoom_least _ room_1 (by decide +kernel) (by decide +kernel) (by decide +kernel) (by decide +kernel) (by decide +kernel) (by decide +kernel)
theorem allAtoms_all (ts : List Jvm.Cond) (a : Array Jvm.Value) (st : Jvm.State) : (allAtoms ts).before a st = ts.all (fun c => c.before a st) := by
  induction ts with
  | nil => rfl
  | cons c t ih =>
    show (Jvm.Cond.and c (allAtoms t)).before a st = _
    rw [Jvm.Cond.before_and, ih, List.all_cons]
def words1 : List Jvm.Cond := Jvm.Cond.code x code maxLocals ret :: tables_1
/-- a 'code' word, met by the world's own term for the bytes: nothing is compared byte by byte -/
theorem code_word {y : MethodName} {bytes : ByteArray} {mx : Nat} {rt : Option FieldType} {a : Array Value} {s : State} {m : MethodId} {meth : Method} {c : Code} (h1 : s.methodNamed? y = some m) (h2 : s.vm.method? m = some meth) (h3 : meth.code = some c) (h4 : c.code = bytes)
    (h5 : (c.maxLocals == mx && c.exceptionTable.isEmpty && decide (c.maxStack ≤ mostOperands) && decide (meth.sig.returnType = rt) && !meth.locks && decide (parseMethodDescriptor y.desc = some meth.sig)) = true) : (Jvm.Cond.code y bytes mx rt).before a s = true := by
  simp only [Bool.and_eq_true, beq_iff_eq, Bool.not_eq_true', decide_eq_true_eq] at h5
  obtain ⟨⟨⟨⟨⟨g1, g2⟩, g3⟩, g4⟩, g5⟩, g6⟩ := h5
  simp [Cond.before, Cond.holds, Cond.value, h1, h2, h3, h4, g1, g2, g3, g4, g5, g6]
def isCode : Jvm.Cond → Bool
  | .code _ _ _ _ => true
  | _ => false
theorem all_split {L : List Jvm.Cond} {P : Jvm.Cond → Bool} (h1 : L.all (fun c => isCode c || P c) = true) (h2 : ∀ c ∈ L.filter isCode, P c = true) : L.all P = true := by
  refine List.all_eq_true.mpr fun c hc => ?_
  have h := List.all_eq_true.mp h1 c hc
  rcases Bool.eq_false_or_eq_true (isCode c) with hi | hi
  · exact h2 c (List.mem_filter.mpr ⟨hc, hi⟩)
  · simpa [hi] using h
set_option maxRecDepth 65536 in
theorem w_c0 : (Jvm.Cond.code x code maxLocals ret).before args0 about1 = true := code_word (m := ⟨1, 1⟩) (meth := k1m1) (c := k1c1) (by decide +kernel) rfl rfl rfl (by decide +kernel)
set_option maxRecDepth 65536 in
theorem w_c1 : (Jvm.Cond.code ({ cls := "com/example/bellwether/bellwether/mo/Scope", name := "<init>", desc := "(Lcom/example/bellwether/bellwether/mo/Scope$Type;I)V" } : Jvm.MethodName) prog_19_method_1_code (3 : Nat) (Option.none : Option Jvm.ClassFile.FieldType)).before args0 about1 = true := code_word (m := ⟨8, 0⟩) (meth := k8m0) (c := k8c0) (by decide +kernel) rfl rfl rfl (by decide +kernel)
set_option maxRecDepth 65536 in
theorem w_c2 : (Jvm.Cond.code ({ cls := "java/lang/Record", name := "<init>", desc := "()V" } : Jvm.MethodName) jdk_30_method_1_code (1 : Nat) (Option.none : Option Jvm.ClassFile.FieldType)).before args0 about1 = true := code_word (m := ⟨7, 0⟩) (meth := k7m0) (c := k7c0) (by decide +kernel) rfl rfl rfl (by decide +kernel)
set_option maxRecDepth 65536 in
theorem w_c3 : (Jvm.Cond.code ({ cls := "java/lang/Object", name := "<init>", desc := "()V" } : Jvm.MethodName) object_method_1_code (1 : Nat) (Option.none : Option Jvm.ClassFile.FieldType)).before args0 about1 = true := code_word (m := ⟨0, 0⟩) (meth := k0m0) (c := k0c0) (by decide +kernel) rfl rfl rfl (by decide +kernel)
set_option maxRecDepth 65536 in
theorem w_c4 : (Jvm.Cond.code ({ cls := "com/example/bellwether/bellwether/mo/Scope", name := "selects", desc := "(I)Z" } : Jvm.MethodName) prog_19_method_3_code (2 : Nat) (Option.some Jvm.ClassFile.FieldType.boolean)).before args0 about1 = true := code_word (m := ⟨8, 2⟩) (meth := k8m2) (c := k8c2) (by decide +kernel) rfl rfl rfl (by decide +kernel)
set_option maxRecDepth 65536 in
theorem w_c5 : (Jvm.Cond.code ({ cls := "java/lang/Enum", name := "ordinal", desc := "()I" } : Jvm.MethodName) jdk_37_method_2_code (1 : Nat) (Option.some Jvm.ClassFile.FieldType.int)).before args0 about1 = true := code_word (m := ⟨5, 0⟩) (meth := k5m0) (c := k5c0) (by decide +kernel) rfl rfl rfl (by decide +kernel)
set_option maxRecDepth 65536 in
theorem w_c6 : (Jvm.Cond.code ({ cls := "com/example/bellwether/bellwether/mo/Scope", name := "takesLevel", desc := "(Lcom/example/bellwether/bellwether/mo/Scope$Type;)Z" } : Jvm.MethodName) prog_19_method_2_code (1 : Nat) (Option.some Jvm.ClassFile.FieldType.boolean)).before args0 about1 = true := code_word (m := ⟨8, 1⟩) (meth := k8m1) (c := k8c1) (by decide +kernel) rfl rfl rfl (by decide +kernel)
def codes1 : List Jvm.Cond := [Jvm.Cond.code x code maxLocals ret, Jvm.Cond.code ({ cls := "com/example/bellwether/bellwether/mo/Scope", name := "<init>", desc := "(Lcom/example/bellwether/bellwether/mo/Scope$Type;I)V" } : Jvm.MethodName) prog_19_method_1_code (3 : Nat) (Option.none : Option Jvm.ClassFile.FieldType), Jvm.Cond.code ({ cls := "java/lang/Record", name := "<init>", desc := "()V" } : Jvm.MethodName) jdk_30_method_1_code (1 : Nat) (Option.none : Option Jvm.ClassFile.FieldType), Jvm.Cond.code ({ cls := "java/lang/Object", name := "<init>", desc := "()V" } : Jvm.MethodName) object_method_1_code (1 : Nat) (Option.none : Option Jvm.ClassFile.FieldType), Jvm.Cond.code ({ cls := "com/example/bellwether/bellwether/mo/Scope", name := "selects", desc := "(I)Z" } : Jvm.MethodName) prog_19_method_3_code (2 : Nat) (Option.some Jvm.ClassFile.FieldType.boolean), Jvm.Cond.code ({ cls := "java/lang/Enum", name := "ordinal", desc := "()I" } : Jvm.MethodName) jdk_37_method_2_code (1 : Nat) (Option.some Jvm.ClassFile.FieldType.int), Jvm.Cond.code ({ cls := "com/example/bellwether/bellwether/mo/Scope", name := "takesLevel", desc := "(Lcom/example/bellwether/bellwether/mo/Scope$Type;)Z" } : Jvm.MethodName) prog_19_method_2_code (1 : Nat) (Option.some Jvm.ClassFile.FieldType.boolean)]
set_option maxRecDepth 65536 in
theorem codes_eq : words1.filter isCode = codes1 := rfl
theorem w_codes : ∀ c ∈ words1.filter isCode, c.before args0 about1 = true := by
  rw [codes_eq]
  intro c hc
  simp only [codes1, List.mem_cons, List.not_mem_nil, or_false] at hc
  rcases hc with rfl | rfl | rfl | rfl | rfl | rfl | rfl
  · exact w_c0
  · exact w_c1
  · exact w_c2
  · exact w_c3
  · exact w_c4
  · exact w_c5
  · exact w_c6
set_option maxRecDepth 65536 in
theorem w_t1 : (words1.take 24).all (fun c => isCode c || c.before args0 about1) = true := by decide +kernel
set_option maxRecDepth 65536 in
theorem w_t2 : ((words1.drop 24).take 24).all (fun c => isCode c || c.before args0 about1) = true := by decide +kernel
set_option maxRecDepth 65536 in
theorem w_t3 : ((words1.drop 24).drop 24).all (fun c => isCode c || c.before args0 about1) = true := by decide +kernel
theorem w_tables : (allAtoms (Jvm.Cond.code x code maxLocals ret :: tables_1)).before args0 about1 = true := by
  rw [allAtoms_all]
  show words1.all (fun c => c.before args0 about1) = true
  refine all_split ?_ w_codes
  rw [← List.take_append_drop 24 words1, List.all_append, w_t1, ← List.take_append_drop 24 (words1.drop 24), List.all_append, w_t2, w_t3]
  rfl
set_option maxRecDepth 65536 in
theorem w_case : (Jvm.Cond.and given_1 narrow_1).before args0 about1 = true := by decide +kernel
theorem w_applies : (headSpec (Jvm.Cond.code x code maxLocals ret :: tables_1) room_1).applies x e0.platform about1 = true :=
  (Spec.applies_iff w_frames).mpr ⟨w_running, w_runnable, w_alone, w_named, w_hears, w_ripe, w_room, w_tables⟩
theorem atStart : AtStart classFile x code maxLocals ret World_1 tables_1 room_1 Calls_1 rest_1 Pre_1 launch0 p0 e0 about1 theMethod args0 below0 :=
  ⟨lists_1, trivial, launch0.admits_env _ _ _, launch0.least_env, fairChoices_fair.cas, fairChoices_fair.clock, w_frames, w_args, w_heap, w_applies, trivial, trivial, w_case⟩
end start1
theorem witness_1 : WitnessClaimed_1 := ⟨start1.p0, start1.e0, start1.about1, start1.theMethod, start1.args0, start1.below0, start1.atStart⟩
end Jvm.Pilot.@@N@@
