import JvmDerived
import JvmDerived.Pilot.@@N@@Statement
import JvmDerived.Pilot.@@N@@Code
set_option linter.unusedVariables false
set_option linter.unusedSimpArgs false
@@BLOCK:NumsL.lean.txt@@
namespace Jvm.Pilot.@@N@@
open Jvm Jvm.ClassFile Sem Op Lib Jvm.Free Jvm.Stand Jvm.LawKit Jvm.RoadKit Bundle Jvm.Pilot.@@N@@.Jvm.D
/-! OWN 1: a walk in continuation form: 'Go' says that from here the invocation ends well; one law a step carries it backwards -/
section OwnGo
variable {p : Program} {l : Launch} {e : Env} {R : Room} {s : State} {m : MethodId} {args : Array Value} {below : List Frame} {meth : Method} {c : Code} {Z : State} {y : MethodName} {bytes : ByteArray} {mx : Nat} {ret : Option FieldType} {n0 : Nat} {T T' : State} {h h' : Heap} {cells slots : Nat} {Q : Outcome → State → Prop} {pc pc' : Nat} {Ls : Array Slot} {st : List Value} {a0 : Array Value}
def Go (p : Program) (e : Env) (below : List Frame) (Q : Outcome → State → Prop) (t : State) : Prop := ∃ s₂ o, Steps p.tables e below t s₂ ∧ s₂.status = .running ∧ Ended s₂ below o ∧ Q o s₂
theorem Go.of {t t' : State} (k : ∀ u, Steps p.tables e below t' u → Steps p.tables e below t u) (G : Go p e below Q t') : Go p e below Q t := by
  obtain ⟨s₂, o, h1, h2⟩ := G; exact ⟨s₂, o, k _ h1, h2⟩
theorem Go.tr {t t' : State} (k : Steps p.tables e below t t') (G : Go p e below Q t') : Go p e below Q t := Go.of (fun _ h => k.trans h) G
/-- the place: all that a step asks of where the walk stands -/
def Pl (p : Program) (l : Launch) (e : Env) (R : Room) (s : State) (m : MethodId) (args : Array Value) (below : List Frame) (meth : Method) (c : Code) (Z : State) (y : MethodName) (bytes : ByteArray) (mx : Nat) (ret : Option FieldType) (n0 : Nat) (T : State) (h : Heap) (cells slots : Nat) : Prop :=
  (p.tables.exec = Jvm.exec ∧ Z.Warmed39 s.vm ∧ s.vm.findClass y.cls = some m.cls ∧ meth.name = y.name ∧ c.code = bytes ∧ c.maxLocals = mx ∧ meth.sig.returnType = ret ∧ meth.locks = false) ∧ ∃ locs, Stand p l e R s m args below meth c T locs cells slots ∧ Fr n0 locs ∧ T.heap = h
theorem Pl.here (P : Pl p l e R s m args below meth c Z y bytes mx ret n0 T h cells slots) : At T m c below := by obtain ⟨-, _, X, -⟩ := P; exact X.here
theorem Pl.hx (P : Pl p l e R s m args below meth c Z y bytes mx ret n0 T h cells slots) : p.tables.exec = Jvm.exec := P.1.1
theorem Pl.hZ (P : Pl p l e R s m args below meth c Z y bytes mx ret n0 T h cells slots) : Z.Warmed39 s.vm := P.1.2.1
theorem Pl.hown (P : Pl p l e R s m args below meth c Z y bytes mx ret n0 T h cells slots) : s.vm.findClass y.cls = some m.cls := P.1.2.2.1
theorem Pl.hnm (P : Pl p l e R s m args below meth c Z y bytes mx ret n0 T h cells slots) : meth.name = y.name := P.1.2.2.2.1
theorem Pl.hby (P : Pl p l e R s m args below meth c Z y bytes mx ret n0 T h cells slots) : c.code = bytes := P.1.2.2.2.2.1
theorem Pl.hml (P : Pl p l e R s m args below meth c Z y bytes mx ret n0 T h cells slots) : c.maxLocals = mx := P.1.2.2.2.2.2.1
theorem Pl.hrt (P : Pl p l e R s m args below meth c Z y bytes mx ret n0 T h cells slots) : meth.sig.returnType = ret := P.1.2.2.2.2.2.2.1
theorem Pl.hlk (P : Pl p l e R s m args below meth c Z y bytes mx ret n0 T h cells slots) : meth.locks = false := P.1.2.2.2.2.2.2.2
theorem Pl.up (P : Pl p l e R s m args below meth c Z y bytes mx ret n0 T h cells slots) {cells' slots' : Nat} (h1 : cells ≤ cells') (h2 : slots ≤ slots') : Pl p l e R s m args below meth c Z y bytes mx ret n0 T h cells' slots' := by
  obtain ⟨B, locs, X, N, eT⟩ := P
  exact ⟨B, locs, ⟨X.admits, X.cas, X.clock, X.frames, X.room, X.hears, X.method, X.code, X.here, X.tail, X.warmed, X.limits, X.bytes, X.same.mono h1 h2⟩, N, eT⟩
/-- a decode fact, with the place behind it -/
def D (b : ByteArray) (pc : Nat) (i : Instr) (n : Nat) (pc' : Nat) : Prop := decode b pc = .ok (i, n) ∧ pc + n = pc'
theorem Pl.dec (P : Pl p l e R s m args below meth c Z y bytes mx ret n0 T h cells slots) {i : Instr} {n : Nat} (hd : decode bytes pc = .ok (i, n)) : decode c.code pc = .ok (i, n) := by rw [P.hby]; exact hd

theorem g_iloadN (P : Pl p l e R s m args below meth c Z y bytes mx ret n0 T h cells slots) {k : Fin 4} {v : Int32} (hd : D bytes pc (.iload_n k) 1 pc') (hl : Ls[k.val]? = some (.val (.int v))) (G : Go p e below Q (T.setTop (mkF m pc' Ls (.int v :: st)))) : Go p e below Q (T.setTop (mkF m pc Ls st)) := by
  obtain ⟨hd, rfl⟩ := hd; exact Go.of (fun _ => XS.iloadN P.here P.hx rfl (P.dec hd) hl) G
theorem g_iload (P : Pl p l e R s m args below meth c Z y bytes mx ret n0 T h cells slots) {k : Nat} {v : Int32} (hd : D bytes pc (.iload k) 2 pc') (hl : Ls[k]? = some (.val (.int v))) (G : Go p e below Q (T.setTop (mkF m pc' Ls (.int v :: st)))) : Go p e below Q (T.setTop (mkF m pc Ls st)) := by
  obtain ⟨hd, rfl⟩ := hd; exact Go.of (fun _ => XS.iload P.here P.hx rfl (P.dec hd) hl) G
theorem g_lload (P : Pl p l e R s m args below meth c Z y bytes mx ret n0 T h cells slots) {k : Nat} {v : Int64} (hd : D bytes pc (.lload k) 2 pc') (hl : Ls[k]? = some (.val (.long v))) (G : Go p e below Q (T.setTop (mkF m pc' Ls (.long v :: st)))) : Go p e below Q (T.setTop (mkF m pc Ls st)) := by
  obtain ⟨hd, rfl⟩ := hd; exact Go.of (fun _ => XT.lload P.here P.hx rfl (P.dec hd) hl) G
theorem g_aloadN (P : Pl p l e R s m args below meth c Z y bytes mx ret n0 T h cells slots) {k : Fin 4} {v : Value} (hd : D bytes pc (.aload_n k) 1 pc') (hl : Ls[k.val]? = some (.val v)) (hv : v.isRef = true) (G : Go p e below Q (T.setTop (mkF m pc' Ls (v :: st)))) : Go p e below Q (T.setTop (mkF m pc Ls st)) := by
  obtain ⟨hd, rfl⟩ := hd; exact Go.of (fun _ => XS.aloadN P.here P.hx rfl (P.dec hd) hl hv) G
theorem g_aload (P : Pl p l e R s m args below meth c Z y bytes mx ret n0 T h cells slots) {k : Nat} {v : Value} (hd : D bytes pc (.aload k) 2 pc') (hl : Ls[k]? = some (.val v)) (hv : v.isRef = true) (G : Go p e below Q (T.setTop (mkF m pc' Ls (v :: st)))) : Go p e below Q (T.setTop (mkF m pc Ls st)) := by
  obtain ⟨hd, rfl⟩ := hd; exact Go.of (fun _ => XS.aload P.here P.hx rfl (P.dec hd) hl hv) G
theorem g_iconst (P : Pl p l e R s m args below meth c Z y bytes mx ret n0 T h cells slots) {i : Int} {v : Int32} (hd : D bytes pc (.iconst i) 1 pc') (hv : Int32.ofInt i = v) (G : Go p e below Q (T.setTop (mkF m pc' Ls (.int v :: st)))) : Go p e below Q (T.setTop (mkF m pc Ls st)) := by
  obtain ⟨hd, rfl⟩ := hd; subst hv; exact Go.of (fun _ => XS.iconst P.here P.hx rfl (P.dec hd)) G
theorem g_bipush (P : Pl p l e R s m args below meth c Z y bytes mx ret n0 T h cells slots) {i : Int} {v : Int32} (hd : D bytes pc (.bipush i) 2 pc') (hv : (Int8.ofInt i).toInt32 = v) (G : Go p e below Q (T.setTop (mkF m pc' Ls (.int v :: st)))) : Go p e below Q (T.setTop (mkF m pc Ls st)) := by
  obtain ⟨hd, rfl⟩ := hd; subst hv; exact Go.of (fun _ => XS.bipush P.here P.hx rfl (P.dec hd)) G
theorem g_aconstNull (P : Pl p l e R s m args below meth c Z y bytes mx ret n0 T h cells slots) (hd : D bytes pc .aconst_null 1 pc') (G : Go p e below Q (T.setTop (mkF m pc' Ls (.null :: st)))) : Go p e below Q (T.setTop (mkF m pc Ls st)) := by
  obtain ⟨hd, rfl⟩ := hd; exact Go.of (fun _ => XS.aconstNull P.here P.hx rfl (P.dec hd)) G
theorem g_iadd (P : Pl p l e R s m args below meth c Z y bytes mx ret n0 T h cells slots) {x z v : Int32} (hd : D bytes pc .iadd 1 pc') (hv : x + z = v) (G : Go p e below Q (T.setTop (mkF m pc' Ls (.int v :: st)))) : Go p e below Q (T.setTop (mkF m pc Ls (.int z :: .int x :: st))) := by
  obtain ⟨hd, rfl⟩ := hd; subst hv; exact Go.of (fun _ => XS.iadd P.here P.hx rfl (P.dec hd) rfl) G
theorem g_isub (P : Pl p l e R s m args below meth c Z y bytes mx ret n0 T h cells slots) {x z v : Int32} (hd : D bytes pc .isub 1 pc') (hv : x - z = v) (G : Go p e below Q (T.setTop (mkF m pc' Ls (.int v :: st)))) : Go p e below Q (T.setTop (mkF m pc Ls (.int z :: .int x :: st))) := by
  obtain ⟨hd, rfl⟩ := hd; subst hv; exact Go.of (fun _ => XS.isub P.here P.hx rfl (P.dec hd) rfl) G
theorem g_imul (P : Pl p l e R s m args below meth c Z y bytes mx ret n0 T h cells slots) {x z v : Int32} (hd : D bytes pc .imul 1 pc') (hv : x * z = v) (G : Go p e below Q (T.setTop (mkF m pc' Ls (.int v :: st)))) : Go p e below Q (T.setTop (mkF m pc Ls (.int z :: .int x :: st))) := by
  obtain ⟨hd, rfl⟩ := hd; subst hv; exact Go.of (fun _ => XS.imul P.here P.hx rfl (P.dec hd) rfl) G
theorem g_iand (P : Pl p l e R s m args below meth c Z y bytes mx ret n0 T h cells slots) {x z v : Int32} (hd : D bytes pc .iand 1 pc') (hv : x &&& z = v) (G : Go p e below Q (T.setTop (mkF m pc' Ls (.int v :: st)))) : Go p e below Q (T.setTop (mkF m pc Ls (.int z :: .int x :: st))) := by
  obtain ⟨hd, rfl⟩ := hd; subst hv; exact Go.of (fun _ => XS.iand P.here P.hx rfl (P.dec hd) rfl) G
theorem g_irem (P : Pl p l e R s m args below meth c Z y bytes mx ret n0 T h cells slots) {x z v : Int32} (hd : D bytes pc .irem 1 pc') (hz : z ≠ 0) (hv : x % z = v) (G : Go p e below Q (T.setTop (mkF m pc' Ls (.int v :: st)))) : Go p e below Q (T.setTop (mkF m pc Ls (.int z :: .int x :: st))) := by
  obtain ⟨hd, rfl⟩ := hd; subst hv; obtain ⟨-, _, X, -⟩ := id P; exact Go.of (fun _ => iremM X P.hx rfl (P.dec hd) rfl hz) G
theorem g_iushr (P : Pl p l e R s m args below meth c Z y bytes mx ret n0 T h cells slots) {x z v : Int32} (hd : D bytes pc .iushr 1 pc') (hv : XT.ushr x z = v) (G : Go p e below Q (T.setTop (mkF m pc' Ls (.int v :: st)))) : Go p e below Q (T.setTop (mkF m pc Ls (.int z :: .int x :: st))) := by
  obtain ⟨hd, rfl⟩ := hd; subst hv; exact Go.of (fun _ => XT.iushr P.here P.hx rfl (P.dec hd) rfl) G
theorem g_ineg (P : Pl p l e R s m args below meth c Z y bytes mx ret n0 T h cells slots) {x : Int32} (hd : D bytes pc .ineg 1 pc') (G : Go p e below Q (T.setTop (mkF m pc' Ls (.int (-x) :: st)))) : Go p e below Q (T.setTop (mkF m pc Ls (.int x :: st))) := by
  obtain ⟨hd, rfl⟩ := hd; exact Go.of (fun _ => XS.ineg P.here P.hx rfl (P.dec hd) rfl) G
theorem g_dup (P : Pl p l e R s m args below meth c Z y bytes mx ret n0 T h cells slots) {x : Value} (hd : D bytes pc .dup 1 pc') (hc : x.category = 1) (G : Go p e below Q (T.setTop (mkF m pc' Ls (x :: x :: st)))) : Go p e below Q (T.setTop (mkF m pc Ls (x :: st))) := by
  obtain ⟨hd, rfl⟩ := hd; exact Go.of (fun _ => XS.dup P.here P.hx rfl (P.dec hd) rfl hc) G
theorem g_pop (P : Pl p l e R s m args below meth c Z y bytes mx ret n0 T h cells slots) {x : Value} (hd : D bytes pc .pop 1 pc') (hc : x.category = 1) (G : Go p e below Q (T.setTop (mkF m pc' Ls st))) : Go p e below Q (T.setTop (mkF m pc Ls (x :: st))) := by
  obtain ⟨hd, rfl⟩ := hd; exact Go.of (fun _ => XT.pop P.here P.hx rfl (P.dec hd) rfl hc) G
theorem g_istoreN (P : Pl p l e R s m args below meth c Z y bytes mx ret n0 T h cells slots) {k : Fin 4} {x : Int32} (hd : D bytes pc (.istore_n k) 1 pc') (l' : Array Slot) (hl : storeLocals Ls k.val (.int x) = some l') (G : Go p e below Q (T.setTop (mkF m pc' l' st))) : Go p e below Q (T.setTop (mkF m pc Ls (.int x :: st))) := by
  obtain ⟨hd, rfl⟩ := hd; exact Go.of (fun _ => XS.istoreN P.here P.hx rfl (P.dec hd) rfl hl) G
theorem g_istore (P : Pl p l e R s m args below meth c Z y bytes mx ret n0 T h cells slots) {k : Nat} {x : Int32} (hd : D bytes pc (.istore k) 2 pc') (l' : Array Slot) (hl : storeLocals Ls k (.int x) = some l') (G : Go p e below Q (T.setTop (mkF m pc' l' st))) : Go p e below Q (T.setTop (mkF m pc Ls (.int x :: st))) := by
  obtain ⟨hd, rfl⟩ := hd; exact Go.of (fun _ => XS.istore P.here P.hx rfl (P.dec hd) rfl hl) G
theorem g_lstore (P : Pl p l e R s m args below meth c Z y bytes mx ret n0 T h cells slots) {k : Nat} {x : Int64} (hd : D bytes pc (.lstore k) 2 pc') (l' : Array Slot) (hl : storeLocals Ls k (.long x) = some l') (G : Go p e below Q (T.setTop (mkF m pc' l' st))) : Go p e below Q (T.setTop (mkF m pc Ls (.long x :: st))) := by
  obtain ⟨hd, rfl⟩ := hd; exact Go.of (fun _ => XT.lstore P.here P.hx rfl (P.dec hd) rfl hl) G
theorem g_astoreN (P : Pl p l e R s m args below meth c Z y bytes mx ret n0 T h cells slots) {k : Fin 4} {x : Value} (hd : D bytes pc (.astore_n k) 1 pc') (hv : x.isRef = true) (l' : Array Slot) (hl : storeLocals Ls k.val x = some l') (G : Go p e below Q (T.setTop (mkF m pc' l' st))) : Go p e below Q (T.setTop (mkF m pc Ls (x :: st))) := by
  obtain ⟨hd, rfl⟩ := hd; exact Go.of (fun _ => XS.astoreN P.here P.hx rfl (P.dec hd) rfl hv hl) G
theorem g_astore (P : Pl p l e R s m args below meth c Z y bytes mx ret n0 T h cells slots) {k : Nat} {x : Value} (hd : D bytes pc (.astore k) 2 pc') (hv : x.isRef = true) (l' : Array Slot) (hl : storeLocals Ls k x = some l') (G : Go p e below Q (T.setTop (mkF m pc' l' st))) : Go p e below Q (T.setTop (mkF m pc Ls (x :: st))) := by
  obtain ⟨hd, rfl⟩ := hd; exact Go.of (fun _ => XS.astore P.here P.hx rfl (P.dec hd) rfl hv hl) G
theorem g_iinc (P : Pl p l e R s m args below meth c Z y bytes mx ret n0 T h cells slots) {k : Nat} {cst : Int} {x w : Int32} (hd : D bytes pc (.iinc k cst) 3 pc') (hl : Ls[k]? = some (.val (.int x))) (hw : x + Int32.ofInt cst = w) (l' : Array Slot) (hl' : storeLocals Ls k (.int w) = some l') (G : Go p e below Q (T.setTop (mkF m pc' l' st))) : Go p e below Q (T.setTop (mkF m pc Ls st)) := by
  obtain ⟨hd, rfl⟩ := hd; subst hw; exact Go.of (fun _ => XS.iinc P.here P.hx rfl (P.dec hd) hl hl') G
theorem g_goto (P : Pl p l e R s m args below meth c Z y bytes mx ret n0 T h cells slots) {o : Int} {q : Nat} (hd : D bytes pc (.goto o) 3 q) (pc' : Nat) (ho : 0 ≤ (pc : Int) + o) (hp : ((pc : Int) + o).toNat = pc') (G : Go p e below Q (T.setTop (mkF m pc' Ls st))) : Go p e below Q (T.setTop (mkF m pc Ls st)) := by
  obtain ⟨hd, -⟩ := hd; exact Go.of (fun _ => XS.goto P.here P.hx rfl rfl (P.dec hd) ho hp) G
theorem g_ifYes (P : Pl p l e R s m args below meth c Z y bytes mx ret n0 T h cells slots) {cd : ClassFile.Cond} {x : Int32} {o : Int} {q : Nat} (hd : D bytes pc (.ifCond cd o) 3 q) (hc : ifCond.holds cd x = true) (pc' : Nat) (ho : 0 ≤ (pc : Int) + o) (hp : ((pc : Int) + o).toNat = pc') (G : Go p e below Q (T.setTop (mkF m pc' Ls st))) : Go p e below Q (T.setTop (mkF m pc Ls (.int x :: st))) := by
  obtain ⟨hd, -⟩ := hd; exact Go.of (fun _ => XS.ifYes P.here P.hx rfl rfl (P.dec hd) rfl hc ho hp) G
theorem g_ifNo (P : Pl p l e R s m args below meth c Z y bytes mx ret n0 T h cells slots) {cd : ClassFile.Cond} {x : Int32} {o : Int} (hd : D bytes pc (.ifCond cd o) 3 pc') (hc : ifCond.holds cd x = false) (G : Go p e below Q (T.setTop (mkF m pc' Ls st))) : Go p e below Q (T.setTop (mkF m pc Ls (.int x :: st))) := by
  obtain ⟨hd, rfl⟩ := hd; exact Go.of (fun _ => XS.ifNo P.here P.hx rfl (P.dec hd) rfl hc) G
theorem g_icmpYes (P : Pl p l e R s m args below meth c Z y bytes mx ret n0 T h cells slots) {cd : ClassFile.Cond} {x z : Int32} {o : Int} {q : Nat} (hd : D bytes pc (.if_icmp cd o) 3 q) (hc : if_icmp.holds cd x z = true) (pc' : Nat) (ho : 0 ≤ (pc : Int) + o) (hp : ((pc : Int) + o).toNat = pc') (G : Go p e below Q (T.setTop (mkF m pc' Ls st))) : Go p e below Q (T.setTop (mkF m pc Ls (.int z :: .int x :: st))) := by
  obtain ⟨hd, -⟩ := hd; exact Go.of (fun _ => XS.icmpYes P.here P.hx rfl rfl (P.dec hd) rfl hc ho hp) G
theorem g_icmpNo (P : Pl p l e R s m args below meth c Z y bytes mx ret n0 T h cells slots) {cd : ClassFile.Cond} {x z : Int32} {o : Int} (hd : D bytes pc (.if_icmp cd o) 3 pc') (hc : if_icmp.holds cd x z = false) (G : Go p e below Q (T.setTop (mkF m pc' Ls st))) : Go p e below Q (T.setTop (mkF m pc Ls (.int z :: .int x :: st))) := by
  obtain ⟨hd, rfl⟩ := hd; exact Go.of (fun _ => XS.icmpNo P.here P.hx rfl (P.dec hd) rfl hc) G
theorem g_acmpYes (P : Pl p l e R s m args below meth c Z y bytes mx ret n0 T h cells slots) {cd : ClassFile.ACond} {x z : Value} {o : Int} {q : Nat} (hd : D bytes pc (.if_acmp cd o) 3 q) (hx' : x.isRef = true) (hz' : z.isRef = true) (hc : XT.acmp cd x z = true) (pc' : Nat) (ho : 0 ≤ (pc : Int) + o) (hp : ((pc : Int) + o).toNat = pc') (G : Go p e below Q (T.setTop (mkF m pc' Ls st))) : Go p e below Q (T.setTop (mkF m pc Ls (z :: x :: st))) := by
  obtain ⟨hd, -⟩ := hd; exact Go.of (fun _ => XT.acmpYes P.here P.hx rfl rfl (P.dec hd) rfl hx' hz' hc ho hp) G
theorem g_acmpNo (P : Pl p l e R s m args below meth c Z y bytes mx ret n0 T h cells slots) {cd : ClassFile.ACond} {x z : Value} {o : Int} (hd : D bytes pc (.if_acmp cd o) 3 pc') (hx' : x.isRef = true) (hz' : z.isRef = true) (hc : XT.acmp cd x z = false) (G : Go p e below Q (T.setTop (mkF m pc' Ls st))) : Go p e below Q (T.setTop (mkF m pc Ls (z :: x :: st))) := by
  obtain ⟨hd, rfl⟩ := hd; exact Go.of (fun _ => XT.acmpNo P.here P.hx rfl (P.dec hd) rfl hx' hz' hc) G
theorem g_ldc (P : Pl p l e R s m args below meth c Z y bytes mx ret n0 T h cells slots) {index : Nat} {v : Int32} (hd : D bytes pc (.ldc index) 2 pc') (w : (Cond.constant y.cls index v).before a0 Z = true) (G : Go p e below Q (T.setTop (mkF m pc' Ls (.int v :: st)))) : Go p e below Q (T.setTop (mkF m pc Ls st)) := by
  obtain ⟨hd, rfl⟩ := hd; obtain ⟨-, _, X, -⟩ := id P; exact Go.of (fun _ => X.ldcI P.hx P.hown (mvT P.hZ w) rfl (P.dec hd)) G
/-! what the heap or the tables are asked -/
theorem g_getF (P : Pl p l e R s m args below meth c Z y bytes mx ret n0 T h cells slots) {R0 O n d host : String} {index : Nat} {a : Addr} {v : Value} (hd : D bytes pc (.getfield index) 3 pc') (w : (Cond.fieldLink y.cls index R0 n d).before a0 Z = true ∨ (Cond.fieldLinkNest y.cls index R0 n d host).before a0 Z = true) (via : Via Z R0 O n d) (F : Fld Z h a O n d v)
    (G : ∀ T', Pl p l e R s m args below meth c Z y bytes mx ret n0 T' h cells slots → Go p e below Q (T'.setTop (mkF m pc' Ls (v :: st)))) : Go p e below Q (T.setTop (mkF m pc Ls (.ref a :: st))) := by
  obtain ⟨hd, rfl⟩ := hd; obtain ⟨B, locs, X, N, eT⟩ := id P
  obtain ⟨T', X', e', stp⟩ := getF X P.hx P.hZ P.hown w via eT F (g := mkF m pc Ls (.ref a :: st)) rfl rfl (P.dec hd)
  exact Go.of stp (G T' ⟨B, locs, X', N, e'⟩)
theorem g_getS (P : Pl p l e R s m args below meth c Z y bytes mx ret n0 T h cells slots) {R0 O n d host : String} {index : Nat} {v : Value} (hd : D bytes pc (.getstatic index) 3 pc') (w : (Cond.fieldLink y.cls index R0 n d).before a0 Z = true ∨ (Cond.fieldLinkNest y.cls index R0 n d host).before a0 Z = true) (via : Via Z R0 O n d) (F : Sta Z h O n d v)
    (G : ∀ T', Pl p l e R s m args below meth c Z y bytes mx ret n0 T' h cells slots → Go p e below Q (T'.setTop (mkF m pc' Ls (v :: st)))) : Go p e below Q (T.setTop (mkF m pc Ls st)) := by
  obtain ⟨hd, rfl⟩ := hd; obtain ⟨B, locs, X, N, eT⟩ := id P
  obtain ⟨T', X', e', stp⟩ := getS2 X P.hx P.hZ P.hown w via eT F (g := mkF m pc Ls st) rfl (P.dec hd)
  exact Go.of stp (G T' ⟨B, locs, X', N, e'⟩)
theorem g_putF (P : Pl p l e R s m args below meth c Z y bytes mx ret n0 T h cells slots) {R0 O n d host C : String} {index kk : Nat} {ty : FieldType} {a : Addr} {v old : Value} (hd : D bytes pc (.putfield index) 3 pc') (w : (Cond.fieldLink y.cls index R0 n d).before a0 Z = true ∨ (Cond.fieldLinkNest y.cls index R0 n d host).before a0 Z = true) (via : Via Z R0 O n d) (F : Fld Z h a O n d old) (E : Exa Z h a C)
    (L : (Cond.lays C O n d).before a0 Z = true ∨ ((Cond.laysFinal C O n d).before a0 Z = true ∧ y.cls = O ∧ y.name = "<init>")) (wi : (Cond.instantiable C kk).before a0 Z = true) (hty : parseFieldDescriptor d = some ty) (hn : narrow ty v = v) (hf : fits ty v = true) (ge : n0 ≤ a)
    (G : ∀ T' h', Pl p l e R s m args below meth c Z y bytes mx ret n0 T' h' cells slots → Wr h h' a (Jvm.RoadKit.slotOf Z O n d) v → Go p e below Q (T'.setTop (mkF m pc' Ls st))) : Go p e below Q (T.setTop (mkF m pc Ls (v :: .ref a :: st))) := by
  obtain ⟨hd, rfl⟩ := hd; obtain ⟨B, locs, X, N, eT⟩ := id P
  obtain ⟨T', h', X', e', W, stp⟩ := putF X P.hx P.hZ P.hown w via eT F E (L.imp id fun q => ⟨q.1, q.2.1, P.hnm.trans q.2.2⟩) wi hty hn hf (g := mkF m pc Ls (v :: .ref a :: st)) rfl rfl (P.dec hd)
  exact Go.of stp (G T' h' ⟨B, _, X', Fr.snoc X' N ge, e'⟩ W)
theorem g_new (P : Pl p l e R s m args below meth c Z y bytes mx ret n0 T h cells slots) {C : String} {index n : Nat} (hd : D bytes pc (.new index) 3 pc') (w : (Cond.classLink y.cls index C).before a0 Z = true) (wi : (Cond.instantiable C n).before a0 Z = true) (wz : (Cond.initialized C).before a0 Z = true) (hc : cells + 1 ≤ R.cells) (hl : slots + n ≤ R.slots)
    (G : ∀ T' h' a, Pl p l e R s m args below meth c Z y bytes mx ret n0 T' h' (cells + 1) (slots + n) → h.size = a → Ext h h' → Exa Z h' a C → (∀ {O nm d : String} {ty : FieldType}, Laid Z a0 C O nm d → parseFieldDescriptor d = some ty → Fld Z h' a O nm d (defaultValue ty)) → Go p e below Q (T'.setTop (mkF m pc' Ls (.ref a :: st)))) : Go p e below Q (T.setTop (mkF m pc Ls st)) := by
  obtain ⟨hd, rfl⟩ := hd; obtain ⟨B, locs, X, N, eT⟩ := id P
  obtain ⟨T', h', X', e', E, A, F, -, stp⟩ := newO X P.hx P.hZ P.hown w wi wz eT (g := mkF m pc Ls st) rfl (P.dec hd) hc hl
  exact Go.of stp (G T' h' _ ⟨B, locs, X', N, e'⟩ rfl E A F)
theorem g_init (P : Pl p l e R s m args below meth c Z y bytes mx ret n0 T h cells slots) {idx : Nat} {a : Addr} (hd : D bytes pc (.invokespecial idx) 3 pc') (w1 : (Cond.methodLink y.cls idx Lib.objectInit).before a0 Z = true) (w2 : (Cond.instanceMethod Lib.objectInit).before a0 Z = true) (w3 : (Cond.code Lib.objectInit ⟨#[0xb1]⟩ 1 none).before a0 Z = true)
    (hs : Ls.size = mx) (hf : 1 ≤ R.frames) {W : Nat} (hW : (st.map fun v => v.category).sum = W) (hl : W + 12 ≤ R.locals)
    (G : ∀ T', Pl p l e R s m args below meth c Z y bytes mx ret n0 T' h cells slots → Go p e below Q (T'.setTop (mkF m pc' Ls st))) : Go p e below Q (T.setTop (mkF m pc Ls (.ref a :: st))) := by
  obtain ⟨hd, rfl⟩ := hd; obtain ⟨B, locs, X, N, eT⟩ := id P
  obtain ⟨T', X', e', stp⟩ := initO X P.hx P.hZ P.hown w1 w2 w3 eT (g := mkF m pc Ls (.ref a :: st)) rfl (by rw [P.hml]; exact hs) rfl (P.dec hd) hf (W := W) (by show 2 * 0 + _ ≤ W; omega) hl
  exact Go.of stp (G T' ⟨B, locs, X', N, e'⟩)
/-! what a body leaves; its contract; the ends -/
def Done (s : State) (R : Room) (n0 : Nat) (Qc : Option Value → Heap → Prop) (o : Outcome) (U : State) : Prop := ∃ v L, o = .returned v ∧ (Fr n0 L ∧ Qc v U.heap) ∧ FrameEnd s o U L R.cells R.slots
def Met (l : Launch) (Z : State) (y : MethodName) (bytes : ByteArray) (mx : Nat) (ret : Option FieldType) (rm : Room) (n0 : Nat) (as' : Array Value) (h : Heap) (Qc : Option Value → Heap → Prop) : Prop :=
  ∀ ws, MetFree l y (head1 (Jvm.Cond.code y bytes mx ret :: ws) rm) (fun a U => a = as' ∧ Z.Warmed39 U.vm ∧ U.heap = h) (fun _ _ _ _ _ => True) (fun _ U o U' => ∃ v L, o = .returned v ∧ (Fr n0 L ∧ Qc v U'.heap) ∧ FrameEnd U o U' L rm.cells rm.slots)
theorem Met.intro {Qc : Option Value → Heap → Prop} {rm : Room} {as' : Array Value} (pn : plainFor y = true)
    (body : ∀ p e s m below meth c T, Pl p l e rm s m as' below meth c Z y bytes mx ret n0 T h 0 0 → Go p e below (Done s rm n0 Qc) (T.setTop (entryFrame m as' mx))) : Met l Z y bytes mx ret rm n0 as' h Qc := by
  intro ws
  refine MetFree.of_bodySF pn hisR ?_
  intro p e s m args below meth c s₁ Bd hml0 hP hK
  obtain ⟨rfl, hZ, hh⟩ := hP
  have X0 : Stand p l e rm s m args below meth c s₁ [] 0 0 := Stand.of_body Bd
  have e0 : s₁.heap = h := by rw [← hh, Bd.state]; rfl
  exact body p e s m below meth c s₁ ⟨⟨Bd.exec, hZ, findClass_of_methodNamed Bd.named, (name_of_methodNamed Bd.named Bd.method).1, Bd.bytes, hml0, Bd.returns, BodyLoose.notSynchronized Bd⟩, [], X0, Fr.nil n0, e0⟩
theorem Go.cast {g g' : JFrame} (q : g = g') (G : Go p e below Q (T.setTop g')) : Go p e below Q (T.setTop g) := q ▸ G
theorem Go.fin {Qc : Option Value → Heap → Prop} {v : Option Value} {g : JFrame} (P : Pl p l e R s m args below meth c Z y bytes mx ret n0 T h cells slots) (hv : ret = none → v = none) (hc : cells ≤ R.cells) (hl : slots ≤ R.slots)
    (k : ∀ fs, (∀ (f : JFrame) (acts : List Action), f.method = m → f.locked = none → f.entered = [] → (doReturn e (T.setTop f) acts v).1 = T.setFrames fs) → Steps p.tables e below (T.setTop g) (T.setFrames fs)) (q : Qc v h) : Go p e below (Done s R n0 Qc) (T.setTop g) := by
  obtain ⟨B, locs, X, N, eT⟩ := id P
  obtain ⟨fs, hr, hrun, hended, hW, hsame⟩ := X.leave (v := v) (fun q => hv (P.hrt.symm.trans q)) P.hlk
  exact ⟨_, _, k fs hr, hrun, hended, v, locs, rfl, ⟨N, by show Qc v T.heap; rw [eT]; exact q⟩, ⟨_, rfl⟩, hW, hsame.mono hc hl⟩
theorem g_retI {Qc : Option Value → Heap → Prop} {z : Int32} (P : Pl p l e R s m args below meth c Z y bytes mx (some .int) n0 T h cells slots) (hd : D bytes pc .ireturn 1 pc') (hc : cells ≤ R.cells) (hl : slots ≤ R.slots) (q : Qc (some (.int z)) h) : Go p e below (Done s R n0 Qc) (T.setTop (mkF m pc Ls (.int z :: st))) := by
  obtain ⟨B, locs, X, N, eT⟩ := id P
  exact Go.fin P (fun q => by cases q) hc hl (fun fs hr => retOut X P.hx P.hrt rfl (Or.inl ⟨rfl, Or.inl rfl, _, rfl⟩) (P.dec hd.1) hr) q
theorem g_retZ {Qc : Option Value → Heap → Prop} {z : Int32} (P : Pl p l e R s m args below meth c Z y bytes mx (some .boolean) n0 T h cells slots) (hd : D bytes pc .ireturn 1 pc') (hz : z &&& 1 = z) (hc : cells ≤ R.cells) (hl : slots ≤ R.slots) (q : Qc (some (.int z)) h) : Go p e below (Done s R n0 Qc) (T.setTop (mkF m pc Ls (.int z :: st))) := by
  obtain ⟨B, locs, X, N, eT⟩ := id P
  exact Go.fin P (fun q => by cases q) hc hl (fun fs hr => retN X P.hx (t := .boolean) P.hrt (by simp) (P.dec hd.1) (by show ∀ (f : JFrame) (acts : List Action), _ → _ → _ → (doReturn e (T.setTop f) acts (some (.int (z &&& 1)))).1 = _; rw [hz]; exact hr)) q
theorem g_retA {Qc : Option Value → Heap → Prop} {w : Value} {t : FieldType} (P : Pl p l e R s m args below meth c Z y bytes mx (some t) n0 T h cells slots) (hd : D bytes pc .areturn 1 pc') (ht : t.isReference = true) (hw : w.isRef = true) (hn : narrow t w = w) (hc : cells ≤ R.cells) (hl : slots ≤ R.slots) (q : Qc (some w) h) : Go p e below (Done s R n0 Qc) (T.setTop (mkF m pc Ls (w :: st))) := by
  obtain ⟨B, locs, X, N, eT⟩ := id P
  exact Go.fin P (fun q => by cases q) hc hl (fun fs hr => retOut X P.hx P.hrt hn (Or.inr (Or.inr (Or.inr (Or.inr ⟨rfl, ht, hw⟩)))) (P.dec hd.1) hr) q
theorem g_ret {Qc : Option Value → Heap → Prop} (P : Pl p l e R s m args below meth c Z y bytes mx none n0 T h cells slots) (hd : D bytes pc .return_ 1 pc') (hc : cells ≤ R.cells) (hl : slots ≤ R.slots) (q : Qc none h) : Go p e below (Done s R n0 Qc) (T.setTop (mkF m pc Ls [])) := by
  obtain ⟨B, locs, X, N, eT⟩ := id P
  exact Go.fin P (fun _ => rfl) hc hl (fun fs hr => X.returnOut P.hx P.hrt (P.dec hd.1) hr) q
/-! the calls -/
theorem g_static (P : Pl p l e R s m args below meth c Z y bytes mx ret n0 T h cells slots) {y' : MethodName} {bytes' : ByteArray} {mx' : Nat} {ret' : Option FieldType} {rm : Room} {Qc : Option Value → Heap → Prop} {index : Nat} {ps : List FieldType} {r : Option FieldType} (argsL : List Value) {stk rest : List Value} {W : Nat}
    (hd : D bytes pc (.invokestatic index) 3 pc') (w1 : (Cond.methodLink y.cls index y').before a0 Z = true) (w2 : (Cond.static y').before a0 Z = true) (w3 : (Cond.initialized y'.cls).before a0 Z = true) (w4 : (Cond.code y' bytes' mx' ret').before a0 Z = true) (hy : y'.cls ≠ "java/lang/invoke/MethodHandle" ∧ y'.cls ≠ "java/lang/invoke/VarHandle")
    (M : Met l Z y' bytes' mx' ret' rm n0 argsL.toArray h Qc) (pd : parseMethodDescriptor y'.desc = some ⟨ps, r⟩) (hl : argsL.length = ps.length) (hs : stk = argsL.reverse ++ rest) (hmx : Ls.size = mx) (hW : (rest.map fun v => v.category).sum = W)
    (hf : rm.frames + 1 ≤ R.frames) (hlo : W + (mx' + 11) + rm.locals ≤ R.locals) (hc : cells + rm.cells ≤ R.cells) (hsl : slots + rm.slots ≤ R.slots)
    (G : ∀ v T' h', Pl p l e R s m args below meth c Z y bytes mx ret n0 T' h' (cells + rm.cells) (slots + rm.slots) → Qc v h' → Go p e below Q (T'.setTop (mkF m pc' Ls (v.toList ++ rest)))) : Go p e below Q (T.setTop (mkF m pc Ls stk)) := by
  obtain ⟨hd, rfl⟩ := hd; obtain ⟨B, locs, X, N, eT⟩ := id P
  obtain ⟨v, _, ⟨T', L', k', n'⟩, -, X', ⟨Lc, hQ, l', y'', z'⟩, stp⟩ := Jvm.LawKit.callS X P.hx (y := y') P.hown (mvT P.hZ w1) (mvT P.hZ w2) (mvT P.hZ w3) (mvT P.hZ w4) hy (backOf (W := W) (Q := fun v h L => Fr n0 L ∧ Qc v h) (M []) P.hZ w4 w3 hf hlo) (g := mkF m pc Ls stk) rfl (by rw [P.hml]; exact hmx) (argsL := argsL) (rest := rest) (lenOf pd hl) hs (by show 2 * 0 + _ ≤ W; omega) (P.dec hd) (fun _ _ => ⟨rfl, eT, hc, hsl⟩)
  dsimp only [Pt.U, Pt.locs, Pt.cells, Pt.slots] at X' l' y'' z' stp hQ
  subst l' y'' z'
  exact Go.of stp (G v T' T'.heap ⟨B, _, X', Fr.app N hQ.1, rfl⟩ hQ.2)
theorem g_special (P : Pl p l e R s m args below meth c Z y bytes mx ret n0 T h cells slots) {y' : MethodName} {bytes' : ByteArray} {mx' : Nat} {rm : Room} {Qc : Option Value → Heap → Prop} {index : Nat} {ps : List FieldType} {r : Option FieldType} (a : Addr) (argsL : List Value) {stk rest : List Value} {W : Nat}
    (hd : D bytes pc (.invokespecial index) 3 pc') (hin : y'.name = "<init>") (w1 : (Cond.methodLink y.cls index y').before a0 Z = true) (w2 : (Cond.instanceMethod y').before a0 Z = true) (w3 : (Cond.initialized y'.cls).before a0 Z = true) (w4 : (Cond.code y' bytes' mx' none).before a0 Z = true) (hy : y'.cls ≠ "java/lang/invoke/MethodHandle" ∧ y'.cls ≠ "java/lang/invoke/VarHandle")
    (M : Met l Z y' bytes' mx' none rm n0 (.ref a :: argsL).toArray h Qc) (pd : parseMethodDescriptor y'.desc = some ⟨ps, r⟩) (hl : argsL.length = ps.length) (hs : stk = argsL.reverse ++ .ref a :: rest) (hmx : Ls.size = mx) (hW : (rest.map fun v => v.category).sum = W)
    (hf : rm.frames + 1 ≤ R.frames) (hlo : W + (mx' + 11) + rm.locals ≤ R.locals) (hc : cells + rm.cells ≤ R.cells) (hsl : slots + rm.slots ≤ R.slots)
    (G : ∀ v T' h', Pl p l e R s m args below meth c Z y bytes mx ret n0 T' h' (cells + rm.cells) (slots + rm.slots) → Qc v h' → Go p e below Q (T'.setTop (mkF m pc' Ls (v.toList ++ rest)))) : Go p e below Q (T.setTop (mkF m pc Ls stk)) := by
  obtain ⟨hd, rfl⟩ := hd; obtain ⟨B, locs, X, N, eT⟩ := id P
  obtain ⟨v, _, ⟨T', L', k', n'⟩, -, X', ⟨Lc, hQ, l', y'', z'⟩, stp⟩ := X.specialBack P.hx (y := y') hin P.hown (mvT P.hZ w1) (mvT P.hZ w2) (mvT P.hZ w4) hy (backOf (W := W) (Q := fun v h L => Fr n0 L ∧ Qc v h) (M []) P.hZ w4 w3 hf hlo) (g := mkF m pc Ls stk) rfl (by rw [P.hml]; exact hmx) (Steps.refl _) (a := a) (argsL := argsL) (rest := rest) (lenOf pd hl) hs (by show 2 * 0 + _ ≤ W; omega) (P.dec hd) (fun _ _ => ⟨rfl, eT, hc, hsl⟩)
  dsimp only [Pt.U, Pt.locs, Pt.cells, Pt.slots] at X' l' y'' z' stp hQ
  subst l' y'' z'
  exact Go.tr stp (G v T' T'.heap ⟨B, _, X', Fr.app N hQ.1, rfl⟩ hQ.2)
theorem g_virtual (P : Pl p l e R s m args below meth c Z y bytes mx ret n0 T h cells slots) {y' : MethodName} {C : String} {bytes' : ByteArray} {mx' : Nat} {ret' : Option FieldType} {rm : Room} {Qc : Option Value → Heap → Prop} {index : Nat} {ps : List FieldType} {r : Option FieldType} (a : Addr) (argsL : List Value) {stk rest : List Value} {W : Nat}
    (hd : D bytes pc (.invokevirtual index) 3 pc') (w1 : (Cond.methodLink y.cls index y').before a0 Z = true) (w2 : (Cond.declares y').before a0 Z = true) (w3 : (Cond.selects C y' y').before a0 Z = true) (w4 : (Cond.instanceMethod y').before a0 Z = true) (w5 : (Cond.initialized y'.cls).before a0 Z = true) (w6 : (Cond.code y' bytes' mx' ret').before a0 Z = true) (hy : y'.cls ≠ "java/lang/invoke/MethodHandle" ∧ y'.cls ≠ "java/lang/invoke/VarHandle")
    (E : Exa Z h a C) (M : Met l Z y' bytes' mx' ret' rm n0 (.ref a :: argsL).toArray h Qc) (pd : parseMethodDescriptor y'.desc = some ⟨ps, r⟩) (hl : argsL.length = ps.length) (hs : stk = argsL.reverse ++ .ref a :: rest) (hmx : Ls.size = mx) (hW : (rest.map fun v => v.category).sum = W)
    (hf : rm.frames + 1 ≤ R.frames) (hlo : W + (mx' + 11) + rm.locals ≤ R.locals) (hc : cells + rm.cells ≤ R.cells) (hsl : slots + rm.slots ≤ R.slots)
    (G : ∀ v T' h', Pl p l e R s m args below meth c Z y bytes mx ret n0 T' h' (cells + rm.cells) (slots + rm.slots) → Qc v h' → Go p e below Q (T'.setTop (mkF m pc' Ls (v.toList ++ rest)))) : Go p e below Q (T.setTop (mkF m pc Ls stk)) := by
  obtain ⟨hd, rfl⟩ := hd; obtain ⟨B, locs, X, N, eT⟩ := id P
  obtain ⟨cq, kq, qa, qb, qc⟩ := isOf P.hZ eT E
  obtain ⟨v, _, ⟨T', L', k', n'⟩, -, X', ⟨Lc, hQ, l', y'', z'⟩, stp⟩ := X.virtualBack P.hx (y := y') (z := y') P.hown (mvT P.hZ w1) (mvT P.hZ w2) (notFace_of_selects (args := #[]) (mvT P.hZ w3)) (mvT P.hZ w3) (mvT P.hZ w4) hy (backOf (W := W) (Q := fun v h L => Fr n0 L ∧ Qc v h) (M []) P.hZ w6 w5 hf hlo) qa qc (g := mkF m pc Ls stk) rfl (by rw [P.hml]; exact hmx) (Steps.refl _) (argsL := argsL) (rest := rest) (lenOf pd hl) hs (by show 2 * 0 + _ ≤ W; omega) (P.dec hd) (fun _ _ => ⟨rfl, eT, hc, hsl⟩)
  dsimp only [Pt.U, Pt.locs, Pt.cells, Pt.slots] at X' l' y'' z' stp hQ
  subst l' y'' z'
  exact Go.tr stp (G v T' T'.heap ⟨B, _, X', Fr.app N hQ.1, rfl⟩ hQ.2)
end OwnGo
/-! OWN 2: small facts -/
section OwnSmall
variable {args : Array Value} {Z : State} {a b : Addr}
theorem ac_t (h : a = b) : XT.acmp .eq (.ref a) (.ref b) = true ∧ XT.acmp .ne (.ref a) (.ref b) = false := ⟨decide_eq_true (by rw [h]), decide_eq_false (fun q => q (by rw [h]))⟩
theorem ac_f (h : ¬ a = b) : XT.acmp .eq (.ref a) (.ref b) = false ∧ XT.acmp .ne (.ref a) (.ref b) = true := ⟨decide_eq_false (fun q => h (by cases q; rfl)), decide_eq_true (fun q => h (by cases q; rfl))⟩
theorem eqI {t : Term} {z : Int32} (h : (Cond.eq t (.int z)).value args Z none Z [] = some true) : t.eval args Z none [] Z = some (.int z) := Cond.eq_int (Cond.before_iff.mpr h) rfl
theorem dT {q : Prop} [Decidable q] (h : decide q = true) : q := of_decide_eq_true h
theorem nN (h : @Ne Nat a b) : a ≠ b := h
theorem ltN {n : Nat} (h : a < n) : @LT.lt Nat _ a n := h
theorem i32_of {i j : Int32} (h : i.toInt = j.toInt) : i = j := Int32.toInt_inj.mp h
theorem rem_mask (k n : Int32) (hn : 0 < n.toInt) : 0 ≤ ((k &&& 2147483647) % n).toInt ∧ ((k &&& 2147483647) % n).toInt < n.toInt := by
  rw [Jvm.Kit.i32_rem_nonneg (by rw [Jvm.Kit.i32_mask k 2147483647 (k := 31) (by decide) (by decide)]; exact Int.emod_nonneg _ (by decide))]
  exact ⟨Int.emod_nonneg _ (by omega), Int.emod_lt_of_pos _ hn⟩
theorem mask_nn (k : Int32) : ¬ (k &&& (2147483647 : Int32)) < 0 := by
  rw [Int32.lt_iff_toInt_lt, Jvm.Kit.i32_mask k 2147483647 (k := 31) (by decide) (by decide)]
  have : (0 : Int32).toInt = 0 := rfl
  have := Int.emod_nonneg k.toInt (show (2 ^ 31 : Int) ≠ 0 by decide)
  omega
theorem cases3 {i : Int32} (h : 0 ≤ i.toInt ∧ i.toInt < (3 : Int32).toInt) : i = 0 ∨ i = 1 ∨ i = 2 := by
  have h5 : (3 : Int32).toInt = 3 := rfl
  rcases (by omega : i.toInt = 0 ∨ i.toInt = 1 ∨ i.toInt = 2) with q | q | q
  · exact Or.inl (i32_of q)
  · exact Or.inr (Or.inl (i32_of q))
  · exact Or.inr (Or.inr (i32_of q))
theorem sta_keep {h h' : Heap} {C n d : String} {v : Value} {ws : List Addr} (F : Sta Z h C n d v) (K : Keep h h' ws) (q : ∀ x ∈ ws, ∃ c : Cell, h[x]? = some c ∧ c.vm.isStatics = false) : Sta Z h' C n d v := by
  obtain ⟨cf, i, k, f, st, cell, h1, h2, h3, h4, h5, h6, h7⟩ := F
  refine ⟨cf, i, k, f, st, cell, h1, h2, h3, h4, K.2.1 st cell h5 fun r => ?_, h6, h7⟩
  obtain ⟨c, q1, q2⟩ := q st r
  cases h5.symm.trans q1
  rw [h6] at q2; cases q2
theorem plain1 {h : Heap} {C : String} (A : Exa Z h a C) : ∀ x ∈ [a], ∃ c : Cell, h[x]? = some c ∧ c.vm.isStatics = false := fun x hx => by
  cases List.mem_singleton.mp hx; obtain ⟨c, _, q, -, -, r, -⟩ := A; exact ⟨c, q, r⟩
theorem cases4 {i : Int32} (h : 0 ≤ i.toInt ∧ i.toInt < (4 : Int32).toInt) : i = 0 ∨ i = 1 ∨ i = 2 ∨ i = 3 := by
  have h5 : (4 : Int32).toInt = 4 := rfl
  rcases (by omega : i.toInt = 0 ∨ i.toInt = 1 ∨ i.toInt = 2 ∨ i.toInt = 3) with q | q | q | q
  · exact Or.inl (i32_of q)
  · exact Or.inr (Or.inl (i32_of q))
  · exact Or.inr (Or.inr (Or.inl (i32_of q)))
  · exact Or.inr (Or.inr (Or.inr (i32_of q)))
theorem cases5 {i : Int32} (h : 0 ≤ i.toInt ∧ i.toInt < (5 : Int32).toInt) : i = 0 ∨ i = 1 ∨ i = 2 ∨ i = 3 ∨ i = 4 := by
  have h5 : (5 : Int32).toInt = 5 := rfl
  rcases (by omega : i.toInt = 0 ∨ i.toInt = 1 ∨ i.toInt = 2 ∨ i.toInt = 3 ∨ i.toInt = 4) with q | q | q | q | q
  · exact Or.inl (i32_of q)
  · exact Or.inr (Or.inl (i32_of q))
  · exact Or.inr (Or.inr (Or.inl (i32_of q)))
  · exact Or.inr (Or.inr (Or.inr (Or.inl (i32_of q))))
  · exact Or.inr (Or.inr (Or.inr (Or.inr (i32_of q))))
theorem cases7 {i : Int32} (h : 0 ≤ i.toInt ∧ i.toInt < (7 : Int32).toInt) : i = 0 ∨ i = 1 ∨ i = 2 ∨ i = 3 ∨ i = 4 ∨ i = 5 ∨ i = 6 := by
  have h5 : (7 : Int32).toInt = 7 := rfl
  rcases (by omega : i.toInt = 0 ∨ i.toInt = 1 ∨ i.toInt = 2 ∨ i.toInt = 3 ∨ i.toInt = 4 ∨ i.toInt = 5 ∨ i.toInt = 6) with q | q | q | q | q | q | q
  · exact Or.inl (i32_of q)
  · exact Or.inr (Or.inl (i32_of q))
  · exact Or.inr (Or.inr (Or.inl (i32_of q)))
  · exact Or.inr (Or.inr (Or.inr (Or.inl (i32_of q))))
  · exact Or.inr (Or.inr (Or.inr (Or.inr (Or.inl (i32_of q)))))
  · exact Or.inr (Or.inr (Or.inr (Or.inr (Or.inr (Or.inl (i32_of q))))))
  · exact Or.inr (Or.inr (Or.inr (Or.inr (Or.inr (Or.inr (i32_of q))))))
end OwnSmall
/-! OWN 3: more steps: longs, null tests, a switch, arrays as lists, casts -/
section OwnMore
variable {p : Program} {l : Launch} {e : Env} {R : Room} {s : State} {m : MethodId} {args : Array Value} {below : List Frame} {meth : Method} {c : Code} {Z : State} {y : MethodName} {bytes : ByteArray} {mx : Nat} {ret : Option FieldType} {n0 : Nat} {T T' : State} {h h' : Heap} {cells slots : Nat} {Q : Outcome → State → Prop} {pc pc' : Nat} {Ls : Array Slot} {st : List Value} {a0 : Array Value}
theorem g_sipush (P : Pl p l e R s m args below meth c Z y bytes mx ret n0 T h cells slots) {i : Int} {v : Int32} (hd : D bytes pc (.sipush i) 3 pc') (hv : (Int16.ofInt i).toInt32 = v) (G : Go p e below Q (T.setTop (mkF m pc' Ls (.int v :: st)))) : Go p e below Q (T.setTop (mkF m pc Ls st)) := by
  obtain ⟨hd, rfl⟩ := hd; subst hv; exact Go.of (fun _ => XS.sipush P.here P.hx rfl (P.dec hd)) G
theorem g_lconst (P : Pl p l e R s m args below meth c Z y bytes mx ret n0 T h cells slots) {k : Fin 2} {v : Int64} (hd : D bytes pc (.lconst k) 1 pc') (hv : Int64.ofNat k = v) (G : Go p e below Q (T.setTop (mkF m pc' Ls (.long v :: st)))) : Go p e below Q (T.setTop (mkF m pc Ls st)) := by
  obtain ⟨hd, rfl⟩ := hd; subst hv; exact Go.of (fun _ => XT.lconst P.here P.hx rfl (P.dec hd)) G
theorem g_ldc2 (P : Pl p l e R s m args below meth c Z y bytes mx ret n0 T h cells slots) {index : Nat} {v : Int64} (hd : D bytes pc (.ldc2_w index) 3 pc') (w : (Cond.constantLong y.cls index v).before a0 Z = true) (G : Go p e below Q (T.setTop (mkF m pc' Ls (.long v :: st)))) : Go p e below Q (T.setTop (mkF m pc Ls st)) := by
  obtain ⟨hd, rfl⟩ := hd; obtain ⟨-, _, X, -⟩ := id P; exact Go.of (fun _ => X.ldc2J P.hx P.hown (mvT P.hZ w) rfl (P.dec hd)) G
theorem g_ladd (P : Pl p l e R s m args below meth c Z y bytes mx ret n0 T h cells slots) {x z : Int64} (hd : D bytes pc .ladd 1 pc') (G : Go p e below Q (T.setTop (mkF m pc' Ls (.long (x + z) :: st)))) : Go p e below Q (T.setTop (mkF m pc Ls (.long z :: .long x :: st))) := by
  obtain ⟨hd, rfl⟩ := hd; exact Go.of (fun _ => XT.ladd P.here P.hx rfl (P.dec hd) rfl) G
theorem g_lsub (P : Pl p l e R s m args below meth c Z y bytes mx ret n0 T h cells slots) {x z : Int64} (hd : D bytes pc .lsub 1 pc') (G : Go p e below Q (T.setTop (mkF m pc' Ls (.long (x - z) :: st)))) : Go p e below Q (T.setTop (mkF m pc Ls (.long z :: .long x :: st))) := by
  obtain ⟨hd, rfl⟩ := hd; exact Go.of (fun _ => XT.lsub P.here P.hx rfl (P.dec hd) rfl) G
theorem g_lcmp (P : Pl p l e R s m args below meth c Z y bytes mx ret n0 T h cells slots) {x z : Int64} (hd : D bytes pc .lcmp 1 pc') (G : Go p e below Q (T.setTop (mkF m pc' Ls (.int (XT.cmpL x z) :: st)))) : Go p e below Q (T.setTop (mkF m pc Ls (.long z :: .long x :: st))) := by
  obtain ⟨hd, rfl⟩ := hd; exact Go.of (fun _ => XT.lcmp P.here P.hx rfl (P.dec hd) rfl) G
theorem g_i2l (P : Pl p l e R s m args below meth c Z y bytes mx ret n0 T h cells slots) {x : Int32} (hd : D bytes pc .i2l 1 pc') (G : Go p e below Q (T.setTop (mkF m pc' Ls (.long (x).toInt64 :: st)))) : Go p e below Q (T.setTop (mkF m pc Ls (.int x :: st))) := by
  obtain ⟨hd, rfl⟩ := hd; exact Go.of (fun _ => XT.i2l P.here P.hx rfl (P.dec hd) rfl) G
theorem g_l2i (P : Pl p l e R s m args below meth c Z y bytes mx ret n0 T h cells slots) {x : Int64} (hd : D bytes pc .l2i 1 pc') (G : Go p e below Q (T.setTop (mkF m pc' Ls (.int (x).toInt32 :: st)))) : Go p e below Q (T.setTop (mkF m pc Ls (.long x :: st))) := by
  obtain ⟨hd, rfl⟩ := hd; exact Go.of (fun _ => XT.l2i P.here P.hx rfl (P.dec hd) rfl) G
theorem g_i2b (P : Pl p l e R s m args below meth c Z y bytes mx ret n0 T h cells slots) {x : Int32} (hd : D bytes pc .i2b 1 pc') (G : Go p e below Q (T.setTop (mkF m pc' Ls (.int (x).toInt8.toInt32 :: st)))) : Go p e below Q (T.setTop (mkF m pc Ls (.int x :: st))) := by
  obtain ⟨hd, rfl⟩ := hd; exact Go.of (fun _ => XT.i2b P.here P.hx rfl (P.dec hd) rfl) G
theorem g_idiv (P : Pl p l e R s m args below meth c Z y bytes mx ret n0 T h cells slots) {x z v : Int32} (hd : D bytes pc .idiv 1 pc') (hz : z ≠ 0) (hv : x / z = v) (G : Go p e below Q (T.setTop (mkF m pc' Ls (.int v :: st)))) : Go p e below Q (T.setTop (mkF m pc Ls (.int z :: .int x :: st))) := by
  obtain ⟨hd, rfl⟩ := hd; subst hv; exact Go.of (fun _ => XS.idiv P.here P.hx rfl (P.dec hd) rfl hz) G
theorem g_ior (P : Pl p l e R s m args below meth c Z y bytes mx ret n0 T h cells slots) {x z v : Int32} (hd : D bytes pc .ior 1 pc') (hv : x ||| z = v) (G : Go p e below Q (T.setTop (mkF m pc' Ls (.int v :: st)))) : Go p e below Q (T.setTop (mkF m pc Ls (.int z :: .int x :: st))) := by
  obtain ⟨hd, rfl⟩ := hd; subst hv; exact Go.of (fun _ => XT.ior P.here P.hx rfl (P.dec hd) rfl) G
theorem g_ixor (P : Pl p l e R s m args below meth c Z y bytes mx ret n0 T h cells slots) {x z v : Int32} (hd : D bytes pc .ixor 1 pc') (hv : x ^^^ z = v) (G : Go p e below Q (T.setTop (mkF m pc' Ls (.int v :: st)))) : Go p e below Q (T.setTop (mkF m pc Ls (.int z :: .int x :: st))) := by
  obtain ⟨hd, rfl⟩ := hd; subst hv; exact Go.of (fun _ => XT.ixor P.here P.hx rfl (P.dec hd) rfl) G
theorem g_ishl (P : Pl p l e R s m args below meth c Z y bytes mx ret n0 T h cells slots) {x z v : Int32} (hd : D bytes pc .ishl 1 pc') (hv : x <<< (z &&& 31) = v) (G : Go p e below Q (T.setTop (mkF m pc' Ls (.int v :: st)))) : Go p e below Q (T.setTop (mkF m pc Ls (.int z :: .int x :: st))) := by
  obtain ⟨hd, rfl⟩ := hd; subst hv; exact Go.of (fun _ => XT.ishl P.here P.hx rfl (P.dec hd) rfl) G
theorem g_ishr (P : Pl p l e R s m args below meth c Z y bytes mx ret n0 T h cells slots) {x z v : Int32} (hd : D bytes pc .ishr 1 pc') (hv : x >>> (z &&& 31) = v) (G : Go p e below Q (T.setTop (mkF m pc' Ls (.int v :: st)))) : Go p e below Q (T.setTop (mkF m pc Ls (.int z :: .int x :: st))) := by
  obtain ⟨hd, rfl⟩ := hd; subst hv; exact Go.of (fun _ => XT.ishr P.here P.hx rfl (P.dec hd) rfl) G
theorem g_dupX1 (P : Pl p l e R s m args below meth c Z y bytes mx ret n0 T h cells slots) {x z : Value} (hd : D bytes pc .dup_x1 1 pc') (hc : x.category = 1) (hc' : z.category = 1) (G : Go p e below Q (T.setTop (mkF m pc' Ls (x :: z :: x :: st)))) : Go p e below Q (T.setTop (mkF m pc Ls (x :: z :: st))) := by
  obtain ⟨hd, rfl⟩ := hd; exact Go.of (fun _ => XT.dupX1 P.here P.hx rfl (P.dec hd) rfl hc hc') G
theorem g_dup2 (P : Pl p l e R s m args below meth c Z y bytes mx ret n0 T h cells slots) {x z : Value} (hd : D bytes pc .dup2 1 pc') (hc : x.category = 1) (hc' : z.category = 1) (G : Go p e below Q (T.setTop (mkF m pc' Ls (x :: z :: x :: z :: st)))) : Go p e below Q (T.setTop (mkF m pc Ls (x :: z :: st))) := by
  obtain ⟨hd, rfl⟩ := hd; exact Go.of (fun _ => XT.dup2 P.here P.hx rfl (P.dec hd) rfl hc hc') G
theorem g_ifnullYes (P : Pl p l e R s m args below meth c Z y bytes mx ret n0 T h cells slots) {o : Int} {q : Nat} (hd : D bytes pc (.ifnull o) 3 q) (pc' : Nat) (ho : 0 ≤ (pc : Int) + o) (hp : ((pc : Int) + o).toNat = pc') (G : Go p e below Q (T.setTop (mkF m pc' Ls st))) : Go p e below Q (T.setTop (mkF m pc Ls (.null :: st))) := by
  obtain ⟨hd, -⟩ := hd; exact Go.of (fun _ => XS.ifnullYes P.here P.hx rfl rfl (P.dec hd) rfl ho hp) G
theorem g_ifnullNo (P : Pl p l e R s m args below meth c Z y bytes mx ret n0 T h cells slots) {o : Int} {b : Addr} (hd : D bytes pc (.ifnull o) 3 pc') (G : Go p e below Q (T.setTop (mkF m pc' Ls st))) : Go p e below Q (T.setTop (mkF m pc Ls (.ref b :: st))) := by
  obtain ⟨hd, rfl⟩ := hd; exact Go.of (fun _ => XS.ifnullNo P.here P.hx rfl (P.dec hd) rfl) G
theorem g_ifnonnullYes (P : Pl p l e R s m args below meth c Z y bytes mx ret n0 T h cells slots) {o : Int} {q : Nat} {b : Addr} (hd : D bytes pc (.ifnonnull o) 3 q) (pc' : Nat) (ho : 0 ≤ (pc : Int) + o) (hp : ((pc : Int) + o).toNat = pc') (G : Go p e below Q (T.setTop (mkF m pc' Ls st))) : Go p e below Q (T.setTop (mkF m pc Ls (.ref b :: st))) := by
  obtain ⟨hd, -⟩ := hd; exact Go.of (fun _ => XT.ifnonnullYes P.here P.hx rfl rfl (P.dec hd) rfl ho hp) G
theorem g_ifnonnullNo (P : Pl p l e R s m args below meth c Z y bytes mx ret n0 T h cells slots) {o : Int} (hd : D bytes pc (.ifnonnull o) 3 pc') (G : Go p e below Q (T.setTop (mkF m pc' Ls st))) : Go p e below Q (T.setTop (mkF m pc Ls (.null :: st))) := by
  obtain ⟨hd, rfl⟩ := hd; exact Go.of (fun _ => XT.ifnonnullNo P.here P.hx rfl (P.dec hd) rfl) G
theorem g_tsw (P : Pl p l e R s m args below meth c Z y bytes mx ret n0 T h cells slots) {dflt low high : Int} {offs : Array Int} {len q : Nat} {o : Int} {i : Int32} (hd : D bytes pc (.tableswitch dflt low high offs) len q) (hin : ¬ (i.toInt < low ∨ i.toInt > high)) (hoff : offs[(i.toInt - low).toNat]? = some o) (pc' : Nat) (ho : 0 ≤ (pc : Int) + o) (hp : ((pc : Int) + o).toNat = pc') (G : Go p e below Q (T.setTop (mkF m pc' Ls st))) : Go p e below Q (T.setTop (mkF m pc Ls (.int i :: st))) := by
  obtain ⟨hd, -⟩ := hd; exact Go.of (fun _ => XS.tswIn (g := mkF m pc Ls (.int i :: st)) P.here P.hx rfl rfl (P.dec hd) rfl hin hoff ho hp) G
/-! an array as a list of values -/
def AL (Z : State) (h : Heap) (a : Addr) (k : ClassId) (ty : FieldType) (vs : List Value) : Prop := ∃ c : Cell, Arr Z h a c ty ∧ c.cls = k ∧ c.slots.toList = vs ∧ vs.length < 2 ^ 31
variable {a b : Addr} {k : ClassId} {ty : FieldType} {vs : List Value} {sl : Nat} {v : Value} {ws : List Addr}
theorem AL.lt (A : AL Z h a k ty vs) : @LT.lt Nat _ a h.size := by obtain ⟨c, q, -⟩ := A; exact q.lt
theorem AL.len (A : AL Z h a k ty vs) : vs.length < 2 ^ 31 := by obtain ⟨c, -, -, -, q⟩ := A; exact q
theorem AL.ext (A : AL Z h a k ty vs) (E : Ext h h') : AL Z h' a k ty vs := by obtain ⟨c, q, r⟩ := A; exact ⟨c, q.ext E, r⟩
theorem AL.other (A : AL Z h b k ty vs) (W : Wr h h' a sl v) (q : b ≠ a) : AL Z h' b k ty vs := by obtain ⟨c, A, r⟩ := A; exact ⟨c, A.other W q, r⟩
theorem AL.keep (A : AL Z h a k ty vs) (K : Keep h h' ws) (q : a ∉ ws) : AL Z h' a k ty vs := by obtain ⟨c, A, r⟩ := A; exact ⟨c, ⟨K.2.1 a c A.1 q, A.2⟩, r⟩
theorem AL.new {n : Int32} (A : Arr Z h a (newA k ty n) ty) (q : ¬ n < 0) : AL Z h a k ty (List.replicate n.toNatClampNeg (defaultValue ty)) :=
  ⟨_, A, rfl, by show (Array.replicate _ _).toList = _; rw [Array.toList_replicate], by rw [List.length_replicate]; exact (back32 q).2⟩
theorem AL.set (A : AL Z h a k ty vs) (W : Wr h h' a sl v) : AL Z h' a k ty (vs.set sl v) := by
  obtain ⟨c, A, r1, r2, r3⟩ := A
  refine ⟨_, A.same W, r1, ?_, by rw [List.length_set]; exact r3⟩
  show (c.slots.setIfInBounds sl v).toList = _
  rw [Array.toList_setIfInBounds, r2]
abbrev Ix (j : Int32) (i : Nat) : Prop := ¬ j < 0 ∧ j.toNatClampNeg = i
theorem Ix.of {j : Int32} {i : Nat} (q : j.toInt = i) : Ix j i := ⟨by rw [Int32.lt_iff_toInt_lt]; have : (0 : Int32).toInt = 0 := rfl; omega, by simp only [Int32.toNatClampNeg]; omega⟩
theorem Ix.inb {j : Int32} {i : Nat} {c : Cell} (I : Ix j i) (q : i < c.slots.toList.length) : ¬ (j < 0 ∨ c.slots.size ≤ j.toNatClampNeg) := by
  rw [Array.length_toList] at q
  rintro (r | r)
  · exact I.1 r
  · rw [I.2] at r; omega
theorem lt_of_get {vs : List Value} {i : Nat} (q : vs[i]? = some v) : i < vs.length := (List.getElem?_eq_some_iff.mp q).1
theorem g_newarray (P : Pl p l e R s m args below meth c Z y bytes mx ret n0 T h cells slots) {aty : ArrayType} {n : Int32} (hd : D bytes pc (.newarray aty) 2 pc') (w : (Cond.arrayClass (newarray.typeOf aty)).before a0 Z = true) (hn : ¬ n < 0) (cap : Nat) (hcap : n.toNatClampNeg ≤ cap) (hb : cap * 8 ≤ 536870912) (hc : cells + 1 ≤ R.cells) (hl : slots + cap ≤ R.slots) (ad : String) (had : "[" ++ (newarray.typeOf aty).toString = ad)
    (G : ∀ T' h' a k, Pl p l e R s m args below meth c Z y bytes mx ret n0 T' h' (cells + 1) (slots + cap) → h.size = a → Ext h h' → AL Z h' a k (newarray.typeOf aty) (List.replicate n.toNatClampNeg (defaultValue (newarray.typeOf aty))) → Exa Z h' a ad → Go p e below Q (T'.setTop (mkF m pc' Ls (.ref a :: st)))) : Go p e below Q (T.setTop (mkF m pc Ls (.int n :: st))) := by
  obtain ⟨hd, rfl⟩ := hd; obtain ⟨B, locs, X, N, eT⟩ := id P
  obtain ⟨T', h', cA, X', e', E, A, Ex, stp⟩ := newPE X P.hx P.hZ w eT (g := mkF m pc Ls (.int n :: st)) rfl (P.dec hd) rfl hn hcap hb hc hl had
  exact Go.of stp (G T' h' _ cA ⟨B, locs, X', N, e'⟩ rfl E (AL.new A hn) Ex)
theorem g_anewarray (P : Pl p l e R s m args below meth c Z y bytes mx ret n0 T h cells slots) {C : String} {index : Nat} {n : Int32} (hd : D bytes pc (.anewarray index) 3 pc') (w1 : (Cond.classLink y.cls index C).before a0 Z = true) (w2 : (Cond.arrayOver (.object C)).before a0 Z = true) (hn : ¬ n < 0) (cap : Nat) (hcap : n.toNatClampNeg ≤ cap) (hb : cap * 8 ≤ 536870912) (hc : cells + 1 ≤ R.cells) (hl : slots + cap ≤ R.slots) (ad : String) (had : "[" ++ (FieldType.object C).toString = ad)
    (G : ∀ T' h' a k, Pl p l e R s m args below meth c Z y bytes mx ret n0 T' h' (cells + 1) (slots + cap) → h.size = a → Ext h h' → AL Z h' a k (.object C) (List.replicate n.toNatClampNeg .null) → Exa Z h' a ad → Ovr Z k C → Go p e below Q (T'.setTop (mkF m pc' Ls (.ref a :: st)))) : Go p e below Q (T.setTop (mkF m pc Ls (.int n :: st))) := by
  obtain ⟨hd, rfl⟩ := hd; obtain ⟨B, locs, X, N, eT⟩ := id P
  obtain ⟨T', h', cA, X', e', E, A, Ex, O, stp⟩ := newRE X P.hx P.hZ P.hown w1 w2 eT (g := mkF m pc Ls (.int n :: st)) rfl (P.dec hd) rfl hn hcap hb hc hl had
  exact Go.of stp (G T' h' _ cA ⟨B, locs, X', N, e'⟩ rfl E (AL.new A hn) Ex O)
theorem g_arraylength (P : Pl p l e R s m args below meth c Z y bytes mx ret n0 T h cells slots) {z : Int32} (hd : D bytes pc .arraylength 1 pc') (A : AL Z h a k ty vs) (hz : vs.length.toInt32 = z) (G : Go p e below Q (T.setTop (mkF m pc' Ls (.int z :: st)))) : Go p e below Q (T.setTop (mkF m pc Ls (.ref a :: st))) := by
  obtain ⟨hd, rfl⟩ := hd; obtain ⟨B, locs, X, N, eT⟩ := id P; obtain ⟨cl, A, q1, q2, q3⟩ := A
  subst hz q2
  refine Go.of (fun u => X.arraylength P.hx (by rw [eT]; exact A.1) (State.isArrayOf_alike P.hZ.alike A.2.1) (g := mkF m pc Ls (.ref a :: st)) rfl rfl (P.dec hd) u) ?_
  rw [Array.length_toList] at G
  exact G
theorem g_iaload (P : Pl p l e R s m args below meth c Z y bytes mx ret n0 T h cells slots) {j : Int32} {i : Nat} (hd : D bytes pc .iaload 1 pc') (A : AL Z h a k .int vs) (I : Ix j i) (hv : vs[i]? = some v) (G : Go p e below Q (T.setTop (mkF m pc' Ls (v :: st)))) : Go p e below Q (T.setTop (mkF m pc Ls (.int j :: .ref a :: st))) := by
  obtain ⟨hd, rfl⟩ := hd; obtain ⟨B, locs, X, N, eT⟩ := id P; obtain ⟨cl, A, q1, rfl, q3⟩ := A
  exact Go.of (fun u => X.iaload P.hx (by rw [eT]; exact A.1) (State.isArrayOf_alike P.hZ.alike A.2.1) A.2.2 (I.inb (lt_of_get hv)) (by rw [I.2, ← Array.getElem?_toList]; exact hv) (g := mkF m pc Ls (.int j :: .ref a :: st)) rfl rfl (P.dec hd) u) G
theorem g_baload (P : Pl p l e R s m args below meth c Z y bytes mx ret n0 T h cells slots) {j : Int32} {i : Nat} (hd : D bytes pc .baload 1 pc') (A : AL Z h a k .byte vs) (I : Ix j i) (hv : vs[i]? = some v) (G : Go p e below Q (T.setTop (mkF m pc' Ls (v :: st)))) : Go p e below Q (T.setTop (mkF m pc Ls (.int j :: .ref a :: st))) := by
  obtain ⟨hd, rfl⟩ := hd; obtain ⟨B, locs, X, N, eT⟩ := id P; obtain ⟨cl, A, q1, rfl, q3⟩ := A
  exact Go.of (fun u => X.baloadBytes P.hx (by rw [eT]; exact A.1) (State.isArrayOf_alike P.hZ.alike A.2.1) A.2.2 (I.inb (lt_of_get hv)) (by rw [I.2, ← Array.getElem?_toList]; exact hv) (g := mkF m pc Ls (.int j :: .ref a :: st)) rfl rfl (P.dec hd) u) G
theorem g_aaload (P : Pl p l e R s m args below meth c Z y bytes mx ret n0 T h cells slots) {j : Int32} {i : Nat} (hd : D bytes pc .aaload 1 pc') (A : AL Z h a k ty vs) (hty : ty.isReference = true) (I : Ix j i) (hv : vs[i]? = some v) (G : Go p e below Q (T.setTop (mkF m pc' Ls (v :: st)))) : Go p e below Q (T.setTop (mkF m pc Ls (.int j :: .ref a :: st))) := by
  obtain ⟨hd, rfl⟩ := hd; obtain ⟨B, locs, X, N, eT⟩ := id P; obtain ⟨cl, A, q1, rfl, q3⟩ := A
  exact Go.of (fun u => X.aaload P.hx (by rw [eT]; exact A.1) (State.isArrayOf_alike P.hZ.alike A.2.1) hty A.2.2 (I.inb (lt_of_get hv)) (by rw [I.2, ← Array.getElem?_toList]; exact hv) (g := mkF m pc Ls (.int j :: .ref a :: st)) rfl rfl (P.dec hd) u) G
theorem g_iastore (P : Pl p l e R s m args below meth c Z y bytes mx ret n0 T h cells slots) {j x : Int32} {i : Nat} (hd : D bytes pc .iastore 1 pc') (A : AL Z h a k .int vs) (I : Ix j i) (hi : i < vs.length) (ge : n0 ≤ a)
    (G : ∀ T' h', Pl p l e R s m args below meth c Z y bytes mx ret n0 T' h' cells slots → Wr h h' a i (.int x) → AL Z h' a k .int (vs.set i (.int x)) → Go p e below Q (T'.setTop (mkF m pc' Ls st))) : Go p e below Q (T.setTop (mkF m pc Ls (.int x :: .int j :: .ref a :: st))) := by
  obtain ⟨hd, rfl⟩ := hd; obtain ⟨B, locs, X, N, eT⟩ := id P; obtain ⟨cl, A', q1, q2, q3⟩ := id A
  obtain ⟨T', h', X', e', W, stp⟩ := stI X P.hx P.hZ eT A' (j := j) (x := x) (I.inb (by rw [q2]; exact hi)) (g := mkF m pc Ls (.int x :: .int j :: .ref a :: st)) rfl rfl (P.dec hd)
  rw [I.2] at W
  exact Go.of stp (G T' h' ⟨B, _, X', Fr.snoc X' N ge, e'⟩ W (A.set W))
theorem g_bastoreB (P : Pl p l e R s m args below meth c Z y bytes mx ret n0 T h cells slots) {j x w : Int32} {i : Nat} (hd : D bytes pc .bastore 1 pc') (A : AL Z h a k .byte vs) (I : Ix j i) (hi : i < vs.length) (ge : n0 ≤ a) (hw : x.toInt8.toInt32 = w)
    (G : ∀ T' h', Pl p l e R s m args below meth c Z y bytes mx ret n0 T' h' cells slots → Wr h h' a i (.int w) → AL Z h' a k .byte (vs.set i (.int w)) → Go p e below Q (T'.setTop (mkF m pc' Ls st))) : Go p e below Q (T.setTop (mkF m pc Ls (.int x :: .int j :: .ref a :: st))) := by
  obtain ⟨hd, rfl⟩ := hd; obtain ⟨B, locs, X, N, eT⟩ := id P; obtain ⟨cl, A', q1, q2, q3⟩ := id A
  obtain ⟨T', h', X', e', W, stp⟩ := stB X P.hx P.hZ eT A' (j := j) (x := x) (I.inb (by rw [q2]; exact hi)) (g := mkF m pc Ls (.int x :: .int j :: .ref a :: st)) rfl rfl (P.dec hd)
  rw [I.2] at W
  have W : Wr h h' a i (.int w) := hw ▸ W
  exact Go.of stp (G T' h' ⟨B, _, X', Fr.snoc X' N ge, e'⟩ W (A.set W))
theorem g_bastoreZ (P : Pl p l e R s m args below meth c Z y bytes mx ret n0 T h cells slots) {j x w : Int32} {i : Nat} (hd : D bytes pc .bastore 1 pc') (A : AL Z h a k .boolean vs) (I : Ix j i) (hi : i < vs.length) (ge : n0 ≤ a) (hw : x &&& 1 = w)
    (G : ∀ T' h', Pl p l e R s m args below meth c Z y bytes mx ret n0 T' h' cells slots → Wr h h' a i (.int w) → AL Z h' a k .boolean (vs.set i (.int w)) → Go p e below Q (T'.setTop (mkF m pc' Ls st))) : Go p e below Q (T.setTop (mkF m pc Ls (.int x :: .int j :: .ref a :: st))) := by
  obtain ⟨hd, rfl⟩ := hd; obtain ⟨B, locs, X, N, eT⟩ := id P; obtain ⟨cl, A', q1, q2, q3⟩ := id A
  obtain ⟨T', h', X', e', W, stp⟩ := stZ X P.hx P.hZ eT A' (j := j) (x := x) (I.inb (by rw [q2]; exact hi)) (g := mkF m pc Ls (.int x :: .int j :: .ref a :: st)) rfl rfl (P.dec hd)
  rw [I.2] at W
  have W : Wr h h' a i (.int w) := hw ▸ W
  exact Go.of stp (G T' h' ⟨B, _, X', Fr.snoc X' N ge, e'⟩ W (A.set W))
theorem g_aastore (P : Pl p l e R s m args below meth c Z y bytes mx ret n0 T h cells slots) {j : Int32} {i : Nat} (hd : D bytes pc .aastore 1 pc') (A : AL Z h a k ty vs) (hty : ty.isReference = true) (I : Ix j i) (hi : i < vs.length) (F : Sto Z h a v) (ge : n0 ≤ a)
    (G : ∀ T' h', Pl p l e R s m args below meth c Z y bytes mx ret n0 T' h' cells slots → Wr h h' a i v → AL Z h' a k ty (vs.set i v) → Go p e below Q (T'.setTop (mkF m pc' Ls st))) : Go p e below Q (T.setTop (mkF m pc Ls (v :: .int j :: .ref a :: st))) := by
  obtain ⟨hd, rfl⟩ := hd; obtain ⟨B, locs, X, N, eT⟩ := id P; obtain ⟨cl, A', q1, q2, q3⟩ := id A
  obtain ⟨T', h', X', e', W, stp⟩ := stR X P.hx P.hZ eT A' (j := j) (v := v) (I.inb (by rw [q2]; exact hi)) hty F (g := mkF m pc Ls (v :: .int j :: .ref a :: st)) rfl rfl (P.dec hd)
  rw [I.2] at W
  exact Go.of stp (G T' h' ⟨B, _, X', Fr.snoc X' N ge, e'⟩ W (A.set W))
theorem g_clone (P : Pl p l e R s m args below meth c Z y bytes mx ret n0 T h cells slots) {ad : String} {index : Nat} (hd : D bytes pc (.invokevirtual index) 3 pc')
    (w1 : (Cond.methodLink y.cls index ⟨ad, "clone", "()Ljava/lang/Object;"⟩).before a0 Z = true) (w2 : (Cond.sameMethod ad "java/lang/Object" "clone" "()Ljava/lang/Object;").before a0 Z = true) (w3 : (Cond.native ⟨"java/lang/Object", "clone", "()Ljava/lang/Object;"⟩).before a0 Z = true)
    (w4 : (Cond.instanceMethod ⟨"java/lang/Object", "clone", "()Ljava/lang/Object;"⟩).before a0 Z = true) (w5 : (Cond.selects ad ⟨ad, "clone", "()Ljava/lang/Object;"⟩ ⟨"java/lang/Object", "clone", "()Ljava/lang/Object;"⟩).before a0 Z = true) (w6 : (Cond.castable ad "java/lang/Cloneable").before a0 Z = true)
    (A : AL Z h a k ty vs) (E : Exa Z h a ad) (fit : ∀ v ∈ vs, fits ty v = true) (hs : Ls.size = mx) (hf : 1 ≤ R.frames) {W : Nat} (hW : (st.map fun v => v.category).sum = W) (hl : W + 14 ≤ R.locals) (cap : Nat) (hcap : vs.length ≤ cap) (hc : cells + 1 ≤ R.cells) (hsl : slots + cap ≤ R.slots)
    (G : ∀ T' h' b, Pl p l e R s m args below meth c Z y bytes mx ret n0 T' h' (cells + 1) (slots + cap) → h.size = b → Ext h h' → AL Z h' b k ty vs → Exa Z h' b ad → Go p e below Q (T'.setTop (mkF m pc' Ls (.ref b :: st)))) : Go p e below Q (T.setTop (mkF m pc Ls (.ref a :: st))) := by
  obtain ⟨hd, rfl⟩ := hd; obtain ⟨B, locs, X, N, eT⟩ := id P; obtain ⟨cl, A, q1, q2, q3⟩ := A
  subst q2
  have FC : FitC Z cl := fitC_of A fun i hi v hv => fit v (by rw [← Array.getElem?_toList] at hv; exact List.mem_of_getElem? hv)
  obtain ⟨T', h', X', e', E', A', Ex, stp⟩ := cloneA X P.hx P.hZ P.hown w1 w2 w3 w4 w5 w6 eT A E FC (g := mkF m pc Ls (.ref a :: st)) rfl (by rw [P.hml]; exact hs) rfl (P.dec hd) hf (W := W) (by show 2 * 0 + _ ≤ W; omega) hl (by rw [← Array.length_toList]; exact hcap) hc hsl
  exact Go.of stp (G T' h' _ ⟨B, locs, X', N, e'⟩ rfl E' ⟨_, A', q1, rfl, q3⟩ Ex)
theorem AL.sto {x : Addr} {C : String} (A : AL Z h a k ty vs) (O : Ovr Z k C) (I : Ins Z h x C true) : Sto Z h a (.ref x) := by obtain ⟨cl, A, q, -⟩ := A; exact Sto.ofV A q O I
theorem g_checkcast (P : Pl p l e R s m args below meth c Z y bytes mx ret n0 T h cells slots) {K : String} {index : Nat} (hd : D bytes pc (.checkcast index) 3 pc') (w : (Cond.classLink y.cls index K).before a0 Z = true) (F : Ins Z h a K true)
    (G : ∀ T', Pl p l e R s m args below meth c Z y bytes mx ret n0 T' h cells slots → Go p e below Q (T'.setTop (mkF m pc' Ls (.ref a :: st)))) : Go p e below Q (T.setTop (mkF m pc Ls (.ref a :: st))) := by
  obtain ⟨hd, rfl⟩ := hd; obtain ⟨B, locs, X, N, eT⟩ := id P
  obtain ⟨T', X', e', stp⟩ := castY X P.hx P.hZ P.hown w eT F (g := mkF m pc Ls (.ref a :: st)) rfl rfl (P.dec hd)
  exact Go.of stp (G T' ⟨B, locs, X', N, e'⟩)
theorem g_instYes (P : Pl p l e R s m args below meth c Z y bytes mx ret n0 T h cells slots) {K : String} {index : Nat} (hd : D bytes pc (.instanceof index) 3 pc') (w : (Cond.classLink y.cls index K).before a0 Z = true) (F : Ins Z h a K true)
    (G : ∀ T', Pl p l e R s m args below meth c Z y bytes mx ret n0 T' h cells slots → Go p e below Q (T'.setTop (mkF m pc' Ls (.int 1 :: st)))) : Go p e below Q (T.setTop (mkF m pc Ls (.ref a :: st))) := by
  obtain ⟨hd, rfl⟩ := hd; obtain ⟨B, locs, X, N, eT⟩ := id P
  obtain ⟨T', X', e', stp⟩ := instY X P.hx P.hZ P.hown w eT F (g := mkF m pc Ls (.ref a :: st)) rfl rfl (P.dec hd)
  exact Go.of stp (G T' ⟨B, locs, X', N, e'⟩)
theorem g_instNo (P : Pl p l e R s m args below meth c Z y bytes mx ret n0 T h cells slots) {K C : String} {index : Nat} (hd : D bytes pc (.instanceof index) 3 pc') (w : (Cond.classLink y.cls index K).before a0 Z = true) (E : Exa Z h a C) (F : ∃ c t, Z.vm.findClass C = some c ∧ Z.vm.findClass K = some t ∧ Z.vm.assignable c t = false)
    (G : ∀ T', Pl p l e R s m args below meth c Z y bytes mx ret n0 T' h cells slots → Go p e below Q (T'.setTop (mkF m pc' Ls (.int 0 :: st)))) : Go p e below Q (T.setTop (mkF m pc Ls (.ref a :: st))) := by
  obtain ⟨hd, rfl⟩ := hd; obtain ⟨B, locs, X, N, eT⟩ := id P
  obtain ⟨T', X', e', stp⟩ := instNo X P.hx P.hZ P.hown w eT E F (g := mkF m pc Ls (.ref a :: st)) rfl rfl (P.dec hd)
  exact Go.of stp (G T' ⟨B, locs, X', N, e'⟩)
theorem g_virtualUp (P : Pl p l e R s m args below meth c Z y bytes mx ret n0 T h cells slots) {y1 y' : MethodName} {C owner : String} {bytes' : ByteArray} {mx' : Nat} {ret' : Option FieldType} {rm : Room} {Qc : Option Value → Heap → Prop} {index : Nat} {ps : List FieldType} {r : Option FieldType} (a : Addr) (argsL : List Value) {stk rest : List Value} {W : Nat}
    (hd : D bytes pc (.invokevirtual index) 3 pc') (w1 : (Cond.methodLink y.cls index y1).before a0 Z = true) (w0 : (Cond.sameMethod y1.cls owner y1.name y1.desc).before a0 Z = true) (w2 : (Cond.declares ⟨owner, y1.name, y1.desc⟩).before a0 Z = true) (ho : owner ≠ "java/lang/invoke/MethodHandle" ∧ owner ≠ "java/lang/invoke/VarHandle") (w3 : (Cond.selects C y1 y').before a0 Z = true) (w4 : (Cond.instanceMethod y').before a0 Z = true) (w5 : (Cond.initialized y'.cls).before a0 Z = true) (w6 : (Cond.code y' bytes' mx' ret').before a0 Z = true)
    (E : Exa Z h a C) (M : Met l Z y' bytes' mx' ret' rm n0 (.ref a :: argsL).toArray h Qc) (pd : parseMethodDescriptor y1.desc = some ⟨ps, r⟩) (hl : argsL.length = ps.length) (hs : stk = argsL.reverse ++ .ref a :: rest) (hmx : Ls.size = mx) (hW : (rest.map fun v => v.category).sum = W)
    (hf : rm.frames + 1 ≤ R.frames) (hlo : W + (mx' + 11) + rm.locals ≤ R.locals) (hc : cells + rm.cells ≤ R.cells) (hsl : slots + rm.slots ≤ R.slots)
    (G : ∀ v T' h', Pl p l e R s m args below meth c Z y bytes mx ret n0 T' h' (cells + rm.cells) (slots + rm.slots) → Qc v h' → Go p e below Q (T'.setTop (mkF m pc' Ls (v.toList ++ rest)))) : Go p e below Q (T.setTop (mkF m pc Ls stk)) := by
  obtain ⟨hd, rfl⟩ := hd; obtain ⟨B, locs, X, N, eT⟩ := id P
  obtain ⟨cq, kq, qa, qb, qc⟩ := isOf P.hZ eT E
  obtain ⟨v, _, ⟨T', L', k', n'⟩, -, X', ⟨Lc, hQ, l', y'', z'⟩, stp⟩ := X.virtualBackUp P.hx (x := y1) (y := y') (owner := owner) P.hown (mvT P.hZ w1) (mvT P.hZ w0) (mvT P.hZ w2) ho (mvT P.hZ w3) (mvT P.hZ w4) (backOf (W := W) (Q := fun v h L => Fr n0 L ∧ Qc v h) (M []) P.hZ w6 w5 hf hlo) qa qc (g := mkF m pc Ls stk) rfl (by rw [P.hml]; exact hmx) (Steps.refl _) (argsL := argsL) (rest := rest) (lenOf pd hl) hs (by show 2 * 0 + _ ≤ W; omega) (P.dec hd) (fun _ _ => ⟨rfl, eT, hc, hsl⟩)
  dsimp only [Pt.U, Pt.locs, Pt.cells, Pt.slots] at X' l' y'' z' stp hQ
  subst l' y'' z'
  exact Go.tr stp (G v T' T'.heap ⟨B, _, X', Fr.app N hQ.1, rfl⟩ hQ.2)
end OwnMore
theorem d0_0 : D code 0 (.iconst 5) 1 1 := ⟨at_0, rfl⟩
theorem d0_1 : D code 1 (.newarray .int) 2 3 := ⟨at_1, rfl⟩
theorem d0_3 : D code 3 (.dup) 1 4 := ⟨at_3, rfl⟩
theorem d0_4 : D code 4 (.iconst 0) 1 5 := ⟨at_4, rfl⟩
theorem d0_5 : D code 5 (.iload_n 0) 1 6 := ⟨at_5, rfl⟩
theorem d0_6 : D code 6 (.ldc 9) 2 8 := ⟨at_6, rfl⟩
theorem d0_8 : D code 8 (.iand) 1 9 := ⟨at_8, rfl⟩
theorem d0_9 : D code 9 (.iastore) 1 10 := ⟨at_9, rfl⟩
theorem d0_10 : D code 10 (.dup) 1 11 := ⟨at_10, rfl⟩
theorem d0_11 : D code 11 (.iconst 1) 1 12 := ⟨at_11, rfl⟩
theorem d0_12 : D code 12 (.iload_n 1) 1 13 := ⟨at_12, rfl⟩
theorem d0_13 : D code 13 (.ldc 9) 2 15 := ⟨at_13, rfl⟩
theorem d0_15 : D code 15 (.iand) 1 16 := ⟨at_15, rfl⟩
theorem d0_16 : D code 16 (.iastore) 1 17 := ⟨at_16, rfl⟩
theorem d0_17 : D code 17 (.dup) 1 18 := ⟨at_17, rfl⟩
theorem d0_18 : D code 18 (.iconst 2) 1 19 := ⟨at_18, rfl⟩
theorem d0_19 : D code 19 (.iload_n 2) 1 20 := ⟨at_19, rfl⟩
theorem d0_20 : D code 20 (.ldc 9) 2 22 := ⟨at_20, rfl⟩
theorem d0_22 : D code 22 (.iand) 1 23 := ⟨at_22, rfl⟩
theorem d0_23 : D code 23 (.iastore) 1 24 := ⟨at_23, rfl⟩
theorem d0_24 : D code 24 (.dup) 1 25 := ⟨at_24, rfl⟩
theorem d0_25 : D code 25 (.iconst 3) 1 26 := ⟨at_25, rfl⟩
theorem d0_26 : D code 26 (.iload_n 3) 1 27 := ⟨at_26, rfl⟩
theorem d0_27 : D code 27 (.ldc 9) 2 29 := ⟨at_27, rfl⟩
theorem d0_29 : D code 29 (.iand) 1 30 := ⟨at_29, rfl⟩
theorem d0_30 : D code 30 (.iastore) 1 31 := ⟨at_30, rfl⟩
theorem d0_31 : D code 31 (.dup) 1 32 := ⟨at_31, rfl⟩
theorem d0_32 : D code 32 (.iconst 4) 1 33 := ⟨at_32, rfl⟩
theorem d0_33 : D code 33 (.iload 4) 2 35 := ⟨at_33, rfl⟩
theorem d0_35 : D code 35 (.ldc 9) 2 37 := ⟨at_35, rfl⟩
theorem d0_37 : D code 37 (.iand) 1 38 := ⟨at_37, rfl⟩
theorem d0_38 : D code 38 (.iastore) 1 39 := ⟨at_38, rfl⟩
theorem d0_39 : D code 39 (.astore 6) 2 41 := ⟨at_39, rfl⟩
theorem d0_41 : D code 41 (.bipush 7) 2 43 := ⟨at_41, rfl⟩
theorem d0_43 : D code 43 (.newarray .int) 2 45 := ⟨at_43, rfl⟩
theorem d0_45 : D code 45 (.astore 7) 2 47 := ⟨at_45, rfl⟩
theorem d0_47 : D code 47 (.aload 7) 2 49 := ⟨at_47, rfl⟩
theorem d0_49 : D code 49 (.iconst 0) 1 50 := ⟨at_49, rfl⟩
theorem d0_50 : D code 50 (.iload 5) 2 52 := ⟨at_50, rfl⟩
theorem d0_52 : D code 52 (.iastore) 1 53 := ⟨at_52, rfl⟩
theorem d0_53 : D code 53 (.aload 7) 2 55 := ⟨at_53, rfl⟩
theorem d0_55 : D code 55 (.iconst 1) 1 56 := ⟨at_55, rfl⟩
theorem d0_56 : D code 56 (.iload 5) 2 58 := ⟨at_56, rfl⟩
theorem d0_58 : D code 58 (.iastore) 1 59 := ⟨at_58, rfl⟩
theorem d0_59 : D code 59 (.aload 7) 2 61 := ⟨at_59, rfl⟩
theorem d0_61 : D code 61 (.iconst 2) 1 62 := ⟨at_61, rfl⟩
theorem d0_62 : D code 62 (.iload 5) 2 64 := ⟨at_62, rfl⟩
theorem d0_64 : D code 64 (.iastore) 1 65 := ⟨at_64, rfl⟩
theorem d0_65 : D code 65 (.aload 7) 2 67 := ⟨at_65, rfl⟩
theorem d0_67 : D code 67 (.iconst 3) 1 68 := ⟨at_67, rfl⟩
theorem d0_68 : D code 68 (.iload 5) 2 70 := ⟨at_68, rfl⟩
theorem d0_70 : D code 70 (.iastore) 1 71 := ⟨at_70, rfl⟩
theorem d0_71 : D code 71 (.aload 7) 2 73 := ⟨at_71, rfl⟩
theorem d0_73 : D code 73 (.iconst 4) 1 74 := ⟨at_73, rfl⟩
theorem d0_74 : D code 74 (.iload 5) 2 76 := ⟨at_74, rfl⟩
theorem d0_76 : D code 76 (.iastore) 1 77 := ⟨at_76, rfl⟩
theorem d0_77 : D code 77 (.aload 7) 2 79 := ⟨at_77, rfl⟩
theorem d0_79 : D code 79 (.iconst 5) 1 80 := ⟨at_79, rfl⟩
theorem d0_80 : D code 80 (.iload 5) 2 82 := ⟨at_80, rfl⟩
theorem d0_82 : D code 82 (.iastore) 1 83 := ⟨at_82, rfl⟩
theorem d0_83 : D code 83 (.aload 7) 2 85 := ⟨at_83, rfl⟩
theorem d0_85 : D code 85 (.bipush 6) 2 87 := ⟨at_85, rfl⟩
theorem d0_87 : D code 87 (.iload 5) 2 89 := ⟨at_87, rfl⟩
theorem d0_89 : D code 89 (.iastore) 1 90 := ⟨at_89, rfl⟩
theorem d0_90 : D code 90 (.iload 5) 2 92 := ⟨at_90, rfl⟩
theorem d0_92 : D code 92 (.ldc 9) 2 94 := ⟨at_92, rfl⟩
theorem d0_94 : D code 94 (.iand) 1 95 := ⟨at_94, rfl⟩
theorem d0_95 : D code 95 (.iconst 3) 1 96 := ⟨at_95, rfl⟩
theorem d0_96 : D code 96 (.irem) 1 97 := ⟨at_96, rfl⟩
theorem d0_97 : D code 97 (.istore 8) 2 99 := ⟨at_97, rfl⟩
theorem d0_99 : D code 99 (.aload 7) 2 101 := ⟨at_99, rfl⟩
theorem d0_101 : D code 101 (.iload 8) 2 103 := ⟨at_101, rfl⟩
theorem d0_103 : D code 103 (.iload_n 0) 1 104 := ⟨at_103, rfl⟩
theorem d0_104 : D code 104 (.iastore) 1 105 := ⟨at_104, rfl⟩
theorem d0_105 : D code 105 (.aload 7) 2 107 := ⟨at_105, rfl⟩
theorem d0_107 : D code 107 (.iload 8) 2 109 := ⟨at_107, rfl⟩
theorem d0_109 : D code 109 (.iconst 1) 1 110 := ⟨at_109, rfl⟩
theorem d0_110 : D code 110 (.iadd) 1 111 := ⟨at_110, rfl⟩
theorem d0_111 : D code 111 (.iload_n 1) 1 112 := ⟨at_111, rfl⟩
theorem d0_112 : D code 112 (.iastore) 1 113 := ⟨at_112, rfl⟩
theorem d0_113 : D code 113 (.aload 7) 2 115 := ⟨at_113, rfl⟩
theorem d0_115 : D code 115 (.iload 8) 2 117 := ⟨at_115, rfl⟩
theorem d0_117 : D code 117 (.iconst 2) 1 118 := ⟨at_117, rfl⟩
theorem d0_118 : D code 118 (.iadd) 1 119 := ⟨at_118, rfl⟩
theorem d0_119 : D code 119 (.iload_n 2) 1 120 := ⟨at_119, rfl⟩
theorem d0_120 : D code 120 (.iastore) 1 121 := ⟨at_120, rfl⟩
theorem d0_121 : D code 121 (.aload 7) 2 123 := ⟨at_121, rfl⟩
theorem d0_123 : D code 123 (.iload 8) 2 125 := ⟨at_123, rfl⟩
theorem d0_125 : D code 125 (.iconst 3) 1 126 := ⟨at_125, rfl⟩
theorem d0_126 : D code 126 (.iadd) 1 127 := ⟨at_126, rfl⟩
theorem d0_127 : D code 127 (.iload_n 3) 1 128 := ⟨at_127, rfl⟩
theorem d0_128 : D code 128 (.iastore) 1 129 := ⟨at_128, rfl⟩
theorem d0_129 : D code 129 (.aload 7) 2 131 := ⟨at_129, rfl⟩
theorem d0_131 : D code 131 (.iload 8) 2 133 := ⟨at_131, rfl⟩
theorem d0_133 : D code 133 (.iconst 4) 1 134 := ⟨at_133, rfl⟩
theorem d0_134 : D code 134 (.iadd) 1 135 := ⟨at_134, rfl⟩
theorem d0_135 : D code 135 (.iload 4) 2 137 := ⟨at_135, rfl⟩
theorem d0_137 : D code 137 (.iastore) 1 138 := ⟨at_137, rfl⟩
theorem d0_138 : D code 138 (.new 10) 3 141 := ⟨at_138, rfl⟩
theorem d0_141 : D code 141 (.dup) 1 142 := ⟨at_141, rfl⟩
theorem d0_142 : D code 142 (.aload 6) 2 144 := ⟨at_142, rfl⟩
theorem d0_144 : D code 144 (.invokespecial 12) 3 147 := ⟨at_144, rfl⟩
theorem d0_147 : D code 147 (.astore 9) 2 149 := ⟨at_147, rfl⟩
theorem d0_149 : D code 149 (.new 10) 3 152 := ⟨at_149, rfl⟩
theorem d0_152 : D code 152 (.dup) 1 153 := ⟨at_152, rfl⟩
theorem d0_153 : D code 153 (.aload 7) 2 155 := ⟨at_153, rfl⟩
theorem d0_155 : D code 155 (.iload 8) 2 157 := ⟨at_155, rfl⟩
theorem d0_157 : D code 157 (.invokespecial 15) 3 160 := ⟨at_157, rfl⟩
theorem d0_160 : D code 160 (.astore 10) 2 162 := ⟨at_160, rfl⟩
theorem d0_162 : D code 162 (.aload 9) 2 164 := ⟨at_162, rfl⟩
theorem d0_164 : D code 164 (.invokevirtual 18) 3 167 := ⟨at_164, rfl⟩
theorem d0_167 : D code 167 (.iload_n 0) 1 168 := ⟨at_167, rfl⟩
theorem d0_168 : D code 168 (.ldc 9) 2 170 := ⟨at_168, rfl⟩
theorem d0_170 : D code 170 (.iand) 1 171 := ⟨at_170, rfl⟩
theorem d0_171 : D code 171 (.iload_n 1) 1 172 := ⟨at_171, rfl⟩
theorem d0_172 : D code 172 (.ldc 9) 2 174 := ⟨at_172, rfl⟩
theorem d0_174 : D code 174 (.iand) 1 175 := ⟨at_174, rfl⟩
theorem d0_175 : D code 175 (.iload_n 2) 1 176 := ⟨at_175, rfl⟩
theorem d0_176 : D code 176 (.ldc 9) 2 178 := ⟨at_176, rfl⟩
theorem d0_178 : D code 178 (.iand) 1 179 := ⟨at_178, rfl⟩
theorem d0_179 : D code 179 (.iload_n 3) 1 180 := ⟨at_179, rfl⟩
theorem d0_180 : D code 180 (.ldc 9) 2 182 := ⟨at_180, rfl⟩
theorem d0_182 : D code 182 (.iand) 1 183 := ⟨at_182, rfl⟩
theorem d0_183 : D code 183 (.iload 4) 2 185 := ⟨at_183, rfl⟩
theorem d0_185 : D code 185 (.ldc 9) 2 187 := ⟨at_185, rfl⟩
theorem d0_187 : D code 187 (.iand) 1 188 := ⟨at_187, rfl⟩
theorem d0_188 : D code 188 (.invokestatic 22) 3 191 := ⟨at_188, rfl⟩
theorem d0_191 : D code 191 (.if_icmp .ne 24) 3 194 := ⟨at_191, rfl⟩
theorem d0_194 : D code 194 (.aload 10) 2 196 := ⟨at_194, rfl⟩
theorem d0_196 : D code 196 (.invokevirtual 18) 3 199 := ⟨at_196, rfl⟩
theorem d0_199 : D code 199 (.iload_n 0) 1 200 := ⟨at_199, rfl⟩
theorem d0_200 : D code 200 (.iload_n 1) 1 201 := ⟨at_200, rfl⟩
theorem d0_201 : D code 201 (.iload_n 2) 1 202 := ⟨at_201, rfl⟩
theorem d0_202 : D code 202 (.iload_n 3) 1 203 := ⟨at_202, rfl⟩
theorem d0_203 : D code 203 (.iload 4) 2 205 := ⟨at_203, rfl⟩
theorem d0_205 : D code 205 (.invokestatic 22) 3 208 := ⟨at_205, rfl⟩
theorem d0_208 : D code 208 (.if_icmp .ne 7) 3 211 := ⟨at_208, rfl⟩
theorem d0_211 : D code 211 (.iconst 1) 1 212 := ⟨at_211, rfl⟩
theorem d0_212 : D code 212 (.goto 4) 3 215 := ⟨at_212, rfl⟩
theorem d0_216 : D code 216 (.ireturn) 1 217 := ⟨at_216, rfl⟩
theorem d1_0 : D prog_12_method_1_code 0 (.aload_n 0) 1 1 := ⟨by decide +kernel, rfl⟩
theorem d1_1 : D prog_12_method_1_code 1 (.invokespecial 1) 3 4 := ⟨by decide +kernel, rfl⟩
theorem d1_4 : D prog_12_method_1_code 4 (.aload_n 1) 1 5 := ⟨by decide +kernel, rfl⟩
theorem d1_5 : D prog_12_method_1_code 5 (.arraylength) 1 6 := ⟨by decide +kernel, rfl⟩
theorem d1_6 : D prog_12_method_1_code 6 (.getstatic 7) 3 9 := ⟨by decide +kernel, rfl⟩
theorem d1_9 : D prog_12_method_1_code 9 (.if_icmp .eq 21) 3 12 := ⟨by decide +kernel, rfl⟩
theorem d1_30 : D prog_12_method_1_code 30 (.aload_n 1) 1 31 := ⟨by decide +kernel, rfl⟩
theorem d1_31 : D prog_12_method_1_code 31 (.astore_n 2) 1 32 := ⟨by decide +kernel, rfl⟩
theorem d1_32 : D prog_12_method_1_code 32 (.aload_n 2) 1 33 := ⟨by decide +kernel, rfl⟩
theorem d1_33 : D prog_12_method_1_code 33 (.arraylength) 1 34 := ⟨by decide +kernel, rfl⟩
theorem d1_34 : D prog_12_method_1_code 34 (.istore_n 3) 1 35 := ⟨by decide +kernel, rfl⟩
theorem d1_35 : D prog_12_method_1_code 35 (.iconst 0) 1 36 := ⟨by decide +kernel, rfl⟩
theorem d1_36 : D prog_12_method_1_code 36 (.istore 4) 2 38 := ⟨by decide +kernel, rfl⟩
theorem d1_38 : D prog_12_method_1_code 38 (.iload 4) 2 40 := ⟨by decide +kernel, rfl⟩
theorem d1_40 : D prog_12_method_1_code 40 (.iload_n 3) 1 41 := ⟨by decide +kernel, rfl⟩
theorem d1_41 : D prog_12_method_1_code 41 (.if_icmp .ge 35) 3 44 := ⟨by decide +kernel, rfl⟩
theorem d1_44 : D prog_12_method_1_code 44 (.aload_n 2) 1 45 := ⟨by decide +kernel, rfl⟩
theorem d1_45 : D prog_12_method_1_code 45 (.iload 4) 2 47 := ⟨by decide +kernel, rfl⟩
theorem d1_47 : D prog_12_method_1_code 47 (.iaload) 1 48 := ⟨by decide +kernel, rfl⟩
theorem d1_48 : D prog_12_method_1_code 48 (.istore 5) 2 50 := ⟨by decide +kernel, rfl⟩
theorem d1_50 : D prog_12_method_1_code 50 (.iload 5) 2 52 := ⟨by decide +kernel, rfl⟩
theorem d1_52 : D prog_12_method_1_code 52 (.ifCond .ge 18) 3 55 := ⟨by decide +kernel, rfl⟩
theorem d1_70 : D prog_12_method_1_code 70 (.iinc 4 1) 3 73 := ⟨by decide +kernel, rfl⟩
theorem d1_73 : D prog_12_method_1_code 73 (.goto (-35)) 3 76 := ⟨by decide +kernel, rfl⟩
theorem d1_76 : D prog_12_method_1_code 76 (.aload_n 0) 1 77 := ⟨by decide +kernel, rfl⟩
theorem d1_77 : D prog_12_method_1_code 77 (.aload_n 1) 1 78 := ⟨by decide +kernel, rfl⟩
theorem d1_78 : D prog_12_method_1_code 78 (.invokevirtual 25) 3 81 := ⟨by decide +kernel, rfl⟩
theorem d1_81 : D prog_12_method_1_code 81 (.checkcast 26) 3 84 := ⟨by decide +kernel, rfl⟩
theorem d1_84 : D prog_12_method_1_code 84 (.putfield 31) 3 87 := ⟨by decide +kernel, rfl⟩
theorem d1_87 : D prog_12_method_1_code 87 (.aload_n 0) 1 88 := ⟨by decide +kernel, rfl⟩
theorem d1_88 : D prog_12_method_1_code 88 (.iconst 0) 1 89 := ⟨by decide +kernel, rfl⟩
theorem d1_89 : D prog_12_method_1_code 89 (.putfield 34) 3 92 := ⟨by decide +kernel, rfl⟩
theorem d1_92 : D prog_12_method_1_code 92 (.return_) 1 93 := ⟨by decide +kernel, rfl⟩
theorem d3_0 : D prog_12_method_2_code 0 (.aload_n 0) 1 1 := ⟨by decide +kernel, rfl⟩
theorem d3_1 : D prog_12_method_2_code 1 (.invokespecial 1) 3 4 := ⟨by decide +kernel, rfl⟩
theorem d3_4 : D prog_12_method_2_code 4 (.aload_n 0) 1 5 := ⟨by decide +kernel, rfl⟩
theorem d3_5 : D prog_12_method_2_code 5 (.aload_n 1) 1 6 := ⟨by decide +kernel, rfl⟩
theorem d3_6 : D prog_12_method_2_code 6 (.putfield 31) 3 9 := ⟨by decide +kernel, rfl⟩
theorem d3_9 : D prog_12_method_2_code 9 (.aload_n 0) 1 10 := ⟨by decide +kernel, rfl⟩
theorem d3_10 : D prog_12_method_2_code 10 (.iload_n 2) 1 11 := ⟨by decide +kernel, rfl⟩
theorem d3_11 : D prog_12_method_2_code 11 (.putfield 34) 3 14 := ⟨by decide +kernel, rfl⟩
theorem d3_14 : D prog_12_method_2_code 14 (.return_) 1 15 := ⟨by decide +kernel, rfl⟩
theorem d4_0 : D prog_12_method_5_code 0 (.iconst 1) 1 1 := ⟨by decide +kernel, rfl⟩
theorem d4_1 : D prog_12_method_5_code 1 (.istore_n 1) 1 2 := ⟨by decide +kernel, rfl⟩
theorem d4_2 : D prog_12_method_5_code 2 (.iconst 0) 1 3 := ⟨by decide +kernel, rfl⟩
theorem d4_3 : D prog_12_method_5_code 3 (.istore_n 2) 1 4 := ⟨by decide +kernel, rfl⟩
theorem d4_4 : D prog_12_method_5_code 4 (.iload_n 2) 1 5 := ⟨by decide +kernel, rfl⟩
theorem d4_5 : D prog_12_method_5_code 5 (.getstatic 7) 3 8 := ⟨by decide +kernel, rfl⟩
theorem d4_8 : D prog_12_method_5_code 8 (.if_icmp .ge 26) 3 11 := ⟨by decide +kernel, rfl⟩
theorem d4_11 : D prog_12_method_5_code 11 (.bipush 31) 2 13 := ⟨by decide +kernel, rfl⟩
theorem d4_13 : D prog_12_method_5_code 13 (.iload_n 1) 1 14 := ⟨by decide +kernel, rfl⟩
theorem d4_14 : D prog_12_method_5_code 14 (.imul) 1 15 := ⟨by decide +kernel, rfl⟩
theorem d4_15 : D prog_12_method_5_code 15 (.aload_n 0) 1 16 := ⟨by decide +kernel, rfl⟩
theorem d4_16 : D prog_12_method_5_code 16 (.getfield 31) 3 19 := ⟨by decide +kernel, rfl⟩
theorem d4_19 : D prog_12_method_5_code 19 (.aload_n 0) 1 20 := ⟨by decide +kernel, rfl⟩
theorem d4_20 : D prog_12_method_5_code 20 (.getfield 34) 3 23 := ⟨by decide +kernel, rfl⟩
theorem d4_23 : D prog_12_method_5_code 23 (.iload_n 2) 1 24 := ⟨by decide +kernel, rfl⟩
theorem d4_24 : D prog_12_method_5_code 24 (.iadd) 1 25 := ⟨by decide +kernel, rfl⟩
theorem d4_25 : D prog_12_method_5_code 25 (.iaload) 1 26 := ⟨by decide +kernel, rfl⟩
theorem d4_26 : D prog_12_method_5_code 26 (.iadd) 1 27 := ⟨by decide +kernel, rfl⟩
theorem d4_27 : D prog_12_method_5_code 27 (.istore_n 1) 1 28 := ⟨by decide +kernel, rfl⟩
theorem d4_28 : D prog_12_method_5_code 28 (.iinc 2 1) 3 31 := ⟨by decide +kernel, rfl⟩
theorem d4_31 : D prog_12_method_5_code 31 (.goto (-27)) 3 34 := ⟨by decide +kernel, rfl⟩
theorem d4_34 : D prog_12_method_5_code 34 (.iload_n 1) 1 35 := ⟨by decide +kernel, rfl⟩
theorem d4_35 : D prog_12_method_5_code 35 (.ireturn) 1 36 := ⟨by decide +kernel, rfl⟩
theorem d5_0 : D method_2_code 0 (.ldc 7) 2 2 := ⟨by decide +kernel, rfl⟩
theorem d5_2 : D method_2_code 2 (.ldc 8) 2 4 := ⟨by decide +kernel, rfl⟩
theorem d5_4 : D method_2_code 4 (.iload_n 0) 1 5 := ⟨by decide +kernel, rfl⟩
theorem d5_5 : D method_2_code 5 (.imul) 1 6 := ⟨by decide +kernel, rfl⟩
theorem d5_6 : D method_2_code 6 (.iadd) 1 7 := ⟨by decide +kernel, rfl⟩
theorem d5_7 : D method_2_code 7 (.sipush 29791) 3 10 := ⟨by decide +kernel, rfl⟩
theorem d5_10 : D method_2_code 10 (.iload_n 1) 1 11 := ⟨by decide +kernel, rfl⟩
theorem d5_11 : D method_2_code 11 (.imul) 1 12 := ⟨by decide +kernel, rfl⟩
theorem d5_12 : D method_2_code 12 (.iadd) 1 13 := ⟨by decide +kernel, rfl⟩
theorem d5_13 : D method_2_code 13 (.sipush 961) 3 16 := ⟨by decide +kernel, rfl⟩
theorem d5_16 : D method_2_code 16 (.iload_n 2) 1 17 := ⟨by decide +kernel, rfl⟩
theorem d5_17 : D method_2_code 17 (.imul) 1 18 := ⟨by decide +kernel, rfl⟩
theorem d5_18 : D method_2_code 18 (.iadd) 1 19 := ⟨by decide +kernel, rfl⟩
theorem d5_19 : D method_2_code 19 (.bipush 31) 2 21 := ⟨by decide +kernel, rfl⟩
theorem d5_21 : D method_2_code 21 (.iload_n 3) 1 22 := ⟨by decide +kernel, rfl⟩
theorem d5_22 : D method_2_code 22 (.imul) 1 23 := ⟨by decide +kernel, rfl⟩
theorem d5_23 : D method_2_code 23 (.iadd) 1 24 := ⟨by decide +kernel, rfl⟩
theorem d5_24 : D method_2_code 24 (.iload 4) 2 26 := ⟨by decide +kernel, rfl⟩
theorem d5_26 : D method_2_code 26 (.iadd) 1 27 := ⟨by decide +kernel, rfl⟩
theorem d5_27 : D method_2_code 27 (.ireturn) 1 28 := ⟨by decide +kernel, rfl⟩
theorem pd_0 : parseMethodDescriptor "([I)V" = some ⟨[(.array .int)], none⟩ := by decide +kernel
theorem pd_1 : parseMethodDescriptor "([II)V" = some ⟨[(.array .int), .int], none⟩ := by decide +kernel
theorem pd_2 : parseMethodDescriptor "()I" = some ⟨[], some .int⟩ := by decide +kernel
theorem pd_3 : parseMethodDescriptor "(IIIII)I" = some ⟨[.int, .int, .int, .int, .int], some .int⟩ := by decide +kernel
def hash5 (x0 x1 x2 x3 x4 : Int32) : Int32 := (31 : Int32) * ((31 : Int32) * ((31 : Int32) * ((31 : Int32) * ((31 : Int32) + x0) + x1) + x2) + x3) + x4
def exp5 (x0 x1 x2 x3 x4 : Int32) : Int32 := (28629151 : Int32) + (923521 : Int32) * x0 + (29791 : Int32) * x1 + (961 : Int32) * x2 + (31 : Int32) * x3 + x4
theorem hash_exp (x0 x1 x2 x3 x4 : Int32) : hash5 x0 x1 x2 x3 x4 = exp5 x0 x1 x2 x3 x4 := by
  show (31 : Int32) * ((31 : Int32) * ((31 : Int32) * ((31 : Int32) * ((31 : Int32) + x0) + x1) + x2) + x3) + x4 = (28629151 : Int32) + (923521 : Int32) * x0 + (29791 : Int32) * x1 + (961 : Int32) * x2 + (31 : Int32) * x3 + x4
  simp only [Int32.mul_add, ← Int32.mul_assoc, ← Int32.add_assoc]
  rfl
set_option maxRecDepth 65536 in
set_option maxHeartbeats 40000000 in
theorem rm_init1 (l : Launch) (Z : State) (a0 : Array Value) (hw : ∀ d ∈ tables_1, d.before a0 Z = true) (h0 : Heap) (n0 : Nat) (a ar : Addr) (k : ClassId) (x0 x1 x2 x3 x4 : Int32) (S_KINDS : Sta Z h0 "com/example/linkwell/linkwell/index/HitCounts" "KINDS" "I" (.int (5 : Int32))) (ge : n0 ≤ a) (A : Exa Z h0 a "com/example/linkwell/linkwell/index/HitCounts") (F_counts : Fld Z h0 a "com/example/linkwell/linkwell/index/HitCounts" "counts" "[I" .null) (F_from : Fld Z h0 a "com/example/linkwell/linkwell/index/HitCounts" "from" "I" (.int 0)) (AR : AL Z h0 ar k .int [.int x0, .int x1, .int x2, .int x3, .int x4]) (X_ar : Exa Z h0 ar "[I") (nn0 : ¬ x0 < 0) (nn1 : ¬ x1 < 0) (nn2 : ¬ x2 < 0) (nn3 : ¬ x3 < 0) (nn4 : ¬ x4 < 0) :
    Met l Z (⟨"com/example/linkwell/linkwell/index/HitCounts", "<init>", "([I)V"⟩ : MethodName) prog_12_method_1_code 6 none ({ frames := 1, cells := 1, slots := 5, locals := 30 } : Room) n0 #[(.ref a), (.ref ar)] h0 (fun v h => v = none ∧ ∃ b, Keep h0 h [a] ∧ h0.size ≤ b ∧ Exa Z h a "com/example/linkwell/linkwell/index/HitCounts" ∧ Fld Z h a "com/example/linkwell/linkwell/index/HitCounts" "counts" "[I" (.ref b) ∧ Fld Z h a "com/example/linkwell/linkwell/index/HitCounts" "from" "I" (.int 0) ∧ AL Z h b k .int [.int x0, .int x1, .int x2, .int x3, .int x4]) := by
  refine Met.intro (by decide +kernel) ?_
  intro p e s m below meth cc T0 P0
  refine Go.cast (g' := mkF m 0 #[.val (.ref a), .val (.ref ar), .unset, .unset, .unset, .unset] []) (by first | (simp [entryFrame, mkF, argsToLocals, Value.category, maxLocals]; done) | rfl) ?_
  refine g_aloadN P0 d1_0 rfl rfl ?_
  refine g_init (W := 0) P0 d1_1 (hw _ (List.mem_of_getElem? (i := 8) rfl)) (hw _ (List.mem_of_getElem? (i := 9) rfl)) (hw _ (List.mem_of_getElem? (i := 10) rfl)) rfl (by decide) rfl (by decide) fun T1 P1 => ?_
  refine g_aloadN P1 d1_4 rfl rfl ?_
  refine g_arraylength (z := (5 : Int32)) P1 d1_5 AR rfl ?_
  refine g_getS (host := "") P1 d1_6 (Or.inl (hw _ (List.mem_of_getElem? (i := 11) rfl))) Via.refl S_KINDS fun T2 P2 => ?_
  refine g_icmpYes P2 d1_9 (by decide) 30 (by decide) (by decide) ?_
  refine g_aloadN P2 d1_30 rfl rfl ?_
  refine g_astoreN P2 d1_31 rfl #[.val (.ref a), .val (.ref ar), .val (.ref ar), .unset, .unset, .unset] rfl ?_
  refine g_aloadN P2 d1_32 rfl rfl ?_
  refine g_arraylength (z := (5 : Int32)) P2 d1_33 AR rfl ?_
  refine g_istoreN P2 d1_34 #[.val (.ref a), .val (.ref ar), .val (.ref ar), .val (.int (5 : Int32)), .unset, .unset] rfl ?_
  refine g_iconst (v := (0 : Int32)) P2 d1_35 (by rfl) ?_
  refine g_istore P2 d1_36 #[.val (.ref a), .val (.ref ar), .val (.ref ar), .val (.int (5 : Int32)), .val (.int (0 : Int32)), .unset] rfl ?_
  refine g_iload P2 d1_38 rfl ?_
  refine g_iloadN P2 d1_40 rfl ?_
  refine g_icmpNo P2 d1_41 (by decide) ?_
  refine g_aloadN P2 d1_44 rfl rfl ?_
  refine g_iload P2 d1_45 rfl ?_
  refine g_iaload (i := 0) (v := (.int x0)) P2 d1_47 AR (by decide) rfl ?_
  refine g_istore P2 d1_48 #[.val (.ref a), .val (.ref ar), .val (.ref ar), .val (.int (5 : Int32)), .val (.int (0 : Int32)), .val (.int x0)] rfl ?_
  refine g_iload P2 d1_50 rfl ?_
  refine g_ifYes P2 d1_52 ((if0 _ _).trans (flt nn0).2.1) 70 (by decide) (by decide) ?_
  refine g_iinc (w := (1 : Int32)) P2 d1_70 rfl (by rfl) #[.val (.ref a), .val (.ref ar), .val (.ref ar), .val (.int (5 : Int32)), .val (.int (1 : Int32)), .val (.int x0)] rfl ?_
  refine g_goto P2 d1_73 38 (by decide) (by decide) ?_
  refine g_iload P2 d1_38 rfl ?_
  refine g_iloadN P2 d1_40 rfl ?_
  refine g_icmpNo P2 d1_41 (by decide) ?_
  refine g_aloadN P2 d1_44 rfl rfl ?_
  refine g_iload P2 d1_45 rfl ?_
  refine g_iaload (i := 1) (v := (.int x1)) P2 d1_47 AR (by decide) rfl ?_
  refine g_istore P2 d1_48 #[.val (.ref a), .val (.ref ar), .val (.ref ar), .val (.int (5 : Int32)), .val (.int (1 : Int32)), .val (.int x1)] rfl ?_
  refine g_iload P2 d1_50 rfl ?_
  refine g_ifYes P2 d1_52 ((if0 _ _).trans (flt nn1).2.1) 70 (by decide) (by decide) ?_
  refine g_iinc (w := (2 : Int32)) P2 d1_70 rfl (by rfl) #[.val (.ref a), .val (.ref ar), .val (.ref ar), .val (.int (5 : Int32)), .val (.int (2 : Int32)), .val (.int x1)] rfl ?_
  refine g_goto P2 d1_73 38 (by decide) (by decide) ?_
  refine g_iload P2 d1_38 rfl ?_
  refine g_iloadN P2 d1_40 rfl ?_
  refine g_icmpNo P2 d1_41 (by decide) ?_
  refine g_aloadN P2 d1_44 rfl rfl ?_
  refine g_iload P2 d1_45 rfl ?_
  refine g_iaload (i := 2) (v := (.int x2)) P2 d1_47 AR (by decide) rfl ?_
  refine g_istore P2 d1_48 #[.val (.ref a), .val (.ref ar), .val (.ref ar), .val (.int (5 : Int32)), .val (.int (2 : Int32)), .val (.int x2)] rfl ?_
  refine g_iload P2 d1_50 rfl ?_
  refine g_ifYes P2 d1_52 ((if0 _ _).trans (flt nn2).2.1) 70 (by decide) (by decide) ?_
  refine g_iinc (w := (3 : Int32)) P2 d1_70 rfl (by rfl) #[.val (.ref a), .val (.ref ar), .val (.ref ar), .val (.int (5 : Int32)), .val (.int (3 : Int32)), .val (.int x2)] rfl ?_
  refine g_goto P2 d1_73 38 (by decide) (by decide) ?_
  refine g_iload P2 d1_38 rfl ?_
  refine g_iloadN P2 d1_40 rfl ?_
  refine g_icmpNo P2 d1_41 (by decide) ?_
  refine g_aloadN P2 d1_44 rfl rfl ?_
  refine g_iload P2 d1_45 rfl ?_
  refine g_iaload (i := 3) (v := (.int x3)) P2 d1_47 AR (by decide) rfl ?_
  refine g_istore P2 d1_48 #[.val (.ref a), .val (.ref ar), .val (.ref ar), .val (.int (5 : Int32)), .val (.int (3 : Int32)), .val (.int x3)] rfl ?_
  refine g_iload P2 d1_50 rfl ?_
  refine g_ifYes P2 d1_52 ((if0 _ _).trans (flt nn3).2.1) 70 (by decide) (by decide) ?_
  refine g_iinc (w := (4 : Int32)) P2 d1_70 rfl (by rfl) #[.val (.ref a), .val (.ref ar), .val (.ref ar), .val (.int (5 : Int32)), .val (.int (4 : Int32)), .val (.int x3)] rfl ?_
  refine g_goto P2 d1_73 38 (by decide) (by decide) ?_
  refine g_iload P2 d1_38 rfl ?_
  refine g_iloadN P2 d1_40 rfl ?_
  refine g_icmpNo P2 d1_41 (by decide) ?_
  refine g_aloadN P2 d1_44 rfl rfl ?_
  refine g_iload P2 d1_45 rfl ?_
  refine g_iaload (i := 4) (v := (.int x4)) P2 d1_47 AR (by decide) rfl ?_
  refine g_istore P2 d1_48 #[.val (.ref a), .val (.ref ar), .val (.ref ar), .val (.int (5 : Int32)), .val (.int (4 : Int32)), .val (.int x4)] rfl ?_
  refine g_iload P2 d1_50 rfl ?_
  refine g_ifYes P2 d1_52 ((if0 _ _).trans (flt nn4).2.1) 70 (by decide) (by decide) ?_
  refine g_iinc (w := (5 : Int32)) P2 d1_70 rfl (by rfl) #[.val (.ref a), .val (.ref ar), .val (.ref ar), .val (.int (5 : Int32)), .val (.int (5 : Int32)), .val (.int x4)] rfl ?_
  refine g_goto P2 d1_73 38 (by decide) (by decide) ?_
  refine g_iload P2 d1_38 rfl ?_
  refine g_iloadN P2 d1_40 rfl ?_
  refine g_icmpYes P2 d1_41 (by decide) 76 (by decide) (by decide) ?_
  refine g_aloadN P2 d1_76 rfl rfl ?_
  refine g_aloadN P2 d1_77 rfl rfl ?_
  refine g_clone P2 d1_78 (hw _ (List.mem_of_getElem? (i := 13) rfl)) (hw _ (List.mem_of_getElem? (i := 14) rfl)) (hw _ (List.mem_of_getElem? (i := 18) rfl)) (hw _ (List.mem_of_getElem? (i := 16) rfl)) (hw _ (List.mem_of_getElem? (i := 17) rfl)) (hw _ (List.mem_of_getElem? (i := 19) rfl)) AR X_ar (by simp [fits]) rfl (by decide) (W := 1) rfl (by decide) 5 (dT rfl) (by decide) (by decide) fun T3 h3 b P3 e3 E3 AB X_b => ?_
  have K := (Keep.refl h0 [a]).ext E3
  have ba : b ≠ a := nN (by have := ltN A.lt; omega)
  have A := A.ext E3
  have F_counts := F_counts.ext E3
  have F_from := F_from.ext E3
  refine g_checkcast P3 d1_81 (hw _ (List.mem_of_getElem? (i := 20) rfl)) (Ins.self X_b) fun T4 P4 => ?_
  refine g_putF (host := "") P4 d1_84 (Or.inl (hw _ (List.mem_of_getElem? (i := 22) rfl))) Via.refl F_counts A (Or.inr ⟨(hw _ (List.mem_of_getElem? (i := 23) rfl)), rfl, rfl⟩) (hw _ (List.mem_of_getElem? (i := 3) rfl)) (ty := (.array .int)) (by decide) rfl rfl ge fun T5 h5 P5 W5 => ?_
  have F_counts := F_counts.same W5
  have F_from := F_from.other W5 (Or.inr (slot_ne (Or.inr (hw _ (List.mem_of_getElem? (i := 25) rfl)) : Laid Z a0 "com/example/linkwell/linkwell/index/HitCounts" "com/example/linkwell/linkwell/index/HitCounts" "from" "I") (Or.inr (hw _ (List.mem_of_getElem? (i := 23) rfl)) : Laid Z a0 "com/example/linkwell/linkwell/index/HitCounts" "com/example/linkwell/linkwell/index/HitCounts" "counts" "[I") (by decide) (t := .int) (by decide) (t' := (.array .int)) (by decide)))
  have K := K.wr W5 (Or.inl (List.mem_singleton.mpr rfl))
  have A := A.wr W5
  have AB := AB.other W5 ba
  refine g_aloadN P5 d1_87 rfl rfl ?_
  refine g_iconst (v := (0 : Int32)) P5 d1_88 (by rfl) ?_
  refine g_putF (host := "") P5 d1_89 (Or.inl (hw _ (List.mem_of_getElem? (i := 24) rfl))) Via.refl F_from A (Or.inr ⟨(hw _ (List.mem_of_getElem? (i := 25) rfl)), rfl, rfl⟩) (hw _ (List.mem_of_getElem? (i := 3) rfl)) (ty := .int) (by decide) rfl rfl ge fun T6 h6 P6 W6 => ?_
  have F_from := F_from.same W6
  have F_counts := F_counts.other W6 (Or.inr (slot_ne (Or.inr (hw _ (List.mem_of_getElem? (i := 23) rfl)) : Laid Z a0 "com/example/linkwell/linkwell/index/HitCounts" "com/example/linkwell/linkwell/index/HitCounts" "counts" "[I") (Or.inr (hw _ (List.mem_of_getElem? (i := 25) rfl)) : Laid Z a0 "com/example/linkwell/linkwell/index/HitCounts" "com/example/linkwell/linkwell/index/HitCounts" "from" "I") (by decide) (t := (.array .int)) (by decide) (t' := .int) (by decide)))
  have K := K.wr W6 (Or.inl (List.mem_singleton.mpr rfl))
  have A := A.wr W6
  have AB := AB.other W6 ba
  exact g_ret P6 d1_92 (by decide) (by decide) ⟨rfl, b, K, by omega, A, F_counts, F_from, AB⟩
set_option maxRecDepth 65536 in
set_option maxHeartbeats 40000000 in
theorem rm_init2 (l : Launch) (Z : State) (a0 : Array Value) (hw : ∀ d ∈ tables_1, d.before a0 Z = true) (h0 : Heap) (n0 : Nat) (a ar : Addr) (fr : Int32) (ge : n0 ≤ a) (A : Exa Z h0 a "com/example/linkwell/linkwell/index/HitCounts") (F_counts : Fld Z h0 a "com/example/linkwell/linkwell/index/HitCounts" "counts" "[I" .null) (F_from : Fld Z h0 a "com/example/linkwell/linkwell/index/HitCounts" "from" "I" (.int 0)) :
    Met l Z (⟨"com/example/linkwell/linkwell/index/HitCounts", "<init>", "([II)V"⟩ : MethodName) prog_12_method_2_code 3 none ({ frames := 1, cells := 0, slots := 0, locals := 12 } : Room) n0 #[(.ref a), (.ref ar), (.int fr)] h0 (fun v h => v = none ∧ Keep h0 h [a] ∧ Exa Z h a "com/example/linkwell/linkwell/index/HitCounts" ∧ Fld Z h a "com/example/linkwell/linkwell/index/HitCounts" "counts" "[I" (.ref ar) ∧ Fld Z h a "com/example/linkwell/linkwell/index/HitCounts" "from" "I" (.int fr)) := by
  refine Met.intro (by decide +kernel) ?_
  intro p e s m below meth cc T0 P0
  refine Go.cast (g' := mkF m 0 #[.val (.ref a), .val (.ref ar), .val (.int fr)] []) (by first | (simp [entryFrame, mkF, argsToLocals, Value.category, maxLocals]; done) | rfl) ?_
  refine g_aloadN P0 d3_0 rfl rfl ?_
  refine g_init (W := 0) P0 d3_1 (hw _ (List.mem_of_getElem? (i := 8) rfl)) (hw _ (List.mem_of_getElem? (i := 9) rfl)) (hw _ (List.mem_of_getElem? (i := 10) rfl)) rfl (by decide) rfl (by decide) fun T7 P7 => ?_
  refine g_aloadN P7 d3_4 rfl rfl ?_
  refine g_aloadN P7 d3_5 rfl rfl ?_
  refine g_putF (host := "") P7 d3_6 (Or.inl (hw _ (List.mem_of_getElem? (i := 22) rfl))) Via.refl F_counts A (Or.inr ⟨(hw _ (List.mem_of_getElem? (i := 23) rfl)), rfl, rfl⟩) (hw _ (List.mem_of_getElem? (i := 3) rfl)) (ty := (.array .int)) (by decide) rfl rfl ge fun T8 h8 P8 W8 => ?_
  have F_counts := F_counts.same W8
  have F_from := F_from.other W8 (Or.inr (slot_ne (Or.inr (hw _ (List.mem_of_getElem? (i := 25) rfl)) : Laid Z a0 "com/example/linkwell/linkwell/index/HitCounts" "com/example/linkwell/linkwell/index/HitCounts" "from" "I") (Or.inr (hw _ (List.mem_of_getElem? (i := 23) rfl)) : Laid Z a0 "com/example/linkwell/linkwell/index/HitCounts" "com/example/linkwell/linkwell/index/HitCounts" "counts" "[I") (by decide) (t := .int) (by decide) (t' := (.array .int)) (by decide)))
  have K := (Keep.refl h0 [a]).wr W8 (Or.inl (List.mem_singleton.mpr rfl))
  have A := A.wr W8
  refine g_aloadN P8 d3_9 rfl rfl ?_
  refine g_iloadN P8 d3_10 rfl ?_
  refine g_putF (host := "") P8 d3_11 (Or.inl (hw _ (List.mem_of_getElem? (i := 24) rfl))) Via.refl F_from A (Or.inr ⟨(hw _ (List.mem_of_getElem? (i := 25) rfl)), rfl, rfl⟩) (hw _ (List.mem_of_getElem? (i := 3) rfl)) (ty := .int) (by decide) rfl rfl ge fun T9 h9 P9 W9 => ?_
  have F_from := F_from.same W9
  have F_counts := F_counts.other W9 (Or.inr (slot_ne (Or.inr (hw _ (List.mem_of_getElem? (i := 23) rfl)) : Laid Z a0 "com/example/linkwell/linkwell/index/HitCounts" "com/example/linkwell/linkwell/index/HitCounts" "counts" "[I") (Or.inr (hw _ (List.mem_of_getElem? (i := 25) rfl)) : Laid Z a0 "com/example/linkwell/linkwell/index/HitCounts" "com/example/linkwell/linkwell/index/HitCounts" "from" "I") (by decide) (t := (.array .int)) (by decide) (t' := .int) (by decide)))
  have K := K.wr W9 (Or.inl (List.mem_singleton.mpr rfl))
  have A := A.wr W9
  exact g_ret P9 d3_14 (by decide) (by decide) ⟨rfl, K, A, F_counts, F_from⟩
set_option maxRecDepth 65536 in
set_option maxHeartbeats 40000000 in
theorem rm_hash (l : Launch) (Z : State) (a0 : Array Value) (hw : ∀ d ∈ tables_1, d.before a0 Z = true) (h0 : Heap) (n0 : Nat) (a b : Addr) (k : ClassId) (vs : List Value) (fr x0 x1 x2 x3 x4 : Int32) (k0 k1 k2 k3 k4 : Nat) (S_KINDS : Sta Z h0 "com/example/linkwell/linkwell/index/HitCounts" "KINDS" "I" (.int (5 : Int32))) (F_counts : Fld Z h0 a "com/example/linkwell/linkwell/index/HitCounts" "counts" "[I" (.ref b)) (F_from : Fld Z h0 a "com/example/linkwell/linkwell/index/HitCounts" "from" "I" (.int fr)) (AR : AL Z h0 b k .int vs) (I0 : Ix (fr + (0 : Int32)) k0) (I1 : Ix (fr + (1 : Int32)) k1) (I2 : Ix (fr + (2 : Int32)) k2) (I3 : Ix (fr + (3 : Int32)) k3) (I4 : Ix (fr + (4 : Int32)) k4) (g0 : vs[k0]? = some (.int x0)) (g1 : vs[k1]? = some (.int x1)) (g2 : vs[k2]? = some (.int x2)) (g3 : vs[k3]? = some (.int x3)) (g4 : vs[k4]? = some (.int x4)) :
    Met l Z (⟨"com/example/linkwell/linkwell/index/HitCounts", "hashCode", "()I"⟩ : MethodName) prog_12_method_5_code 3 (some .int) ({ frames := 0, cells := 0, slots := 0, locals := 0 } : Room) n0 #[(.ref a)] h0 (fun v h => v = some (.int (hash5 x0 x1 x2 x3 x4)) ∧ h0 = h) := by
  refine Met.intro (by decide +kernel) ?_
  intro p e s m below meth cc T0 P0
  refine Go.cast (g' := mkF m 0 #[.val (.ref a), .unset, .unset] []) (by first | (simp [entryFrame, mkF, argsToLocals, Value.category, maxLocals]; done) | rfl) ?_
  refine g_iconst (v := (1 : Int32)) P0 d4_0 (by rfl) ?_
  refine g_istoreN P0 d4_1 #[.val (.ref a), .val (.int (1 : Int32)), .unset] rfl ?_
  refine g_iconst (v := (0 : Int32)) P0 d4_2 (by rfl) ?_
  refine g_istoreN P0 d4_3 #[.val (.ref a), .val (.int (1 : Int32)), .val (.int (0 : Int32))] rfl ?_
  refine g_iloadN P0 d4_4 rfl ?_
  refine g_getS (host := "") P0 d4_5 (Or.inl (hw _ (List.mem_of_getElem? (i := 11) rfl))) Via.refl S_KINDS fun T10 P10 => ?_
  refine g_icmpNo P10 d4_8 (by decide) ?_
  refine g_bipush (v := (31 : Int32)) P10 d4_11 (by rfl) ?_
  refine g_iloadN P10 d4_13 rfl ?_
  refine g_imul (v := (31 : Int32)) P10 d4_14 (by decide) ?_
  refine g_aloadN P10 d4_15 rfl rfl ?_
  refine g_getF (host := "") P10 d4_16 (Or.inl (hw _ (List.mem_of_getElem? (i := 22) rfl))) Via.refl F_counts fun T11 P11 => ?_
  refine g_aloadN P11 d4_19 rfl rfl ?_
  refine g_getF (host := "") P11 d4_20 (Or.inl (hw _ (List.mem_of_getElem? (i := 24) rfl))) Via.refl F_from fun T12 P12 => ?_
  refine g_iloadN P12 d4_23 rfl ?_
  refine g_iadd (v := (fr + (0 : Int32))) P12 d4_24 rfl ?_
  refine g_iaload (i := k0) (v := (.int x0)) P12 d4_25 AR I0 g0 ?_
  refine g_iadd (v := ((31 : Int32) + x0)) P12 d4_26 rfl ?_
  refine g_istoreN P12 d4_27 #[.val (.ref a), .val (.int ((31 : Int32) + x0)), .val (.int (0 : Int32))] rfl ?_
  refine g_iinc (w := (1 : Int32)) P12 d4_28 rfl (by rfl) #[.val (.ref a), .val (.int ((31 : Int32) + x0)), .val (.int (1 : Int32))] rfl ?_
  refine g_goto P12 d4_31 4 (by decide) (by decide) ?_
  refine g_iloadN P12 d4_4 rfl ?_
  refine g_getS (host := "") P12 d4_5 (Or.inl (hw _ (List.mem_of_getElem? (i := 11) rfl))) Via.refl S_KINDS fun T13 P13 => ?_
  refine g_icmpNo P13 d4_8 (by decide) ?_
  refine g_bipush (v := (31 : Int32)) P13 d4_11 (by rfl) ?_
  refine g_iloadN P13 d4_13 rfl ?_
  refine g_imul (v := ((31 : Int32) * ((31 : Int32) + x0))) P13 d4_14 rfl ?_
  refine g_aloadN P13 d4_15 rfl rfl ?_
  refine g_getF (host := "") P13 d4_16 (Or.inl (hw _ (List.mem_of_getElem? (i := 22) rfl))) Via.refl F_counts fun T14 P14 => ?_
  refine g_aloadN P14 d4_19 rfl rfl ?_
  refine g_getF (host := "") P14 d4_20 (Or.inl (hw _ (List.mem_of_getElem? (i := 24) rfl))) Via.refl F_from fun T15 P15 => ?_
  refine g_iloadN P15 d4_23 rfl ?_
  refine g_iadd (v := (fr + (1 : Int32))) P15 d4_24 rfl ?_
  refine g_iaload (i := k1) (v := (.int x1)) P15 d4_25 AR I1 g1 ?_
  refine g_iadd (v := (((31 : Int32) * ((31 : Int32) + x0)) + x1)) P15 d4_26 rfl ?_
  refine g_istoreN P15 d4_27 #[.val (.ref a), .val (.int (((31 : Int32) * ((31 : Int32) + x0)) + x1)), .val (.int (1 : Int32))] rfl ?_
  refine g_iinc (w := (2 : Int32)) P15 d4_28 rfl (by rfl) #[.val (.ref a), .val (.int (((31 : Int32) * ((31 : Int32) + x0)) + x1)), .val (.int (2 : Int32))] rfl ?_
  refine g_goto P15 d4_31 4 (by decide) (by decide) ?_
  refine g_iloadN P15 d4_4 rfl ?_
  refine g_getS (host := "") P15 d4_5 (Or.inl (hw _ (List.mem_of_getElem? (i := 11) rfl))) Via.refl S_KINDS fun T16 P16 => ?_
  refine g_icmpNo P16 d4_8 (by decide) ?_
  refine g_bipush (v := (31 : Int32)) P16 d4_11 (by rfl) ?_
  refine g_iloadN P16 d4_13 rfl ?_
  refine g_imul (v := ((31 : Int32) * (((31 : Int32) * ((31 : Int32) + x0)) + x1))) P16 d4_14 rfl ?_
  refine g_aloadN P16 d4_15 rfl rfl ?_
  refine g_getF (host := "") P16 d4_16 (Or.inl (hw _ (List.mem_of_getElem? (i := 22) rfl))) Via.refl F_counts fun T17 P17 => ?_
  refine g_aloadN P17 d4_19 rfl rfl ?_
  refine g_getF (host := "") P17 d4_20 (Or.inl (hw _ (List.mem_of_getElem? (i := 24) rfl))) Via.refl F_from fun T18 P18 => ?_
  refine g_iloadN P18 d4_23 rfl ?_
  refine g_iadd (v := (fr + (2 : Int32))) P18 d4_24 rfl ?_
  refine g_iaload (i := k2) (v := (.int x2)) P18 d4_25 AR I2 g2 ?_
  refine g_iadd (v := (((31 : Int32) * (((31 : Int32) * ((31 : Int32) + x0)) + x1)) + x2)) P18 d4_26 rfl ?_
  refine g_istoreN P18 d4_27 #[.val (.ref a), .val (.int (((31 : Int32) * (((31 : Int32) * ((31 : Int32) + x0)) + x1)) + x2)), .val (.int (2 : Int32))] rfl ?_
  refine g_iinc (w := (3 : Int32)) P18 d4_28 rfl (by rfl) #[.val (.ref a), .val (.int (((31 : Int32) * (((31 : Int32) * ((31 : Int32) + x0)) + x1)) + x2)), .val (.int (3 : Int32))] rfl ?_
  refine g_goto P18 d4_31 4 (by decide) (by decide) ?_
  refine g_iloadN P18 d4_4 rfl ?_
  refine g_getS (host := "") P18 d4_5 (Or.inl (hw _ (List.mem_of_getElem? (i := 11) rfl))) Via.refl S_KINDS fun T19 P19 => ?_
  refine g_icmpNo P19 d4_8 (by decide) ?_
  refine g_bipush (v := (31 : Int32)) P19 d4_11 (by rfl) ?_
  refine g_iloadN P19 d4_13 rfl ?_
  refine g_imul (v := ((31 : Int32) * (((31 : Int32) * (((31 : Int32) * ((31 : Int32) + x0)) + x1)) + x2))) P19 d4_14 rfl ?_
  refine g_aloadN P19 d4_15 rfl rfl ?_
  refine g_getF (host := "") P19 d4_16 (Or.inl (hw _ (List.mem_of_getElem? (i := 22) rfl))) Via.refl F_counts fun T20 P20 => ?_
  refine g_aloadN P20 d4_19 rfl rfl ?_
  refine g_getF (host := "") P20 d4_20 (Or.inl (hw _ (List.mem_of_getElem? (i := 24) rfl))) Via.refl F_from fun T21 P21 => ?_
  refine g_iloadN P21 d4_23 rfl ?_
  refine g_iadd (v := (fr + (3 : Int32))) P21 d4_24 rfl ?_
  refine g_iaload (i := k3) (v := (.int x3)) P21 d4_25 AR I3 g3 ?_
  refine g_iadd (v := (((31 : Int32) * (((31 : Int32) * (((31 : Int32) * ((31 : Int32) + x0)) + x1)) + x2)) + x3)) P21 d4_26 rfl ?_
  refine g_istoreN P21 d4_27 #[.val (.ref a), .val (.int (((31 : Int32) * (((31 : Int32) * (((31 : Int32) * ((31 : Int32) + x0)) + x1)) + x2)) + x3)), .val (.int (3 : Int32))] rfl ?_
  refine g_iinc (w := (4 : Int32)) P21 d4_28 rfl (by rfl) #[.val (.ref a), .val (.int (((31 : Int32) * (((31 : Int32) * (((31 : Int32) * ((31 : Int32) + x0)) + x1)) + x2)) + x3)), .val (.int (4 : Int32))] rfl ?_
  refine g_goto P21 d4_31 4 (by decide) (by decide) ?_
  refine g_iloadN P21 d4_4 rfl ?_
  refine g_getS (host := "") P21 d4_5 (Or.inl (hw _ (List.mem_of_getElem? (i := 11) rfl))) Via.refl S_KINDS fun T22 P22 => ?_
  refine g_icmpNo P22 d4_8 (by decide) ?_
  refine g_bipush (v := (31 : Int32)) P22 d4_11 (by rfl) ?_
  refine g_iloadN P22 d4_13 rfl ?_
  refine g_imul (v := ((31 : Int32) * (((31 : Int32) * (((31 : Int32) * (((31 : Int32) * ((31 : Int32) + x0)) + x1)) + x2)) + x3))) P22 d4_14 rfl ?_
  refine g_aloadN P22 d4_15 rfl rfl ?_
  refine g_getF (host := "") P22 d4_16 (Or.inl (hw _ (List.mem_of_getElem? (i := 22) rfl))) Via.refl F_counts fun T23 P23 => ?_
  refine g_aloadN P23 d4_19 rfl rfl ?_
  refine g_getF (host := "") P23 d4_20 (Or.inl (hw _ (List.mem_of_getElem? (i := 24) rfl))) Via.refl F_from fun T24 P24 => ?_
  refine g_iloadN P24 d4_23 rfl ?_
  refine g_iadd (v := (fr + (4 : Int32))) P24 d4_24 rfl ?_
  refine g_iaload (i := k4) (v := (.int x4)) P24 d4_25 AR I4 g4 ?_
  refine g_iadd (v := (((31 : Int32) * (((31 : Int32) * (((31 : Int32) * (((31 : Int32) * ((31 : Int32) + x0)) + x1)) + x2)) + x3)) + x4)) P24 d4_26 rfl ?_
  refine g_istoreN P24 d4_27 #[.val (.ref a), .val (.int (((31 : Int32) * (((31 : Int32) * (((31 : Int32) * (((31 : Int32) * ((31 : Int32) + x0)) + x1)) + x2)) + x3)) + x4)), .val (.int (4 : Int32))] rfl ?_
  refine g_iinc (w := (5 : Int32)) P24 d4_28 rfl (by rfl) #[.val (.ref a), .val (.int (((31 : Int32) * (((31 : Int32) * (((31 : Int32) * (((31 : Int32) * ((31 : Int32) + x0)) + x1)) + x2)) + x3)) + x4)), .val (.int (5 : Int32))] rfl ?_
  refine g_goto P24 d4_31 4 (by decide) (by decide) ?_
  refine g_iloadN P24 d4_4 rfl ?_
  refine g_getS (host := "") P24 d4_5 (Or.inl (hw _ (List.mem_of_getElem? (i := 11) rfl))) Via.refl S_KINDS fun T25 P25 => ?_
  refine g_icmpYes P25 d4_8 (by decide) 34 (by decide) (by decide) ?_
  refine g_iloadN P25 d4_34 rfl ?_
  exact g_retI P25 d4_35 (by decide) (by decide) ⟨rfl, rfl⟩
set_option maxRecDepth 65536 in
set_option maxHeartbeats 40000000 in
theorem rm_exp (l : Launch) (Z : State) (a0 : Array Value) (hw : ∀ d ∈ tables_1, d.before a0 Z = true) (h0 : Heap) (n0 : Nat) (x0 x1 x2 x3 x4 : Int32)  :
    Met l Z (⟨"com/example/linkwell/linkwell/index/HitCountsHashCodePinLaw", "expected", "(IIIII)I"⟩ : MethodName) method_2_code 5 (some .int) ({ frames := 0, cells := 0, slots := 0, locals := 0 } : Room) n0 #[(.int x0), (.int x1), (.int x2), (.int x3), (.int x4)] h0 (fun v h => v = some (.int (exp5 x0 x1 x2 x3 x4)) ∧ h0 = h) := by
  refine Met.intro (by decide +kernel) ?_
  intro p e s m below meth cc T0 P0
  refine Go.cast (g' := mkF m 0 #[.val (.int x0), .val (.int x1), .val (.int x2), .val (.int x3), .val (.int x4)] []) (by first | (simp [entryFrame, mkF, argsToLocals, Value.category, maxLocals]; done) | rfl) ?_
  refine g_ldc (v := (28629151 : Int32)) P0 d5_0 (hw _ (List.mem_of_getElem? (i := 38) rfl)) ?_
  refine g_ldc (v := (923521 : Int32)) P0 d5_2 (hw _ (List.mem_of_getElem? (i := 39) rfl)) ?_
  refine g_iloadN P0 d5_4 rfl ?_
  refine g_imul (v := ((923521 : Int32) * x0)) P0 d5_5 rfl ?_
  refine g_iadd (v := ((28629151 : Int32) + ((923521 : Int32) * x0))) P0 d5_6 rfl ?_
  refine g_sipush (v := (29791 : Int32)) P0 d5_7 (by rfl) ?_
  refine g_iloadN P0 d5_10 rfl ?_
  refine g_imul (v := ((29791 : Int32) * x1)) P0 d5_11 rfl ?_
  refine g_iadd (v := (((28629151 : Int32) + ((923521 : Int32) * x0)) + ((29791 : Int32) * x1))) P0 d5_12 rfl ?_
  refine g_sipush (v := (961 : Int32)) P0 d5_13 (by rfl) ?_
  refine g_iloadN P0 d5_16 rfl ?_
  refine g_imul (v := ((961 : Int32) * x2)) P0 d5_17 rfl ?_
  refine g_iadd (v := ((((28629151 : Int32) + ((923521 : Int32) * x0)) + ((29791 : Int32) * x1)) + ((961 : Int32) * x2))) P0 d5_18 rfl ?_
  refine g_bipush (v := (31 : Int32)) P0 d5_19 (by rfl) ?_
  refine g_iloadN P0 d5_21 rfl ?_
  refine g_imul (v := ((31 : Int32) * x3)) P0 d5_22 rfl ?_
  refine g_iadd (v := (((((28629151 : Int32) + ((923521 : Int32) * x0)) + ((29791 : Int32) * x1)) + ((961 : Int32) * x2)) + ((31 : Int32) * x3))) P0 d5_23 rfl ?_
  refine g_iload P0 d5_24 rfl ?_
  refine g_iadd (v := ((((((28629151 : Int32) + ((923521 : Int32) * x0)) + ((29791 : Int32) * x1)) + ((961 : Int32) * x2)) + ((31 : Int32) * x3)) + x4)) P0 d5_26 rfl ?_
  exact g_retI P0 d5_27 (by decide) (by decide) ⟨rfl, rfl⟩
set_option maxRecDepth 65536 in
set_option maxHeartbeats 40000000 in
theorem rm_law (l : Launch) (Z : State) (a0 : Array Value) (hw : ∀ d ∈ tables_1, d.before a0 Z = true) (h0 : Heap) (n0 : Nat) (p1 p2 p3 p4 p5 p6 : Int32) (Z0 : n0 ≤ h0.size) (S_KINDS : Sta Z h0 "com/example/linkwell/linkwell/index/HitCounts" "KINDS" "I" (.int (5 : Int32))) :
    Met l Z x code maxLocals ret room_1 n0 #[(.int p1), (.int p2), (.int p3), (.int p4), (.int p5), (.int p6)] h0 (fun v _ => v = some (.int 1)) := by
  refine Met.intro (by decide +kernel) ?_
  intro p e s m below meth cc T0 P0
  refine Go.cast (g' := mkF m 0 #[.val (.int p1), .val (.int p2), .val (.int p3), .val (.int p4), .val (.int p5), .val (.int p6), .unset, .unset, .unset, .unset, .unset] []) (by first | (simp [entryFrame, mkF, argsToLocals, Value.category, maxLocals]; done) | rfl) ?_
  refine g_iconst (v := (5 : Int32)) P0 d0_0 (by rfl) ?_
  refine g_newarray P0 d0_1 (hw _ (List.mem_of_getElem? (i := 0) rfl)) (by decide) 5 (by decide) (by decide) (by decide) (by decide) "[I" (by decide) fun T26 h26 a1 k26 P26 e26 E26 A1 X_a1 => ?_
  have A1 : AL Z h26 a1 k26 .int [(.int 0), (.int 0), (.int 0), (.int 0), (.int 0)] := A1
  have S_KINDS := S_KINDS.ext E26
  have g1 : n0 ≤ a1 := by omega
  have z1 : h0.size ≤ a1 := by omega
  refine g_dup P26 d0_3 rfl ?_
  refine g_iconst (v := (0 : Int32)) P26 d0_4 (by rfl) ?_
  refine g_iloadN P26 d0_5 rfl ?_
  refine g_ldc (v := (2147483647 : Int32)) P26 d0_6 (hw _ (List.mem_of_getElem? (i := 1) rfl)) ?_
  refine g_iand (v := (p1 &&& (2147483647 : Int32))) P26 d0_8 rfl ?_
  refine g_iastore (i := 0) P26 d0_9 A1 (by decide) (dT rfl) g1 fun T27 h27 P27 W27 A27 => ?_
  have A1 : AL Z h27 a1 k26 .int [(.int (p1 &&& (2147483647 : Int32))), (.int 0), (.int 0), (.int 0), (.int 0)] := A27
  have S_KINDS := S_KINDS.wr W27
  have X_a1 := X_a1.wr W27
  refine g_dup P27 d0_10 rfl ?_
  refine g_iconst (v := (1 : Int32)) P27 d0_11 (by rfl) ?_
  refine g_iloadN P27 d0_12 rfl ?_
  refine g_ldc (v := (2147483647 : Int32)) P27 d0_13 (hw _ (List.mem_of_getElem? (i := 1) rfl)) ?_
  refine g_iand (v := (p2 &&& (2147483647 : Int32))) P27 d0_15 rfl ?_
  refine g_iastore (i := 1) P27 d0_16 A1 (by decide) (dT rfl) g1 fun T28 h28 P28 W28 A28 => ?_
  have A1 : AL Z h28 a1 k26 .int [(.int (p1 &&& (2147483647 : Int32))), (.int (p2 &&& (2147483647 : Int32))), (.int 0), (.int 0), (.int 0)] := A28
  have S_KINDS := S_KINDS.wr W28
  have X_a1 := X_a1.wr W28
  refine g_dup P28 d0_17 rfl ?_
  refine g_iconst (v := (2 : Int32)) P28 d0_18 (by rfl) ?_
  refine g_iloadN P28 d0_19 rfl ?_
  refine g_ldc (v := (2147483647 : Int32)) P28 d0_20 (hw _ (List.mem_of_getElem? (i := 1) rfl)) ?_
  refine g_iand (v := (p3 &&& (2147483647 : Int32))) P28 d0_22 rfl ?_
  refine g_iastore (i := 2) P28 d0_23 A1 (by decide) (dT rfl) g1 fun T29 h29 P29 W29 A29 => ?_
  have A1 : AL Z h29 a1 k26 .int [(.int (p1 &&& (2147483647 : Int32))), (.int (p2 &&& (2147483647 : Int32))), (.int (p3 &&& (2147483647 : Int32))), (.int 0), (.int 0)] := A29
  have S_KINDS := S_KINDS.wr W29
  have X_a1 := X_a1.wr W29
  refine g_dup P29 d0_24 rfl ?_
  refine g_iconst (v := (3 : Int32)) P29 d0_25 (by rfl) ?_
  refine g_iloadN P29 d0_26 rfl ?_
  refine g_ldc (v := (2147483647 : Int32)) P29 d0_27 (hw _ (List.mem_of_getElem? (i := 1) rfl)) ?_
  refine g_iand (v := (p4 &&& (2147483647 : Int32))) P29 d0_29 rfl ?_
  refine g_iastore (i := 3) P29 d0_30 A1 (by decide) (dT rfl) g1 fun T30 h30 P30 W30 A30 => ?_
  have A1 : AL Z h30 a1 k26 .int [(.int (p1 &&& (2147483647 : Int32))), (.int (p2 &&& (2147483647 : Int32))), (.int (p3 &&& (2147483647 : Int32))), (.int (p4 &&& (2147483647 : Int32))), (.int 0)] := A30
  have S_KINDS := S_KINDS.wr W30
  have X_a1 := X_a1.wr W30
  refine g_dup P30 d0_31 rfl ?_
  refine g_iconst (v := (4 : Int32)) P30 d0_32 (by rfl) ?_
  refine g_iload P30 d0_33 rfl ?_
  refine g_ldc (v := (2147483647 : Int32)) P30 d0_35 (hw _ (List.mem_of_getElem? (i := 1) rfl)) ?_
  refine g_iand (v := (p5 &&& (2147483647 : Int32))) P30 d0_37 rfl ?_
  refine g_iastore (i := 4) P30 d0_38 A1 (by decide) (dT rfl) g1 fun T31 h31 P31 W31 A31 => ?_
  have A1 : AL Z h31 a1 k26 .int [(.int (p1 &&& (2147483647 : Int32))), (.int (p2 &&& (2147483647 : Int32))), (.int (p3 &&& (2147483647 : Int32))), (.int (p4 &&& (2147483647 : Int32))), (.int (p5 &&& (2147483647 : Int32)))] := A31
  have S_KINDS := S_KINDS.wr W31
  have X_a1 := X_a1.wr W31
  refine g_astore P31 d0_39 rfl #[.val (.int p1), .val (.int p2), .val (.int p3), .val (.int p4), .val (.int p5), .val (.int p6), .val (.ref a1), .unset, .unset, .unset, .unset] rfl ?_
  refine g_bipush (v := (7 : Int32)) P31 d0_41 (by rfl) ?_
  refine g_newarray P31 d0_43 (hw _ (List.mem_of_getElem? (i := 0) rfl)) (by decide) 7 (by decide) (by decide) (by decide) (by decide) "[I" (by decide) fun T32 h32 a2 k32 P32 e32 E32 A2 X_a2 => ?_
  have A2 : AL Z h32 a2 k32 .int [(.int 0), (.int 0), (.int 0), (.int 0), (.int 0), (.int 0), (.int 0)] := A2
  have S_KINDS := S_KINDS.ext E32
  have l1 := ltN A1.lt
  have A1 := A1.ext E32
  have X_a1 := X_a1.ext E32
  have g2 : n0 ≤ a2 := by omega
  have n12 : a1 ≠ a2 := nN (by omega)
  refine g_astore P32 d0_45 rfl #[.val (.int p1), .val (.int p2), .val (.int p3), .val (.int p4), .val (.int p5), .val (.int p6), .val (.ref a1), .val (.ref a2), .unset, .unset, .unset] rfl ?_
  refine g_aload P32 d0_47 rfl rfl ?_
  refine g_iconst (v := (0 : Int32)) P32 d0_49 (by rfl) ?_
  refine g_iload P32 d0_50 rfl ?_
  refine g_iastore (i := 0) P32 d0_52 A2 (by decide) (dT rfl) g2 fun T33 h33 P33 W33 A33 => ?_
  have A2 : AL Z h33 a2 k32 .int [(.int p6), (.int 0), (.int 0), (.int 0), (.int 0), (.int 0), (.int 0)] := A33
  have S_KINDS := S_KINDS.wr W33
  have A1 := A1.other W33 n12
  have X_a1 := X_a1.wr W33
  refine g_aload P33 d0_53 rfl rfl ?_
  refine g_iconst (v := (1 : Int32)) P33 d0_55 (by rfl) ?_
  refine g_iload P33 d0_56 rfl ?_
  refine g_iastore (i := 1) P33 d0_58 A2 (by decide) (dT rfl) g2 fun T34 h34 P34 W34 A34 => ?_
  have A2 : AL Z h34 a2 k32 .int [(.int p6), (.int p6), (.int 0), (.int 0), (.int 0), (.int 0), (.int 0)] := A34
  have S_KINDS := S_KINDS.wr W34
  have A1 := A1.other W34 n12
  have X_a1 := X_a1.wr W34
  refine g_aload P34 d0_59 rfl rfl ?_
  refine g_iconst (v := (2 : Int32)) P34 d0_61 (by rfl) ?_
  refine g_iload P34 d0_62 rfl ?_
  refine g_iastore (i := 2) P34 d0_64 A2 (by decide) (dT rfl) g2 fun T35 h35 P35 W35 A35 => ?_
  have A2 : AL Z h35 a2 k32 .int [(.int p6), (.int p6), (.int p6), (.int 0), (.int 0), (.int 0), (.int 0)] := A35
  have S_KINDS := S_KINDS.wr W35
  have A1 := A1.other W35 n12
  have X_a1 := X_a1.wr W35
  refine g_aload P35 d0_65 rfl rfl ?_
  refine g_iconst (v := (3 : Int32)) P35 d0_67 (by rfl) ?_
  refine g_iload P35 d0_68 rfl ?_
  refine g_iastore (i := 3) P35 d0_70 A2 (by decide) (dT rfl) g2 fun T36 h36 P36 W36 A36 => ?_
  have A2 : AL Z h36 a2 k32 .int [(.int p6), (.int p6), (.int p6), (.int p6), (.int 0), (.int 0), (.int 0)] := A36
  have S_KINDS := S_KINDS.wr W36
  have A1 := A1.other W36 n12
  have X_a1 := X_a1.wr W36
  refine g_aload P36 d0_71 rfl rfl ?_
  refine g_iconst (v := (4 : Int32)) P36 d0_73 (by rfl) ?_
  refine g_iload P36 d0_74 rfl ?_
  refine g_iastore (i := 4) P36 d0_76 A2 (by decide) (dT rfl) g2 fun T37 h37 P37 W37 A37 => ?_
  have A2 : AL Z h37 a2 k32 .int [(.int p6), (.int p6), (.int p6), (.int p6), (.int p6), (.int 0), (.int 0)] := A37
  have S_KINDS := S_KINDS.wr W37
  have A1 := A1.other W37 n12
  have X_a1 := X_a1.wr W37
  refine g_aload P37 d0_77 rfl rfl ?_
  refine g_iconst (v := (5 : Int32)) P37 d0_79 (by rfl) ?_
  refine g_iload P37 d0_80 rfl ?_
  refine g_iastore (i := 5) P37 d0_82 A2 (by decide) (dT rfl) g2 fun T38 h38 P38 W38 A38 => ?_
  have A2 : AL Z h38 a2 k32 .int [(.int p6), (.int p6), (.int p6), (.int p6), (.int p6), (.int p6), (.int 0)] := A38
  have S_KINDS := S_KINDS.wr W38
  have A1 := A1.other W38 n12
  have X_a1 := X_a1.wr W38
  refine g_aload P38 d0_83 rfl rfl ?_
  refine g_bipush (v := (6 : Int32)) P38 d0_85 (by rfl) ?_
  refine g_iload P38 d0_87 rfl ?_
  refine g_iastore (i := 6) P38 d0_89 A2 (by decide) (dT rfl) g2 fun T39 h39 P39 W39 A39 => ?_
  have A2 : AL Z h39 a2 k32 .int [(.int p6), (.int p6), (.int p6), (.int p6), (.int p6), (.int p6), (.int p6)] := A39
  have S_KINDS := S_KINDS.wr W39
  have A1 := A1.other W39 n12
  have X_a1 := X_a1.wr W39
  refine g_iload P39 d0_90 rfl ?_
  refine g_ldc (v := (2147483647 : Int32)) P39 d0_92 (hw _ (List.mem_of_getElem? (i := 1) rfl)) ?_
  refine g_iand (v := (p6 &&& (2147483647 : Int32))) P39 d0_94 rfl ?_
  refine g_iconst (v := (3 : Int32)) P39 d0_95 (by rfl) ?_
  refine g_irem (v := ((p6 &&& (2147483647 : Int32)) % (3 : Int32))) P39 d0_96 (by decide) rfl ?_
  have hi := rem_mask p6 3 (by decide)
  generalize ((p6 &&& (2147483647 : Int32)) % (3 : Int32)) = fr at hi ⊢
  rcases cases3 hi with rfl | rfl | rfl
  · refine g_istore P39 d0_97 #[.val (.int p1), .val (.int p2), .val (.int p3), .val (.int p4), .val (.int p5), .val (.int p6), .val (.ref a1), .val (.ref a2), .val (.int (0 : Int32)), .unset, .unset] rfl ?_
    refine g_aload P39 d0_99 rfl rfl ?_
    refine g_iload P39 d0_101 rfl ?_
    refine g_iloadN P39 d0_103 rfl ?_
    refine g_iastore (i := 0) P39 d0_104 A2 (by decide) (dT rfl) g2 fun T40 h40 P40 W40 A40 => ?_
    have A2 : AL Z h40 a2 k32 .int [(.int p1), (.int p6), (.int p6), (.int p6), (.int p6), (.int p6), (.int p6)] := A40
    have S_KINDS := S_KINDS.wr W40
    have A1 := A1.other W40 n12
    have X_a1 := X_a1.wr W40
    refine g_aload P40 d0_105 rfl rfl ?_
    refine g_iload P40 d0_107 rfl ?_
    refine g_iconst (v := (1 : Int32)) P40 d0_109 (by rfl) ?_
    refine g_iadd (v := (1 : Int32)) P40 d0_110 (by decide) ?_
    refine g_iloadN P40 d0_111 rfl ?_
    refine g_iastore (i := 1) P40 d0_112 A2 (by decide) (dT rfl) g2 fun T41 h41 P41 W41 A41 => ?_
    have A2 : AL Z h41 a2 k32 .int [(.int p1), (.int p2), (.int p6), (.int p6), (.int p6), (.int p6), (.int p6)] := A41
    have S_KINDS := S_KINDS.wr W41
    have A1 := A1.other W41 n12
    have X_a1 := X_a1.wr W41
    refine g_aload P41 d0_113 rfl rfl ?_
    refine g_iload P41 d0_115 rfl ?_
    refine g_iconst (v := (2 : Int32)) P41 d0_117 (by rfl) ?_
    refine g_iadd (v := (2 : Int32)) P41 d0_118 (by decide) ?_
    refine g_iloadN P41 d0_119 rfl ?_
    refine g_iastore (i := 2) P41 d0_120 A2 (by decide) (dT rfl) g2 fun T42 h42 P42 W42 A42 => ?_
    have A2 : AL Z h42 a2 k32 .int [(.int p1), (.int p2), (.int p3), (.int p6), (.int p6), (.int p6), (.int p6)] := A42
    have S_KINDS := S_KINDS.wr W42
    have A1 := A1.other W42 n12
    have X_a1 := X_a1.wr W42
    refine g_aload P42 d0_121 rfl rfl ?_
    refine g_iload P42 d0_123 rfl ?_
    refine g_iconst (v := (3 : Int32)) P42 d0_125 (by rfl) ?_
    refine g_iadd (v := (3 : Int32)) P42 d0_126 (by decide) ?_
    refine g_iloadN P42 d0_127 rfl ?_
    refine g_iastore (i := 3) P42 d0_128 A2 (by decide) (dT rfl) g2 fun T43 h43 P43 W43 A43 => ?_
    have A2 : AL Z h43 a2 k32 .int [(.int p1), (.int p2), (.int p3), (.int p4), (.int p6), (.int p6), (.int p6)] := A43
    have S_KINDS := S_KINDS.wr W43
    have A1 := A1.other W43 n12
    have X_a1 := X_a1.wr W43
    refine g_aload P43 d0_129 rfl rfl ?_
    refine g_iload P43 d0_131 rfl ?_
    refine g_iconst (v := (4 : Int32)) P43 d0_133 (by rfl) ?_
    refine g_iadd (v := (4 : Int32)) P43 d0_134 (by decide) ?_
    refine g_iload P43 d0_135 rfl ?_
    refine g_iastore (i := 4) P43 d0_137 A2 (by decide) (dT rfl) g2 fun T44 h44 P44 W44 A44 => ?_
    have A2 : AL Z h44 a2 k32 .int [(.int p1), (.int p2), (.int p3), (.int p4), (.int p5), (.int p6), (.int p6)] := A44
    have S_KINDS := S_KINDS.wr W44
    have A1 := A1.other W44 n12
    have X_a1 := X_a1.wr W44
    refine g_new P44 d0_138 (hw _ (List.mem_of_getElem? (i := 2) rfl)) (hw _ (List.mem_of_getElem? (i := 3) rfl)) (hw _ (List.mem_of_getElem? (i := 4) rfl)) (by decide) (by decide) fun T45 h45 o1 P45 e45 E45 A45 F45 => ?_
    have S_KINDS := S_KINDS.ext E45
    have lA1 := ltN A1.lt
    have lA2 := ltN A2.lt
    have A1 := A1.ext E45
    have A2 := A2.ext E45
    have X_a1 := X_a1.ext E45
    have go1 : n0 ≤ o1 := by omega
    have n1o : a1 ≠ o1 := nN (by omega)
    have n2o : a2 ≠ o1 := nN (by omega)
    have F_counts := F45 (Or.inr (hw _ (List.mem_of_getElem? (i := 23) rfl)) : Laid Z a0 "com/example/linkwell/linkwell/index/HitCounts" "com/example/linkwell/linkwell/index/HitCounts" "counts" "[I") (ty := (.array .int)) (by decide)
    have F_from := F45 (Or.inr (hw _ (List.mem_of_getElem? (i := 25) rfl)) : Laid Z a0 "com/example/linkwell/linkwell/index/HitCounts" "com/example/linkwell/linkwell/index/HitCounts" "from" "I") (ty := .int) (by decide)
    refine g_dup P45 d0_141 rfl ?_
    refine g_aload P45 d0_142 rfl rfl ?_
    refine g_special P45 o1 [(.ref a1)] (rest := [(.ref o1)]) (W := 1) d0_144 rfl (hw _ (List.mem_of_getElem? (i := 5) rfl)) (hw _ (List.mem_of_getElem? (i := 6) rfl)) (hw _ (List.mem_of_getElem? (i := 4) rfl)) (hw _ (List.mem_of_getElem? (i := 7) rfl)) (by decide) (rm_init1 l Z a0 hw _ n0 o1 a1 _ (p1 &&& (2147483647 : Int32)) (p2 &&& (2147483647 : Int32)) (p3 &&& (2147483647 : Int32)) (p4 &&& (2147483647 : Int32)) (p5 &&& (2147483647 : Int32)) S_KINDS go1 A45 F_counts F_from A1 X_a1 (mask_nn p1) (mask_nn p2) (mask_nn p3) (mask_nn p4) (mask_nn p5)) pd_0 rfl rfl rfl rfl (by decide) (by decide) (by decide) (by decide) fun v46 T46 h46 P46 q46 => ?_
    obtain ⟨rfl, b1, K, zb1, O1, FC1, FF1, B1⟩ := q46
    have S_KINDS := sta_keep S_KINDS K (plain1 A45)
    have A2 := A2.keep K (ninS n2o nin0)
    have lO1 := ltN O1.lt
    have lB1 := ltN B1.lt
    have lA2 := ltN A2.lt
    refine g_astore P46 d0_147 rfl #[.val (.int p1), .val (.int p2), .val (.int p3), .val (.int p4), .val (.int p5), .val (.int p6), .val (.ref a1), .val (.ref a2), .val (.int (0 : Int32)), .val (.ref o1), .unset] rfl ?_
    refine g_new P46 d0_149 (hw _ (List.mem_of_getElem? (i := 2) rfl)) (hw _ (List.mem_of_getElem? (i := 3) rfl)) (hw _ (List.mem_of_getElem? (i := 4) rfl)) (by decide) (by decide) fun T47 h47 o2 P47 e47 E47 A47 F47 => ?_
    have S_KINDS := S_KINDS.ext E47
    have A2 := A2.ext E47
    have O1 := O1.ext E47
    have FC1 := FC1.ext E47
    have FF1 := FF1.ext E47
    have B1 := B1.ext E47
    have go2 : n0 ≤ o2 := by omega
    have n12o : o1 ≠ o2 := nN (by omega)
    have nb : b1 ≠ o2 := nN (by omega)
    have n2o2 : a2 ≠ o2 := nN (by omega)
    have F_counts := F47 (Or.inr (hw _ (List.mem_of_getElem? (i := 23) rfl)) : Laid Z a0 "com/example/linkwell/linkwell/index/HitCounts" "com/example/linkwell/linkwell/index/HitCounts" "counts" "[I") (ty := (.array .int)) (by decide)
    have F_from := F47 (Or.inr (hw _ (List.mem_of_getElem? (i := 25) rfl)) : Laid Z a0 "com/example/linkwell/linkwell/index/HitCounts" "com/example/linkwell/linkwell/index/HitCounts" "from" "I") (ty := .int) (by decide)
    refine g_dup P47 d0_152 rfl ?_
    refine g_aload P47 d0_153 rfl rfl ?_
    refine g_iload P47 d0_155 rfl ?_
    refine g_special P47 o2 [(.ref a2), (.int (0 : Int32))] (rest := [(.ref o2)]) (W := 1) d0_157 rfl (hw _ (List.mem_of_getElem? (i := 26) rfl)) (hw _ (List.mem_of_getElem? (i := 27) rfl)) (hw _ (List.mem_of_getElem? (i := 4) rfl)) (hw _ (List.mem_of_getElem? (i := 28) rfl)) (by decide) (rm_init2 l Z a0 hw _ n0 o2 a2 (0 : Int32) go2 A47 F_counts F_from) pd_1 rfl rfl rfl rfl (by decide) (by decide) (by decide) (by decide) fun v48 T48 h48 P48 q48 => ?_
    obtain ⟨rfl, K, O2, FC2, FF2⟩ := q48
    have S_KINDS := sta_keep S_KINDS K (plain1 A47)
    have A2 := A2.keep K (ninS n2o2 nin0)
    have O1 := O1.keep K
    have FC1 := FC1.keep K (ninS n12o nin0)
    have FF1 := FF1.keep K (ninS n12o nin0)
    have B1 := B1.keep K (ninS nb nin0)
    refine g_astore P48 d0_160 rfl #[.val (.int p1), .val (.int p2), .val (.int p3), .val (.int p4), .val (.int p5), .val (.int p6), .val (.ref a1), .val (.ref a2), .val (.int (0 : Int32)), .val (.ref o1), .val (.ref o2)] rfl ?_
    refine g_aload P48 d0_162 rfl rfl ?_
    refine g_virtual P48 o1 [] (rest := []) (W := 0) d0_164 (hw _ (List.mem_of_getElem? (i := 29) rfl)) (hw _ (List.mem_of_getElem? (i := 30) rfl)) (hw _ (List.mem_of_getElem? (i := 32) rfl)) (hw _ (List.mem_of_getElem? (i := 31) rfl)) (hw _ (List.mem_of_getElem? (i := 4) rfl)) (hw _ (List.mem_of_getElem? (i := 33) rfl)) (by decide) O1 (rm_hash l Z a0 hw _ n0 o1 b1 _ _ 0 (p1 &&& (2147483647 : Int32)) (p2 &&& (2147483647 : Int32)) (p3 &&& (2147483647 : Int32)) (p4 &&& (2147483647 : Int32)) (p5 &&& (2147483647 : Int32)) 0 1 2 3 4 S_KINDS FC1 FF1 B1 (by decide) (by decide) (by decide) (by decide) (by decide) rfl rfl rfl rfl rfl) pd_2 rfl rfl rfl rfl (by decide) (by decide) (by decide) (by decide) fun v49 T49 h49 P49 q49 => ?_
    obtain ⟨rfl, rfl⟩ := q49
    refine g_iloadN P49 d0_167 rfl ?_
    refine g_ldc (v := (2147483647 : Int32)) P49 d0_168 (hw _ (List.mem_of_getElem? (i := 1) rfl)) ?_
    refine g_iand (v := (p1 &&& (2147483647 : Int32))) P49 d0_170 rfl ?_
    refine g_iloadN P49 d0_171 rfl ?_
    refine g_ldc (v := (2147483647 : Int32)) P49 d0_172 (hw _ (List.mem_of_getElem? (i := 1) rfl)) ?_
    refine g_iand (v := (p2 &&& (2147483647 : Int32))) P49 d0_174 rfl ?_
    refine g_iloadN P49 d0_175 rfl ?_
    refine g_ldc (v := (2147483647 : Int32)) P49 d0_176 (hw _ (List.mem_of_getElem? (i := 1) rfl)) ?_
    refine g_iand (v := (p3 &&& (2147483647 : Int32))) P49 d0_178 rfl ?_
    refine g_iloadN P49 d0_179 rfl ?_
    refine g_ldc (v := (2147483647 : Int32)) P49 d0_180 (hw _ (List.mem_of_getElem? (i := 1) rfl)) ?_
    refine g_iand (v := (p4 &&& (2147483647 : Int32))) P49 d0_182 rfl ?_
    refine g_iload P49 d0_183 rfl ?_
    refine g_ldc (v := (2147483647 : Int32)) P49 d0_185 (hw _ (List.mem_of_getElem? (i := 1) rfl)) ?_
    refine g_iand (v := (p5 &&& (2147483647 : Int32))) P49 d0_187 rfl ?_
    refine g_static P49 [(.int (p1 &&& (2147483647 : Int32))), (.int (p2 &&& (2147483647 : Int32))), (.int (p3 &&& (2147483647 : Int32))), (.int (p4 &&& (2147483647 : Int32))), (.int (p5 &&& (2147483647 : Int32)))] (rest := [(.int (hash5 (p1 &&& (2147483647 : Int32)) (p2 &&& (2147483647 : Int32)) (p3 &&& (2147483647 : Int32)) (p4 &&& (2147483647 : Int32)) (p5 &&& (2147483647 : Int32))))]) (W := 1) d0_188 (hw _ (List.mem_of_getElem? (i := 34) rfl)) (hw _ (List.mem_of_getElem? (i := 35) rfl)) (hw _ (List.mem_of_getElem? (i := 36) rfl)) (hw _ (List.mem_of_getElem? (i := 37) rfl)) (by decide) (rm_exp l Z a0 hw _ n0 (p1 &&& (2147483647 : Int32)) (p2 &&& (2147483647 : Int32)) (p3 &&& (2147483647 : Int32)) (p4 &&& (2147483647 : Int32)) (p5 &&& (2147483647 : Int32))) pd_3 rfl rfl rfl rfl (by decide) (by decide) (by decide) (by decide) fun v50 T50 h50 P50 q50 => ?_
    obtain ⟨rfl, rfl⟩ := q50
    refine g_icmpNo P50 d0_191 (teq (hash_exp (p1 &&& (2147483647 : Int32)) (p2 &&& (2147483647 : Int32)) (p3 &&& (2147483647 : Int32)) (p4 &&& (2147483647 : Int32)) (p5 &&& (2147483647 : Int32)))).2 ?_
    refine g_aload P50 d0_194 rfl rfl ?_
    refine g_virtual P50 o2 [] (rest := []) (W := 0) d0_196 (hw _ (List.mem_of_getElem? (i := 29) rfl)) (hw _ (List.mem_of_getElem? (i := 30) rfl)) (hw _ (List.mem_of_getElem? (i := 32) rfl)) (hw _ (List.mem_of_getElem? (i := 31) rfl)) (hw _ (List.mem_of_getElem? (i := 4) rfl)) (hw _ (List.mem_of_getElem? (i := 33) rfl)) (by decide) O2 (rm_hash l Z a0 hw _ n0 o2 a2 _ _ (0 : Int32) p1 p2 p3 p4 p5 0 1 2 3 4 S_KINDS FC2 FF2 A2 (by decide) (by decide) (by decide) (by decide) (by decide) rfl rfl rfl rfl rfl) pd_2 rfl rfl rfl rfl (by decide) (by decide) (by decide) (by decide) fun v51 T51 h51 P51 q51 => ?_
    obtain ⟨rfl, rfl⟩ := q51
    refine g_iloadN P51 d0_199 rfl ?_
    refine g_iloadN P51 d0_200 rfl ?_
    refine g_iloadN P51 d0_201 rfl ?_
    refine g_iloadN P51 d0_202 rfl ?_
    refine g_iload P51 d0_203 rfl ?_
    refine g_static P51 [(.int p1), (.int p2), (.int p3), (.int p4), (.int p5)] (rest := [(.int (hash5 p1 p2 p3 p4 p5))]) (W := 1) d0_205 (hw _ (List.mem_of_getElem? (i := 34) rfl)) (hw _ (List.mem_of_getElem? (i := 35) rfl)) (hw _ (List.mem_of_getElem? (i := 36) rfl)) (hw _ (List.mem_of_getElem? (i := 37) rfl)) (by decide) (rm_exp l Z a0 hw _ n0 p1 p2 p3 p4 p5) pd_3 rfl rfl rfl rfl (by decide) (by decide) (by decide) (by decide) fun v52 T52 h52 P52 q52 => ?_
    obtain ⟨rfl, rfl⟩ := q52
    refine g_icmpNo P52 d0_208 (teq (hash_exp p1 p2 p3 p4 p5)).2 ?_
    refine g_iconst (v := (1 : Int32)) P52 d0_211 (by rfl) ?_
    refine g_goto P52 d0_212 216 (by decide) (by decide) ?_
    exact g_retZ P52 d0_216 (by decide) (by decide) (by decide) rfl
  · refine g_istore P39 d0_97 #[.val (.int p1), .val (.int p2), .val (.int p3), .val (.int p4), .val (.int p5), .val (.int p6), .val (.ref a1), .val (.ref a2), .val (.int (1 : Int32)), .unset, .unset] rfl ?_
    refine g_aload P39 d0_99 rfl rfl ?_
    refine g_iload P39 d0_101 rfl ?_
    refine g_iloadN P39 d0_103 rfl ?_
    refine g_iastore (i := 1) P39 d0_104 A2 (by decide) (dT rfl) g2 fun T53 h53 P53 W53 A53 => ?_
    have A2 : AL Z h53 a2 k32 .int [(.int p6), (.int p1), (.int p6), (.int p6), (.int p6), (.int p6), (.int p6)] := A53
    have S_KINDS := S_KINDS.wr W53
    have A1 := A1.other W53 n12
    have X_a1 := X_a1.wr W53
    refine g_aload P53 d0_105 rfl rfl ?_
    refine g_iload P53 d0_107 rfl ?_
    refine g_iconst (v := (1 : Int32)) P53 d0_109 (by rfl) ?_
    refine g_iadd (v := (2 : Int32)) P53 d0_110 (by decide) ?_
    refine g_iloadN P53 d0_111 rfl ?_
    refine g_iastore (i := 2) P53 d0_112 A2 (by decide) (dT rfl) g2 fun T54 h54 P54 W54 A54 => ?_
    have A2 : AL Z h54 a2 k32 .int [(.int p6), (.int p1), (.int p2), (.int p6), (.int p6), (.int p6), (.int p6)] := A54
    have S_KINDS := S_KINDS.wr W54
    have A1 := A1.other W54 n12
    have X_a1 := X_a1.wr W54
    refine g_aload P54 d0_113 rfl rfl ?_
    refine g_iload P54 d0_115 rfl ?_
    refine g_iconst (v := (2 : Int32)) P54 d0_117 (by rfl) ?_
    refine g_iadd (v := (3 : Int32)) P54 d0_118 (by decide) ?_
    refine g_iloadN P54 d0_119 rfl ?_
    refine g_iastore (i := 3) P54 d0_120 A2 (by decide) (dT rfl) g2 fun T55 h55 P55 W55 A55 => ?_
    have A2 : AL Z h55 a2 k32 .int [(.int p6), (.int p1), (.int p2), (.int p3), (.int p6), (.int p6), (.int p6)] := A55
    have S_KINDS := S_KINDS.wr W55
    have A1 := A1.other W55 n12
    have X_a1 := X_a1.wr W55
    refine g_aload P55 d0_121 rfl rfl ?_
    refine g_iload P55 d0_123 rfl ?_
    refine g_iconst (v := (3 : Int32)) P55 d0_125 (by rfl) ?_
    refine g_iadd (v := (4 : Int32)) P55 d0_126 (by decide) ?_
    refine g_iloadN P55 d0_127 rfl ?_
    refine g_iastore (i := 4) P55 d0_128 A2 (by decide) (dT rfl) g2 fun T56 h56 P56 W56 A56 => ?_
    have A2 : AL Z h56 a2 k32 .int [(.int p6), (.int p1), (.int p2), (.int p3), (.int p4), (.int p6), (.int p6)] := A56
    have S_KINDS := S_KINDS.wr W56
    have A1 := A1.other W56 n12
    have X_a1 := X_a1.wr W56
    refine g_aload P56 d0_129 rfl rfl ?_
    refine g_iload P56 d0_131 rfl ?_
    refine g_iconst (v := (4 : Int32)) P56 d0_133 (by rfl) ?_
    refine g_iadd (v := (5 : Int32)) P56 d0_134 (by decide) ?_
    refine g_iload P56 d0_135 rfl ?_
    refine g_iastore (i := 5) P56 d0_137 A2 (by decide) (dT rfl) g2 fun T57 h57 P57 W57 A57 => ?_
    have A2 : AL Z h57 a2 k32 .int [(.int p6), (.int p1), (.int p2), (.int p3), (.int p4), (.int p5), (.int p6)] := A57
    have S_KINDS := S_KINDS.wr W57
    have A1 := A1.other W57 n12
    have X_a1 := X_a1.wr W57
    refine g_new P57 d0_138 (hw _ (List.mem_of_getElem? (i := 2) rfl)) (hw _ (List.mem_of_getElem? (i := 3) rfl)) (hw _ (List.mem_of_getElem? (i := 4) rfl)) (by decide) (by decide) fun T58 h58 o1 P58 e58 E58 A58 F58 => ?_
    have S_KINDS := S_KINDS.ext E58
    have lA1 := ltN A1.lt
    have lA2 := ltN A2.lt
    have A1 := A1.ext E58
    have A2 := A2.ext E58
    have X_a1 := X_a1.ext E58
    have go1 : n0 ≤ o1 := by omega
    have n1o : a1 ≠ o1 := nN (by omega)
    have n2o : a2 ≠ o1 := nN (by omega)
    have F_counts := F58 (Or.inr (hw _ (List.mem_of_getElem? (i := 23) rfl)) : Laid Z a0 "com/example/linkwell/linkwell/index/HitCounts" "com/example/linkwell/linkwell/index/HitCounts" "counts" "[I") (ty := (.array .int)) (by decide)
    have F_from := F58 (Or.inr (hw _ (List.mem_of_getElem? (i := 25) rfl)) : Laid Z a0 "com/example/linkwell/linkwell/index/HitCounts" "com/example/linkwell/linkwell/index/HitCounts" "from" "I") (ty := .int) (by decide)
    refine g_dup P58 d0_141 rfl ?_
    refine g_aload P58 d0_142 rfl rfl ?_
    refine g_special P58 o1 [(.ref a1)] (rest := [(.ref o1)]) (W := 1) d0_144 rfl (hw _ (List.mem_of_getElem? (i := 5) rfl)) (hw _ (List.mem_of_getElem? (i := 6) rfl)) (hw _ (List.mem_of_getElem? (i := 4) rfl)) (hw _ (List.mem_of_getElem? (i := 7) rfl)) (by decide) (rm_init1 l Z a0 hw _ n0 o1 a1 _ (p1 &&& (2147483647 : Int32)) (p2 &&& (2147483647 : Int32)) (p3 &&& (2147483647 : Int32)) (p4 &&& (2147483647 : Int32)) (p5 &&& (2147483647 : Int32)) S_KINDS go1 A58 F_counts F_from A1 X_a1 (mask_nn p1) (mask_nn p2) (mask_nn p3) (mask_nn p4) (mask_nn p5)) pd_0 rfl rfl rfl rfl (by decide) (by decide) (by decide) (by decide) fun v59 T59 h59 P59 q59 => ?_
    obtain ⟨rfl, b1, K, zb1, O1, FC1, FF1, B1⟩ := q59
    have S_KINDS := sta_keep S_KINDS K (plain1 A58)
    have A2 := A2.keep K (ninS n2o nin0)
    have lO1 := ltN O1.lt
    have lB1 := ltN B1.lt
    have lA2 := ltN A2.lt
    refine g_astore P59 d0_147 rfl #[.val (.int p1), .val (.int p2), .val (.int p3), .val (.int p4), .val (.int p5), .val (.int p6), .val (.ref a1), .val (.ref a2), .val (.int (1 : Int32)), .val (.ref o1), .unset] rfl ?_
    refine g_new P59 d0_149 (hw _ (List.mem_of_getElem? (i := 2) rfl)) (hw _ (List.mem_of_getElem? (i := 3) rfl)) (hw _ (List.mem_of_getElem? (i := 4) rfl)) (by decide) (by decide) fun T60 h60 o2 P60 e60 E60 A60 F60 => ?_
    have S_KINDS := S_KINDS.ext E60
    have A2 := A2.ext E60
    have O1 := O1.ext E60
    have FC1 := FC1.ext E60
    have FF1 := FF1.ext E60
    have B1 := B1.ext E60
    have go2 : n0 ≤ o2 := by omega
    have n12o : o1 ≠ o2 := nN (by omega)
    have nb : b1 ≠ o2 := nN (by omega)
    have n2o2 : a2 ≠ o2 := nN (by omega)
    have F_counts := F60 (Or.inr (hw _ (List.mem_of_getElem? (i := 23) rfl)) : Laid Z a0 "com/example/linkwell/linkwell/index/HitCounts" "com/example/linkwell/linkwell/index/HitCounts" "counts" "[I") (ty := (.array .int)) (by decide)
    have F_from := F60 (Or.inr (hw _ (List.mem_of_getElem? (i := 25) rfl)) : Laid Z a0 "com/example/linkwell/linkwell/index/HitCounts" "com/example/linkwell/linkwell/index/HitCounts" "from" "I") (ty := .int) (by decide)
    refine g_dup P60 d0_152 rfl ?_
    refine g_aload P60 d0_153 rfl rfl ?_
    refine g_iload P60 d0_155 rfl ?_
    refine g_special P60 o2 [(.ref a2), (.int (1 : Int32))] (rest := [(.ref o2)]) (W := 1) d0_157 rfl (hw _ (List.mem_of_getElem? (i := 26) rfl)) (hw _ (List.mem_of_getElem? (i := 27) rfl)) (hw _ (List.mem_of_getElem? (i := 4) rfl)) (hw _ (List.mem_of_getElem? (i := 28) rfl)) (by decide) (rm_init2 l Z a0 hw _ n0 o2 a2 (1 : Int32) go2 A60 F_counts F_from) pd_1 rfl rfl rfl rfl (by decide) (by decide) (by decide) (by decide) fun v61 T61 h61 P61 q61 => ?_
    obtain ⟨rfl, K, O2, FC2, FF2⟩ := q61
    have S_KINDS := sta_keep S_KINDS K (plain1 A60)
    have A2 := A2.keep K (ninS n2o2 nin0)
    have O1 := O1.keep K
    have FC1 := FC1.keep K (ninS n12o nin0)
    have FF1 := FF1.keep K (ninS n12o nin0)
    have B1 := B1.keep K (ninS nb nin0)
    refine g_astore P61 d0_160 rfl #[.val (.int p1), .val (.int p2), .val (.int p3), .val (.int p4), .val (.int p5), .val (.int p6), .val (.ref a1), .val (.ref a2), .val (.int (1 : Int32)), .val (.ref o1), .val (.ref o2)] rfl ?_
    refine g_aload P61 d0_162 rfl rfl ?_
    refine g_virtual P61 o1 [] (rest := []) (W := 0) d0_164 (hw _ (List.mem_of_getElem? (i := 29) rfl)) (hw _ (List.mem_of_getElem? (i := 30) rfl)) (hw _ (List.mem_of_getElem? (i := 32) rfl)) (hw _ (List.mem_of_getElem? (i := 31) rfl)) (hw _ (List.mem_of_getElem? (i := 4) rfl)) (hw _ (List.mem_of_getElem? (i := 33) rfl)) (by decide) O1 (rm_hash l Z a0 hw _ n0 o1 b1 _ _ 0 (p1 &&& (2147483647 : Int32)) (p2 &&& (2147483647 : Int32)) (p3 &&& (2147483647 : Int32)) (p4 &&& (2147483647 : Int32)) (p5 &&& (2147483647 : Int32)) 0 1 2 3 4 S_KINDS FC1 FF1 B1 (by decide) (by decide) (by decide) (by decide) (by decide) rfl rfl rfl rfl rfl) pd_2 rfl rfl rfl rfl (by decide) (by decide) (by decide) (by decide) fun v62 T62 h62 P62 q62 => ?_
    obtain ⟨rfl, rfl⟩ := q62
    refine g_iloadN P62 d0_167 rfl ?_
    refine g_ldc (v := (2147483647 : Int32)) P62 d0_168 (hw _ (List.mem_of_getElem? (i := 1) rfl)) ?_
    refine g_iand (v := (p1 &&& (2147483647 : Int32))) P62 d0_170 rfl ?_
    refine g_iloadN P62 d0_171 rfl ?_
    refine g_ldc (v := (2147483647 : Int32)) P62 d0_172 (hw _ (List.mem_of_getElem? (i := 1) rfl)) ?_
    refine g_iand (v := (p2 &&& (2147483647 : Int32))) P62 d0_174 rfl ?_
    refine g_iloadN P62 d0_175 rfl ?_
    refine g_ldc (v := (2147483647 : Int32)) P62 d0_176 (hw _ (List.mem_of_getElem? (i := 1) rfl)) ?_
    refine g_iand (v := (p3 &&& (2147483647 : Int32))) P62 d0_178 rfl ?_
    refine g_iloadN P62 d0_179 rfl ?_
    refine g_ldc (v := (2147483647 : Int32)) P62 d0_180 (hw _ (List.mem_of_getElem? (i := 1) rfl)) ?_
    refine g_iand (v := (p4 &&& (2147483647 : Int32))) P62 d0_182 rfl ?_
    refine g_iload P62 d0_183 rfl ?_
    refine g_ldc (v := (2147483647 : Int32)) P62 d0_185 (hw _ (List.mem_of_getElem? (i := 1) rfl)) ?_
    refine g_iand (v := (p5 &&& (2147483647 : Int32))) P62 d0_187 rfl ?_
    refine g_static P62 [(.int (p1 &&& (2147483647 : Int32))), (.int (p2 &&& (2147483647 : Int32))), (.int (p3 &&& (2147483647 : Int32))), (.int (p4 &&& (2147483647 : Int32))), (.int (p5 &&& (2147483647 : Int32)))] (rest := [(.int (hash5 (p1 &&& (2147483647 : Int32)) (p2 &&& (2147483647 : Int32)) (p3 &&& (2147483647 : Int32)) (p4 &&& (2147483647 : Int32)) (p5 &&& (2147483647 : Int32))))]) (W := 1) d0_188 (hw _ (List.mem_of_getElem? (i := 34) rfl)) (hw _ (List.mem_of_getElem? (i := 35) rfl)) (hw _ (List.mem_of_getElem? (i := 36) rfl)) (hw _ (List.mem_of_getElem? (i := 37) rfl)) (by decide) (rm_exp l Z a0 hw _ n0 (p1 &&& (2147483647 : Int32)) (p2 &&& (2147483647 : Int32)) (p3 &&& (2147483647 : Int32)) (p4 &&& (2147483647 : Int32)) (p5 &&& (2147483647 : Int32))) pd_3 rfl rfl rfl rfl (by decide) (by decide) (by decide) (by decide) fun v63 T63 h63 P63 q63 => ?_
    obtain ⟨rfl, rfl⟩ := q63
    refine g_icmpNo P63 d0_191 (teq (hash_exp (p1 &&& (2147483647 : Int32)) (p2 &&& (2147483647 : Int32)) (p3 &&& (2147483647 : Int32)) (p4 &&& (2147483647 : Int32)) (p5 &&& (2147483647 : Int32)))).2 ?_
    refine g_aload P63 d0_194 rfl rfl ?_
    refine g_virtual P63 o2 [] (rest := []) (W := 0) d0_196 (hw _ (List.mem_of_getElem? (i := 29) rfl)) (hw _ (List.mem_of_getElem? (i := 30) rfl)) (hw _ (List.mem_of_getElem? (i := 32) rfl)) (hw _ (List.mem_of_getElem? (i := 31) rfl)) (hw _ (List.mem_of_getElem? (i := 4) rfl)) (hw _ (List.mem_of_getElem? (i := 33) rfl)) (by decide) O2 (rm_hash l Z a0 hw _ n0 o2 a2 _ _ (1 : Int32) p1 p2 p3 p4 p5 1 2 3 4 5 S_KINDS FC2 FF2 A2 (by decide) (by decide) (by decide) (by decide) (by decide) rfl rfl rfl rfl rfl) pd_2 rfl rfl rfl rfl (by decide) (by decide) (by decide) (by decide) fun v64 T64 h64 P64 q64 => ?_
    obtain ⟨rfl, rfl⟩ := q64
    refine g_iloadN P64 d0_199 rfl ?_
    refine g_iloadN P64 d0_200 rfl ?_
    refine g_iloadN P64 d0_201 rfl ?_
    refine g_iloadN P64 d0_202 rfl ?_
    refine g_iload P64 d0_203 rfl ?_
    refine g_static P64 [(.int p1), (.int p2), (.int p3), (.int p4), (.int p5)] (rest := [(.int (hash5 p1 p2 p3 p4 p5))]) (W := 1) d0_205 (hw _ (List.mem_of_getElem? (i := 34) rfl)) (hw _ (List.mem_of_getElem? (i := 35) rfl)) (hw _ (List.mem_of_getElem? (i := 36) rfl)) (hw _ (List.mem_of_getElem? (i := 37) rfl)) (by decide) (rm_exp l Z a0 hw _ n0 p1 p2 p3 p4 p5) pd_3 rfl rfl rfl rfl (by decide) (by decide) (by decide) (by decide) fun v65 T65 h65 P65 q65 => ?_
    obtain ⟨rfl, rfl⟩ := q65
    refine g_icmpNo P65 d0_208 (teq (hash_exp p1 p2 p3 p4 p5)).2 ?_
    refine g_iconst (v := (1 : Int32)) P65 d0_211 (by rfl) ?_
    refine g_goto P65 d0_212 216 (by decide) (by decide) ?_
    exact g_retZ P65 d0_216 (by decide) (by decide) (by decide) rfl
  · refine g_istore P39 d0_97 #[.val (.int p1), .val (.int p2), .val (.int p3), .val (.int p4), .val (.int p5), .val (.int p6), .val (.ref a1), .val (.ref a2), .val (.int (2 : Int32)), .unset, .unset] rfl ?_
    refine g_aload P39 d0_99 rfl rfl ?_
    refine g_iload P39 d0_101 rfl ?_
    refine g_iloadN P39 d0_103 rfl ?_
    refine g_iastore (i := 2) P39 d0_104 A2 (by decide) (dT rfl) g2 fun T66 h66 P66 W66 A66 => ?_
    have A2 : AL Z h66 a2 k32 .int [(.int p6), (.int p6), (.int p1), (.int p6), (.int p6), (.int p6), (.int p6)] := A66
    have S_KINDS := S_KINDS.wr W66
    have A1 := A1.other W66 n12
    have X_a1 := X_a1.wr W66
    refine g_aload P66 d0_105 rfl rfl ?_
    refine g_iload P66 d0_107 rfl ?_
    refine g_iconst (v := (1 : Int32)) P66 d0_109 (by rfl) ?_
    refine g_iadd (v := (3 : Int32)) P66 d0_110 (by decide) ?_
    refine g_iloadN P66 d0_111 rfl ?_
    refine g_iastore (i := 3) P66 d0_112 A2 (by decide) (dT rfl) g2 fun T67 h67 P67 W67 A67 => ?_
    have A2 : AL Z h67 a2 k32 .int [(.int p6), (.int p6), (.int p1), (.int p2), (.int p6), (.int p6), (.int p6)] := A67
    have S_KINDS := S_KINDS.wr W67
    have A1 := A1.other W67 n12
    have X_a1 := X_a1.wr W67
    refine g_aload P67 d0_113 rfl rfl ?_
    refine g_iload P67 d0_115 rfl ?_
    refine g_iconst (v := (2 : Int32)) P67 d0_117 (by rfl) ?_
    refine g_iadd (v := (4 : Int32)) P67 d0_118 (by decide) ?_
    refine g_iloadN P67 d0_119 rfl ?_
    refine g_iastore (i := 4) P67 d0_120 A2 (by decide) (dT rfl) g2 fun T68 h68 P68 W68 A68 => ?_
    have A2 : AL Z h68 a2 k32 .int [(.int p6), (.int p6), (.int p1), (.int p2), (.int p3), (.int p6), (.int p6)] := A68
    have S_KINDS := S_KINDS.wr W68
    have A1 := A1.other W68 n12
    have X_a1 := X_a1.wr W68
    refine g_aload P68 d0_121 rfl rfl ?_
    refine g_iload P68 d0_123 rfl ?_
    refine g_iconst (v := (3 : Int32)) P68 d0_125 (by rfl) ?_
    refine g_iadd (v := (5 : Int32)) P68 d0_126 (by decide) ?_
    refine g_iloadN P68 d0_127 rfl ?_
    refine g_iastore (i := 5) P68 d0_128 A2 (by decide) (dT rfl) g2 fun T69 h69 P69 W69 A69 => ?_
    have A2 : AL Z h69 a2 k32 .int [(.int p6), (.int p6), (.int p1), (.int p2), (.int p3), (.int p4), (.int p6)] := A69
    have S_KINDS := S_KINDS.wr W69
    have A1 := A1.other W69 n12
    have X_a1 := X_a1.wr W69
    refine g_aload P69 d0_129 rfl rfl ?_
    refine g_iload P69 d0_131 rfl ?_
    refine g_iconst (v := (4 : Int32)) P69 d0_133 (by rfl) ?_
    refine g_iadd (v := (6 : Int32)) P69 d0_134 (by decide) ?_
    refine g_iload P69 d0_135 rfl ?_
    refine g_iastore (i := 6) P69 d0_137 A2 (by decide) (dT rfl) g2 fun T70 h70 P70 W70 A70 => ?_
    have A2 : AL Z h70 a2 k32 .int [(.int p6), (.int p6), (.int p1), (.int p2), (.int p3), (.int p4), (.int p5)] := A70
    have S_KINDS := S_KINDS.wr W70
    have A1 := A1.other W70 n12
    have X_a1 := X_a1.wr W70
    refine g_new P70 d0_138 (hw _ (List.mem_of_getElem? (i := 2) rfl)) (hw _ (List.mem_of_getElem? (i := 3) rfl)) (hw _ (List.mem_of_getElem? (i := 4) rfl)) (by decide) (by decide) fun T71 h71 o1 P71 e71 E71 A71 F71 => ?_
    have S_KINDS := S_KINDS.ext E71
    have lA1 := ltN A1.lt
    have lA2 := ltN A2.lt
    have A1 := A1.ext E71
    have A2 := A2.ext E71
    have X_a1 := X_a1.ext E71
    have go1 : n0 ≤ o1 := by omega
    have n1o : a1 ≠ o1 := nN (by omega)
    have n2o : a2 ≠ o1 := nN (by omega)
    have F_counts := F71 (Or.inr (hw _ (List.mem_of_getElem? (i := 23) rfl)) : Laid Z a0 "com/example/linkwell/linkwell/index/HitCounts" "com/example/linkwell/linkwell/index/HitCounts" "counts" "[I") (ty := (.array .int)) (by decide)
    have F_from := F71 (Or.inr (hw _ (List.mem_of_getElem? (i := 25) rfl)) : Laid Z a0 "com/example/linkwell/linkwell/index/HitCounts" "com/example/linkwell/linkwell/index/HitCounts" "from" "I") (ty := .int) (by decide)
    refine g_dup P71 d0_141 rfl ?_
    refine g_aload P71 d0_142 rfl rfl ?_
    refine g_special P71 o1 [(.ref a1)] (rest := [(.ref o1)]) (W := 1) d0_144 rfl (hw _ (List.mem_of_getElem? (i := 5) rfl)) (hw _ (List.mem_of_getElem? (i := 6) rfl)) (hw _ (List.mem_of_getElem? (i := 4) rfl)) (hw _ (List.mem_of_getElem? (i := 7) rfl)) (by decide) (rm_init1 l Z a0 hw _ n0 o1 a1 _ (p1 &&& (2147483647 : Int32)) (p2 &&& (2147483647 : Int32)) (p3 &&& (2147483647 : Int32)) (p4 &&& (2147483647 : Int32)) (p5 &&& (2147483647 : Int32)) S_KINDS go1 A71 F_counts F_from A1 X_a1 (mask_nn p1) (mask_nn p2) (mask_nn p3) (mask_nn p4) (mask_nn p5)) pd_0 rfl rfl rfl rfl (by decide) (by decide) (by decide) (by decide) fun v72 T72 h72 P72 q72 => ?_
    obtain ⟨rfl, b1, K, zb1, O1, FC1, FF1, B1⟩ := q72
    have S_KINDS := sta_keep S_KINDS K (plain1 A71)
    have A2 := A2.keep K (ninS n2o nin0)
    have lO1 := ltN O1.lt
    have lB1 := ltN B1.lt
    have lA2 := ltN A2.lt
    refine g_astore P72 d0_147 rfl #[.val (.int p1), .val (.int p2), .val (.int p3), .val (.int p4), .val (.int p5), .val (.int p6), .val (.ref a1), .val (.ref a2), .val (.int (2 : Int32)), .val (.ref o1), .unset] rfl ?_
    refine g_new P72 d0_149 (hw _ (List.mem_of_getElem? (i := 2) rfl)) (hw _ (List.mem_of_getElem? (i := 3) rfl)) (hw _ (List.mem_of_getElem? (i := 4) rfl)) (by decide) (by decide) fun T73 h73 o2 P73 e73 E73 A73 F73 => ?_
    have S_KINDS := S_KINDS.ext E73
    have A2 := A2.ext E73
    have O1 := O1.ext E73
    have FC1 := FC1.ext E73
    have FF1 := FF1.ext E73
    have B1 := B1.ext E73
    have go2 : n0 ≤ o2 := by omega
    have n12o : o1 ≠ o2 := nN (by omega)
    have nb : b1 ≠ o2 := nN (by omega)
    have n2o2 : a2 ≠ o2 := nN (by omega)
    have F_counts := F73 (Or.inr (hw _ (List.mem_of_getElem? (i := 23) rfl)) : Laid Z a0 "com/example/linkwell/linkwell/index/HitCounts" "com/example/linkwell/linkwell/index/HitCounts" "counts" "[I") (ty := (.array .int)) (by decide)
    have F_from := F73 (Or.inr (hw _ (List.mem_of_getElem? (i := 25) rfl)) : Laid Z a0 "com/example/linkwell/linkwell/index/HitCounts" "com/example/linkwell/linkwell/index/HitCounts" "from" "I") (ty := .int) (by decide)
    refine g_dup P73 d0_152 rfl ?_
    refine g_aload P73 d0_153 rfl rfl ?_
    refine g_iload P73 d0_155 rfl ?_
    refine g_special P73 o2 [(.ref a2), (.int (2 : Int32))] (rest := [(.ref o2)]) (W := 1) d0_157 rfl (hw _ (List.mem_of_getElem? (i := 26) rfl)) (hw _ (List.mem_of_getElem? (i := 27) rfl)) (hw _ (List.mem_of_getElem? (i := 4) rfl)) (hw _ (List.mem_of_getElem? (i := 28) rfl)) (by decide) (rm_init2 l Z a0 hw _ n0 o2 a2 (2 : Int32) go2 A73 F_counts F_from) pd_1 rfl rfl rfl rfl (by decide) (by decide) (by decide) (by decide) fun v74 T74 h74 P74 q74 => ?_
    obtain ⟨rfl, K, O2, FC2, FF2⟩ := q74
    have S_KINDS := sta_keep S_KINDS K (plain1 A73)
    have A2 := A2.keep K (ninS n2o2 nin0)
    have O1 := O1.keep K
    have FC1 := FC1.keep K (ninS n12o nin0)
    have FF1 := FF1.keep K (ninS n12o nin0)
    have B1 := B1.keep K (ninS nb nin0)
    refine g_astore P74 d0_160 rfl #[.val (.int p1), .val (.int p2), .val (.int p3), .val (.int p4), .val (.int p5), .val (.int p6), .val (.ref a1), .val (.ref a2), .val (.int (2 : Int32)), .val (.ref o1), .val (.ref o2)] rfl ?_
    refine g_aload P74 d0_162 rfl rfl ?_
    refine g_virtual P74 o1 [] (rest := []) (W := 0) d0_164 (hw _ (List.mem_of_getElem? (i := 29) rfl)) (hw _ (List.mem_of_getElem? (i := 30) rfl)) (hw _ (List.mem_of_getElem? (i := 32) rfl)) (hw _ (List.mem_of_getElem? (i := 31) rfl)) (hw _ (List.mem_of_getElem? (i := 4) rfl)) (hw _ (List.mem_of_getElem? (i := 33) rfl)) (by decide) O1 (rm_hash l Z a0 hw _ n0 o1 b1 _ _ 0 (p1 &&& (2147483647 : Int32)) (p2 &&& (2147483647 : Int32)) (p3 &&& (2147483647 : Int32)) (p4 &&& (2147483647 : Int32)) (p5 &&& (2147483647 : Int32)) 0 1 2 3 4 S_KINDS FC1 FF1 B1 (by decide) (by decide) (by decide) (by decide) (by decide) rfl rfl rfl rfl rfl) pd_2 rfl rfl rfl rfl (by decide) (by decide) (by decide) (by decide) fun v75 T75 h75 P75 q75 => ?_
    obtain ⟨rfl, rfl⟩ := q75
    refine g_iloadN P75 d0_167 rfl ?_
    refine g_ldc (v := (2147483647 : Int32)) P75 d0_168 (hw _ (List.mem_of_getElem? (i := 1) rfl)) ?_
    refine g_iand (v := (p1 &&& (2147483647 : Int32))) P75 d0_170 rfl ?_
    refine g_iloadN P75 d0_171 rfl ?_
    refine g_ldc (v := (2147483647 : Int32)) P75 d0_172 (hw _ (List.mem_of_getElem? (i := 1) rfl)) ?_
    refine g_iand (v := (p2 &&& (2147483647 : Int32))) P75 d0_174 rfl ?_
    refine g_iloadN P75 d0_175 rfl ?_
    refine g_ldc (v := (2147483647 : Int32)) P75 d0_176 (hw _ (List.mem_of_getElem? (i := 1) rfl)) ?_
    refine g_iand (v := (p3 &&& (2147483647 : Int32))) P75 d0_178 rfl ?_
    refine g_iloadN P75 d0_179 rfl ?_
    refine g_ldc (v := (2147483647 : Int32)) P75 d0_180 (hw _ (List.mem_of_getElem? (i := 1) rfl)) ?_
    refine g_iand (v := (p4 &&& (2147483647 : Int32))) P75 d0_182 rfl ?_
    refine g_iload P75 d0_183 rfl ?_
    refine g_ldc (v := (2147483647 : Int32)) P75 d0_185 (hw _ (List.mem_of_getElem? (i := 1) rfl)) ?_
    refine g_iand (v := (p5 &&& (2147483647 : Int32))) P75 d0_187 rfl ?_
    refine g_static P75 [(.int (p1 &&& (2147483647 : Int32))), (.int (p2 &&& (2147483647 : Int32))), (.int (p3 &&& (2147483647 : Int32))), (.int (p4 &&& (2147483647 : Int32))), (.int (p5 &&& (2147483647 : Int32)))] (rest := [(.int (hash5 (p1 &&& (2147483647 : Int32)) (p2 &&& (2147483647 : Int32)) (p3 &&& (2147483647 : Int32)) (p4 &&& (2147483647 : Int32)) (p5 &&& (2147483647 : Int32))))]) (W := 1) d0_188 (hw _ (List.mem_of_getElem? (i := 34) rfl)) (hw _ (List.mem_of_getElem? (i := 35) rfl)) (hw _ (List.mem_of_getElem? (i := 36) rfl)) (hw _ (List.mem_of_getElem? (i := 37) rfl)) (by decide) (rm_exp l Z a0 hw _ n0 (p1 &&& (2147483647 : Int32)) (p2 &&& (2147483647 : Int32)) (p3 &&& (2147483647 : Int32)) (p4 &&& (2147483647 : Int32)) (p5 &&& (2147483647 : Int32))) pd_3 rfl rfl rfl rfl (by decide) (by decide) (by decide) (by decide) fun v76 T76 h76 P76 q76 => ?_
    obtain ⟨rfl, rfl⟩ := q76
    refine g_icmpNo P76 d0_191 (teq (hash_exp (p1 &&& (2147483647 : Int32)) (p2 &&& (2147483647 : Int32)) (p3 &&& (2147483647 : Int32)) (p4 &&& (2147483647 : Int32)) (p5 &&& (2147483647 : Int32)))).2 ?_
    refine g_aload P76 d0_194 rfl rfl ?_
    refine g_virtual P76 o2 [] (rest := []) (W := 0) d0_196 (hw _ (List.mem_of_getElem? (i := 29) rfl)) (hw _ (List.mem_of_getElem? (i := 30) rfl)) (hw _ (List.mem_of_getElem? (i := 32) rfl)) (hw _ (List.mem_of_getElem? (i := 31) rfl)) (hw _ (List.mem_of_getElem? (i := 4) rfl)) (hw _ (List.mem_of_getElem? (i := 33) rfl)) (by decide) O2 (rm_hash l Z a0 hw _ n0 o2 a2 _ _ (2 : Int32) p1 p2 p3 p4 p5 2 3 4 5 6 S_KINDS FC2 FF2 A2 (by decide) (by decide) (by decide) (by decide) (by decide) rfl rfl rfl rfl rfl) pd_2 rfl rfl rfl rfl (by decide) (by decide) (by decide) (by decide) fun v77 T77 h77 P77 q77 => ?_
    obtain ⟨rfl, rfl⟩ := q77
    refine g_iloadN P77 d0_199 rfl ?_
    refine g_iloadN P77 d0_200 rfl ?_
    refine g_iloadN P77 d0_201 rfl ?_
    refine g_iloadN P77 d0_202 rfl ?_
    refine g_iload P77 d0_203 rfl ?_
    refine g_static P77 [(.int p1), (.int p2), (.int p3), (.int p4), (.int p5)] (rest := [(.int (hash5 p1 p2 p3 p4 p5))]) (W := 1) d0_205 (hw _ (List.mem_of_getElem? (i := 34) rfl)) (hw _ (List.mem_of_getElem? (i := 35) rfl)) (hw _ (List.mem_of_getElem? (i := 36) rfl)) (hw _ (List.mem_of_getElem? (i := 37) rfl)) (by decide) (rm_exp l Z a0 hw _ n0 p1 p2 p3 p4 p5) pd_3 rfl rfl rfl rfl (by decide) (by decide) (by decide) (by decide) fun v78 T78 h78 P78 q78 => ?_
    obtain ⟨rfl, rfl⟩ := q78
    refine g_icmpNo P78 d0_208 (teq (hash_exp p1 p2 p3 p4 p5)).2 ?_
    refine g_iconst (v := (1 : Int32)) P78 d0_211 (by rfl) ?_
    refine g_goto P78 d0_212 216 (by decide) (by decide) ?_
    exact g_retZ P78 d0_216 (by decide) (by decide) (by decide) rfl
set_option maxRecDepth 65536 in
set_option maxHeartbeats 40000000 in
theorem comes_1 {Post : Tables → Env → Array Value → State → Outcome → State → Prop} (hpost : ∀ tb e args s v u, (limb_1_1.after args s (.returned v) u = true ∧ limb_1_2.after args s (.returned v) u = true ∧ True) → FrameEnd s (.returned v) u (Jvm.fieldLocs frame_1_writes args s ++ Jvm.arrayLocs frame_1_arrays args s ++ Jvm.staticLocs frame_1_statics s) 24 128 → Post tb e args s (.returned v) u) :
    ArmFor flags0 classFile x code maxLocals ret World_1 tables_1 room_1 Calls_1 rest_1 Pre_1 Post := by
  intro l hfl _ _ p e ha hc hk s m args below hf hA hF happ hP
  obtain ⟨hcalls, hrest, hpre⟩ := hP
  obtain ⟨-, -, -, hnamed, -, -, -, hat⟩ := (Spec.applies_iff hf).mp happ
  obtain ⟨hg, hn⟩ := and_e (Cond.before_iff.mp (show (Jvm.Cond.and given_1 narrow_1).before args s = true from hpre))
  obtain ⟨g0, g1⟩ := and_e hg
  obtain ⟨u0, g2⟩ := and_e g1
  obtain ⟨u1, g3⟩ := and_e g2
  obtain ⟨u2, g4⟩ := and_e g3
  obtain ⟨u3, g5⟩ := and_e g4
  obtain ⟨u4, g6⟩ := and_e g5
  obtain ⟨w0, w1, w2, w3, w4, w5, rfl⟩ : ∃ w0 w1 w2 w3 w4 w5 : Value, args = #[w0, w1, w2, w3, w4, w5] := by
    have hs : args.size = 6 := by simpa [Cond.value, given_1] using g0
    obtain ⟨L⟩ := args
    match L, hs with
    | [w0, w1, w2, w3, w4, w5], _ => exact ⟨w0, w1, w2, w3, w4, w5, rfl⟩
  have hw := fun d (hd : d ∈ tables_1) => atoms_spec (ws := Jvm.Cond.code x code maxLocals ret :: tables_1) hat d (List.mem_cons_of_mem _ hd)
  have hfit : Fit s := fun {y c} hc i hi => by
    obtain ⟨ha, rfl⟩ := Array.getElem?_eq_some_iff.mp hc
    have q := List.all_eq_true.mp ((Array.all_eq_true_iff_forall_mem.mp hF) _ (Array.getElem_mem ha)) i (List.mem_range.mpr hi)
    simpa [Array.getElem?_eq_getElem hi] using q
  obtain ⟨i0, e0⟩ := is_v u0
  obtain rfl : w0 = (.int i0) := Option.some.inj e0
  obtain ⟨i1, e1⟩ := is_v u1
  obtain rfl : w1 = (.int i1) := Option.some.inj e1
  obtain ⟨i2, e2⟩ := is_v u2
  obtain rfl : w2 = (.int i2) := Option.some.inj e2
  obtain ⟨i3, e3⟩ := is_v u3
  obtain rfl : w3 = (.int i3) := Option.some.inj e3
  obtain ⟨i4, e4⟩ := is_v u4
  obtain rfl : w4 = (.int i4) := Option.some.inj e4
  obtain ⟨i5, e5⟩ := is_v g6
  obtain rfl : w5 = (.int i5) := Option.some.inj e5
  have k0 := hn
  have S_KINDS : Sta s s.heap "com/example/linkwell/linkwell/index/HitCounts" "KINDS" "I" (.int (5 : Int32)) := Sta.start (eqI k0) (Or.inr ⟨(hw _ (List.mem_of_getElem? (i := 4) rfl)), (hw _ (List.mem_of_getElem? (i := 12) rfl))⟩)
  obtain ⟨n, o, h1, h2, h3, _, L, rfl, ⟨N, rfl⟩, hq⟩ := (rm_law l s _ hw s.heap s.heap.size i0 i1 i2 i3 i4 i5 (Nat.le_refl _) S_KINDS) tables_1 p e ha hc hk s m _ below hf ((Spec.applies_iff_loose hf).mp happ).1 ⟨rfl, State.Warmed39.refl s, rfl⟩ trivial
  refine ⟨n, _, h1, h2, h3, hpost _ _ _ _ _ _ ⟨Cond.after_iff.mpr rfl, Cond.after_iff.mpr (eq_i res_at (Term.int_eval (1)) rfl), trivial⟩ ⟨hq.1, hq.2.1, (hq.2.2.sift fun y hy => Or.inr (N y hy)).mono (by decide) (by decide)⟩⟩
theorem main_1_1 : Claimed_1_1 := comes_1 fun _ _ _ _ _ _ h hF => ⟨h.1, hF⟩
theorem main_1_2 : Claimed_1_2 := comes_1 fun _ _ _ _ _ _ h hF => ⟨h.2.1, hF⟩
end Jvm.Pilot.@@N@@
namespace Jvm.Pilot.@@N@@
open Jvm Jvm.ClassFile Sem Op Lib Jvm.Free Jvm.Stand Jvm.Pilot.@@N@@.Jvm.D
/-! MADE BY PROGRAM (witnessworld.py) out of the Statement's table words and the real class files: 9 classes; the members and pool entries that the words name. The judged class is class 1, her method 2. -/
namespace start1
open Jvm.ClassFile
def u (s : String) : CpInfo := .utf8 (stringToUtf16 s)
/-- a pool by its gaps: so many unusable entries, then the entry; so many at the end -/
def gap : Nat → List CpInfo → List CpInfo
  | 0, r => r
  | n + 1, r => .unusable :: gap n r
def poolList (es : List (Nat × CpInfo)) (last : Nat) : List CpInfo := es.foldr (fun e r => gap e.1 (e.2 :: r)) (gap last [])
def pool (es : List (Nat × CpInfo)) (last : Nat) : Array CpInfo := ⟨poolList es last⟩
def fileOf (pool : Array CpInfo) (this : Nat) (attrs : Array Attribute := #[]) (ms : Array MethodInfo := #[]) (fl : Nat := 33) (sup : Nat := 0) (ifs : Array Nat := #[]) (fds : Array FieldInfo := #[]) : ClassFile where
  minorVersion := 0
  majorVersion := 65
  constantPool := pool
  accessFlags := fl
  thisClass := this
  superClass := sup
  interfaces := ifs
  fields := fds
  methods := ms
  attributes := attrs
def plain (name : String) (sup : Option ClassId) : Class where
  name := name
  kind := .ordinary
  loader := none
  accessFlags := 33
  super := sup
  interfaces := #[]
  cf := none
  fields := #[]
  methods := #[]
  instanceTypes := #[]
  staticTypes := #[]
  resolved := #[]
  callSites := []
  init := .initialized
  statics := none
  mirror := none

def pool0 : Array CpInfo := pool [(5, u "<init>"), (0, u "()V"), (1, .class_ 10), (1, u "java/lang/Object"), (85, u "clone"), (0, u "()Ljava/lang/Object;")] 26

def k0c0 : Code := { maxStack := 0, maxLocals := 1, code := object_method_1_code, exceptionTable := #[], attributes := #[] }
def k0m0 : Method := { name := "<init>", desc := "()V", sig := { parameters := [], returnType := none }, accessFlags := 1, code := some k0c0 }
def k0m1 : Method := { name := "clone", desc := "()Ljava/lang/Object;", sig := { parameters := [], returnType := some (.object "java/lang/Object") }, accessFlags := 260, code := none }
/-- java/lang/Object -/
def k0 : Class := { plain "java/lang/Object" none with
  accessFlags := 33
  interfaces := #[]
  cf := some (fileOf pool0 8 #[] #[{ accessFlags := 1, nameIndex := 5, descriptorIndex := 6, attributes := #[] }, { accessFlags := 260, nameIndex := 96, descriptorIndex := 97, attributes := #[] }] 33 0 #[] #[])
  fields := #[]
  methods := #[k0m0, k0m1]
  instanceTypes := #[]
  staticTypes := #[]
  resolved := Array.replicate 124 none
  statics := none }

def pool1 : Array CpInfo := pool [(2, .class_ 4), (1, u "java/lang/Object"), (0, u "<init>"), (0, u "()V"), (0, .integer 28629151), (0, .integer 923521), (0, .integer 2147483647), (0, .class_ 11), (0, u "com/example/linkwell/linkwell/index/HitCounts"), (0, .methodref 10 13), (0, .nameAndType 5 14), (0, u "([I)V"), (0, .methodref 10 16), (0, .nameAndType 5 17), (0, u "([II)V"), (0, .methodref 10 19), (0, .nameAndType 20 21), (0, u "hashCode"), (0, u "()I"), (0, .methodref 23 24), (0, .class_ 25), (0, .nameAndType 26 27), (0, u "com/example/linkwell/linkwell/index/HitCountsHashCodePinLaw"), (0, u "expected"), (0, u "(IIIII)I"), (2, u "law"), (0, u "(IIIIII)Z")] 5

def k1m0 : Method := { name := "<init>", desc := "()V", sig := { parameters := [], returnType := none }, accessFlags := 1, code := none }
def k1c1 : Code := { maxStack := 3, maxLocals := 5, code := method_2_code, exceptionTable := #[], attributes := #[] }
def k1m1 : Method := { name := "expected", desc := "(IIIII)I", sig := { parameters := [.int, .int, .int, .int, .int], returnType := some .int }, accessFlags := 10, code := some k1c1 }
def k1c2 : Code := { maxStack := 7, maxLocals := 11, code := code, exceptionTable := #[], attributes := #[] }
def k1m2 : Method := { name := "law", desc := "(IIIIII)Z", sig := { parameters := [.int, .int, .int, .int, .int, .int], returnType := some .boolean }, accessFlags := 9, code := some k1c2 }
/-- com/example/linkwell/linkwell/index/HitCountsHashCodePinLaw -/
def k1 : Class := { plain "com/example/linkwell/linkwell/index/HitCountsHashCodePinLaw" (some 0) with
  accessFlags := 49
  interfaces := #[]
  cf := some (fileOf pool1 23 #[] #[{ accessFlags := 1, nameIndex := 5, descriptorIndex := 6, attributes := #[] }, { accessFlags := 10, nameIndex := 26, descriptorIndex := 27, attributes := #[] }, { accessFlags := 9, nameIndex := 30, descriptorIndex := 31, attributes := #[] }] 49 2 #[] #[])
  fields := #[]
  methods := #[k1m0, k1m1, k1m2]
  instanceTypes := #[]
  staticTypes := #[]
  resolved := Array.replicate 37 none
  statics := none }

def pool2 : Array CpInfo := pool [(1, .methodref 2 3), (0, .class_ 4), (0, .nameAndType 5 6), (0, u "java/lang/Object"), (0, u "<init>"), (0, u "()V"), (0, .fieldref 8 9), (0, .class_ 10), (0, .nameAndType 11 12), (0, u "com/example/linkwell/linkwell/index/HitCounts"), (0, u "KINDS"), (0, u "I"), (12, .methodref 26 27), (0, .class_ 28), (0, .nameAndType 29 30), (0, u "[I"), (0, u "clone"), (0, u "()Ljava/lang/Object;"), (0, .fieldref 8 32), (0, .nameAndType 33 28), (0, u "counts"), (0, .fieldref 8 35), (0, .nameAndType 36 12), (0, u "from"), (5, u "()I"), (24, u "([I)V"), (3, u "([II)V"), (3, u "hashCode")] 20

def k2c0 : Code := { maxStack := 4, maxLocals := 6, code := prog_12_method_1_code, exceptionTable := #[], attributes := #[] }
def k2m0 : Method := { name := "<init>", desc := "([I)V", sig := { parameters := [(.array .int)], returnType := none }, accessFlags := 129, code := some k2c0 }
def k2c1 : Code := { maxStack := 2, maxLocals := 3, code := prog_12_method_2_code, exceptionTable := #[], attributes := #[] }
def k2m1 : Method := { name := "<init>", desc := "([II)V", sig := { parameters := [(.array .int), .int], returnType := none }, accessFlags := 0, code := some k2c1 }
def k2c2 : Code := { maxStack := 4, maxLocals := 3, code := prog_12_method_5_code, exceptionTable := #[], attributes := #[] }
def k2m2 : Method := { name := "hashCode", desc := "()I", sig := { parameters := [], returnType := some .int }, accessFlags := 1, code := some k2c2 }
/-- com/example/linkwell/linkwell/index/HitCounts -/
def k2 : Class := { plain "com/example/linkwell/linkwell/index/HitCounts" (some 0) with
  accessFlags := 49
  interfaces := #[]
  cf := some (fileOf pool2 8 #[] #[{ accessFlags := 129, nameIndex := 5, descriptorIndex := 67, attributes := #[] }, { accessFlags := 0, nameIndex := 5, descriptorIndex := 71, attributes := #[] }, { accessFlags := 1, nameIndex := 75, descriptorIndex := 42, attributes := #[] }] 49 2 #[] #[{ accessFlags := 26, nameIndex := 11, descriptorIndex := 12, attributes := #[] }, { accessFlags := 18, nameIndex := 33, descriptorIndex := 28, attributes := #[] }, { accessFlags := 18, nameIndex := 36, descriptorIndex := 12, attributes := #[] }])
  fields := #[{ name := "KINDS", type := .int, accessFlags := 26, slot := 0, constantValue := 0 }, { name := "counts", type := (.array .int), accessFlags := 18, slot := 0, constantValue := 0 }, { name := "from", type := .int, accessFlags := 18, slot := 1, constantValue := 0 }]
  methods := #[k2m0, k2m1, k2m2]
  instanceTypes := #[(.array .int), .int]
  staticTypes := #[.int]
  resolved := Array.replicate 96 none
  statics := some 0 }

def pool3 : Array CpInfo := pool [(1, .class_ 2), (0, u "java/lang/Cloneable"), (0, .class_ 4), (0, u "java/lang/Object")] 2

/-- java/lang/Cloneable -/
def k3 : Class := { plain "java/lang/Cloneable" (some 0) with
  accessFlags := 1537
  interfaces := #[]
  cf := some (fileOf pool3 1 #[] #[] 1537 3 #[] #[])
  fields := #[]
  methods := #[]
  instanceTypes := #[]
  staticTypes := #[]
  resolved := Array.replicate 7 none
  statics := none }

def pool4 : Array CpInfo := pool [(1, u "java/io/Serializable"), (0, .class_ 1), (0, u "java/lang/Object"), (0, .class_ 3)] 3

/-- java/io/Serializable -/
def k4 : Class := { plain "java/io/Serializable" (some 0) with
  accessFlags := 1537
  interfaces := #[]
  cf := some (fileOf pool4 2 #[] #[] 1537 4 #[] #[])
  fields := #[]
  methods := #[]
  instanceTypes := #[]
  staticTypes := #[]
  resolved := Array.replicate 8 none
  statics := none }

/-- the primitive byte -/
def k5 : Class := { plain "byte" none with kind := .primitive 'B', accessFlags := 0x411 }
/-- [B -/
def k6 : Class := { plain "[B" (some 0) with kind := .array 5 .byte, interfaces := #[3, 4], accessFlags := 1041 }

/-- the primitive int -/
def k7 : Class := { plain "int" none with kind := .primitive 'I', accessFlags := 0x411 }
/-- [I -/
def k8 : Class := { plain "[I" (some 0) with kind := .array 7 .int, interfaces := #[3, 4], accessFlags := 1041 }

def heap : Heap := #[{ cls := 2, slots := #[.int 5], vm := .statics 2 }]
def classes : Array Class := #[k0, k1, k2, k3, k4, k5, k6, k7, k8]
def interned : List (Array UInt16 × Addr) := []
def slotsUsed : Nat := 1
def theMethod : MethodId := ⟨1, 2⟩
def args0 : Array Value := #[.int 5, .int 3, .int 2, .int 1, .int 9, .int 4]
def aboutOver (below : List Frame) : State where
  vm := { classes := classes, interned := interned.toArray }
  heap := heap
  slotsUsed := slotsUsed
  threads := #[{ frames := .invoking theMethod args0 :: below }]
def below0 : List Frame := [.native { method := ⟨0, 0⟩, args := #[] }]
def about1 : State := aboutOver below0
def p0 : Program := .bare "" "" ""
def e0 : Env := launch0.env 0 0 0
theorem w_frames : about1.frames = Frame.invoking theMethod args0 :: below0 := rfl
set_option maxRecDepth 65536 in
theorem w_args : argsFit about1.vm theMethod args0 = true := by decide +kernel
set_option maxRecDepth 65536 in
theorem w_heap : heapFits about1 = true := by decide +kernel
set_option maxRecDepth 65536 in
theorem w_runnable : about1.curStatus? = some .runnable := by decide +kernel
set_option maxRecDepth 65536 in
theorem w_alone : about1.alone = true := by decide +kernel
set_option maxRecDepth 65536 in
theorem w_named : about1.methodNamed? x = some theMethod := by decide +kernel
set_option maxRecDepth 65536 in
theorem w_hears : about1.hears theMethod below0 = true := by decide +kernel
set_option maxRecDepth 65536 in
theorem w_ripe : about1.ripe theMethod args0 below0 = true := by decide +kernel
theorem w_running : about1.status = .running := rfl
set_option maxRecDepth 65536 in
theorem w_room : about1.hasRoom e0.platform room_1 = true :=
  launch0.hasRoom_least _ room_1 (by decide +kernel) (by decide +kernel) (by decide +kernel) (by decide +kernel) (by decide +kernel) (by decide +kernel)
theorem allAtoms_all (ts : List Jvm.Cond) (a : Array Jvm.Value) (st : Jvm.State) : (allAtoms ts).before a st = ts.all (fun c => c.before a st) := by
  induction ts with
  | nil => rfl
  | cons c t ih =>
    show (Jvm.Cond.and c (allAtoms t)).before a st = _
    rw [Jvm.Cond.before_and, ih, List.all_cons]
def words1 : List Jvm.Cond := Jvm.Cond.code x code maxLocals ret :: tables_1
/-- a 'code' word, met by the world's own term for the bytes: nothing is compared byte by byte -/
theorem code_word {y : MethodName} {bytes : ByteArray} {mx : Nat} {rt : Option FieldType} {a : Array Value} {s : State} {m : MethodId} {meth : Method} {c : Code} (h1 : s.methodNamed? y = some m) (h2 : s.vm.method? m = some meth) (h3 : meth.code = some c) (h4 : c.code = bytes)
    (h5 : (c.maxLocals == mx && c.exceptionTable.isEmpty && decide (c.maxStack ≤ mostOperands) && decide (meth.sig.returnType = rt) && !meth.locks && decide (parseMethodDescriptor y.desc = some meth.sig)) = true) : (Jvm.Cond.code y bytes mx rt).before a s = true := by
  simp only [Bool.and_eq_true, beq_iff_eq, Bool.not_eq_true', decide_eq_true_eq] at h5
  obtain ⟨⟨⟨⟨⟨g1, g2⟩, g3⟩, g4⟩, g5⟩, g6⟩ := h5
  simp [Cond.before, Cond.holds, Cond.value, h1, h2, h3, h4, g1, g2, g3, g4, g5, g6]
def isCode : Jvm.Cond → Bool
  | .code _ _ _ _ => true
  | _ => false
theorem all_split {L : List Jvm.Cond} {P : Jvm.Cond → Bool} (h1 : L.all (fun c => isCode c || P c) = true) (h2 : ∀ c ∈ L.filter isCode, P c = true) : L.all P = true := by
  refine List.all_eq_true.mpr fun c hc => ?_
  have h := List.all_eq_true.mp h1 c hc
  rcases Bool.eq_false_or_eq_true (isCode c) with hi | hi
  · exact h2 c (List.mem_filter.mpr ⟨hc, hi⟩)
  · simpa [hi] using h
set_option maxRecDepth 65536 in
theorem w_c0 : (Jvm.Cond.code x code maxLocals ret).before args0 about1 = true := code_word (m := ⟨1, 2⟩) (meth := k1m2) (c := k1c2) (by decide +kernel) rfl rfl rfl (by decide +kernel)
set_option maxRecDepth 65536 in
theorem w_c1 : (Jvm.Cond.code ({ cls := "com/example/linkwell/linkwell/index/HitCounts", name := "<init>", desc := "([I)V" } : Jvm.MethodName) prog_12_method_1_code (6 : Nat) (Option.none : Option Jvm.ClassFile.FieldType)).before args0 about1 = true := code_word (m := ⟨2, 0⟩) (meth := k2m0) (c := k2c0) (by decide +kernel) rfl rfl rfl (by decide +kernel)
set_option maxRecDepth 65536 in
theorem w_c2 : (Jvm.Cond.code ({ cls := "java/lang/Object", name := "<init>", desc := "()V" } : Jvm.MethodName) object_method_1_code (1 : Nat) (Option.none : Option Jvm.ClassFile.FieldType)).before args0 about1 = true := code_word (m := ⟨0, 0⟩) (meth := k0m0) (c := k0c0) (by decide +kernel) rfl rfl rfl (by decide +kernel)
set_option maxRecDepth 65536 in
theorem w_c3 : (Jvm.Cond.code ({ cls := "com/example/linkwell/linkwell/index/HitCounts", name := "<init>", desc := "([II)V" } : Jvm.MethodName) prog_12_method_2_code (3 : Nat) (Option.none : Option Jvm.ClassFile.FieldType)).before args0 about1 = true := code_word (m := ⟨2, 1⟩) (meth := k2m1) (c := k2c1) (by decide +kernel) rfl rfl rfl (by decide +kernel)
set_option maxRecDepth 65536 in
theorem w_c4 : (Jvm.Cond.code ({ cls := "com/example/linkwell/linkwell/index/HitCounts", name := "hashCode", desc := "()I" } : Jvm.MethodName) prog_12_method_5_code (3 : Nat) (Option.some Jvm.ClassFile.FieldType.int)).before args0 about1 = true := code_word (m := ⟨2, 2⟩) (meth := k2m2) (c := k2c2) (by decide +kernel) rfl rfl rfl (by decide +kernel)
set_option maxRecDepth 65536 in
theorem w_c5 : (Jvm.Cond.code ({ cls := "com/example/linkwell/linkwell/index/HitCountsHashCodePinLaw", name := "expected", desc := "(IIIII)I" } : Jvm.MethodName) method_2_code (5 : Nat) (Option.some Jvm.ClassFile.FieldType.int)).before args0 about1 = true := code_word (m := ⟨1, 1⟩) (meth := k1m1) (c := k1c1) (by decide +kernel) rfl rfl rfl (by decide +kernel)
def codes1 : List Jvm.Cond := [Jvm.Cond.code x code maxLocals ret, Jvm.Cond.code ({ cls := "com/example/linkwell/linkwell/index/HitCounts", name := "<init>", desc := "([I)V" } : Jvm.MethodName) prog_12_method_1_code (6 : Nat) (Option.none : Option Jvm.ClassFile.FieldType), Jvm.Cond.code ({ cls := "java/lang/Object", name := "<init>", desc := "()V" } : Jvm.MethodName) object_method_1_code (1 : Nat) (Option.none : Option Jvm.ClassFile.FieldType), Jvm.Cond.code ({ cls := "com/example/linkwell/linkwell/index/HitCounts", name := "<init>", desc := "([II)V" } : Jvm.MethodName) prog_12_method_2_code (3 : Nat) (Option.none : Option Jvm.ClassFile.FieldType), Jvm.Cond.code ({ cls := "com/example/linkwell/linkwell/index/HitCounts", name := "hashCode", desc := "()I" } : Jvm.MethodName) prog_12_method_5_code (3 : Nat) (Option.some Jvm.ClassFile.FieldType.int), Jvm.Cond.code ({ cls := "com/example/linkwell/linkwell/index/HitCountsHashCodePinLaw", name := "expected", desc := "(IIIII)I" } : Jvm.MethodName) method_2_code (5 : Nat) (Option.some Jvm.ClassFile.FieldType.int)]
set_option maxRecDepth 65536 in
theorem codes_eq : words1.filter isCode = codes1 := rfl
theorem w_codes : ∀ c ∈ words1.filter isCode, c.before args0 about1 = true := by
  rw [codes_eq]
  intro c hc
  simp only [codes1, List.mem_cons, List.not_mem_nil, or_false] at hc
  rcases hc with rfl | rfl | rfl | rfl | rfl | rfl
  · exact w_c0
  · exact w_c1
  · exact w_c2
  · exact w_c3
  · exact w_c4
  · exact w_c5
set_option maxRecDepth 65536 in
theorem w_t1 : (words1.take 24).all (fun c => isCode c || c.before args0 about1) = true := by decide +kernel
set_option maxRecDepth 65536 in
theorem w_t2 : (words1.drop 24).all (fun c => isCode c || c.before args0 about1) = true := by decide +kernel
theorem w_tables : (allAtoms (Jvm.Cond.code x code maxLocals ret :: tables_1)).before args0 about1 = true := by
  rw [allAtoms_all]
  show words1.all (fun c => c.before args0 about1) = true
  refine all_split ?_ w_codes
  rw [← List.take_append_drop 24 words1, List.all_append, w_t1, w_t2]
  rfl
set_option maxRecDepth 65536 in
theorem w_case : (Jvm.Cond.and given_1 narrow_1).before args0 about1 = true := by decide +kernel
theorem w_applies : (headSpec (Jvm.Cond.code x code maxLocals ret :: tables_1) room_1).applies x e0.platform about1 = true :=
  (Spec.applies_iff w_frames).mpr ⟨w_running, w_runnable, w_alone, w_named, w_hears, w_ripe, w_room, w_tables⟩
theorem atStart : AtStart classFile x code maxLocals ret World_1 tables_1 room_1 Calls_1 rest_1 Pre_1 launch0 p0 e0 about1 theMethod args0 below0 :=
  ⟨lists_1, trivial, launch0.admits_env _ _ _, launch0.least_env, fairChoices_fair.cas, fairChoices_fair.clock, w_frames, w_args, w_heap, w_applies, trivial, trivial, w_case⟩
end start1
theorem witness_1 : WitnessClaimed_1 := ⟨start1.p0, start1.e0, start1.about1, start1.theMethod, start1.args0, start1.below0, start1.atStart⟩
end Jvm.Pilot.@@N@@
