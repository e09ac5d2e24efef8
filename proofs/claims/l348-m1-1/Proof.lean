import JvmDerived
import JvmDerived.Pilot.@@N@@Statement
import JvmDerived.Pilot.@@N@@Code
set_option linter.unusedVariables false
set_option linter.unusedSimpArgs false
namespace Jvm.Pilot.@@N@@
open Jvm Jvm.ClassFile Sem Op Lib Jvm.Free Jvm.Stand Jvm.LawKit Jvm.RoadKit Bundle Jvm.Pilot.@@N@@.Jvm.D
abbrev oU : Slot := .unset
abbrev oS : Slot := .second
abbrev oN : Slot := .val .null
abbrev oI (x : Int32) : Slot := .val (.int x)
abbrev oJ (x : Int64) : Slot := .val (.long x)
abbrev oR (a : Addr) : Slot := .val (.ref a)
section Own
variable {p : Program} {l : Launch} {e : Env} {R : Room} {s : State} {m : MethodId} {args : Array Value} {below : List Frame} {meth : Method} {c : Code} {T : State} {locs : List Loc} {cells slots : Nat} {Q : Option Value → Heap → List Loc → Prop} {kc ks : Nat} {Z : State} {a0 : Array Value} {h : Heap}
/-- from the state st the body comes to its end, and Q holds there -/
def own_Fin (p : Program) (e : Env) (below : List Frame) (s : State) (Q : Option Value → Heap → List Loc → Prop) (kc ks : Nat) (st : State) : Prop :=
  ∃ s₂ o, Steps p.tables e below st s₂ ∧ s₂.status = .running ∧ Ended s₂ below o ∧ ∃ v L, o = .returned v ∧ Q v s₂.heap L ∧ FrameEnd s o s₂ L kc ks
abbrev own_Go (X : Stand p l e R s m args below meth c T locs cells slots) (Q : Option Value → Heap → List Loc → Prop) (kc ks : Nat) (pc : Nat) (Ls : Array Slot) (S : List Value) : Prop := own_Fin p e below s Q kc ks (T.setTop (mkF m pc Ls S))
theorem own_st {a b : State} (hst : ∀ t, Steps p.tables e below b t → Steps p.tables e below a t) (k : own_Fin p e below s Q kc ks b) : own_Fin p e below s Q kc ks a := by
  obtain ⟨s₂, o, h1, r⟩ := k
  exact ⟨s₂, o, hst _ h1, r⟩
theorem own_cast {g g' : JFrame} (q : g = g') (k : own_Fin p e below s Q kc ks (T.setTop g')) : own_Fin p e below s Q kc ks (T.setTop g) := q ▸ k
theorem own_end (X : Stand p l e R s m args below meth c T locs cells slots) {v : Option Value} {a : State} (hv : meth.sig.returnType = none → v = none) (hlocks : meth.locks = false) (eT : T.heap = h)
    (hs : ∀ fs, (∀ (f : JFrame) (acts : List Action), f.method = m → f.locked = none → f.entered = [] → (doReturn e (T.setTop f) acts v).1 = T.setFrames fs) → Steps p.tables e below a (T.setFrames fs))
    (hc : cells ≤ kc) (hl : slots ≤ ks) (hq : Q v h locs) : own_Fin p e below s Q kc ks a := by
  obtain ⟨fs, hr, hrun, hended, hW, hsame⟩ := X.leave hv hlocks
  exact ⟨_, _, hs fs hr, hrun, hended, _, _, rfl, by show Q v T.heap locs; rw [eT]; exact hq, ⟨_, rfl⟩, hW, hsame.mono hc hl⟩
theorem own_retV (X : Stand p l e R s m args below meth c T locs cells slots) (hx : p.tables.exec = Jvm.exec) (hret : meth.sig.returnType = none) (hlocks : meth.locks = false) (eT : T.heap = h) {pc : Nat} {Ls : Array Slot} (hd : decode c.code pc = .ok (.return_, 1)) (hc : cells ≤ kc) (hl : slots ≤ ks) (hq : Q none h locs) :
    own_Fin p e below s Q kc ks (T.setTop (mkF m pc Ls [])) := own_end X (fun _ => rfl) hlocks eT (fun _ hr => X.returnOut hx hret hd hr) hc hl hq
theorem own_retN (X : Stand p l e R s m args below meth c T locs cells slots) (hx : p.tables.exec = Jvm.exec) {t : FieldType} (hret : meth.sig.returnType = some t) (ht : t = .boolean ∨ t = .byte ∨ t = .char ∨ t = .short) (hlocks : meth.locks = false) (eT : T.heap = h) {pc : Nat} {Ls : Array Slot} {z : Int32} {rest : List Value} (hd : decode c.code pc = .ok (.ireturn, 1)) (hc : cells ≤ kc) (hl : slots ≤ ks) (hq : Q (some (.int (nar t z))) h locs) :
    own_Fin p e below s Q kc ks (T.setTop (mkF m pc Ls (.int z :: rest))) := own_end X (fun h => by rw [hret] at h; cases h) hlocks eT (fun _ hr => retN X hx hret ht hd hr) hc hl hq
theorem own_retI (X : Stand p l e R s m args below meth c T locs cells slots) (hx : p.tables.exec = Jvm.exec) (hret : meth.sig.returnType = some .int) (hlocks : meth.locks = false) (eT : T.heap = h) {pc : Nat} {Ls : Array Slot} {z : Int32} {rest : List Value} (hd : decode c.code pc = .ok (.ireturn, 1)) (hc : cells ≤ kc) (hl : slots ≤ ks) (hq : Q (some (.int z)) h locs) :
    own_Fin p e below s Q kc ks (T.setTop (mkF m pc Ls (.int z :: rest))) := own_end X (fun h => by rw [hret] at h; cases h) hlocks eT (fun _ hr => retOut X hx hret rfl (Or.inl ⟨rfl, Or.inl rfl, _, rfl⟩) hd hr) hc hl hq
theorem own_retJ (X : Stand p l e R s m args below meth c T locs cells slots) (hx : p.tables.exec = Jvm.exec) (hret : meth.sig.returnType = some .long) (hlocks : meth.locks = false) (eT : T.heap = h) {pc : Nat} {Ls : Array Slot} {z : Int64} {rest : List Value} (hd : decode c.code pc = .ok (.lreturn, 1)) (hc : cells ≤ kc) (hl : slots ≤ ks) (hq : Q (some (.long z)) h locs) :
    own_Fin p e below s Q kc ks (T.setTop (mkF m pc Ls (.long z :: rest))) := own_end X (fun h => by rw [hret] at h; cases h) hlocks eT (fun _ hr => retOut X hx hret rfl (Or.inr (Or.inl ⟨rfl, rfl, _, rfl⟩)) hd hr) hc hl hq
theorem own_retA (X : Stand p l e R s m args below meth c T locs cells slots) (hx : p.tables.exec = Jvm.exec) {t : FieldType} (hret : meth.sig.returnType = some t) (ht : t.isReference = true) (hlocks : meth.locks = false) (eT : T.heap = h) {pc : Nat} {Ls : Array Slot} {a : Addr} {rest : List Value} (hd : decode c.code pc = .ok (.areturn, 1)) (hc : cells ≤ kc) (hl : slots ≤ ks) (hq : Q (some (.ref a)) h locs) :
    own_Fin p e below s Q kc ks (T.setTop (mkF m pc Ls (.ref a :: rest))) := own_end X (fun h => by rw [hret] at h; cases h) hlocks eT (fun _ hr => retOut X hx hret (by cases t <;> first | rfl | cases ht) (Or.inr (Or.inr (Or.inr (Or.inr ⟨rfl, ht, rfl⟩)))) hd hr) hc hl hq
theorem own_nar1 : nar .boolean 1 = 1 := by decide
theorem own_nar0 : nar .boolean 0 = 0 := by decide
theorem own_lrem {g : JFrame} {target : State} (X : Stand p l e R s m args below meth c T locs cells slots) (hx : p.tables.exec = Jvm.exec) (hg : g.method = m) {x y : Int64} {rest : List Value} (hd : decode c.code g.pc = .ok (.lrem, 1)) (hs : g.stack = .long y :: .long x :: rest) (hy : y ≠ 0)
    (hr : Steps p.tables e below (T.setTop { g with pc := g.pc + 1, stack := .long (x % y) :: rest }) target) : Steps p.tables e below (T.setTop g) target := by
  have q : x - x / y * y = x % y := lrem_mod x y
  exact XS.lrem X.here hx hg hd hs hy (by rw [q]; exact hr)
/-! the calls -/
variable {y z : MethodName} {bytes : ByteArray} {maxL : Nat} {ret : Option FieldType} {rm : Room} {W : Nat} {as' : Array Value} {Qc : Option Value → Heap → List Loc → Prop} {own C : String} {index : Nat}
theorem own_callS (X : Stand p l e R s m args below meth c T locs cells slots) (hx : p.tables.exec = Jvm.exec) (hZ : Z.Warmed39 s.vm) (hown : s.vm.findClass own = some m.cls)
    (wl : (Cond.methodLink own index y).before a0 Z = true) (ws : (Cond.static y).before a0 Z = true) (wz : (Cond.initialized y.cls).before a0 Z = true) (wc : (Cond.code y bytes maxL ret).before a0 Z = true)
    (hy : y.cls ≠ "java/lang/invoke/MethodHandle" ∧ y.cls ≠ "java/lang/invoke/VarHandle")
    (hM : MetFree l y (head1 [Cond.code y bytes maxL ret] rm) (fun a U => a = as' ∧ Z.Warmed39 U.vm ∧ U.heap = h) (fun _ _ _ _ _ => True) (fun _ U o U' => ∃ v L, o = .returned v ∧ Qc v U'.heap L ∧ FrameEnd U o U' L rm.cells rm.slots))
    (hf : rm.frames + 1 ≤ R.frames) (hl : W + (maxL + 11) + rm.locals ≤ R.locals) {pc : Nat} {Ls : Array Slot} {S : List Value} (hsize : Ls.size = c.maxLocals) (argsL rest : List Value)
    (hlen : ∀ sig, parseMethodDescriptor y.desc = some sig → argsL.length = sig.parameters.length) (hS : S = argsL.reverse ++ rest) (ha : argsL.toArray = as') (hW : (rest.map fun v => v.category).sum ≤ W)
    (hd : decode c.code pc = .ok (.invokestatic index, 3)) (eT : T.heap = h) (hcl : cells + rm.cells ≤ R.cells) (hsl : slots + rm.slots ≤ R.slots)
    (k : ∀ (v : Option Value) (T' : State) (L' : List Loc) (X' : Stand p l e R s m args below meth c T' (locs ++ L') (cells + rm.cells) (slots + rm.slots)), Qc v T'.heap L' → own_Fin p e below s Q kc ks (T'.setTop (mkF m (pc + 3) Ls (v.toList ++ rest)))) :
    own_Fin p e below s Q kc ks (T.setTop (mkF m pc Ls S)) := by
  subst hS
  obtain ⟨v, _, ⟨T', L1, k1, n1⟩, -, X', ⟨L', hQ, l1, y1, z1⟩, st⟩ := Jvm.LawKit.callS X hx (y := y) hown (mvT hZ wl) (mvT hZ ws) (mvT hZ wz) (mvT hZ wc) hy (backOf (W := W) hM hZ wc wz hf hl) (g := mkF m pc Ls (argsL.reverse ++ rest)) rfl hsize (argsL := argsL) (rest := rest) hlen rfl (by show 2 * 0 + _ ≤ _; omega) hd (fun _ _ => ⟨ha, eT, hcl, hsl⟩)
  dsimp only [Pt.U, Pt.locs, Pt.cells, Pt.slots] at X' l1 y1 z1 st hQ
  subst l1 y1 z1
  exact own_st (fun t => st t) (k v T' L' X' hQ)
theorem own_callI (X : Stand p l e R s m args below meth c T locs cells slots) (hx : p.tables.exec = Jvm.exec) (hZ : Z.Warmed39 s.vm) (hown : s.vm.findClass own = some m.cls)
    (wl : (Cond.methodLink own index y).before a0 Z = true) (ws : (Cond.instanceMethod y).before a0 Z = true) (wz : (Cond.initialized y.cls).before a0 Z = true) (wc : (Cond.code y bytes maxL none).before a0 Z = true)
    (hn : y.name = "<init>") (hy : y.cls ≠ "java/lang/invoke/MethodHandle" ∧ y.cls ≠ "java/lang/invoke/VarHandle")
    (hM : MetFree l y (head1 [Cond.code y bytes maxL none] rm) (fun a U => a = as' ∧ Z.Warmed39 U.vm ∧ U.heap = h) (fun _ _ _ _ _ => True) (fun _ U o U' => ∃ v L, o = .returned v ∧ Qc v U'.heap L ∧ FrameEnd U o U' L rm.cells rm.slots))
    (hf : rm.frames + 1 ≤ R.frames) (hl : W + (maxL + 11) + rm.locals ≤ R.locals) {pc : Nat} {Ls : Array Slot} {S : List Value} (hsize : Ls.size = c.maxLocals) (a : Addr) (argsL rest : List Value)
    (hlen : ∀ sig, parseMethodDescriptor y.desc = some sig → argsL.length = sig.parameters.length) (hS : S = argsL.reverse ++ .ref a :: rest) (ha : (Value.ref a :: argsL).toArray = as') (hW : (rest.map fun v => v.category).sum ≤ W)
    (hd : decode c.code pc = .ok (.invokespecial index, 3)) (eT : T.heap = h) (hcl : cells + rm.cells ≤ R.cells) (hsl : slots + rm.slots ≤ R.slots)
    (k : ∀ (v : Option Value) (T' : State) (L' : List Loc) (X' : Stand p l e R s m args below meth c T' (locs ++ L') (cells + rm.cells) (slots + rm.slots)), Qc v T'.heap L' → own_Fin p e below s Q kc ks (T'.setTop (mkF m (pc + 3) Ls (v.toList ++ rest)))) :
    own_Fin p e below s Q kc ks (T.setTop (mkF m pc Ls S)) := by
  subst hS
  obtain ⟨v, _, ⟨T', L1, k1, n1⟩, -, X', ⟨L', hQ, l1, y1, z1⟩, st⟩ := X.specialBack hx (y := y) hn hown (mvT hZ wl) (mvT hZ ws) (mvT hZ wc) hy (backOf (W := W) hM hZ wc wz hf hl) (g := mkF m pc Ls (argsL.reverse ++ .ref a :: rest)) rfl hsize (Steps.refl _) (a := a) (argsL := argsL) (rest := rest) hlen rfl (by show 2 * 0 + _ ≤ _; omega) hd (fun _ _ => ⟨ha, eT, hcl, hsl⟩)
  dsimp only [Pt.U, Pt.locs, Pt.cells, Pt.slots] at X' l1 y1 z1 st hQ
  subst l1 y1 z1
  exact own_st (fun t => st.trans) (k v T' L' X' hQ)
theorem own_callV (X : Stand p l e R s m args below meth c T locs cells slots) (hx : p.tables.exec = Jvm.exec) (hZ : Z.Warmed39 s.vm) (hown : s.vm.findClass own = some m.cls)
    (wl : (Cond.methodLink own index y).before a0 Z = true) (wd : (Cond.declares y).before a0 Z = true) (wsel : (Cond.selects C y y).before a0 Z = true) (ws : (Cond.instanceMethod y).before a0 Z = true) (wz : (Cond.initialized y.cls).before a0 Z = true) (wc : (Cond.code y bytes maxL ret).before a0 Z = true)
    (hy : y.cls ≠ "java/lang/invoke/MethodHandle" ∧ y.cls ≠ "java/lang/invoke/VarHandle")
    (hM : MetFree l y (head1 [Cond.code y bytes maxL ret] rm) (fun a U => a = as' ∧ Z.Warmed39 U.vm ∧ U.heap = h) (fun _ _ _ _ _ => True) (fun _ U o U' => ∃ v L, o = .returned v ∧ Qc v U'.heap L ∧ FrameEnd U o U' L rm.cells rm.slots))
    (hf : rm.frames + 1 ≤ R.frames) (hl : W + (maxL + 11) + rm.locals ≤ R.locals) {pc : Nat} {Ls : Array Slot} {S : List Value} (hsize : Ls.size = c.maxLocals) (a : Addr) (argsL rest : List Value)
    (hlen : ∀ sig, parseMethodDescriptor y.desc = some sig → argsL.length = sig.parameters.length) (hS : S = argsL.reverse ++ .ref a :: rest) (ha : (Value.ref a :: argsL).toArray = as') (hW : (rest.map fun v => v.category).sum ≤ W)
    (hd : decode c.code pc = .ok (.invokevirtual index, 3)) (eT : T.heap = h) (EA : Exa Z h a C) (hcl : cells + rm.cells ≤ R.cells) (hsl : slots + rm.slots ≤ R.slots)
    (k : ∀ (v : Option Value) (T' : State) (L' : List Loc) (X' : Stand p l e R s m args below meth c T' (locs ++ L') (cells + rm.cells) (slots + rm.slots)), Qc v T'.heap L' → own_Fin p e below s Q kc ks (T'.setTop (mkF m (pc + 3) Ls (v.toList ++ rest)))) :
    own_Fin p e below s Q kc ks (T.setTop (mkF m pc Ls S)) := by
  subst hS
  obtain ⟨cq, kq, q1, q2, q3⟩ := isOf hZ eT EA
  obtain ⟨v, _, ⟨T', L1, k1, n1⟩, -, X', ⟨L', hQ, l1, y1, z1⟩, st⟩ := X.virtualBack hx (y := y) (z := y) hown (mvT hZ wl) (mvT hZ wd) (notFace_of_selects (args := #[]) (mvT hZ wsel)) (mvT hZ wsel) (mvT hZ ws) hy (backOf (W := W) hM hZ wc wz hf hl) q1 q3 (g := mkF m pc Ls (argsL.reverse ++ .ref a :: rest)) rfl hsize (Steps.refl _) (argsL := argsL) (rest := rest) hlen rfl (by show 2 * 0 + _ ≤ _; omega) hd (fun _ _ => ⟨ha, eT, hcl, hsl⟩)
  dsimp only [Pt.U, Pt.locs, Pt.cells, Pt.slots] at X' l1 y1 z1 st hQ
  subst l1 y1 z1
  exact own_st (fun t => st.trans) (k v T' L' X' hQ)
/-! arrays -/
variable {a : Addr} {kA : ClassId} {n j x : Int32} {vs : List Value} {dv : Value}
theorem own_stI (X : Stand p l e R s m args below meth c T locs cells slots) (hx : p.tables.exec = Jvm.exec) (hZ : Z.Warmed39 s.vm) (eT : T.heap = h) (V : Arv Z h a kA .int n vs dv) (q : ¬ j < 0 ∧ j < n) (hi : j.toNatClampNeg < vs.length) {g : JFrame} (hg : g.method = m) {rest : List Value} (hs : g.stack = .int x :: .int j :: .ref a :: rest) (hd : decode c.code g.pc = .ok (.iastore, 1)) :
    ∃ T' h', Stand p l e R s m args below meth c T' (locs ++ [⟨a, j.toNatClampNeg⟩]) cells slots ∧ T'.heap = h' ∧ Wr h h' a j.toNatClampNeg (.int x) ∧ Arv Z h' a kA .int n (vs.set j.toNatClampNeg (.int x)) dv ∧ ∀ target, Steps p.tables e below (T'.setTop { g with pc := g.pc + 1, stack := rest }) target → Steps p.tables e below (T.setTop g) target := by
  obtain ⟨cl, Ar, q1, S1, N1, H1, G1⟩ := V
  obtain ⟨T', h', X', e', W', st⟩ := stI X hx hZ eT Ar (inb_of S1 q) hg hs hd
  exact ⟨T', h', X', e', W', Arv.set Ar q1 S1 N1 H1 G1 rfl W' _ rfl hi, st⟩
theorem own_stB (X : Stand p l e R s m args below meth c T locs cells slots) (hx : p.tables.exec = Jvm.exec) (hZ : Z.Warmed39 s.vm) (eT : T.heap = h) (V : Arv Z h a kA .byte n vs dv) (q : ¬ j < 0 ∧ j < n) (hi : j.toNatClampNeg < vs.length) {g : JFrame} (hg : g.method = m) {rest : List Value} (hs : g.stack = .int x :: .int j :: .ref a :: rest) (hd : decode c.code g.pc = .ok (.bastore, 1)) :
    ∃ T' h', Stand p l e R s m args below meth c T' (locs ++ [⟨a, j.toNatClampNeg⟩]) cells slots ∧ T'.heap = h' ∧ Wr h h' a j.toNatClampNeg (.int (nar .byte x)) ∧ Arv Z h' a kA .byte n (vs.set j.toNatClampNeg (.int x.toInt8.toInt32)) dv ∧ ∀ target, Steps p.tables e below (T'.setTop { g with pc := g.pc + 1, stack := rest }) target → Steps p.tables e below (T.setTop g) target := by
  obtain ⟨cl, Ar, q1, S1, N1, H1, G1⟩ := V
  obtain ⟨T', h', X', e', W', st⟩ := stB X hx hZ eT Ar (inb_of S1 q) hg hs hd
  exact ⟨T', h', X', e', W', Arv.set Ar q1 S1 N1 H1 G1 (fits_nar_byte x) W' _ rfl hi, st⟩
theorem own_stJ {x : Int64} (X : Stand p l e R s m args below meth c T locs cells slots) (hx : p.tables.exec = Jvm.exec) (hZ : Z.Warmed39 s.vm) (eT : T.heap = h) (V : Arv Z h a kA .long n vs dv) (q : ¬ j < 0 ∧ j < n) (hi : j.toNatClampNeg < vs.length) {g : JFrame} (hg : g.method = m) {rest : List Value} (hs : g.stack = .long x :: .int j :: .ref a :: rest) (hd : decode c.code g.pc = .ok (.lastore, 1)) :
    ∃ T' h', Stand p l e R s m args below meth c T' (locs ++ [⟨a, j.toNatClampNeg⟩]) cells slots ∧ T'.heap = h' ∧ Wr h h' a j.toNatClampNeg (.long x) ∧ Arv Z h' a kA .long n (vs.set j.toNatClampNeg (.long x)) dv ∧ ∀ target, Steps p.tables e below (T'.setTop { g with pc := g.pc + 1, stack := rest }) target → Steps p.tables e below (T.setTop g) target := by
  obtain ⟨cl, Ar, q1, S1, N1, H1, G1⟩ := V
  obtain ⟨T', h', X', e', W', st⟩ := stJ X hx hZ eT Ar (inb_of S1 q) hg hs hd
  exact ⟨T', h', X', e', W', Arv.set Ar q1 S1 N1 H1 G1 rfl W' _ rfl hi, st⟩
theorem own_ldI (X : Stand p l e R s m args below meth c T locs cells slots) (hx : p.tables.exec = Jvm.exec) (hZ : Z.Warmed39 s.vm) (eT : T.heap = h) (V : Arv Z h a kA .int n vs dv) (q : ¬ j < 0 ∧ j < n) {v : Value} (hv : vs.getD j.toNatClampNeg dv = v) {g : JFrame} (hg : g.method = m) {rest : List Value} (hs : g.stack = .int j :: .ref a :: rest) (hd : decode c.code g.pc = .ok (.iaload, 1)) :
    ∀ target, Steps p.tables e below (T.setTop { g with pc := g.pc + 1, stack := v :: rest }) target → Steps p.tables e below (T.setTop g) target := by
  obtain ⟨cl, Ar, q1, S1, N1, H1, G1⟩ := V
  exact X.iaload hx (by rw [eT]; exact Ar.1) (State.isArrayOf_alike hZ.alike Ar.2.1) Ar.2.2 (inb_of S1 q) (H1.at (inb_of S1 q) hv) hg hs hd
theorem own_ldB (X : Stand p l e R s m args below meth c T locs cells slots) (hx : p.tables.exec = Jvm.exec) (hZ : Z.Warmed39 s.vm) (eT : T.heap = h) (V : Arv Z h a kA .byte n vs dv) (q : ¬ j < 0 ∧ j < n) {v : Value} (hv : vs.getD j.toNatClampNeg dv = v) {g : JFrame} (hg : g.method = m) {rest : List Value} (hs : g.stack = .int j :: .ref a :: rest) (hd : decode c.code g.pc = .ok (.baload, 1)) :
    ∀ target, Steps p.tables e below (T.setTop { g with pc := g.pc + 1, stack := v :: rest }) target → Steps p.tables e below (T.setTop g) target := by
  obtain ⟨cl, Ar, q1, S1, N1, H1, G1⟩ := V
  exact X.baloadBytes hx (by rw [eT]; exact Ar.1) (State.isArrayOf_alike hZ.alike Ar.2.1) Ar.2.2 (inb_of S1 q) (H1.at (inb_of S1 q) hv) hg hs hd
theorem own_ldJ (X : Stand p l e R s m args below meth c T locs cells slots) (hx : p.tables.exec = Jvm.exec) (hZ : Z.Warmed39 s.vm) (eT : T.heap = h) (V : Arv Z h a kA .long n vs dv) (q : ¬ j < 0 ∧ j < n) {v : Value} (hv : vs.getD j.toNatClampNeg dv = v) {g : JFrame} (hg : g.method = m) {rest : List Value} (hs : g.stack = .int j :: .ref a :: rest) (hd : decode c.code g.pc = .ok (.laload, 1)) :
    ∀ target, Steps p.tables e below (T.setTop { g with pc := g.pc + 1, stack := v :: rest }) target → Steps p.tables e below (T.setTop g) target := by
  obtain ⟨cl, Ar, q1, S1, N1, H1, G1⟩ := V
  exact X.laload hx (by rw [eT]; exact Ar.1) (State.isArrayOf_alike hZ.alike Ar.2.1) Ar.2.2 (inb_of S1 q) (H1.at (inb_of S1 q) hv) hg hs hd
theorem own_len {ty : FieldType} (X : Stand p l e R s m args below meth c T locs cells slots) (hx : p.tables.exec = Jvm.exec) (hZ : Z.Warmed39 s.vm) (eT : T.heap = h) (V : Arv Z h a kA ty n vs dv) {g : JFrame} (hg : g.method = m) {rest : List Value} (hs : g.stack = .ref a :: rest) (hd : decode c.code g.pc = .ok (.arraylength, 1)) :
    ∀ target, Steps p.tables e below (T.setTop { g with pc := g.pc + 1, stack := .int n :: rest }) target → Steps p.tables e below (T.setTop g) target := by
  obtain ⟨cl, Ar, q1, S1, N1, H1, G1⟩ := V
  intro t k
  refine X.arraylength hx (by rw [eT]; exact Ar.1) (State.isArrayOf_alike hZ.alike Ar.2.1) hg hs hd t ?_
  rw [len_of S1 N1]; exact k
end Own

def own_sh (k : Int32) (z : Int64) : Int64 := ((z.toUInt64 >>> (k &&& 0x3f).toInt64.toUInt64).toInt64)
def own_m1 (z : Int64) : Int64 := ((z ^^^ own_sh 30 z) * (-4658895280553007687 : Int64))
def own_m2 (z : Int64) : Int64 := ((z ^^^ own_sh 27 z) * (-7723592293110705685 : Int64))
def own_m3 (z : Int64) : Int64 := (z ^^^ own_sh 31 z)
def own_u3 (z : Int64) : Int64 := ((z ^^^ own_sh 31 z) ^^^ own_sh 62 z)
def own_u2 (z : Int64) : Int64 := ((z ^^^ own_sh 27 z) ^^^ own_sh 54 z)
def own_u1 (z : Int64) : Int64 := ((z ^^^ own_sh 30 z) ^^^ own_sh 60 z)
def own_nx (a x : Int64) : Int64 := (x * ((2 : Int64) - (a * x)))
def own_inv (a : Int64) : Int64 := own_nx a (own_nx a (own_nx a (own_nx a (own_nx a a))))
def own_mix (z : Int64) : Int64 := own_m3 (own_m2 (own_m1 z))
def own_unmix (z : Int64) : Int64 := own_u1 ((own_u2 ((own_u3 z) * (own_inv (-7723592293110705685 : Int64)))) * (own_inv (-4658895280553007687 : Int64)))
theorem own_bv (x : BitVec 64) (k k2 : Nat) (hk : 22 ≤ k) (h2 : k2 = k + k) : ((x ^^^ x >>> k) ^^^ (x ^^^ x >>> k) >>> k) ^^^ (x ^^^ x >>> k) >>> k2 = x := by
  subst h2
  refine BitVec.eq_of_getLsbD_eq fun i hi => ?_
  simp only [BitVec.getLsbD_xor, BitVec.getLsbD_ushiftRight]
  have e1 : k + (k + i) = k + k + i := by omega
  have e2 : x.getLsbD (k + (k + k + i)) = false := BitVec.getLsbD_of_ge _ _ (by omega)
  rw [e1, e2]
  cases x.getLsbD i <;> cases x.getLsbD (k + i) <;> cases x.getLsbD (k + k + i) <;> rfl
theorem own_shb (k : Int32) (n : Nat) (z : Int64) (h : ((k &&& 0x3f).toInt64.toUInt64).toBitVec % 64 = BitVec.ofNat 64 n) (hn : n < 64) : (own_sh k z).toBitVec = z.toBitVec >>> n := by
  show z.toBitVec >>> (((k &&& 0x3f).toInt64.toUInt64).toBitVec % 64).toNat = _
  rw [h, BitVec.toNat_ofNat, Nat.mod_eq_of_lt (by omega)]
theorem own_x3 (z : Int64) : own_u3 (own_m3 z) = z := by
  apply Int64.toBitVec_inj.mp
  show ((own_m3 z).toBitVec ^^^ (own_sh 31 (own_m3 z)).toBitVec) ^^^ (own_sh 62 (own_m3 z)).toBitVec = z.toBitVec
  rw [own_shb 31 31 _ (by decide) (by decide), own_shb 62 62 _ (by decide) (by decide)]
  have e : (own_m3 z).toBitVec = z.toBitVec ^^^ z.toBitVec >>> 31 := by
    show z.toBitVec ^^^ (own_sh 31 z).toBitVec = _
    rw [own_shb 31 31 _ (by decide) (by decide)]
  rw [e]
  exact own_bv _ 31 62 (by decide) rfl
theorem own_x2 (z : Int64) : own_u2 (z ^^^ own_sh 27 z) = z := by
  apply Int64.toBitVec_inj.mp
  show ((z ^^^ own_sh 27 z).toBitVec ^^^ (own_sh 27 (z ^^^ own_sh 27 z)).toBitVec) ^^^ (own_sh 54 (z ^^^ own_sh 27 z)).toBitVec = z.toBitVec
  rw [own_shb 27 27 _ (by decide) (by decide), own_shb 54 54 _ (by decide) (by decide)]
  have e : (z ^^^ own_sh 27 z).toBitVec = z.toBitVec ^^^ z.toBitVec >>> 27 := by
    show z.toBitVec ^^^ (own_sh 27 z).toBitVec = _
    rw [own_shb 27 27 _ (by decide) (by decide)]
  rw [e]
  exact own_bv _ 27 54 (by decide) rfl
theorem own_x1 (z : Int64) : own_u1 (z ^^^ own_sh 30 z) = z := by
  apply Int64.toBitVec_inj.mp
  show ((z ^^^ own_sh 30 z).toBitVec ^^^ (own_sh 30 (z ^^^ own_sh 30 z)).toBitVec) ^^^ (own_sh 60 (z ^^^ own_sh 30 z)).toBitVec = z.toBitVec
  rw [own_shb 30 30 _ (by decide) (by decide), own_shb 60 60 _ (by decide) (by decide)]
  have e : (z ^^^ own_sh 30 z).toBitVec = z.toBitVec ^^^ z.toBitVec >>> 30 := by
    show z.toBitVec ^^^ (own_sh 30 z).toBitVec = _
    rw [own_shb 30 30 _ (by decide) (by decide)]
  rw [e]
  exact own_bv _ 30 60 (by decide) rfl
theorem own_i2 : (-7723592293110705685 : Int64) * own_inv (-7723592293110705685 : Int64) = 1 := by decide +kernel
theorem own_i1 : (-4658895280553007687 : Int64) * own_inv (-4658895280553007687 : Int64) = 1 := by decide +kernel
theorem own_back (z : Int64) : own_unmix (own_mix z) = z := by
  unfold own_unmix own_mix
  rw [own_x3, own_m2, Int64.mul_assoc, own_i2, Int64.mul_one, own_x2, own_m1, Int64.mul_assoc, own_i1, Int64.mul_one, own_x1]
theorem own_two (s : Int64) : s + (-7046029254386353131 : Int64) + (-7046029254386353131 : Int64) = s + (2 : Int64) * (-7046029254386353131 : Int64) := by
  rw [Int64.add_assoc]
  have e : (-7046029254386353131 : Int64) + (-7046029254386353131 : Int64) = (2 : Int64) * (-7046029254386353131 : Int64) := by decide
  rw [e]
theorem d1_0 : decode prog_16_method_1_code 0 = .ok (.aload_n 0, 1) := by decide +kernel
theorem d1_1 : decode prog_16_method_1_code 1 = .ok (.invokespecial 1, 3) := by decide +kernel
theorem d1_4 : decode prog_16_method_1_code 4 = .ok (.aload_n 0, 1) := by decide +kernel
theorem d1_5 : decode prog_16_method_1_code 5 = .ok (.lload_n 1, 1) := by decide +kernel
theorem d1_6 : decode prog_16_method_1_code 6 = .ok (.putfield 7, 3) := by decide +kernel
theorem d1_9 : decode prog_16_method_1_code 9 = .ok (.return_, 1) := by decide +kernel
theorem pn_1 : plainName "com/example/bulk_retrieval/bulkretrieval/comparison/SplitMix64" = true := by first | (simp [plainName, overriddenIn]; done) | decide +kernel
theorem ef_1 (m : MethodId) (r0 : Addr) (q1 : Int64) : entryFrame m #[(.ref r0), (.long q1)] 3 = mkF m 0 #[.val (.ref r0), .val (.long q1), .second] [] := by first | (simp [entryFrame, mkF, argsToLocals, Value.category]; done) | rfl
def Q1 (Z : State) (r0 : Addr) (q1 : Int64) (u : Int64) (h0 : Heap) (n0 : Nat) (v : Option Value) (h : Heap) (L : List Loc) : Prop := v = none ∧ Fr n0 L ∧ Keep h0 h [r0] ∧ Fld Z h r0 "com/example/bulk_retrieval/bulkretrieval/comparison/SplitMix64" "state" "J" (.long q1)
set_option maxRecDepth 65536 in
set_option maxHeartbeats 40000000 in
theorem rm1 (l : Launch) (Z : State) (a0 : Array Value) (hw : ∀ d ∈ tables_1, d.before a0 Z = true) (ws : List Jvm.Cond) (r0 : Addr) (q1 : Int64) (u : Int64) (h0 : Heap) (n0 : Nat) (Z0 : n0 ≤ h0.size) (PE : Exa Z h0 r0 "com/example/bulk_retrieval/bulkretrieval/comparison/SplitMix64") (PF : Fld Z h0 r0 "com/example/bulk_retrieval/bulkretrieval/comparison/SplitMix64" "state" "J" (.long u)) (PG : n0 ≤ r0) :
    MetFree l (⟨"com/example/bulk_retrieval/bulkretrieval/comparison/SplitMix64", "<init>", "(J)V"⟩ : MethodName) (head1 (Jvm.Cond.code (⟨"com/example/bulk_retrieval/bulkretrieval/comparison/SplitMix64", "<init>", "(J)V"⟩ : MethodName) prog_16_method_1_code 3 none :: ws) ({ frames := 1, cells := 0, slots := 0, locals := 12 } : Room)) (fun a U => a = #[(.ref r0), (.long q1)] ∧ Z.Warmed39 U.vm ∧ U.heap = h0) (fun _ _ _ _ _ => True) (fun _ U o U' => ∃ v L, o = .returned v ∧ Q1 Z r0 q1 u h0 n0 v U'.heap L ∧ FrameEnd U o U' L ({ frames := 1, cells := 0, slots := 0, locals := 12 } : Room).cells ({ frames := 1, cells := 0, slots := 0, locals := 12 } : Room).slots) := by
  refine MetFree.of_bodySF (plainFor_of_name pn_1) hisR ?_
  intro p e s m args below meth c s₁ Bd hml0 hP hK
  obtain ⟨rfl, hZ, hh⟩ := hP
  have hx := Bd.exec
  have hby := Bd.bytes
  have hml : c.maxLocals = 3 := hml0
  have hown : s.vm.findClass "com/example/bulk_retrieval/bulkretrieval/comparison/SplitMix64" = some m.cls := findClass_of_methodNamed Bd.named
  have hnm := (name_of_methodNamed Bd.named Bd.method).1
  have hlk : meth.locks = false := Bd.notSynchronized
  have X0 : Stand p l e ({ frames := 1, cells := 0, slots := 0, locals := 12 } : Room) s m #[(.ref r0), (.long q1)] below meth c s₁ [] 0 0 := Stand.of_body Bd
  have e0 : s₁.heap = h0 := by rw [← hh, Bd.state]; rfl
  have N0 := Fr.nil n0
  refine own_cast (Q := Q1 Z r0 q1 u h0 n0) (kc := 0) (ks := 0) (ef_1 m r0 q1) ?_
  have K_1 := Keep.refl h0 [r0]
  refine own_st (fun _ k => XS.aloadN X0.here hx rfl (hb hby d1_0) rfl rfl k) ?_
  show own_Go X0 (Q1 Z r0 q1 u h0 n0) 0 0 1 #[.val (.ref r0), .val (.long q1), .second] [(.ref r0)]
  obtain ⟨T2, X2, e2, st2⟩ := initO X0 hx hZ hown (hw _ (List.mem_of_getElem? (i := 7) rfl)) (hw _ (List.mem_of_getElem? (i := 8) rfl)) (hw _ (List.mem_of_getElem? (i := 9) rfl)) e0 (g := (mkF m 1 #[.val (.ref r0), .val (.long q1), .second] [(.ref r0)])) rfl (by rw [hml]; rfl) rfl (hb hby d1_1) (by decide) (W := 0) (by show 2 * 0 + _ ≤ _; exact Nat.le_of_eq rfl) (by decide)
  refine own_st st2 ?_
  show own_Go X2 (Q1 Z r0 q1 u h0 n0) 0 0 4 #[.val (.ref r0), .val (.long q1), .second] []
  refine own_st (fun _ k => XS.aloadN X2.here hx rfl (hb hby d1_4) rfl rfl k) ?_
  show own_Go X2 (Q1 Z r0 q1 u h0 n0) 0 0 5 #[.val (.ref r0), .val (.long q1), .second] [(.ref r0)]
  refine own_st (fun _ k => XS.lloadN X2.here hx rfl (hb hby d1_5) rfl k) ?_
  show own_Go X2 (Q1 Z r0 q1 u h0 n0) 0 0 6 #[.val (.ref r0), .val (.long q1), .second] [(.long q1), (.ref r0)]
  obtain ⟨T3, h3, X3, e3, W3, st3⟩ := putF X2 hx hZ hown (host := "") (Or.inl (hw _ (List.mem_of_getElem? (i := 10) rfl))) Via.refl e2 PF PE (Or.inl (hw _ (List.mem_of_getElem? (i := 11) rfl))) (hw _ (List.mem_of_getElem? (i := 2) rfl)) (ty := .long) (by decide) rfl rfl (g := (mkF m 6 #[.val (.ref r0), .val (.long q1), .second] [(.long q1), (.ref r0)])) rfl rfl (hb hby d1_6)
  refine own_st st3 ?_
  have f_4 := PE.wr W3
  have Z_5 := Nat.le_trans Z0 (Nat.le_of_eq W3.size.symm)
  have K_6 := K_1.wr W3 (Or.inl (List.mem_of_getElem? (i := 0) rfl))
  have f_7 := PF.same W3
  have N_8 := Fr.snoc X3 N0 PG
  show own_Go X3 (Q1 Z r0 q1 u h0 n0) 0 0 9 #[.val (.ref r0), .val (.long q1), .second] []
  refine own_retV X3 hx Bd.returns hlk e3 (hb hby d1_9) (by decide) (by decide) ?_
  exact ⟨rfl, N_8, K_6, f_7⟩
theorem d3_0 : decode prog_16_method_2_code 0 = .ok (.aload_n 0, 1) := by decide +kernel
theorem d3_1 : decode prog_16_method_2_code 1 = .ok (.dup, 1) := by decide +kernel
theorem d3_2 : decode prog_16_method_2_code 2 = .ok (.getfield 7, 3) := by decide +kernel
theorem d3_5 : decode prog_16_method_2_code 5 = .ok (.ldc2_w 13, 3) := by decide +kernel
theorem d3_8 : decode prog_16_method_2_code 8 = .ok (.ladd, 1) := by decide +kernel
theorem d3_9 : decode prog_16_method_2_code 9 = .ok (.putfield 7, 3) := by decide +kernel
theorem d3_12 : decode prog_16_method_2_code 12 = .ok (.aload_n 0, 1) := by decide +kernel
theorem d3_13 : decode prog_16_method_2_code 13 = .ok (.getfield 7, 3) := by decide +kernel
theorem d3_16 : decode prog_16_method_2_code 16 = .ok (.lstore_n 1, 1) := by decide +kernel
theorem d3_17 : decode prog_16_method_2_code 17 = .ok (.lload_n 1, 1) := by decide +kernel
theorem d3_18 : decode prog_16_method_2_code 18 = .ok (.lload_n 1, 1) := by decide +kernel
theorem d3_19 : decode prog_16_method_2_code 19 = .ok (.bipush 30, 2) := by decide +kernel
theorem d3_21 : decode prog_16_method_2_code 21 = .ok (.lushr, 1) := by decide +kernel
theorem d3_22 : decode prog_16_method_2_code 22 = .ok (.lxor, 1) := by decide +kernel
theorem d3_23 : decode prog_16_method_2_code 23 = .ok (.ldc2_w 15, 3) := by decide +kernel
theorem d3_26 : decode prog_16_method_2_code 26 = .ok (.lmul, 1) := by decide +kernel
theorem d3_27 : decode prog_16_method_2_code 27 = .ok (.lstore_n 1, 1) := by decide +kernel
theorem d3_28 : decode prog_16_method_2_code 28 = .ok (.lload_n 1, 1) := by decide +kernel
theorem d3_29 : decode prog_16_method_2_code 29 = .ok (.lload_n 1, 1) := by decide +kernel
theorem d3_30 : decode prog_16_method_2_code 30 = .ok (.bipush 27, 2) := by decide +kernel
theorem d3_32 : decode prog_16_method_2_code 32 = .ok (.lushr, 1) := by decide +kernel
theorem d3_33 : decode prog_16_method_2_code 33 = .ok (.lxor, 1) := by decide +kernel
theorem d3_34 : decode prog_16_method_2_code 34 = .ok (.ldc2_w 17, 3) := by decide +kernel
theorem d3_37 : decode prog_16_method_2_code 37 = .ok (.lmul, 1) := by decide +kernel
theorem d3_38 : decode prog_16_method_2_code 38 = .ok (.lstore_n 1, 1) := by decide +kernel
theorem d3_39 : decode prog_16_method_2_code 39 = .ok (.lload_n 1, 1) := by decide +kernel
theorem d3_40 : decode prog_16_method_2_code 40 = .ok (.lload_n 1, 1) := by decide +kernel
theorem d3_41 : decode prog_16_method_2_code 41 = .ok (.bipush 31, 2) := by decide +kernel
theorem d3_43 : decode prog_16_method_2_code 43 = .ok (.lushr, 1) := by decide +kernel
theorem d3_44 : decode prog_16_method_2_code 44 = .ok (.lxor, 1) := by decide +kernel
theorem d3_45 : decode prog_16_method_2_code 45 = .ok (.lreturn, 1) := by decide +kernel
theorem pn_3 : plainName "com/example/bulk_retrieval/bulkretrieval/comparison/SplitMix64" = true := by first | (simp [plainName, overriddenIn]; done) | decide +kernel
theorem ef_3 (m : MethodId) (r0 : Addr) : entryFrame m #[(.ref r0)] 3 = mkF m 0 #[.val (.ref r0), .unset, .unset] [] := by first | (simp [entryFrame, mkF, argsToLocals, Value.category]; done) | rfl
def Q3 (Z : State) (r0 : Addr) (u : Int64) (h0 : Heap) (n0 : Nat) (v : Option Value) (h : Heap) (L : List Loc) : Prop := v = some (.long (own_mix (u + (-7046029254386353131 : Int64)))) ∧ Fr n0 L ∧ Keep h0 h [r0] ∧ Fld Z h r0 "com/example/bulk_retrieval/bulkretrieval/comparison/SplitMix64" "state" "J" (.long (u + (-7046029254386353131 : Int64)))
set_option maxRecDepth 65536 in
set_option maxHeartbeats 40000000 in
theorem rm3 (l : Launch) (Z : State) (a0 : Array Value) (hw : ∀ d ∈ tables_1, d.before a0 Z = true) (ws : List Jvm.Cond) (r0 : Addr) (u : Int64) (h0 : Heap) (n0 : Nat) (Z0 : n0 ≤ h0.size) (PE : Exa Z h0 r0 "com/example/bulk_retrieval/bulkretrieval/comparison/SplitMix64") (PF : Fld Z h0 r0 "com/example/bulk_retrieval/bulkretrieval/comparison/SplitMix64" "state" "J" (.long u)) (PG : n0 ≤ r0) :
    MetFree l (⟨"com/example/bulk_retrieval/bulkretrieval/comparison/SplitMix64", "nextLong", "()J"⟩ : MethodName) (head1 (Jvm.Cond.code (⟨"com/example/bulk_retrieval/bulkretrieval/comparison/SplitMix64", "nextLong", "()J"⟩ : MethodName) prog_16_method_2_code 3 (some .long) :: ws) ({ frames := 0, cells := 0, slots := 0, locals := 0 } : Room)) (fun a U => a = #[(.ref r0)] ∧ Z.Warmed39 U.vm ∧ U.heap = h0) (fun _ _ _ _ _ => True) (fun _ U o U' => ∃ v L, o = .returned v ∧ Q3 Z r0 u h0 n0 v U'.heap L ∧ FrameEnd U o U' L ({ frames := 0, cells := 0, slots := 0, locals := 0 } : Room).cells ({ frames := 0, cells := 0, slots := 0, locals := 0 } : Room).slots) := by
  refine MetFree.of_bodySF (plainFor_of_name pn_3) hisR ?_
  intro p e s m args below meth c s₁ Bd hml0 hP hK
  obtain ⟨rfl, hZ, hh⟩ := hP
  have hx := Bd.exec
  have hby := Bd.bytes
  have hml : c.maxLocals = 3 := hml0
  have hown : s.vm.findClass "com/example/bulk_retrieval/bulkretrieval/comparison/SplitMix64" = some m.cls := findClass_of_methodNamed Bd.named
  have hnm := (name_of_methodNamed Bd.named Bd.method).1
  have hlk : meth.locks = false := Bd.notSynchronized
  have X0 : Stand p l e ({ frames := 0, cells := 0, slots := 0, locals := 0 } : Room) s m #[(.ref r0)] below meth c s₁ [] 0 0 := Stand.of_body Bd
  have e0 : s₁.heap = h0 := by rw [← hh, Bd.state]; rfl
  have N0 := Fr.nil n0
  refine own_cast (Q := Q3 Z r0 u h0 n0) (kc := 0) (ks := 0) (ef_3 m r0) ?_
  have K_1 := Keep.refl h0 [r0]
  refine own_st (fun _ k => XS.aloadN X0.here hx rfl (hb hby d3_0) rfl rfl k) ?_
  show own_Go X0 (Q3 Z r0 u h0 n0) 0 0 1 #[.val (.ref r0), .unset, .unset] [(.ref r0)]
  refine own_st (fun _ k => XS.dup X0.here hx rfl (hb hby d3_1) rfl rfl k) ?_
  show own_Go X0 (Q3 Z r0 u h0 n0) 0 0 2 #[.val (.ref r0), .unset, .unset] [(.ref r0), (.ref r0)]
  obtain ⟨T2, X2, e2, st2⟩ := getF X0 hx hZ hown (host := "") (Or.inl (hw _ (List.mem_of_getElem? (i := 10) rfl))) Via.refl e0 PF (g := (mkF m 2 #[.val (.ref r0), .unset, .unset] [(.ref r0), (.ref r0)])) rfl rfl (hb hby d3_2)
  refine own_st st2 ?_
  show own_Go X2 (Q3 Z r0 u h0 n0) 0 0 5 #[.val (.ref r0), .unset, .unset] [(.long u), (.ref r0)]
  refine own_st (fun t k => X2.ldc2Long hx hown (mvT hZ (hw _ (List.mem_of_getElem? (i := 17) rfl))) (g := (mkF m 5 #[.val (.ref r0), .unset, .unset] [(.long u), (.ref r0)])) rfl (hb hby d3_5) t k) ?_
  show own_Go X2 (Q3 Z r0 u h0 n0) 0 0 8 #[.val (.ref r0), .unset, .unset] [(.long (-7046029254386353131 : Int64)), (.long u), (.ref r0)]
  refine own_st (fun _ k => XS.ladd X2.here hx rfl (hb hby d3_8) rfl k) ?_
  show own_Go X2 (Q3 Z r0 u h0 n0) 0 0 9 #[.val (.ref r0), .unset, .unset] [(.long (u + (-7046029254386353131 : Int64))), (.ref r0)]
  obtain ⟨T3, h3, X3, e3, W3, st3⟩ := putF X2 hx hZ hown (host := "") (Or.inl (hw _ (List.mem_of_getElem? (i := 10) rfl))) Via.refl e2 PF PE (Or.inl (hw _ (List.mem_of_getElem? (i := 11) rfl))) (hw _ (List.mem_of_getElem? (i := 2) rfl)) (ty := .long) (by decide) rfl rfl (g := (mkF m 9 #[.val (.ref r0), .unset, .unset] [(.long (u + (-7046029254386353131 : Int64))), (.ref r0)])) rfl rfl (hb hby d3_9)
  refine own_st st3 ?_
  have f_4 := PE.wr W3
  have Z_5 := Nat.le_trans Z0 (Nat.le_of_eq W3.size.symm)
  have K_6 := K_1.wr W3 (Or.inl (List.mem_of_getElem? (i := 0) rfl))
  have f_7 := PF.same W3
  have N_8 := Fr.snoc X3 N0 PG
  show own_Go X3 (Q3 Z r0 u h0 n0) 0 0 12 #[.val (.ref r0), .unset, .unset] []
  refine own_st (fun _ k => XS.aloadN X3.here hx rfl (hb hby d3_12) rfl rfl k) ?_
  show own_Go X3 (Q3 Z r0 u h0 n0) 0 0 13 #[.val (.ref r0), .unset, .unset] [(.ref r0)]
  obtain ⟨T9, X9, e9, st9⟩ := getF X3 hx hZ hown (host := "") (Or.inl (hw _ (List.mem_of_getElem? (i := 10) rfl))) Via.refl e3 f_7 (g := (mkF m 13 #[.val (.ref r0), .unset, .unset] [(.ref r0)])) rfl rfl (hb hby d3_13)
  refine own_st st9 ?_
  show own_Go X9 (Q3 Z r0 u h0 n0) 0 0 16 #[.val (.ref r0), .unset, .unset] [(.long (u + (-7046029254386353131 : Int64)))]
  refine own_st (fun _ k => XS.lstoreN X9.here hx rfl (hb hby d3_16) rfl (l' := #[.val (.ref r0), .val (.long (u + (-7046029254386353131 : Int64))), .second]) rfl k) ?_
  show own_Go X9 (Q3 Z r0 u h0 n0) 0 0 17 #[.val (.ref r0), .val (.long (u + (-7046029254386353131 : Int64))), .second] []
  refine own_st (fun _ k => XS.lloadN X9.here hx rfl (hb hby d3_17) rfl k) ?_
  show own_Go X9 (Q3 Z r0 u h0 n0) 0 0 18 #[.val (.ref r0), .val (.long (u + (-7046029254386353131 : Int64))), .second] [(.long (u + (-7046029254386353131 : Int64)))]
  refine own_st (fun _ k => XS.lloadN X9.here hx rfl (hb hby d3_18) rfl k) ?_
  show own_Go X9 (Q3 Z r0 u h0 n0) 0 0 19 #[.val (.ref r0), .val (.long (u + (-7046029254386353131 : Int64))), .second] [(.long (u + (-7046029254386353131 : Int64))), (.long (u + (-7046029254386353131 : Int64)))]
  refine own_st (fun _ k => XS.bipush X9.here hx rfl (hb hby d3_19) k) ?_
  show own_Go X9 (Q3 Z r0 u h0 n0) 0 0 21 #[.val (.ref r0), .val (.long (u + (-7046029254386353131 : Int64))), .second] [(.int (30 : Int32)), (.long (u + (-7046029254386353131 : Int64))), (.long (u + (-7046029254386353131 : Int64)))]
  refine own_st (fun _ k => XS.lushr X9.here hx rfl (hb hby d3_21) rfl k) ?_
  show own_Go X9 (Q3 Z r0 u h0 n0) 0 0 22 #[.val (.ref r0), .val (.long (u + (-7046029254386353131 : Int64))), .second] [(.long (((u + (-7046029254386353131 : Int64)).toUInt64 >>> ((30 : Int32) &&& 0x3f).toInt64.toUInt64).toInt64)), (.long (u + (-7046029254386353131 : Int64)))]
  refine own_st (fun _ k => XS.lxor X9.here hx rfl (hb hby d3_22) rfl k) ?_
  show own_Go X9 (Q3 Z r0 u h0 n0) 0 0 23 #[.val (.ref r0), .val (.long (u + (-7046029254386353131 : Int64))), .second] [(.long ((u + (-7046029254386353131 : Int64)) ^^^ (((u + (-7046029254386353131 : Int64)).toUInt64 >>> ((30 : Int32) &&& 0x3f).toInt64.toUInt64).toInt64)))]
  refine own_st (fun t k => X9.ldc2Long hx hown (mvT hZ (hw _ (List.mem_of_getElem? (i := 18) rfl))) (g := (mkF m 23 #[.val (.ref r0), .val (.long (u + (-7046029254386353131 : Int64))), .second] [(.long ((u + (-7046029254386353131 : Int64)) ^^^ (((u + (-7046029254386353131 : Int64)).toUInt64 >>> ((30 : Int32) &&& 0x3f).toInt64.toUInt64).toInt64)))])) rfl (hb hby d3_23) t k) ?_
  show own_Go X9 (Q3 Z r0 u h0 n0) 0 0 26 #[.val (.ref r0), .val (.long (u + (-7046029254386353131 : Int64))), .second] [(.long (-4658895280553007687 : Int64)), (.long ((u + (-7046029254386353131 : Int64)) ^^^ (((u + (-7046029254386353131 : Int64)).toUInt64 >>> ((30 : Int32) &&& 0x3f).toInt64.toUInt64).toInt64)))]
  refine own_st (fun _ k => XS.lmul X9.here hx rfl (hb hby d3_26) rfl k) ?_
  show own_Go X9 (Q3 Z r0 u h0 n0) 0 0 27 #[.val (.ref r0), .val (.long (u + (-7046029254386353131 : Int64))), .second] [(.long (((u + (-7046029254386353131 : Int64)) ^^^ (((u + (-7046029254386353131 : Int64)).toUInt64 >>> ((30 : Int32) &&& 0x3f).toInt64.toUInt64).toInt64)) * (-4658895280553007687 : Int64)))]
  refine own_st (fun _ k => XS.lstoreN X9.here hx rfl (hb hby d3_27) rfl (l' := #[.val (.ref r0), .val (.long (((u + (-7046029254386353131 : Int64)) ^^^ (((u + (-7046029254386353131 : Int64)).toUInt64 >>> ((30 : Int32) &&& 0x3f).toInt64.toUInt64).toInt64)) * (-4658895280553007687 : Int64))), .second]) rfl k) ?_
  show own_Go X9 (Q3 Z r0 u h0 n0) 0 0 28 #[.val (.ref r0), .val (.long (((u + (-7046029254386353131 : Int64)) ^^^ (((u + (-7046029254386353131 : Int64)).toUInt64 >>> ((30 : Int32) &&& 0x3f).toInt64.toUInt64).toInt64)) * (-4658895280553007687 : Int64))), .second] []
  show own_Go X9 (Q3 Z r0 u h0 n0) 0 0 28 #[.val (.ref r0), .val (.long (own_m1 (u + (-7046029254386353131 : Int64)))), .second] []
  refine own_st (fun _ k => XS.lloadN X9.here hx rfl (hb hby d3_28) rfl k) ?_
  show own_Go X9 (Q3 Z r0 u h0 n0) 0 0 29 #[.val (.ref r0), .val (.long (own_m1 (u + (-7046029254386353131 : Int64)))), .second] [(.long (own_m1 (u + (-7046029254386353131 : Int64))))]
  refine own_st (fun _ k => XS.lloadN X9.here hx rfl (hb hby d3_29) rfl k) ?_
  show own_Go X9 (Q3 Z r0 u h0 n0) 0 0 30 #[.val (.ref r0), .val (.long (own_m1 (u + (-7046029254386353131 : Int64)))), .second] [(.long (own_m1 (u + (-7046029254386353131 : Int64)))), (.long (own_m1 (u + (-7046029254386353131 : Int64))))]
  refine own_st (fun _ k => XS.bipush X9.here hx rfl (hb hby d3_30) k) ?_
  show own_Go X9 (Q3 Z r0 u h0 n0) 0 0 32 #[.val (.ref r0), .val (.long (own_m1 (u + (-7046029254386353131 : Int64)))), .second] [(.int (27 : Int32)), (.long (own_m1 (u + (-7046029254386353131 : Int64)))), (.long (own_m1 (u + (-7046029254386353131 : Int64))))]
  refine own_st (fun _ k => XS.lushr X9.here hx rfl (hb hby d3_32) rfl k) ?_
  show own_Go X9 (Q3 Z r0 u h0 n0) 0 0 33 #[.val (.ref r0), .val (.long (own_m1 (u + (-7046029254386353131 : Int64)))), .second] [(.long (((own_m1 (u + (-7046029254386353131 : Int64))).toUInt64 >>> ((27 : Int32) &&& 0x3f).toInt64.toUInt64).toInt64)), (.long (own_m1 (u + (-7046029254386353131 : Int64))))]
  refine own_st (fun _ k => XS.lxor X9.here hx rfl (hb hby d3_33) rfl k) ?_
  show own_Go X9 (Q3 Z r0 u h0 n0) 0 0 34 #[.val (.ref r0), .val (.long (own_m1 (u + (-7046029254386353131 : Int64)))), .second] [(.long ((own_m1 (u + (-7046029254386353131 : Int64))) ^^^ (((own_m1 (u + (-7046029254386353131 : Int64))).toUInt64 >>> ((27 : Int32) &&& 0x3f).toInt64.toUInt64).toInt64)))]
  refine own_st (fun t k => X9.ldc2Long hx hown (mvT hZ (hw _ (List.mem_of_getElem? (i := 19) rfl))) (g := (mkF m 34 #[.val (.ref r0), .val (.long (own_m1 (u + (-7046029254386353131 : Int64)))), .second] [(.long ((own_m1 (u + (-7046029254386353131 : Int64))) ^^^ (((own_m1 (u + (-7046029254386353131 : Int64))).toUInt64 >>> ((27 : Int32) &&& 0x3f).toInt64.toUInt64).toInt64)))])) rfl (hb hby d3_34) t k) ?_
  show own_Go X9 (Q3 Z r0 u h0 n0) 0 0 37 #[.val (.ref r0), .val (.long (own_m1 (u + (-7046029254386353131 : Int64)))), .second] [(.long (-7723592293110705685 : Int64)), (.long ((own_m1 (u + (-7046029254386353131 : Int64))) ^^^ (((own_m1 (u + (-7046029254386353131 : Int64))).toUInt64 >>> ((27 : Int32) &&& 0x3f).toInt64.toUInt64).toInt64)))]
  refine own_st (fun _ k => XS.lmul X9.here hx rfl (hb hby d3_37) rfl k) ?_
  show own_Go X9 (Q3 Z r0 u h0 n0) 0 0 38 #[.val (.ref r0), .val (.long (own_m1 (u + (-7046029254386353131 : Int64)))), .second] [(.long (((own_m1 (u + (-7046029254386353131 : Int64))) ^^^ (((own_m1 (u + (-7046029254386353131 : Int64))).toUInt64 >>> ((27 : Int32) &&& 0x3f).toInt64.toUInt64).toInt64)) * (-7723592293110705685 : Int64)))]
  refine own_st (fun _ k => XS.lstoreN X9.here hx rfl (hb hby d3_38) rfl (l' := #[.val (.ref r0), .val (.long (((own_m1 (u + (-7046029254386353131 : Int64))) ^^^ (((own_m1 (u + (-7046029254386353131 : Int64))).toUInt64 >>> ((27 : Int32) &&& 0x3f).toInt64.toUInt64).toInt64)) * (-7723592293110705685 : Int64))), .second]) rfl k) ?_
  show own_Go X9 (Q3 Z r0 u h0 n0) 0 0 39 #[.val (.ref r0), .val (.long (((own_m1 (u + (-7046029254386353131 : Int64))) ^^^ (((own_m1 (u + (-7046029254386353131 : Int64))).toUInt64 >>> ((27 : Int32) &&& 0x3f).toInt64.toUInt64).toInt64)) * (-7723592293110705685 : Int64))), .second] []
  show own_Go X9 (Q3 Z r0 u h0 n0) 0 0 39 #[.val (.ref r0), .val (.long (own_m2 (own_m1 (u + (-7046029254386353131 : Int64))))), .second] []
  refine own_st (fun _ k => XS.lloadN X9.here hx rfl (hb hby d3_39) rfl k) ?_
  show own_Go X9 (Q3 Z r0 u h0 n0) 0 0 40 #[.val (.ref r0), .val (.long (own_m2 (own_m1 (u + (-7046029254386353131 : Int64))))), .second] [(.long (own_m2 (own_m1 (u + (-7046029254386353131 : Int64)))))]
  refine own_st (fun _ k => XS.lloadN X9.here hx rfl (hb hby d3_40) rfl k) ?_
  show own_Go X9 (Q3 Z r0 u h0 n0) 0 0 41 #[.val (.ref r0), .val (.long (own_m2 (own_m1 (u + (-7046029254386353131 : Int64))))), .second] [(.long (own_m2 (own_m1 (u + (-7046029254386353131 : Int64))))), (.long (own_m2 (own_m1 (u + (-7046029254386353131 : Int64)))))]
  refine own_st (fun _ k => XS.bipush X9.here hx rfl (hb hby d3_41) k) ?_
  show own_Go X9 (Q3 Z r0 u h0 n0) 0 0 43 #[.val (.ref r0), .val (.long (own_m2 (own_m1 (u + (-7046029254386353131 : Int64))))), .second] [(.int (31 : Int32)), (.long (own_m2 (own_m1 (u + (-7046029254386353131 : Int64))))), (.long (own_m2 (own_m1 (u + (-7046029254386353131 : Int64)))))]
  refine own_st (fun _ k => XS.lushr X9.here hx rfl (hb hby d3_43) rfl k) ?_
  show own_Go X9 (Q3 Z r0 u h0 n0) 0 0 44 #[.val (.ref r0), .val (.long (own_m2 (own_m1 (u + (-7046029254386353131 : Int64))))), .second] [(.long (((own_m2 (own_m1 (u + (-7046029254386353131 : Int64)))).toUInt64 >>> ((31 : Int32) &&& 0x3f).toInt64.toUInt64).toInt64)), (.long (own_m2 (own_m1 (u + (-7046029254386353131 : Int64)))))]
  refine own_st (fun _ k => XS.lxor X9.here hx rfl (hb hby d3_44) rfl k) ?_
  show own_Go X9 (Q3 Z r0 u h0 n0) 0 0 45 #[.val (.ref r0), .val (.long (own_m2 (own_m1 (u + (-7046029254386353131 : Int64))))), .second] [(.long ((own_m2 (own_m1 (u + (-7046029254386353131 : Int64)))) ^^^ (((own_m2 (own_m1 (u + (-7046029254386353131 : Int64)))).toUInt64 >>> ((31 : Int32) &&& 0x3f).toInt64.toUInt64).toInt64)))]
  refine own_retJ X9 hx Bd.returns hlk e9 (hb hby d3_45) (by decide) (by decide) ?_
  exact ⟨rfl, N_8, K_6, f_7⟩
theorem d5_0 : decode method_2_code 0 = .ok (.lload_n 0, 1) := by decide +kernel
theorem d5_1 : decode method_2_code 1 = .ok (.lstore_n 2, 1) := by decide +kernel
theorem d5_2 : decode method_2_code 2 = .ok (.lload_n 2, 1) := by decide +kernel
theorem d5_3 : decode method_2_code 3 = .ok (.ldc2_w 7, 3) := by decide +kernel
theorem d5_6 : decode method_2_code 6 = .ok (.lload_n 0, 1) := by decide +kernel
theorem d5_7 : decode method_2_code 7 = .ok (.lload_n 2, 1) := by decide +kernel
theorem d5_8 : decode method_2_code 8 = .ok (.lmul, 1) := by decide +kernel
theorem d5_9 : decode method_2_code 9 = .ok (.lsub, 1) := by decide +kernel
theorem d5_10 : decode method_2_code 10 = .ok (.lmul, 1) := by decide +kernel
theorem d5_11 : decode method_2_code 11 = .ok (.lstore_n 2, 1) := by decide +kernel
theorem d5_12 : decode method_2_code 12 = .ok (.lload_n 2, 1) := by decide +kernel
theorem d5_13 : decode method_2_code 13 = .ok (.ldc2_w 7, 3) := by decide +kernel
theorem d5_16 : decode method_2_code 16 = .ok (.lload_n 0, 1) := by decide +kernel
theorem d5_17 : decode method_2_code 17 = .ok (.lload_n 2, 1) := by decide +kernel
theorem d5_18 : decode method_2_code 18 = .ok (.lmul, 1) := by decide +kernel
theorem d5_19 : decode method_2_code 19 = .ok (.lsub, 1) := by decide +kernel
theorem d5_20 : decode method_2_code 20 = .ok (.lmul, 1) := by decide +kernel
theorem d5_21 : decode method_2_code 21 = .ok (.lstore_n 2, 1) := by decide +kernel
theorem d5_22 : decode method_2_code 22 = .ok (.lload_n 2, 1) := by decide +kernel
theorem d5_23 : decode method_2_code 23 = .ok (.ldc2_w 7, 3) := by decide +kernel
theorem d5_26 : decode method_2_code 26 = .ok (.lload_n 0, 1) := by decide +kernel
theorem d5_27 : decode method_2_code 27 = .ok (.lload_n 2, 1) := by decide +kernel
theorem d5_28 : decode method_2_code 28 = .ok (.lmul, 1) := by decide +kernel
theorem d5_29 : decode method_2_code 29 = .ok (.lsub, 1) := by decide +kernel
theorem d5_30 : decode method_2_code 30 = .ok (.lmul, 1) := by decide +kernel
theorem d5_31 : decode method_2_code 31 = .ok (.lstore_n 2, 1) := by decide +kernel
theorem d5_32 : decode method_2_code 32 = .ok (.lload_n 2, 1) := by decide +kernel
theorem d5_33 : decode method_2_code 33 = .ok (.ldc2_w 7, 3) := by decide +kernel
theorem d5_36 : decode method_2_code 36 = .ok (.lload_n 0, 1) := by decide +kernel
theorem d5_37 : decode method_2_code 37 = .ok (.lload_n 2, 1) := by decide +kernel
theorem d5_38 : decode method_2_code 38 = .ok (.lmul, 1) := by decide +kernel
theorem d5_39 : decode method_2_code 39 = .ok (.lsub, 1) := by decide +kernel
theorem d5_40 : decode method_2_code 40 = .ok (.lmul, 1) := by decide +kernel
theorem d5_41 : decode method_2_code 41 = .ok (.lstore_n 2, 1) := by decide +kernel
theorem d5_42 : decode method_2_code 42 = .ok (.lload_n 2, 1) := by decide +kernel
theorem d5_43 : decode method_2_code 43 = .ok (.ldc2_w 7, 3) := by decide +kernel
theorem d5_46 : decode method_2_code 46 = .ok (.lload_n 0, 1) := by decide +kernel
theorem d5_47 : decode method_2_code 47 = .ok (.lload_n 2, 1) := by decide +kernel
theorem d5_48 : decode method_2_code 48 = .ok (.lmul, 1) := by decide +kernel
theorem d5_49 : decode method_2_code 49 = .ok (.lsub, 1) := by decide +kernel
theorem d5_50 : decode method_2_code 50 = .ok (.lmul, 1) := by decide +kernel
theorem d5_51 : decode method_2_code 51 = .ok (.lstore_n 2, 1) := by decide +kernel
theorem d5_52 : decode method_2_code 52 = .ok (.lload_n 2, 1) := by decide +kernel
theorem d5_53 : decode method_2_code 53 = .ok (.lreturn, 1) := by decide +kernel
theorem pn_5 : plainName "com/example/bulk_retrieval/bulkretrieval/comparison/SplitMix64NextLongPinLaw" = true := by first | (simp [plainName, overriddenIn]; done) | decide +kernel
theorem ef_5 (m : MethodId) (q0 : Int64) : entryFrame m #[(.long q0)] 4 = mkF m 0 #[.val (.long q0), .second, .unset, .unset] [] := by first | (simp [entryFrame, mkF, argsToLocals, Value.category]; done) | rfl
def Q5 (Z : State) (q0 : Int64)  (h0 : Heap) (n0 : Nat) (v : Option Value) (h : Heap) (L : List Loc) : Prop := v = some (.long (own_inv q0)) ∧ Fr n0 L ∧ h = h0
set_option maxRecDepth 65536 in
set_option maxHeartbeats 40000000 in
theorem rm5 (l : Launch) (Z : State) (a0 : Array Value) (hw : ∀ d ∈ tables_1, d.before a0 Z = true) (ws : List Jvm.Cond) (q0 : Int64)  (h0 : Heap) (n0 : Nat) (Z0 : n0 ≤ h0.size)  :
    MetFree l (⟨"com/example/bulk_retrieval/bulkretrieval/comparison/SplitMix64NextLongPinLaw", "inv", "(J)J"⟩ : MethodName) (head1 (Jvm.Cond.code (⟨"com/example/bulk_retrieval/bulkretrieval/comparison/SplitMix64NextLongPinLaw", "inv", "(J)J"⟩ : MethodName) method_2_code 4 (some .long) :: ws) ({ frames := 0, cells := 0, slots := 0, locals := 0 } : Room)) (fun a U => a = #[(.long q0)] ∧ Z.Warmed39 U.vm ∧ U.heap = h0) (fun _ _ _ _ _ => True) (fun _ U o U' => ∃ v L, o = .returned v ∧ Q5 Z q0 h0 n0 v U'.heap L ∧ FrameEnd U o U' L ({ frames := 0, cells := 0, slots := 0, locals := 0 } : Room).cells ({ frames := 0, cells := 0, slots := 0, locals := 0 } : Room).slots) := by
  refine MetFree.of_bodySF (plainFor_of_name pn_5) hisR ?_
  intro p e s m args below meth c s₁ Bd hml0 hP hK
  obtain ⟨rfl, hZ, hh⟩ := hP
  have hx := Bd.exec
  have hby := Bd.bytes
  have hml : c.maxLocals = 4 := hml0
  have hown : s.vm.findClass "com/example/bulk_retrieval/bulkretrieval/comparison/SplitMix64NextLongPinLaw" = some m.cls := findClass_of_methodNamed Bd.named
  have hnm := (name_of_methodNamed Bd.named Bd.method).1
  have hlk : meth.locks = false := Bd.notSynchronized
  have X0 : Stand p l e ({ frames := 0, cells := 0, slots := 0, locals := 0 } : Room) s m #[(.long q0)] below meth c s₁ [] 0 0 := Stand.of_body Bd
  have e0 : s₁.heap = h0 := by rw [← hh, Bd.state]; rfl
  have N0 := Fr.nil n0
  refine own_cast (Q := Q5 Z q0 h0 n0) (kc := 0) (ks := 0) (ef_5 m q0) ?_
  refine own_st (fun _ k => XS.lloadN X0.here hx rfl (hb hby d5_0) rfl k) ?_
  show own_Go X0 (Q5 Z q0 h0 n0) 0 0 1 #[.val (.long q0), .second, .unset, .unset] [(.long q0)]
  refine own_st (fun _ k => XS.lstoreN X0.here hx rfl (hb hby d5_1) rfl (l' := #[.val (.long q0), .second, .val (.long q0), .second]) rfl k) ?_
  show own_Go X0 (Q5 Z q0 h0 n0) 0 0 2 #[.val (.long q0), .second, .val (.long q0), .second] []
  refine own_st (fun _ k => XS.lloadN X0.here hx rfl (hb hby d5_2) rfl k) ?_
  show own_Go X0 (Q5 Z q0 h0 n0) 0 0 3 #[.val (.long q0), .second, .val (.long q0), .second] [(.long q0)]
  refine own_st (fun t k => X0.ldc2Long hx hown (mvT hZ (hw _ (List.mem_of_getElem? (i := 28) rfl))) (g := (mkF m 3 #[.val (.long q0), .second, .val (.long q0), .second] [(.long q0)])) rfl (hb hby d5_3) t k) ?_
  show own_Go X0 (Q5 Z q0 h0 n0) 0 0 6 #[.val (.long q0), .second, .val (.long q0), .second] [(.long (2 : Int64)), (.long q0)]
  refine own_st (fun _ k => XS.lloadN X0.here hx rfl (hb hby d5_6) rfl k) ?_
  show own_Go X0 (Q5 Z q0 h0 n0) 0 0 7 #[.val (.long q0), .second, .val (.long q0), .second] [(.long q0), (.long (2 : Int64)), (.long q0)]
  refine own_st (fun _ k => XS.lloadN X0.here hx rfl (hb hby d5_7) rfl k) ?_
  show own_Go X0 (Q5 Z q0 h0 n0) 0 0 8 #[.val (.long q0), .second, .val (.long q0), .second] [(.long q0), (.long q0), (.long (2 : Int64)), (.long q0)]
  refine own_st (fun _ k => XS.lmul X0.here hx rfl (hb hby d5_8) rfl k) ?_
  show own_Go X0 (Q5 Z q0 h0 n0) 0 0 9 #[.val (.long q0), .second, .val (.long q0), .second] [(.long (q0 * q0)), (.long (2 : Int64)), (.long q0)]
  refine own_st (fun _ k => XS.lsub X0.here hx rfl (hb hby d5_9) rfl k) ?_
  show own_Go X0 (Q5 Z q0 h0 n0) 0 0 10 #[.val (.long q0), .second, .val (.long q0), .second] [(.long ((2 : Int64) - (q0 * q0))), (.long q0)]
  refine own_st (fun _ k => XS.lmul X0.here hx rfl (hb hby d5_10) rfl k) ?_
  show own_Go X0 (Q5 Z q0 h0 n0) 0 0 11 #[.val (.long q0), .second, .val (.long q0), .second] [(.long (q0 * ((2 : Int64) - (q0 * q0))))]
  refine own_st (fun _ k => XS.lstoreN X0.here hx rfl (hb hby d5_11) rfl (l' := #[.val (.long q0), .second, .val (.long (q0 * ((2 : Int64) - (q0 * q0)))), .second]) rfl k) ?_
  show own_Go X0 (Q5 Z q0 h0 n0) 0 0 12 #[.val (.long q0), .second, .val (.long (q0 * ((2 : Int64) - (q0 * q0)))), .second] []
  show own_Go X0 (Q5 Z q0 h0 n0) 0 0 12 #[.val (.long q0), .second, .val (.long (own_nx q0 q0)), .second] []
  refine own_st (fun _ k => XS.lloadN X0.here hx rfl (hb hby d5_12) rfl k) ?_
  show own_Go X0 (Q5 Z q0 h0 n0) 0 0 13 #[.val (.long q0), .second, .val (.long (own_nx q0 q0)), .second] [(.long (own_nx q0 q0))]
  refine own_st (fun t k => X0.ldc2Long hx hown (mvT hZ (hw _ (List.mem_of_getElem? (i := 28) rfl))) (g := (mkF m 13 #[.val (.long q0), .second, .val (.long (own_nx q0 q0)), .second] [(.long (own_nx q0 q0))])) rfl (hb hby d5_13) t k) ?_
  show own_Go X0 (Q5 Z q0 h0 n0) 0 0 16 #[.val (.long q0), .second, .val (.long (own_nx q0 q0)), .second] [(.long (2 : Int64)), (.long (own_nx q0 q0))]
  refine own_st (fun _ k => XS.lloadN X0.here hx rfl (hb hby d5_16) rfl k) ?_
  show own_Go X0 (Q5 Z q0 h0 n0) 0 0 17 #[.val (.long q0), .second, .val (.long (own_nx q0 q0)), .second] [(.long q0), (.long (2 : Int64)), (.long (own_nx q0 q0))]
  refine own_st (fun _ k => XS.lloadN X0.here hx rfl (hb hby d5_17) rfl k) ?_
  show own_Go X0 (Q5 Z q0 h0 n0) 0 0 18 #[.val (.long q0), .second, .val (.long (own_nx q0 q0)), .second] [(.long (own_nx q0 q0)), (.long q0), (.long (2 : Int64)), (.long (own_nx q0 q0))]
  refine own_st (fun _ k => XS.lmul X0.here hx rfl (hb hby d5_18) rfl k) ?_
  show own_Go X0 (Q5 Z q0 h0 n0) 0 0 19 #[.val (.long q0), .second, .val (.long (own_nx q0 q0)), .second] [(.long (q0 * (own_nx q0 q0))), (.long (2 : Int64)), (.long (own_nx q0 q0))]
  refine own_st (fun _ k => XS.lsub X0.here hx rfl (hb hby d5_19) rfl k) ?_
  show own_Go X0 (Q5 Z q0 h0 n0) 0 0 20 #[.val (.long q0), .second, .val (.long (own_nx q0 q0)), .second] [(.long ((2 : Int64) - (q0 * (own_nx q0 q0)))), (.long (own_nx q0 q0))]
  refine own_st (fun _ k => XS.lmul X0.here hx rfl (hb hby d5_20) rfl k) ?_
  show own_Go X0 (Q5 Z q0 h0 n0) 0 0 21 #[.val (.long q0), .second, .val (.long (own_nx q0 q0)), .second] [(.long ((own_nx q0 q0) * ((2 : Int64) - (q0 * (own_nx q0 q0)))))]
  refine own_st (fun _ k => XS.lstoreN X0.here hx rfl (hb hby d5_21) rfl (l' := #[.val (.long q0), .second, .val (.long ((own_nx q0 q0) * ((2 : Int64) - (q0 * (own_nx q0 q0))))), .second]) rfl k) ?_
  show own_Go X0 (Q5 Z q0 h0 n0) 0 0 22 #[.val (.long q0), .second, .val (.long ((own_nx q0 q0) * ((2 : Int64) - (q0 * (own_nx q0 q0))))), .second] []
  show own_Go X0 (Q5 Z q0 h0 n0) 0 0 22 #[.val (.long q0), .second, .val (.long (own_nx q0 (own_nx q0 q0))), .second] []
  refine own_st (fun _ k => XS.lloadN X0.here hx rfl (hb hby d5_22) rfl k) ?_
  show own_Go X0 (Q5 Z q0 h0 n0) 0 0 23 #[.val (.long q0), .second, .val (.long (own_nx q0 (own_nx q0 q0))), .second] [(.long (own_nx q0 (own_nx q0 q0)))]
  refine own_st (fun t k => X0.ldc2Long hx hown (mvT hZ (hw _ (List.mem_of_getElem? (i := 28) rfl))) (g := (mkF m 23 #[.val (.long q0), .second, .val (.long (own_nx q0 (own_nx q0 q0))), .second] [(.long (own_nx q0 (own_nx q0 q0)))])) rfl (hb hby d5_23) t k) ?_
  show own_Go X0 (Q5 Z q0 h0 n0) 0 0 26 #[.val (.long q0), .second, .val (.long (own_nx q0 (own_nx q0 q0))), .second] [(.long (2 : Int64)), (.long (own_nx q0 (own_nx q0 q0)))]
  refine own_st (fun _ k => XS.lloadN X0.here hx rfl (hb hby d5_26) rfl k) ?_
  show own_Go X0 (Q5 Z q0 h0 n0) 0 0 27 #[.val (.long q0), .second, .val (.long (own_nx q0 (own_nx q0 q0))), .second] [(.long q0), (.long (2 : Int64)), (.long (own_nx q0 (own_nx q0 q0)))]
  refine own_st (fun _ k => XS.lloadN X0.here hx rfl (hb hby d5_27) rfl k) ?_
  show own_Go X0 (Q5 Z q0 h0 n0) 0 0 28 #[.val (.long q0), .second, .val (.long (own_nx q0 (own_nx q0 q0))), .second] [(.long (own_nx q0 (own_nx q0 q0))), (.long q0), (.long (2 : Int64)), (.long (own_nx q0 (own_nx q0 q0)))]
  refine own_st (fun _ k => XS.lmul X0.here hx rfl (hb hby d5_28) rfl k) ?_
  show own_Go X0 (Q5 Z q0 h0 n0) 0 0 29 #[.val (.long q0), .second, .val (.long (own_nx q0 (own_nx q0 q0))), .second] [(.long (q0 * (own_nx q0 (own_nx q0 q0)))), (.long (2 : Int64)), (.long (own_nx q0 (own_nx q0 q0)))]
  refine own_st (fun _ k => XS.lsub X0.here hx rfl (hb hby d5_29) rfl k) ?_
  show own_Go X0 (Q5 Z q0 h0 n0) 0 0 30 #[.val (.long q0), .second, .val (.long (own_nx q0 (own_nx q0 q0))), .second] [(.long ((2 : Int64) - (q0 * (own_nx q0 (own_nx q0 q0))))), (.long (own_nx q0 (own_nx q0 q0)))]
  refine own_st (fun _ k => XS.lmul X0.here hx rfl (hb hby d5_30) rfl k) ?_
  show own_Go X0 (Q5 Z q0 h0 n0) 0 0 31 #[.val (.long q0), .second, .val (.long (own_nx q0 (own_nx q0 q0))), .second] [(.long ((own_nx q0 (own_nx q0 q0)) * ((2 : Int64) - (q0 * (own_nx q0 (own_nx q0 q0))))))]
  refine own_st (fun _ k => XS.lstoreN X0.here hx rfl (hb hby d5_31) rfl (l' := #[.val (.long q0), .second, .val (.long ((own_nx q0 (own_nx q0 q0)) * ((2 : Int64) - (q0 * (own_nx q0 (own_nx q0 q0)))))), .second]) rfl k) ?_
  show own_Go X0 (Q5 Z q0 h0 n0) 0 0 32 #[.val (.long q0), .second, .val (.long ((own_nx q0 (own_nx q0 q0)) * ((2 : Int64) - (q0 * (own_nx q0 (own_nx q0 q0)))))), .second] []
  show own_Go X0 (Q5 Z q0 h0 n0) 0 0 32 #[.val (.long q0), .second, .val (.long (own_nx q0 (own_nx q0 (own_nx q0 q0)))), .second] []
  refine own_st (fun _ k => XS.lloadN X0.here hx rfl (hb hby d5_32) rfl k) ?_
  show own_Go X0 (Q5 Z q0 h0 n0) 0 0 33 #[.val (.long q0), .second, .val (.long (own_nx q0 (own_nx q0 (own_nx q0 q0)))), .second] [(.long (own_nx q0 (own_nx q0 (own_nx q0 q0))))]
  refine own_st (fun t k => X0.ldc2Long hx hown (mvT hZ (hw _ (List.mem_of_getElem? (i := 28) rfl))) (g := (mkF m 33 #[.val (.long q0), .second, .val (.long (own_nx q0 (own_nx q0 (own_nx q0 q0)))), .second] [(.long (own_nx q0 (own_nx q0 (own_nx q0 q0))))])) rfl (hb hby d5_33) t k) ?_
  show own_Go X0 (Q5 Z q0 h0 n0) 0 0 36 #[.val (.long q0), .second, .val (.long (own_nx q0 (own_nx q0 (own_nx q0 q0)))), .second] [(.long (2 : Int64)), (.long (own_nx q0 (own_nx q0 (own_nx q0 q0))))]
  refine own_st (fun _ k => XS.lloadN X0.here hx rfl (hb hby d5_36) rfl k) ?_
  show own_Go X0 (Q5 Z q0 h0 n0) 0 0 37 #[.val (.long q0), .second, .val (.long (own_nx q0 (own_nx q0 (own_nx q0 q0)))), .second] [(.long q0), (.long (2 : Int64)), (.long (own_nx q0 (own_nx q0 (own_nx q0 q0))))]
  refine own_st (fun _ k => XS.lloadN X0.here hx rfl (hb hby d5_37) rfl k) ?_
  show own_Go X0 (Q5 Z q0 h0 n0) 0 0 38 #[.val (.long q0), .second, .val (.long (own_nx q0 (own_nx q0 (own_nx q0 q0)))), .second] [(.long (own_nx q0 (own_nx q0 (own_nx q0 q0)))), (.long q0), (.long (2 : Int64)), (.long (own_nx q0 (own_nx q0 (own_nx q0 q0))))]
  refine own_st (fun _ k => XS.lmul X0.here hx rfl (hb hby d5_38) rfl k) ?_
  show own_Go X0 (Q5 Z q0 h0 n0) 0 0 39 #[.val (.long q0), .second, .val (.long (own_nx q0 (own_nx q0 (own_nx q0 q0)))), .second] [(.long (q0 * (own_nx q0 (own_nx q0 (own_nx q0 q0))))), (.long (2 : Int64)), (.long (own_nx q0 (own_nx q0 (own_nx q0 q0))))]
  refine own_st (fun _ k => XS.lsub X0.here hx rfl (hb hby d5_39) rfl k) ?_
  show own_Go X0 (Q5 Z q0 h0 n0) 0 0 40 #[.val (.long q0), .second, .val (.long (own_nx q0 (own_nx q0 (own_nx q0 q0)))), .second] [(.long ((2 : Int64) - (q0 * (own_nx q0 (own_nx q0 (own_nx q0 q0)))))), (.long (own_nx q0 (own_nx q0 (own_nx q0 q0))))]
  refine own_st (fun _ k => XS.lmul X0.here hx rfl (hb hby d5_40) rfl k) ?_
  show own_Go X0 (Q5 Z q0 h0 n0) 0 0 41 #[.val (.long q0), .second, .val (.long (own_nx q0 (own_nx q0 (own_nx q0 q0)))), .second] [(.long ((own_nx q0 (own_nx q0 (own_nx q0 q0))) * ((2 : Int64) - (q0 * (own_nx q0 (own_nx q0 (own_nx q0 q0)))))))]
  refine own_st (fun _ k => XS.lstoreN X0.here hx rfl (hb hby d5_41) rfl (l' := #[.val (.long q0), .second, .val (.long ((own_nx q0 (own_nx q0 (own_nx q0 q0))) * ((2 : Int64) - (q0 * (own_nx q0 (own_nx q0 (own_nx q0 q0))))))), .second]) rfl k) ?_
  show own_Go X0 (Q5 Z q0 h0 n0) 0 0 42 #[.val (.long q0), .second, .val (.long ((own_nx q0 (own_nx q0 (own_nx q0 q0))) * ((2 : Int64) - (q0 * (own_nx q0 (own_nx q0 (own_nx q0 q0))))))), .second] []
  show own_Go X0 (Q5 Z q0 h0 n0) 0 0 42 #[.val (.long q0), .second, .val (.long (own_nx q0 (own_nx q0 (own_nx q0 (own_nx q0 q0))))), .second] []
  refine own_st (fun _ k => XS.lloadN X0.here hx rfl (hb hby d5_42) rfl k) ?_
  show own_Go X0 (Q5 Z q0 h0 n0) 0 0 43 #[.val (.long q0), .second, .val (.long (own_nx q0 (own_nx q0 (own_nx q0 (own_nx q0 q0))))), .second] [(.long (own_nx q0 (own_nx q0 (own_nx q0 (own_nx q0 q0)))))]
  refine own_st (fun t k => X0.ldc2Long hx hown (mvT hZ (hw _ (List.mem_of_getElem? (i := 28) rfl))) (g := (mkF m 43 #[.val (.long q0), .second, .val (.long (own_nx q0 (own_nx q0 (own_nx q0 (own_nx q0 q0))))), .second] [(.long (own_nx q0 (own_nx q0 (own_nx q0 (own_nx q0 q0)))))])) rfl (hb hby d5_43) t k) ?_
  show own_Go X0 (Q5 Z q0 h0 n0) 0 0 46 #[.val (.long q0), .second, .val (.long (own_nx q0 (own_nx q0 (own_nx q0 (own_nx q0 q0))))), .second] [(.long (2 : Int64)), (.long (own_nx q0 (own_nx q0 (own_nx q0 (own_nx q0 q0)))))]
  refine own_st (fun _ k => XS.lloadN X0.here hx rfl (hb hby d5_46) rfl k) ?_
  show own_Go X0 (Q5 Z q0 h0 n0) 0 0 47 #[.val (.long q0), .second, .val (.long (own_nx q0 (own_nx q0 (own_nx q0 (own_nx q0 q0))))), .second] [(.long q0), (.long (2 : Int64)), (.long (own_nx q0 (own_nx q0 (own_nx q0 (own_nx q0 q0)))))]
  refine own_st (fun _ k => XS.lloadN X0.here hx rfl (hb hby d5_47) rfl k) ?_
  show own_Go X0 (Q5 Z q0 h0 n0) 0 0 48 #[.val (.long q0), .second, .val (.long (own_nx q0 (own_nx q0 (own_nx q0 (own_nx q0 q0))))), .second] [(.long (own_nx q0 (own_nx q0 (own_nx q0 (own_nx q0 q0))))), (.long q0), (.long (2 : Int64)), (.long (own_nx q0 (own_nx q0 (own_nx q0 (own_nx q0 q0)))))]
  refine own_st (fun _ k => XS.lmul X0.here hx rfl (hb hby d5_48) rfl k) ?_
  show own_Go X0 (Q5 Z q0 h0 n0) 0 0 49 #[.val (.long q0), .second, .val (.long (own_nx q0 (own_nx q0 (own_nx q0 (own_nx q0 q0))))), .second] [(.long (q0 * (own_nx q0 (own_nx q0 (own_nx q0 (own_nx q0 q0)))))), (.long (2 : Int64)), (.long (own_nx q0 (own_nx q0 (own_nx q0 (own_nx q0 q0)))))]
  refine own_st (fun _ k => XS.lsub X0.here hx rfl (hb hby d5_49) rfl k) ?_
  show own_Go X0 (Q5 Z q0 h0 n0) 0 0 50 #[.val (.long q0), .second, .val (.long (own_nx q0 (own_nx q0 (own_nx q0 (own_nx q0 q0))))), .second] [(.long ((2 : Int64) - (q0 * (own_nx q0 (own_nx q0 (own_nx q0 (own_nx q0 q0))))))), (.long (own_nx q0 (own_nx q0 (own_nx q0 (own_nx q0 q0)))))]
  refine own_st (fun _ k => XS.lmul X0.here hx rfl (hb hby d5_50) rfl k) ?_
  show own_Go X0 (Q5 Z q0 h0 n0) 0 0 51 #[.val (.long q0), .second, .val (.long (own_nx q0 (own_nx q0 (own_nx q0 (own_nx q0 q0))))), .second] [(.long ((own_nx q0 (own_nx q0 (own_nx q0 (own_nx q0 q0)))) * ((2 : Int64) - (q0 * (own_nx q0 (own_nx q0 (own_nx q0 (own_nx q0 q0))))))))]
  refine own_st (fun _ k => XS.lstoreN X0.here hx rfl (hb hby d5_51) rfl (l' := #[.val (.long q0), .second, .val (.long ((own_nx q0 (own_nx q0 (own_nx q0 (own_nx q0 q0)))) * ((2 : Int64) - (q0 * (own_nx q0 (own_nx q0 (own_nx q0 (own_nx q0 q0)))))))), .second]) rfl k) ?_
  show own_Go X0 (Q5 Z q0 h0 n0) 0 0 52 #[.val (.long q0), .second, .val (.long ((own_nx q0 (own_nx q0 (own_nx q0 (own_nx q0 q0)))) * ((2 : Int64) - (q0 * (own_nx q0 (own_nx q0 (own_nx q0 (own_nx q0 q0)))))))), .second] []
  show own_Go X0 (Q5 Z q0 h0 n0) 0 0 52 #[.val (.long q0), .second, .val (.long (own_nx q0 (own_nx q0 (own_nx q0 (own_nx q0 (own_nx q0 q0)))))), .second] []
  refine own_st (fun _ k => XS.lloadN X0.here hx rfl (hb hby d5_52) rfl k) ?_
  show own_Go X0 (Q5 Z q0 h0 n0) 0 0 53 #[.val (.long q0), .second, .val (.long (own_nx q0 (own_nx q0 (own_nx q0 (own_nx q0 (own_nx q0 q0)))))), .second] [(.long (own_nx q0 (own_nx q0 (own_nx q0 (own_nx q0 (own_nx q0 q0))))))]
  refine own_retJ X0 hx Bd.returns hlk e0 (hb hby d5_53) (by decide) (by decide) ?_
  exact ⟨rfl, N0, rfl⟩
theorem d4_0 : decode method_3_code 0 = .ok (.lload_n 0, 1) := by decide +kernel
theorem d4_1 : decode method_3_code 1 = .ok (.lload_n 0, 1) := by decide +kernel
theorem d4_2 : decode method_3_code 2 = .ok (.bipush 31, 2) := by decide +kernel
theorem d4_4 : decode method_3_code 4 = .ok (.lushr, 1) := by decide +kernel
theorem d4_5 : decode method_3_code 5 = .ok (.lxor, 1) := by decide +kernel
theorem d4_6 : decode method_3_code 6 = .ok (.lload_n 0, 1) := by decide +kernel
theorem d4_7 : decode method_3_code 7 = .ok (.bipush 62, 2) := by decide +kernel
theorem d4_9 : decode method_3_code 9 = .ok (.lushr, 1) := by decide +kernel
theorem d4_10 : decode method_3_code 10 = .ok (.lxor, 1) := by decide +kernel
theorem d4_11 : decode method_3_code 11 = .ok (.lstore_n 0, 1) := by decide +kernel
theorem d4_12 : decode method_3_code 12 = .ok (.lload_n 0, 1) := by decide +kernel
theorem d4_13 : decode method_3_code 13 = .ok (.ldc2_w 9, 3) := by decide +kernel
theorem d4_16 : decode method_3_code 16 = .ok (.invokestatic 11, 3) := by decide +kernel
theorem d4_19 : decode method_3_code 19 = .ok (.lmul, 1) := by decide +kernel
theorem d4_20 : decode method_3_code 20 = .ok (.lstore_n 0, 1) := by decide +kernel
theorem d4_21 : decode method_3_code 21 = .ok (.lload_n 0, 1) := by decide +kernel
theorem d4_22 : decode method_3_code 22 = .ok (.lload_n 0, 1) := by decide +kernel
theorem d4_23 : decode method_3_code 23 = .ok (.bipush 27, 2) := by decide +kernel
theorem d4_25 : decode method_3_code 25 = .ok (.lushr, 1) := by decide +kernel
theorem d4_26 : decode method_3_code 26 = .ok (.lxor, 1) := by decide +kernel
theorem d4_27 : decode method_3_code 27 = .ok (.lload_n 0, 1) := by decide +kernel
theorem d4_28 : decode method_3_code 28 = .ok (.bipush 54, 2) := by decide +kernel
theorem d4_30 : decode method_3_code 30 = .ok (.lushr, 1) := by decide +kernel
theorem d4_31 : decode method_3_code 31 = .ok (.lxor, 1) := by decide +kernel
theorem d4_32 : decode method_3_code 32 = .ok (.lstore_n 0, 1) := by decide +kernel
theorem d4_33 : decode method_3_code 33 = .ok (.lload_n 0, 1) := by decide +kernel
theorem d4_34 : decode method_3_code 34 = .ok (.ldc2_w 17, 3) := by decide +kernel
theorem d4_37 : decode method_3_code 37 = .ok (.invokestatic 11, 3) := by decide +kernel
theorem d4_40 : decode method_3_code 40 = .ok (.lmul, 1) := by decide +kernel
theorem d4_41 : decode method_3_code 41 = .ok (.lstore_n 0, 1) := by decide +kernel
theorem d4_42 : decode method_3_code 42 = .ok (.lload_n 0, 1) := by decide +kernel
theorem d4_43 : decode method_3_code 43 = .ok (.lload_n 0, 1) := by decide +kernel
theorem d4_44 : decode method_3_code 44 = .ok (.bipush 30, 2) := by decide +kernel
theorem d4_46 : decode method_3_code 46 = .ok (.lushr, 1) := by decide +kernel
theorem d4_47 : decode method_3_code 47 = .ok (.lxor, 1) := by decide +kernel
theorem d4_48 : decode method_3_code 48 = .ok (.lload_n 0, 1) := by decide +kernel
theorem d4_49 : decode method_3_code 49 = .ok (.bipush 60, 2) := by decide +kernel
theorem d4_51 : decode method_3_code 51 = .ok (.lushr, 1) := by decide +kernel
theorem d4_52 : decode method_3_code 52 = .ok (.lxor, 1) := by decide +kernel
theorem d4_53 : decode method_3_code 53 = .ok (.lstore_n 0, 1) := by decide +kernel
theorem d4_54 : decode method_3_code 54 = .ok (.lload_n 0, 1) := by decide +kernel
theorem d4_55 : decode method_3_code 55 = .ok (.lreturn, 1) := by decide +kernel
theorem pn_4 : plainName "com/example/bulk_retrieval/bulkretrieval/comparison/SplitMix64NextLongPinLaw" = true := by first | (simp [plainName, overriddenIn]; done) | decide +kernel
theorem pd_4_0 : parseMethodDescriptor "(J)J" = some ⟨[.long], some .long⟩ := by decide +kernel
theorem ef_4 (m : MethodId) (q0 : Int64) : entryFrame m #[(.long q0)] 2 = mkF m 0 #[.val (.long q0), .second] [] := by first | (simp [entryFrame, mkF, argsToLocals, Value.category]; done) | rfl
def Q4 (Z : State) (q0 : Int64)  (h0 : Heap) (n0 : Nat) (v : Option Value) (h : Heap) (L : List Loc) : Prop := v = some (.long (own_unmix q0)) ∧ Fr n0 L ∧ h = h0
set_option maxRecDepth 65536 in
set_option maxHeartbeats 40000000 in
theorem rm4 (l : Launch) (Z : State) (a0 : Array Value) (hw : ∀ d ∈ tables_1, d.before a0 Z = true) (ws : List Jvm.Cond) (q0 : Int64)  (h0 : Heap) (n0 : Nat) (Z0 : n0 ≤ h0.size)  :
    MetFree l (⟨"com/example/bulk_retrieval/bulkretrieval/comparison/SplitMix64NextLongPinLaw", "unmix", "(J)J"⟩ : MethodName) (head1 (Jvm.Cond.code (⟨"com/example/bulk_retrieval/bulkretrieval/comparison/SplitMix64NextLongPinLaw", "unmix", "(J)J"⟩ : MethodName) method_3_code 2 (some .long) :: ws) ({ frames := 1, cells := 0, slots := 0, locals := 17 } : Room)) (fun a U => a = #[(.long q0)] ∧ Z.Warmed39 U.vm ∧ U.heap = h0) (fun _ _ _ _ _ => True) (fun _ U o U' => ∃ v L, o = .returned v ∧ Q4 Z q0 h0 n0 v U'.heap L ∧ FrameEnd U o U' L ({ frames := 1, cells := 0, slots := 0, locals := 17 } : Room).cells ({ frames := 1, cells := 0, slots := 0, locals := 17 } : Room).slots) := by
  refine MetFree.of_bodySF (plainFor_of_name pn_4) hisR ?_
  intro p e s m args below meth c s₁ Bd hml0 hP hK
  obtain ⟨rfl, hZ, hh⟩ := hP
  have hx := Bd.exec
  have hby := Bd.bytes
  have hml : c.maxLocals = 2 := hml0
  have hown : s.vm.findClass "com/example/bulk_retrieval/bulkretrieval/comparison/SplitMix64NextLongPinLaw" = some m.cls := findClass_of_methodNamed Bd.named
  have hnm := (name_of_methodNamed Bd.named Bd.method).1
  have hlk : meth.locks = false := Bd.notSynchronized
  have X0 : Stand p l e ({ frames := 1, cells := 0, slots := 0, locals := 17 } : Room) s m #[(.long q0)] below meth c s₁ [] 0 0 := Stand.of_body Bd
  have e0 : s₁.heap = h0 := by rw [← hh, Bd.state]; rfl
  have N0 := Fr.nil n0
  refine own_cast (Q := Q4 Z q0 h0 n0) (kc := 0) (ks := 0) (ef_4 m q0) ?_
  refine own_st (fun _ k => XS.lloadN X0.here hx rfl (hb hby d4_0) rfl k) ?_
  show own_Go X0 (Q4 Z q0 h0 n0) 0 0 1 #[.val (.long q0), .second] [(.long q0)]
  refine own_st (fun _ k => XS.lloadN X0.here hx rfl (hb hby d4_1) rfl k) ?_
  show own_Go X0 (Q4 Z q0 h0 n0) 0 0 2 #[.val (.long q0), .second] [(.long q0), (.long q0)]
  refine own_st (fun _ k => XS.bipush X0.here hx rfl (hb hby d4_2) k) ?_
  show own_Go X0 (Q4 Z q0 h0 n0) 0 0 4 #[.val (.long q0), .second] [(.int (31 : Int32)), (.long q0), (.long q0)]
  refine own_st (fun _ k => XS.lushr X0.here hx rfl (hb hby d4_4) rfl k) ?_
  show own_Go X0 (Q4 Z q0 h0 n0) 0 0 5 #[.val (.long q0), .second] [(.long ((q0.toUInt64 >>> ((31 : Int32) &&& 0x3f).toInt64.toUInt64).toInt64)), (.long q0)]
  refine own_st (fun _ k => XS.lxor X0.here hx rfl (hb hby d4_5) rfl k) ?_
  show own_Go X0 (Q4 Z q0 h0 n0) 0 0 6 #[.val (.long q0), .second] [(.long (q0 ^^^ ((q0.toUInt64 >>> ((31 : Int32) &&& 0x3f).toInt64.toUInt64).toInt64)))]
  refine own_st (fun _ k => XS.lloadN X0.here hx rfl (hb hby d4_6) rfl k) ?_
  show own_Go X0 (Q4 Z q0 h0 n0) 0 0 7 #[.val (.long q0), .second] [(.long q0), (.long (q0 ^^^ ((q0.toUInt64 >>> ((31 : Int32) &&& 0x3f).toInt64.toUInt64).toInt64)))]
  refine own_st (fun _ k => XS.bipush X0.here hx rfl (hb hby d4_7) k) ?_
  show own_Go X0 (Q4 Z q0 h0 n0) 0 0 9 #[.val (.long q0), .second] [(.int (62 : Int32)), (.long q0), (.long (q0 ^^^ ((q0.toUInt64 >>> ((31 : Int32) &&& 0x3f).toInt64.toUInt64).toInt64)))]
  refine own_st (fun _ k => XS.lushr X0.here hx rfl (hb hby d4_9) rfl k) ?_
  show own_Go X0 (Q4 Z q0 h0 n0) 0 0 10 #[.val (.long q0), .second] [(.long ((q0.toUInt64 >>> ((62 : Int32) &&& 0x3f).toInt64.toUInt64).toInt64)), (.long (q0 ^^^ ((q0.toUInt64 >>> ((31 : Int32) &&& 0x3f).toInt64.toUInt64).toInt64)))]
  refine own_st (fun _ k => XS.lxor X0.here hx rfl (hb hby d4_10) rfl k) ?_
  show own_Go X0 (Q4 Z q0 h0 n0) 0 0 11 #[.val (.long q0), .second] [(.long ((q0 ^^^ ((q0.toUInt64 >>> ((31 : Int32) &&& 0x3f).toInt64.toUInt64).toInt64)) ^^^ ((q0.toUInt64 >>> ((62 : Int32) &&& 0x3f).toInt64.toUInt64).toInt64)))]
  refine own_st (fun _ k => XS.lstoreN X0.here hx rfl (hb hby d4_11) rfl (l' := #[.val (.long ((q0 ^^^ ((q0.toUInt64 >>> ((31 : Int32) &&& 0x3f).toInt64.toUInt64).toInt64)) ^^^ ((q0.toUInt64 >>> ((62 : Int32) &&& 0x3f).toInt64.toUInt64).toInt64))), .second]) rfl k) ?_
  show own_Go X0 (Q4 Z q0 h0 n0) 0 0 12 #[.val (.long ((q0 ^^^ ((q0.toUInt64 >>> ((31 : Int32) &&& 0x3f).toInt64.toUInt64).toInt64)) ^^^ ((q0.toUInt64 >>> ((62 : Int32) &&& 0x3f).toInt64.toUInt64).toInt64))), .second] []
  show own_Go X0 (Q4 Z q0 h0 n0) 0 0 12 #[.val (.long (own_u3 q0)), .second] []
  refine own_st (fun _ k => XS.lloadN X0.here hx rfl (hb hby d4_12) rfl k) ?_
  show own_Go X0 (Q4 Z q0 h0 n0) 0 0 13 #[.val (.long (own_u3 q0)), .second] [(.long (own_u3 q0))]
  refine own_st (fun t k => X0.ldc2Long hx hown (mvT hZ (hw _ (List.mem_of_getElem? (i := 24) rfl))) (g := (mkF m 13 #[.val (.long (own_u3 q0)), .second] [(.long (own_u3 q0))])) rfl (hb hby d4_13) t k) ?_
  show own_Go X0 (Q4 Z q0 h0 n0) 0 0 16 #[.val (.long (own_u3 q0)), .second] [(.long (-7723592293110705685 : Int64)), (.long (own_u3 q0))]
  refine own_callS (W := 2) X0 hx hZ hown (hw _ (List.mem_of_getElem? (i := 25) rfl)) (hw _ (List.mem_of_getElem? (i := 26) rfl)) (hw _ (List.mem_of_getElem? (i := 22) rfl)) (hw _ (List.mem_of_getElem? (i := 27) rfl)) (by decide) (rm5 l Z a0 hw [] (-7723592293110705685 : Int64)  h0 n0 Z0 ) (by decide) (by decide) (by rw [hml]; rfl) [(.long (-7723592293110705685 : Int64))] [(.long (own_u3 q0))] (lenOf pd_4_0 rfl) rfl rfl (Nat.le_of_ble_eq_true rfl) (hb hby d4_16) e0 (by decide) (by decide) ?_
  rintro _ T1 L1 X1 ⟨rfl, N1q, e1⟩
  have N_2 := Fr.app N0 N1q
  show own_Go X1 (Q4 Z q0 h0 n0) 0 0 19 #[.val (.long (own_u3 q0)), .second] [(.long (own_inv (-7723592293110705685 : Int64))), (.long (own_u3 q0))]
  refine own_st (fun _ k => XS.lmul X1.here hx rfl (hb hby d4_19) rfl k) ?_
  show own_Go X1 (Q4 Z q0 h0 n0) 0 0 20 #[.val (.long (own_u3 q0)), .second] [(.long ((own_u3 q0) * (own_inv (-7723592293110705685 : Int64))))]
  refine own_st (fun _ k => XS.lstoreN X1.here hx rfl (hb hby d4_20) rfl (l' := #[.val (.long ((own_u3 q0) * (own_inv (-7723592293110705685 : Int64)))), .second]) rfl k) ?_
  show own_Go X1 (Q4 Z q0 h0 n0) 0 0 21 #[.val (.long ((own_u3 q0) * (own_inv (-7723592293110705685 : Int64)))), .second] []
  refine own_st (fun _ k => XS.lloadN X1.here hx rfl (hb hby d4_21) rfl k) ?_
  show own_Go X1 (Q4 Z q0 h0 n0) 0 0 22 #[.val (.long ((own_u3 q0) * (own_inv (-7723592293110705685 : Int64)))), .second] [(.long ((own_u3 q0) * (own_inv (-7723592293110705685 : Int64))))]
  refine own_st (fun _ k => XS.lloadN X1.here hx rfl (hb hby d4_22) rfl k) ?_
  show own_Go X1 (Q4 Z q0 h0 n0) 0 0 23 #[.val (.long ((own_u3 q0) * (own_inv (-7723592293110705685 : Int64)))), .second] [(.long ((own_u3 q0) * (own_inv (-7723592293110705685 : Int64)))), (.long ((own_u3 q0) * (own_inv (-7723592293110705685 : Int64))))]
  refine own_st (fun _ k => XS.bipush X1.here hx rfl (hb hby d4_23) k) ?_
  show own_Go X1 (Q4 Z q0 h0 n0) 0 0 25 #[.val (.long ((own_u3 q0) * (own_inv (-7723592293110705685 : Int64)))), .second] [(.int (27 : Int32)), (.long ((own_u3 q0) * (own_inv (-7723592293110705685 : Int64)))), (.long ((own_u3 q0) * (own_inv (-7723592293110705685 : Int64))))]
  refine own_st (fun _ k => XS.lushr X1.here hx rfl (hb hby d4_25) rfl k) ?_
  show own_Go X1 (Q4 Z q0 h0 n0) 0 0 26 #[.val (.long ((own_u3 q0) * (own_inv (-7723592293110705685 : Int64)))), .second] [(.long ((((own_u3 q0) * (own_inv (-7723592293110705685 : Int64))).toUInt64 >>> ((27 : Int32) &&& 0x3f).toInt64.toUInt64).toInt64)), (.long ((own_u3 q0) * (own_inv (-7723592293110705685 : Int64))))]
  refine own_st (fun _ k => XS.lxor X1.here hx rfl (hb hby d4_26) rfl k) ?_
  show own_Go X1 (Q4 Z q0 h0 n0) 0 0 27 #[.val (.long ((own_u3 q0) * (own_inv (-7723592293110705685 : Int64)))), .second] [(.long (((own_u3 q0) * (own_inv (-7723592293110705685 : Int64))) ^^^ ((((own_u3 q0) * (own_inv (-7723592293110705685 : Int64))).toUInt64 >>> ((27 : Int32) &&& 0x3f).toInt64.toUInt64).toInt64)))]
  refine own_st (fun _ k => XS.lloadN X1.here hx rfl (hb hby d4_27) rfl k) ?_
  show own_Go X1 (Q4 Z q0 h0 n0) 0 0 28 #[.val (.long ((own_u3 q0) * (own_inv (-7723592293110705685 : Int64)))), .second] [(.long ((own_u3 q0) * (own_inv (-7723592293110705685 : Int64)))), (.long (((own_u3 q0) * (own_inv (-7723592293110705685 : Int64))) ^^^ ((((own_u3 q0) * (own_inv (-7723592293110705685 : Int64))).toUInt64 >>> ((27 : Int32) &&& 0x3f).toInt64.toUInt64).toInt64)))]
  refine own_st (fun _ k => XS.bipush X1.here hx rfl (hb hby d4_28) k) ?_
  show own_Go X1 (Q4 Z q0 h0 n0) 0 0 30 #[.val (.long ((own_u3 q0) * (own_inv (-7723592293110705685 : Int64)))), .second] [(.int (54 : Int32)), (.long ((own_u3 q0) * (own_inv (-7723592293110705685 : Int64)))), (.long (((own_u3 q0) * (own_inv (-7723592293110705685 : Int64))) ^^^ ((((own_u3 q0) * (own_inv (-7723592293110705685 : Int64))).toUInt64 >>> ((27 : Int32) &&& 0x3f).toInt64.toUInt64).toInt64)))]
  refine own_st (fun _ k => XS.lushr X1.here hx rfl (hb hby d4_30) rfl k) ?_
  show own_Go X1 (Q4 Z q0 h0 n0) 0 0 31 #[.val (.long ((own_u3 q0) * (own_inv (-7723592293110705685 : Int64)))), .second] [(.long ((((own_u3 q0) * (own_inv (-7723592293110705685 : Int64))).toUInt64 >>> ((54 : Int32) &&& 0x3f).toInt64.toUInt64).toInt64)), (.long (((own_u3 q0) * (own_inv (-7723592293110705685 : Int64))) ^^^ ((((own_u3 q0) * (own_inv (-7723592293110705685 : Int64))).toUInt64 >>> ((27 : Int32) &&& 0x3f).toInt64.toUInt64).toInt64)))]
  refine own_st (fun _ k => XS.lxor X1.here hx rfl (hb hby d4_31) rfl k) ?_
  show own_Go X1 (Q4 Z q0 h0 n0) 0 0 32 #[.val (.long ((own_u3 q0) * (own_inv (-7723592293110705685 : Int64)))), .second] [(.long ((((own_u3 q0) * (own_inv (-7723592293110705685 : Int64))) ^^^ ((((own_u3 q0) * (own_inv (-7723592293110705685 : Int64))).toUInt64 >>> ((27 : Int32) &&& 0x3f).toInt64.toUInt64).toInt64)) ^^^ ((((own_u3 q0) * (own_inv (-7723592293110705685 : Int64))).toUInt64 >>> ((54 : Int32) &&& 0x3f).toInt64.toUInt64).toInt64)))]
  refine own_st (fun _ k => XS.lstoreN X1.here hx rfl (hb hby d4_32) rfl (l' := #[.val (.long ((((own_u3 q0) * (own_inv (-7723592293110705685 : Int64))) ^^^ ((((own_u3 q0) * (own_inv (-7723592293110705685 : Int64))).toUInt64 >>> ((27 : Int32) &&& 0x3f).toInt64.toUInt64).toInt64)) ^^^ ((((own_u3 q0) * (own_inv (-7723592293110705685 : Int64))).toUInt64 >>> ((54 : Int32) &&& 0x3f).toInt64.toUInt64).toInt64))), .second]) rfl k) ?_
  show own_Go X1 (Q4 Z q0 h0 n0) 0 0 33 #[.val (.long ((((own_u3 q0) * (own_inv (-7723592293110705685 : Int64))) ^^^ ((((own_u3 q0) * (own_inv (-7723592293110705685 : Int64))).toUInt64 >>> ((27 : Int32) &&& 0x3f).toInt64.toUInt64).toInt64)) ^^^ ((((own_u3 q0) * (own_inv (-7723592293110705685 : Int64))).toUInt64 >>> ((54 : Int32) &&& 0x3f).toInt64.toUInt64).toInt64))), .second] []
  show own_Go X1 (Q4 Z q0 h0 n0) 0 0 33 #[.val (.long (own_u2 ((own_u3 q0) * (own_inv (-7723592293110705685 : Int64))))), .second] []
  refine own_st (fun _ k => XS.lloadN X1.here hx rfl (hb hby d4_33) rfl k) ?_
  show own_Go X1 (Q4 Z q0 h0 n0) 0 0 34 #[.val (.long (own_u2 ((own_u3 q0) * (own_inv (-7723592293110705685 : Int64))))), .second] [(.long (own_u2 ((own_u3 q0) * (own_inv (-7723592293110705685 : Int64)))))]
  refine own_st (fun t k => X1.ldc2Long hx hown (mvT hZ (hw _ (List.mem_of_getElem? (i := 29) rfl))) (g := (mkF m 34 #[.val (.long (own_u2 ((own_u3 q0) * (own_inv (-7723592293110705685 : Int64))))), .second] [(.long (own_u2 ((own_u3 q0) * (own_inv (-7723592293110705685 : Int64)))))])) rfl (hb hby d4_34) t k) ?_
  show own_Go X1 (Q4 Z q0 h0 n0) 0 0 37 #[.val (.long (own_u2 ((own_u3 q0) * (own_inv (-7723592293110705685 : Int64))))), .second] [(.long (-4658895280553007687 : Int64)), (.long (own_u2 ((own_u3 q0) * (own_inv (-7723592293110705685 : Int64)))))]
  refine own_callS (W := 2) X1 hx hZ hown (hw _ (List.mem_of_getElem? (i := 25) rfl)) (hw _ (List.mem_of_getElem? (i := 26) rfl)) (hw _ (List.mem_of_getElem? (i := 22) rfl)) (hw _ (List.mem_of_getElem? (i := 27) rfl)) (by decide) (rm5 l Z a0 hw [] (-4658895280553007687 : Int64)  h0 n0 Z0 ) (by decide) (by decide) (by rw [hml]; rfl) [(.long (-4658895280553007687 : Int64))] [(.long (own_u2 ((own_u3 q0) * (own_inv (-7723592293110705685 : Int64)))))] (lenOf pd_4_0 rfl) rfl rfl (Nat.le_of_ble_eq_true rfl) (hb hby d4_37) e1 (by decide) (by decide) ?_
  rintro _ T3 L3 X3 ⟨rfl, N3q, e3⟩
  have N_4 := Fr.app N_2 N3q
  show own_Go X3 (Q4 Z q0 h0 n0) 0 0 40 #[.val (.long (own_u2 ((own_u3 q0) * (own_inv (-7723592293110705685 : Int64))))), .second] [(.long (own_inv (-4658895280553007687 : Int64))), (.long (own_u2 ((own_u3 q0) * (own_inv (-7723592293110705685 : Int64)))))]
  refine own_st (fun _ k => XS.lmul X3.here hx rfl (hb hby d4_40) rfl k) ?_
  show own_Go X3 (Q4 Z q0 h0 n0) 0 0 41 #[.val (.long (own_u2 ((own_u3 q0) * (own_inv (-7723592293110705685 : Int64))))), .second] [(.long ((own_u2 ((own_u3 q0) * (own_inv (-7723592293110705685 : Int64)))) * (own_inv (-4658895280553007687 : Int64))))]
  refine own_st (fun _ k => XS.lstoreN X3.here hx rfl (hb hby d4_41) rfl (l' := #[.val (.long ((own_u2 ((own_u3 q0) * (own_inv (-7723592293110705685 : Int64)))) * (own_inv (-4658895280553007687 : Int64)))), .second]) rfl k) ?_
  show own_Go X3 (Q4 Z q0 h0 n0) 0 0 42 #[.val (.long ((own_u2 ((own_u3 q0) * (own_inv (-7723592293110705685 : Int64)))) * (own_inv (-4658895280553007687 : Int64)))), .second] []
  refine own_st (fun _ k => XS.lloadN X3.here hx rfl (hb hby d4_42) rfl k) ?_
  show own_Go X3 (Q4 Z q0 h0 n0) 0 0 43 #[.val (.long ((own_u2 ((own_u3 q0) * (own_inv (-7723592293110705685 : Int64)))) * (own_inv (-4658895280553007687 : Int64)))), .second] [(.long ((own_u2 ((own_u3 q0) * (own_inv (-7723592293110705685 : Int64)))) * (own_inv (-4658895280553007687 : Int64))))]
  refine own_st (fun _ k => XS.lloadN X3.here hx rfl (hb hby d4_43) rfl k) ?_
  show own_Go X3 (Q4 Z q0 h0 n0) 0 0 44 #[.val (.long ((own_u2 ((own_u3 q0) * (own_inv (-7723592293110705685 : Int64)))) * (own_inv (-4658895280553007687 : Int64)))), .second] [(.long ((own_u2 ((own_u3 q0) * (own_inv (-7723592293110705685 : Int64)))) * (own_inv (-4658895280553007687 : Int64)))), (.long ((own_u2 ((own_u3 q0) * (own_inv (-7723592293110705685 : Int64)))) * (own_inv (-4658895280553007687 : Int64))))]
  refine own_st (fun _ k => XS.bipush X3.here hx rfl (hb hby d4_44) k) ?_
  show own_Go X3 (Q4 Z q0 h0 n0) 0 0 46 #[.val (.long ((own_u2 ((own_u3 q0) * (own_inv (-7723592293110705685 : Int64)))) * (own_inv (-4658895280553007687 : Int64)))), .second] [(.int (30 : Int32)), (.long ((own_u2 ((own_u3 q0) * (own_inv (-7723592293110705685 : Int64)))) * (own_inv (-4658895280553007687 : Int64)))), (.long ((own_u2 ((own_u3 q0) * (own_inv (-7723592293110705685 : Int64)))) * (own_inv (-4658895280553007687 : Int64))))]
  refine own_st (fun _ k => XS.lushr X3.here hx rfl (hb hby d4_46) rfl k) ?_
  show own_Go X3 (Q4 Z q0 h0 n0) 0 0 47 #[.val (.long ((own_u2 ((own_u3 q0) * (own_inv (-7723592293110705685 : Int64)))) * (own_inv (-4658895280553007687 : Int64)))), .second] [(.long ((((own_u2 ((own_u3 q0) * (own_inv (-7723592293110705685 : Int64)))) * (own_inv (-4658895280553007687 : Int64))).toUInt64 >>> ((30 : Int32) &&& 0x3f).toInt64.toUInt64).toInt64)), (.long ((own_u2 ((own_u3 q0) * (own_inv (-7723592293110705685 : Int64)))) * (own_inv (-4658895280553007687 : Int64))))]
  refine own_st (fun _ k => XS.lxor X3.here hx rfl (hb hby d4_47) rfl k) ?_
  show own_Go X3 (Q4 Z q0 h0 n0) 0 0 48 #[.val (.long ((own_u2 ((own_u3 q0) * (own_inv (-7723592293110705685 : Int64)))) * (own_inv (-4658895280553007687 : Int64)))), .second] [(.long (((own_u2 ((own_u3 q0) * (own_inv (-7723592293110705685 : Int64)))) * (own_inv (-4658895280553007687 : Int64))) ^^^ ((((own_u2 ((own_u3 q0) * (own_inv (-7723592293110705685 : Int64)))) * (own_inv (-4658895280553007687 : Int64))).toUInt64 >>> ((30 : Int32) &&& 0x3f).toInt64.toUInt64).toInt64)))]
  refine own_st (fun _ k => XS.lloadN X3.here hx rfl (hb hby d4_48) rfl k) ?_
  show own_Go X3 (Q4 Z q0 h0 n0) 0 0 49 #[.val (.long ((own_u2 ((own_u3 q0) * (own_inv (-7723592293110705685 : Int64)))) * (own_inv (-4658895280553007687 : Int64)))), .second] [(.long ((own_u2 ((own_u3 q0) * (own_inv (-7723592293110705685 : Int64)))) * (own_inv (-4658895280553007687 : Int64)))), (.long (((own_u2 ((own_u3 q0) * (own_inv (-7723592293110705685 : Int64)))) * (own_inv (-4658895280553007687 : Int64))) ^^^ ((((own_u2 ((own_u3 q0) * (own_inv (-7723592293110705685 : Int64)))) * (own_inv (-4658895280553007687 : Int64))).toUInt64 >>> ((30 : Int32) &&& 0x3f).toInt64.toUInt64).toInt64)))]
  refine own_st (fun _ k => XS.bipush X3.here hx rfl (hb hby d4_49) k) ?_
  show own_Go X3 (Q4 Z q0 h0 n0) 0 0 51 #[.val (.long ((own_u2 ((own_u3 q0) * (own_inv (-7723592293110705685 : Int64)))) * (own_inv (-4658895280553007687 : Int64)))), .second] [(.int (60 : Int32)), (.long ((own_u2 ((own_u3 q0) * (own_inv (-7723592293110705685 : Int64)))) * (own_inv (-4658895280553007687 : Int64)))), (.long (((own_u2 ((own_u3 q0) * (own_inv (-7723592293110705685 : Int64)))) * (own_inv (-4658895280553007687 : Int64))) ^^^ ((((own_u2 ((own_u3 q0) * (own_inv (-7723592293110705685 : Int64)))) * (own_inv (-4658895280553007687 : Int64))).toUInt64 >>> ((30 : Int32) &&& 0x3f).toInt64.toUInt64).toInt64)))]
  refine own_st (fun _ k => XS.lushr X3.here hx rfl (hb hby d4_51) rfl k) ?_
  show own_Go X3 (Q4 Z q0 h0 n0) 0 0 52 #[.val (.long ((own_u2 ((own_u3 q0) * (own_inv (-7723592293110705685 : Int64)))) * (own_inv (-4658895280553007687 : Int64)))), .second] [(.long ((((own_u2 ((own_u3 q0) * (own_inv (-7723592293110705685 : Int64)))) * (own_inv (-4658895280553007687 : Int64))).toUInt64 >>> ((60 : Int32) &&& 0x3f).toInt64.toUInt64).toInt64)), (.long (((own_u2 ((own_u3 q0) * (own_inv (-7723592293110705685 : Int64)))) * (own_inv (-4658895280553007687 : Int64))) ^^^ ((((own_u2 ((own_u3 q0) * (own_inv (-7723592293110705685 : Int64)))) * (own_inv (-4658895280553007687 : Int64))).toUInt64 >>> ((30 : Int32) &&& 0x3f).toInt64.toUInt64).toInt64)))]
  refine own_st (fun _ k => XS.lxor X3.here hx rfl (hb hby d4_52) rfl k) ?_
  show own_Go X3 (Q4 Z q0 h0 n0) 0 0 53 #[.val (.long ((own_u2 ((own_u3 q0) * (own_inv (-7723592293110705685 : Int64)))) * (own_inv (-4658895280553007687 : Int64)))), .second] [(.long ((((own_u2 ((own_u3 q0) * (own_inv (-7723592293110705685 : Int64)))) * (own_inv (-4658895280553007687 : Int64))) ^^^ ((((own_u2 ((own_u3 q0) * (own_inv (-7723592293110705685 : Int64)))) * (own_inv (-4658895280553007687 : Int64))).toUInt64 >>> ((30 : Int32) &&& 0x3f).toInt64.toUInt64).toInt64)) ^^^ ((((own_u2 ((own_u3 q0) * (own_inv (-7723592293110705685 : Int64)))) * (own_inv (-4658895280553007687 : Int64))).toUInt64 >>> ((60 : Int32) &&& 0x3f).toInt64.toUInt64).toInt64)))]
  refine own_st (fun _ k => XS.lstoreN X3.here hx rfl (hb hby d4_53) rfl (l' := #[.val (.long ((((own_u2 ((own_u3 q0) * (own_inv (-7723592293110705685 : Int64)))) * (own_inv (-4658895280553007687 : Int64))) ^^^ ((((own_u2 ((own_u3 q0) * (own_inv (-7723592293110705685 : Int64)))) * (own_inv (-4658895280553007687 : Int64))).toUInt64 >>> ((30 : Int32) &&& 0x3f).toInt64.toUInt64).toInt64)) ^^^ ((((own_u2 ((own_u3 q0) * (own_inv (-7723592293110705685 : Int64)))) * (own_inv (-4658895280553007687 : Int64))).toUInt64 >>> ((60 : Int32) &&& 0x3f).toInt64.toUInt64).toInt64))), .second]) rfl k) ?_
  show own_Go X3 (Q4 Z q0 h0 n0) 0 0 54 #[.val (.long ((((own_u2 ((own_u3 q0) * (own_inv (-7723592293110705685 : Int64)))) * (own_inv (-4658895280553007687 : Int64))) ^^^ ((((own_u2 ((own_u3 q0) * (own_inv (-7723592293110705685 : Int64)))) * (own_inv (-4658895280553007687 : Int64))).toUInt64 >>> ((30 : Int32) &&& 0x3f).toInt64.toUInt64).toInt64)) ^^^ ((((own_u2 ((own_u3 q0) * (own_inv (-7723592293110705685 : Int64)))) * (own_inv (-4658895280553007687 : Int64))).toUInt64 >>> ((60 : Int32) &&& 0x3f).toInt64.toUInt64).toInt64))), .second] []
  show own_Go X3 (Q4 Z q0 h0 n0) 0 0 54 #[.val (.long (own_unmix q0)), .second] []
  refine own_st (fun _ k => XS.lloadN X3.here hx rfl (hb hby d4_54) rfl k) ?_
  show own_Go X3 (Q4 Z q0 h0 n0) 0 0 55 #[.val (.long (own_unmix q0)), .second] [(.long (own_unmix q0))]
  refine own_retJ X3 hx Bd.returns hlk e3 (hb hby d4_55) (by decide) (by decide) ?_
  exact ⟨rfl, N_4, rfl⟩
theorem pn_0 : plainName "com/example/bulk_retrieval/bulkretrieval/comparison/SplitMix64NextLongPinLaw" = true := by first | (simp [plainName, overriddenIn]; done) | decide +kernel
theorem pd_0_0 : parseMethodDescriptor "(J)V" = some ⟨[.long], none⟩ := by decide +kernel
theorem pd_0_1 : parseMethodDescriptor "()J" = some ⟨[], some .long⟩ := by decide +kernel
theorem pd_0_2 : parseMethodDescriptor "(J)J" = some ⟨[.long], some .long⟩ := by decide +kernel
theorem ef_0 (m : MethodId) (q0 : Int64) : entryFrame m #[(.long q0)] maxLocals = mkF m 0 #[.val (.long q0), .second, .unset, .unset, .unset, .unset, .unset, .unset, .unset] [] := by first | (simp [entryFrame, mkF, argsToLocals, Value.category, maxLocals]; done) | rfl
def Q0 (Z : State) (q0 : Int64)  (h0 : Heap) (n0 : Nat) (v : Option Value) (h : Heap) (L : List Loc) : Prop := v = some (.int 1) ∧ Fr n0 L
set_option maxRecDepth 65536 in
set_option maxHeartbeats 40000000 in
theorem rm0 (l : Launch) (Z : State) (a0 : Array Value) (hw : ∀ d ∈ tables_1, d.before a0 Z = true) (ws : List Jvm.Cond) (q0 : Int64)  (h0 : Heap) (n0 : Nat) (Z0 : n0 ≤ h0.size)  :
    MetFree l x (head1 (Jvm.Cond.code x code maxLocals ret :: ws) room_1) (fun a U => a = #[(.long q0)] ∧ Z.Warmed39 U.vm ∧ U.heap = h0) (fun _ _ _ _ _ => True) (fun _ U o U' => ∃ v L, o = .returned v ∧ Q0 Z q0 h0 n0 v U'.heap L ∧ FrameEnd U o U' L 1 1) := by
  refine MetFree.of_bodySF (plainFor_of_name pn_0) hisR ?_
  intro p e s m args below meth c s₁ Bd hml0 hP hK
  obtain ⟨rfl, hZ, hh⟩ := hP
  have hx := Bd.exec
  have hby := Bd.bytes
  have hml : c.maxLocals = 9 := hml0
  have hown : s.vm.findClass "com/example/bulk_retrieval/bulkretrieval/comparison/SplitMix64NextLongPinLaw" = some m.cls := findClass_of_methodNamed Bd.named
  have hnm := (name_of_methodNamed Bd.named Bd.method).1
  have hlk : meth.locks = false := Bd.notSynchronized
  have X0 : Stand p l e room_1 s m #[(.long q0)] below meth c s₁ [] 0 0 := Stand.of_body Bd
  have e0 : s₁.heap = h0 := by rw [← hh, Bd.state]; rfl
  have N0 := Fr.nil n0
  refine own_cast (Q := Q0 Z q0 h0 n0) (kc := 1) (ks := 1) (ef_0 m q0) ?_
  refine own_st (fun t k => X0.ldc2Long hx hown (mvT hZ (hw _ (List.mem_of_getElem? (i := 0) rfl))) (g := (mkF m 0 #[.val (.long q0), .second, .unset, .unset, .unset, .unset, .unset, .unset, .unset] [])) rfl (hb hby at_0) t k) ?_
  show own_Go X0 (Q0 Z q0 h0 n0) 1 1 3 #[.val (.long q0), .second, .unset, .unset, .unset, .unset, .unset, .unset, .unset] [(.long (-7046029254386353131 : Int64))]
  refine own_st (fun _ k => XS.lstoreN X0.here hx rfl (hb hby at_3) rfl (l' := #[.val (.long q0), .second, .val (.long (-7046029254386353131 : Int64)), .second, .unset, .unset, .unset, .unset, .unset]) rfl k) ?_
  show own_Go X0 (Q0 Z q0 h0 n0) 1 1 4 #[.val (.long q0), .second, .val (.long (-7046029254386353131 : Int64)), .second, .unset, .unset, .unset, .unset, .unset] []
  obtain ⟨T1, h1, X1, e1, E1, A1, D1, -, st1⟩ := newO X0 hx hZ hown (hw _ (List.mem_of_getElem? (i := 1) rfl)) (hw _ (List.mem_of_getElem? (i := 2) rfl)) (hw _ (List.mem_of_getElem? (i := 3) rfl)) e0 (g := (mkF m 4 #[.val (.long q0), .second, .val (.long (-7046029254386353131 : Int64)), .second, .unset, .unset, .unset, .unset, .unset] [])) rfl (hb hby at_4) (by decide) (by decide)
  obtain ⟨b1, g1⟩ : ∃ z, z = h0.size := ⟨_, rfl⟩
  rw [← g1] at A1 D1 st1
  refine own_st st1 ?_
  have G_2 := Nat.le_trans Z0 (Nat.le_of_eq g1.symm)
  have Z_3 := Nat.le_trans Z0 E1.1
  have F_state_1 : Fld Z h1 b1 "com/example/bulk_retrieval/bulkretrieval/comparison/SplitMix64" "state" "J" (.long (0 : Int64)) := D1 (Or.inl (hw _ (List.mem_of_getElem? (i := 11) rfl))) (ty := .long) (by decide)
  show own_Go X1 (Q0 Z q0 h0 n0) 1 1 7 #[.val (.long q0), .second, .val (.long (-7046029254386353131 : Int64)), .second, .unset, .unset, .unset, .unset, .unset] [(.ref b1)]
  refine own_st (fun _ k => XS.dup X1.here hx rfl (hb hby at_7) rfl rfl k) ?_
  show own_Go X1 (Q0 Z q0 h0 n0) 1 1 8 #[.val (.long q0), .second, .val (.long (-7046029254386353131 : Int64)), .second, .unset, .unset, .unset, .unset, .unset] [(.ref b1), (.ref b1)]
  refine own_st (fun _ k => XS.lloadN X1.here hx rfl (hb hby at_8) rfl k) ?_
  show own_Go X1 (Q0 Z q0 h0 n0) 1 1 9 #[.val (.long q0), .second, .val (.long (-7046029254386353131 : Int64)), .second, .unset, .unset, .unset, .unset, .unset] [(.long q0), (.ref b1), (.ref b1)]
  refine own_callI (W := 1) X1 hx hZ hown (hw _ (List.mem_of_getElem? (i := 4) rfl)) (hw _ (List.mem_of_getElem? (i := 5) rfl)) (hw _ (List.mem_of_getElem? (i := 3) rfl)) (hw _ (List.mem_of_getElem? (i := 6) rfl)) rfl (by decide) (rm1 l Z a0 hw [] b1 q0 (0 : Int64) h1 n0 Z_3 A1 F_state_1 G_2) (by decide) (by decide) (by rw [hml]; rfl) b1 [(.long q0)] [(.ref b1)] (lenOf pd_0_0 rfl) rfl rfl (Nat.le_of_ble_eq_true rfl) (hb hby at_9) e1 (by decide) (by decide) ?_
  rintro _ T4 L4 X4 ⟨rfl, N4q, K4q, F4q⟩
  have N_5 := Fr.app N0 N4q
  have f_6 := A1.keep K4q
  have Z_7 := Nat.le_trans Z_3 K4q.1
  show own_Go X4 (Q0 Z q0 h0 n0) 1 1 12 #[.val (.long q0), .second, .val (.long (-7046029254386353131 : Int64)), .second, .unset, .unset, .unset, .unset, .unset] [(.ref b1)]
  refine own_st (fun _ k => XS.astore X4.here hx rfl (hb hby at_12) rfl rfl (l' := #[.val (.long q0), .second, .val (.long (-7046029254386353131 : Int64)), .second, .val (.ref b1), .unset, .unset, .unset, .unset]) rfl k) ?_
  show own_Go X4 (Q0 Z q0 h0 n0) 1 1 14 #[.val (.long q0), .second, .val (.long (-7046029254386353131 : Int64)), .second, .val (.ref b1), .unset, .unset, .unset, .unset] []
  refine own_st (fun _ k => XS.aload X4.here hx rfl (hb hby at_14) rfl rfl k) ?_
  show own_Go X4 (Q0 Z q0 h0 n0) 1 1 16 #[.val (.long q0), .second, .val (.long (-7046029254386353131 : Int64)), .second, .val (.ref b1), .unset, .unset, .unset, .unset] [(.ref b1)]
  refine own_callV (W := 0) X4 hx hZ hown (hw _ (List.mem_of_getElem? (i := 12) rfl)) (hw _ (List.mem_of_getElem? (i := 13) rfl)) (hw _ (List.mem_of_getElem? (i := 15) rfl)) (hw _ (List.mem_of_getElem? (i := 14) rfl)) (hw _ (List.mem_of_getElem? (i := 3) rfl)) (hw _ (List.mem_of_getElem? (i := 16) rfl)) (by decide) (rm3 l Z a0 hw [] b1 q0 T4.heap n0 Z_7 f_6 F4q G_2) (by decide) (by decide) (by rw [hml]; rfl) b1 [] [] (lenOf pd_0_1 rfl) rfl rfl (Nat.le_of_ble_eq_true rfl) (hb hby at_16) (Eq.refl T4.heap) f_6 (by decide) (by decide) ?_
  rintro _ T8 L8 X8 ⟨rfl, N8q, K8q, F8q⟩
  have N_9 := Fr.app N_5 N8q
  have f_10 := f_6.keep K8q
  have Z_11 := Nat.le_trans Z_7 K8q.1
  show own_Go X8 (Q0 Z q0 h0 n0) 1 1 19 #[.val (.long q0), .second, .val (.long (-7046029254386353131 : Int64)), .second, .val (.ref b1), .unset, .unset, .unset, .unset] [(.long (own_mix (q0 + (-7046029254386353131 : Int64))))]
  refine own_st (fun _ k => XS.lstore X8.here hx rfl (hb hby at_19) rfl (l' := #[.val (.long q0), .second, .val (.long (-7046029254386353131 : Int64)), .second, .val (.ref b1), .val (.long (own_mix (q0 + (-7046029254386353131 : Int64)))), .second, .unset, .unset]) rfl k) ?_
  show own_Go X8 (Q0 Z q0 h0 n0) 1 1 21 #[.val (.long q0), .second, .val (.long (-7046029254386353131 : Int64)), .second, .val (.ref b1), .val (.long (own_mix (q0 + (-7046029254386353131 : Int64)))), .second, .unset, .unset] []
  refine own_st (fun _ k => XS.aload X8.here hx rfl (hb hby at_21) rfl rfl k) ?_
  show own_Go X8 (Q0 Z q0 h0 n0) 1 1 23 #[.val (.long q0), .second, .val (.long (-7046029254386353131 : Int64)), .second, .val (.ref b1), .val (.long (own_mix (q0 + (-7046029254386353131 : Int64)))), .second, .unset, .unset] [(.ref b1)]
  refine own_callV (W := 0) X8 hx hZ hown (hw _ (List.mem_of_getElem? (i := 12) rfl)) (hw _ (List.mem_of_getElem? (i := 13) rfl)) (hw _ (List.mem_of_getElem? (i := 15) rfl)) (hw _ (List.mem_of_getElem? (i := 14) rfl)) (hw _ (List.mem_of_getElem? (i := 3) rfl)) (hw _ (List.mem_of_getElem? (i := 16) rfl)) (by decide) (rm3 l Z a0 hw [] b1 (q0 + (-7046029254386353131 : Int64)) T8.heap n0 Z_11 f_10 F8q G_2) (by decide) (by decide) (by rw [hml]; rfl) b1 [] [] (lenOf pd_0_1 rfl) rfl rfl (Nat.le_of_ble_eq_true rfl) (hb hby at_23) (Eq.refl T8.heap) f_10 (by decide) (by decide) ?_
  rintro _ T12 L12 X12 ⟨rfl, N12q, K12q, F12q⟩
  have N_13 := Fr.app N_9 N12q
  have f_14 := f_10.keep K12q
  have Z_15 := Nat.le_trans Z_11 K12q.1
  show own_Go X12 (Q0 Z q0 h0 n0) 1 1 26 #[.val (.long q0), .second, .val (.long (-7046029254386353131 : Int64)), .second, .val (.ref b1), .val (.long (own_mix (q0 + (-7046029254386353131 : Int64)))), .second, .unset, .unset] [(.long (own_mix ((q0 + (-7046029254386353131 : Int64)) + (-7046029254386353131 : Int64))))]
  refine own_st (fun _ k => XS.lstore X12.here hx rfl (hb hby at_26) rfl (l' := #[.val (.long q0), .second, .val (.long (-7046029254386353131 : Int64)), .second, .val (.ref b1), .val (.long (own_mix (q0 + (-7046029254386353131 : Int64)))), .second, .val (.long (own_mix ((q0 + (-7046029254386353131 : Int64)) + (-7046029254386353131 : Int64)))), .second]) rfl k) ?_
  show own_Go X12 (Q0 Z q0 h0 n0) 1 1 28 #[.val (.long q0), .second, .val (.long (-7046029254386353131 : Int64)), .second, .val (.ref b1), .val (.long (own_mix (q0 + (-7046029254386353131 : Int64)))), .second, .val (.long (own_mix ((q0 + (-7046029254386353131 : Int64)) + (-7046029254386353131 : Int64)))), .second] []
  refine own_st (fun _ k => XS.lload X12.here hx rfl (hb hby at_28) rfl k) ?_
  show own_Go X12 (Q0 Z q0 h0 n0) 1 1 30 #[.val (.long q0), .second, .val (.long (-7046029254386353131 : Int64)), .second, .val (.ref b1), .val (.long (own_mix (q0 + (-7046029254386353131 : Int64)))), .second, .val (.long (own_mix ((q0 + (-7046029254386353131 : Int64)) + (-7046029254386353131 : Int64)))), .second] [(.long (own_mix (q0 + (-7046029254386353131 : Int64))))]
  refine own_callS (W := 0) X12 hx hZ hown (hw _ (List.mem_of_getElem? (i := 20) rfl)) (hw _ (List.mem_of_getElem? (i := 21) rfl)) (hw _ (List.mem_of_getElem? (i := 22) rfl)) (hw _ (List.mem_of_getElem? (i := 23) rfl)) (by decide) (rm4 l Z a0 hw [] (own_mix (q0 + (-7046029254386353131 : Int64)))  T12.heap n0 Z_15 ) (by decide) (by decide) (by rw [hml]; rfl) [(.long (own_mix (q0 + (-7046029254386353131 : Int64))))] [] (lenOf pd_0_2 rfl) rfl rfl (Nat.le_of_ble_eq_true rfl) (hb hby at_30) (Eq.refl T12.heap) (by decide) (by decide) ?_
  rintro _ T16 L16 X16 ⟨rfl, N16q, e16⟩
  have N_17 := Fr.app N_13 N16q
  show own_Go X16 (Q0 Z q0 h0 n0) 1 1 33 #[.val (.long q0), .second, .val (.long (-7046029254386353131 : Int64)), .second, .val (.ref b1), .val (.long (own_mix (q0 + (-7046029254386353131 : Int64)))), .second, .val (.long (own_mix ((q0 + (-7046029254386353131 : Int64)) + (-7046029254386353131 : Int64)))), .second] [(.long (own_unmix (own_mix (q0 + (-7046029254386353131 : Int64)))))]
  refine own_st (fun _ k => XS.lloadN X16.here hx rfl (hb hby at_33) rfl k) ?_
  show own_Go X16 (Q0 Z q0 h0 n0) 1 1 34 #[.val (.long q0), .second, .val (.long (-7046029254386353131 : Int64)), .second, .val (.ref b1), .val (.long (own_mix (q0 + (-7046029254386353131 : Int64)))), .second, .val (.long (own_mix ((q0 + (-7046029254386353131 : Int64)) + (-7046029254386353131 : Int64)))), .second] [(.long q0), (.long (own_unmix (own_mix (q0 + (-7046029254386353131 : Int64)))))]
  refine own_st (fun _ k => XS.lloadN X16.here hx rfl (hb hby at_34) rfl k) ?_
  show own_Go X16 (Q0 Z q0 h0 n0) 1 1 35 #[.val (.long q0), .second, .val (.long (-7046029254386353131 : Int64)), .second, .val (.ref b1), .val (.long (own_mix (q0 + (-7046029254386353131 : Int64)))), .second, .val (.long (own_mix ((q0 + (-7046029254386353131 : Int64)) + (-7046029254386353131 : Int64)))), .second] [(.long (-7046029254386353131 : Int64)), (.long q0), (.long (own_unmix (own_mix (q0 + (-7046029254386353131 : Int64)))))]
  refine own_st (fun _ k => XS.ladd X16.here hx rfl (hb hby at_35) rfl k) ?_
  show own_Go X16 (Q0 Z q0 h0 n0) 1 1 36 #[.val (.long q0), .second, .val (.long (-7046029254386353131 : Int64)), .second, .val (.ref b1), .val (.long (own_mix (q0 + (-7046029254386353131 : Int64)))), .second, .val (.long (own_mix ((q0 + (-7046029254386353131 : Int64)) + (-7046029254386353131 : Int64)))), .second] [(.long (q0 + (-7046029254386353131 : Int64))), (.long (own_unmix (own_mix (q0 + (-7046029254386353131 : Int64)))))]
  refine own_st (fun _ k => XS.lcmp X16.here hx rfl (hb hby at_36) rfl k) ?_
  show own_Go X16 (Q0 Z q0 h0 n0) 1 1 37 #[.val (.long q0), .second, .val (.long (-7046029254386353131 : Int64)), .second, .val (.ref b1), .val (.long (own_mix (q0 + (-7046029254386353131 : Int64)))), .second, .val (.long (own_mix ((q0 + (-7046029254386353131 : Int64)) + (-7046029254386353131 : Int64)))), .second] [(.int (lcmpW (own_unmix (own_mix (q0 + (-7046029254386353131 : Int64)))) (q0 + (-7046029254386353131 : Int64))))]
  have c37_18 : (own_unmix (own_mix (q0 + (-7046029254386353131 : Int64)))) = (q0 + (-7046029254386353131 : Int64)) := own_back _
  refine own_st (fun _ k => XS.ifNo X16.here hx rfl (hb hby at_37) rfl ((if0 _ _).trans (teq ((lw_eq _ _).mpr c37_18)).2) k) ?_
  show own_Go X16 (Q0 Z q0 h0 n0) 1 1 40 #[.val (.long q0), .second, .val (.long (-7046029254386353131 : Int64)), .second, .val (.ref b1), .val (.long (own_mix (q0 + (-7046029254386353131 : Int64)))), .second, .val (.long (own_mix ((q0 + (-7046029254386353131 : Int64)) + (-7046029254386353131 : Int64)))), .second] []
  refine own_st (fun _ k => XS.lload X16.here hx rfl (hb hby at_40) rfl k) ?_
  show own_Go X16 (Q0 Z q0 h0 n0) 1 1 42 #[.val (.long q0), .second, .val (.long (-7046029254386353131 : Int64)), .second, .val (.ref b1), .val (.long (own_mix (q0 + (-7046029254386353131 : Int64)))), .second, .val (.long (own_mix ((q0 + (-7046029254386353131 : Int64)) + (-7046029254386353131 : Int64)))), .second] [(.long (own_mix ((q0 + (-7046029254386353131 : Int64)) + (-7046029254386353131 : Int64))))]
  refine own_callS (W := 0) X16 hx hZ hown (hw _ (List.mem_of_getElem? (i := 20) rfl)) (hw _ (List.mem_of_getElem? (i := 21) rfl)) (hw _ (List.mem_of_getElem? (i := 22) rfl)) (hw _ (List.mem_of_getElem? (i := 23) rfl)) (by decide) (rm4 l Z a0 hw [] (own_mix ((q0 + (-7046029254386353131 : Int64)) + (-7046029254386353131 : Int64)))  T12.heap n0 Z_15 ) (by decide) (by decide) (by rw [hml]; rfl) [(.long (own_mix ((q0 + (-7046029254386353131 : Int64)) + (-7046029254386353131 : Int64))))] [] (lenOf pd_0_2 rfl) rfl rfl (Nat.le_of_ble_eq_true rfl) (hb hby at_42) e16 (by decide) (by decide) ?_
  rintro _ T19 L19 X19 ⟨rfl, N19q, e19⟩
  have N_20 := Fr.app N_17 N19q
  show own_Go X19 (Q0 Z q0 h0 n0) 1 1 45 #[.val (.long q0), .second, .val (.long (-7046029254386353131 : Int64)), .second, .val (.ref b1), .val (.long (own_mix (q0 + (-7046029254386353131 : Int64)))), .second, .val (.long (own_mix ((q0 + (-7046029254386353131 : Int64)) + (-7046029254386353131 : Int64)))), .second] [(.long (own_unmix (own_mix ((q0 + (-7046029254386353131 : Int64)) + (-7046029254386353131 : Int64)))))]
  refine own_st (fun _ k => XS.lloadN X19.here hx rfl (hb hby at_45) rfl k) ?_
  show own_Go X19 (Q0 Z q0 h0 n0) 1 1 46 #[.val (.long q0), .second, .val (.long (-7046029254386353131 : Int64)), .second, .val (.ref b1), .val (.long (own_mix (q0 + (-7046029254386353131 : Int64)))), .second, .val (.long (own_mix ((q0 + (-7046029254386353131 : Int64)) + (-7046029254386353131 : Int64)))), .second] [(.long q0), (.long (own_unmix (own_mix ((q0 + (-7046029254386353131 : Int64)) + (-7046029254386353131 : Int64)))))]
  refine own_st (fun t k => X19.ldc2Long hx hown (mvT hZ (hw _ (List.mem_of_getElem? (i := 28) rfl))) (g := (mkF m 46 #[.val (.long q0), .second, .val (.long (-7046029254386353131 : Int64)), .second, .val (.ref b1), .val (.long (own_mix (q0 + (-7046029254386353131 : Int64)))), .second, .val (.long (own_mix ((q0 + (-7046029254386353131 : Int64)) + (-7046029254386353131 : Int64)))), .second] [(.long q0), (.long (own_unmix (own_mix ((q0 + (-7046029254386353131 : Int64)) + (-7046029254386353131 : Int64)))))])) rfl (hb hby at_46) t k) ?_
  show own_Go X19 (Q0 Z q0 h0 n0) 1 1 49 #[.val (.long q0), .second, .val (.long (-7046029254386353131 : Int64)), .second, .val (.ref b1), .val (.long (own_mix (q0 + (-7046029254386353131 : Int64)))), .second, .val (.long (own_mix ((q0 + (-7046029254386353131 : Int64)) + (-7046029254386353131 : Int64)))), .second] [(.long (2 : Int64)), (.long q0), (.long (own_unmix (own_mix ((q0 + (-7046029254386353131 : Int64)) + (-7046029254386353131 : Int64)))))]
  refine own_st (fun _ k => XS.lloadN X19.here hx rfl (hb hby at_49) rfl k) ?_
  show own_Go X19 (Q0 Z q0 h0 n0) 1 1 50 #[.val (.long q0), .second, .val (.long (-7046029254386353131 : Int64)), .second, .val (.ref b1), .val (.long (own_mix (q0 + (-7046029254386353131 : Int64)))), .second, .val (.long (own_mix ((q0 + (-7046029254386353131 : Int64)) + (-7046029254386353131 : Int64)))), .second] [(.long (-7046029254386353131 : Int64)), (.long (2 : Int64)), (.long q0), (.long (own_unmix (own_mix ((q0 + (-7046029254386353131 : Int64)) + (-7046029254386353131 : Int64)))))]
  refine own_st (fun _ k => XS.lmul X19.here hx rfl (hb hby at_50) rfl k) ?_
  show own_Go X19 (Q0 Z q0 h0 n0) 1 1 51 #[.val (.long q0), .second, .val (.long (-7046029254386353131 : Int64)), .second, .val (.ref b1), .val (.long (own_mix (q0 + (-7046029254386353131 : Int64)))), .second, .val (.long (own_mix ((q0 + (-7046029254386353131 : Int64)) + (-7046029254386353131 : Int64)))), .second] [(.long ((2 : Int64) * (-7046029254386353131 : Int64))), (.long q0), (.long (own_unmix (own_mix ((q0 + (-7046029254386353131 : Int64)) + (-7046029254386353131 : Int64)))))]
  refine own_st (fun _ k => XS.ladd X19.here hx rfl (hb hby at_51) rfl k) ?_
  show own_Go X19 (Q0 Z q0 h0 n0) 1 1 52 #[.val (.long q0), .second, .val (.long (-7046029254386353131 : Int64)), .second, .val (.ref b1), .val (.long (own_mix (q0 + (-7046029254386353131 : Int64)))), .second, .val (.long (own_mix ((q0 + (-7046029254386353131 : Int64)) + (-7046029254386353131 : Int64)))), .second] [(.long (q0 + ((2 : Int64) * (-7046029254386353131 : Int64)))), (.long (own_unmix (own_mix ((q0 + (-7046029254386353131 : Int64)) + (-7046029254386353131 : Int64)))))]
  refine own_st (fun _ k => XS.lcmp X19.here hx rfl (hb hby at_52) rfl k) ?_
  show own_Go X19 (Q0 Z q0 h0 n0) 1 1 53 #[.val (.long q0), .second, .val (.long (-7046029254386353131 : Int64)), .second, .val (.ref b1), .val (.long (own_mix (q0 + (-7046029254386353131 : Int64)))), .second, .val (.long (own_mix ((q0 + (-7046029254386353131 : Int64)) + (-7046029254386353131 : Int64)))), .second] [(.int (lcmpW (own_unmix (own_mix ((q0 + (-7046029254386353131 : Int64)) + (-7046029254386353131 : Int64)))) (q0 + ((2 : Int64) * (-7046029254386353131 : Int64)))))]
  have c53_21 : (own_unmix (own_mix ((q0 + (-7046029254386353131 : Int64)) + (-7046029254386353131 : Int64)))) = (q0 + ((2 : Int64) * (-7046029254386353131 : Int64))) := by rw [own_back]; exact own_two _
  refine own_st (fun _ k => XS.ifNo X19.here hx rfl (hb hby at_53) rfl ((if0 _ _).trans (teq ((lw_eq _ _).mpr c53_21)).2) k) ?_
  show own_Go X19 (Q0 Z q0 h0 n0) 1 1 56 #[.val (.long q0), .second, .val (.long (-7046029254386353131 : Int64)), .second, .val (.ref b1), .val (.long (own_mix (q0 + (-7046029254386353131 : Int64)))), .second, .val (.long (own_mix ((q0 + (-7046029254386353131 : Int64)) + (-7046029254386353131 : Int64)))), .second] []
  refine own_st (fun _ k => XS.iconst X19.here hx rfl (hb hby at_56) k) ?_
  show own_Go X19 (Q0 Z q0 h0 n0) 1 1 57 #[.val (.long q0), .second, .val (.long (-7046029254386353131 : Int64)), .second, .val (.ref b1), .val (.long (own_mix (q0 + (-7046029254386353131 : Int64)))), .second, .val (.long (own_mix ((q0 + (-7046029254386353131 : Int64)) + (-7046029254386353131 : Int64)))), .second] [(.int (1 : Int32))]
  refine own_st (fun _ k => XS.goto X19.here hx rfl (pc0 := 57) (pc' := 61) rfl (hb hby at_57) (by decide) (by decide) k) ?_
  show own_Go X19 (Q0 Z q0 h0 n0) 1 1 61 #[.val (.long q0), .second, .val (.long (-7046029254386353131 : Int64)), .second, .val (.ref b1), .val (.long (own_mix (q0 + (-7046029254386353131 : Int64)))), .second, .val (.long (own_mix ((q0 + (-7046029254386353131 : Int64)) + (-7046029254386353131 : Int64)))), .second] [(.int (1 : Int32))]
  refine own_retN X19 hx Bd.returns (by simp) hlk e19 (hb hby at_61) (by decide) (by decide) ?_
  exact ⟨rfl, N_20⟩
set_option maxRecDepth 65536 in
set_option maxHeartbeats 40000000 in
theorem comes_1 {Post : Tables → Env → Array Value → State → Outcome → State → Prop} (hpost : ∀ tb e args s v u, (limb_1_1.after args s (.returned v) u = true ∧ limb_1_2.after args s (.returned v) u = true ∧ True) → FrameEnd s (.returned v) u (Jvm.fieldLocs frame_1_writes args s ++ Jvm.arrayLocs frame_1_arrays args s ++ Jvm.staticLocs frame_1_statics s) 16 128 → Post tb e args s (.returned v) u) :
    ArmFor flags0 classFile x code maxLocals ret World_1 tables_1 room_1 Calls_1 rest_1 Pre_1 Post := by
  intro l hfl _ _ p e ha hc hk s m args below hf hA hF happ hP
  obtain ⟨hcalls, hrest, hpre⟩ := hP
  obtain ⟨-, -, -, hnamed, -, -, -, hat⟩ := (Spec.applies_iff hf).mp happ
  obtain ⟨hg, hn⟩ := and_e (Cond.before_iff.mp (show (Jvm.Cond.and given_1 narrow_1).before args s = true from hpre))
  obtain ⟨g1, g2⟩ := and_e hg
  obtain ⟨w0, rfl⟩ : ∃ w0 : Value, args = #[w0] := by
    have hs : args.size = 1 := by simpa [Cond.value, given_1] using g1
    obtain ⟨L⟩ := args
    match L, hs with
    | [w0], _ => exact ⟨w0, rfl⟩
  have hw := fun d (hd : d ∈ tables_1) => atoms_spec (ws := Jvm.Cond.code x code maxLocals ret :: tables_1) hat d (List.mem_cons_of_mem _ hd)
  obtain ⟨i0, ei0⟩ := isL_v g2
  obtain rfl : w0 = (.long i0) := Option.some.inj ei0
  obtain ⟨n, o, h1, h2, h3, _, L, rfl, ⟨rfl, N⟩, hq⟩ := rm0 l s _ hw tables_1 i0 s.heap s.heap.size (Nat.le_refl _) p e ha hc hk s m _ below hf ((Spec.applies_iff_loose hf).mp happ).1 ⟨rfl, State.Warmed39.refl s, rfl⟩ trivial
  refine ⟨n, _, h1, h2, h3, hpost _ _ _ _ _ _ ⟨Cond.after_iff.mpr rfl, Cond.after_iff.mpr (eq_i res_at (Term.int_eval (1)) rfl), trivial⟩ ⟨hq.1, hq.2.1, (hq.2.2.sift fun y hy => Or.inr (N y hy)).mono (by decide) (by decide)⟩⟩
theorem main_1_1 : Claimed_1_1 := comes_1 fun _ _ _ _ _ _ h hF => ⟨h.1, hF⟩
theorem main_1_2 : Claimed_1_2 := comes_1 fun _ _ _ _ _ _ h hF => ⟨h.2.1, hF⟩
end Jvm.Pilot.@@N@@
namespace Jvm.Pilot.@@N@@
open Jvm Jvm.ClassFile Sem Op Lib Jvm.Free Jvm.Stand Jvm.Pilot.@@N@@.Jvm.D
/-! MADE BY PROGRAM (witnessworld.py) out of the Statement's table words and the real class files: 9 classes; the members and pool entries that the words name. The judged class is class 1, her method 3. -/
namespace start1
open Jvm.ClassFile
def u (s : String) : CpInfo := .utf8 (stringToUtf16 s)
/-- a pool by its gaps: so many unusable entries, then the entry; so many at the end -/
def gap : Nat → List CpInfo → List CpInfo
  | 0, r => r
  | n + 1, r => .unusable :: gap n r
def poolList (es : List (Nat × CpInfo)) (last : Nat) : List CpInfo := es.foldr (fun e r => gap e.1 (e.2 :: r)) (gap last [])
def pool (es : List (Nat × CpInfo)) (last : Nat) : Array CpInfo := ⟨poolList es last⟩
def fileOf (pool : Array CpInfo) (this : Nat) (attrs : Array Attribute := #[]) (ms : Array MethodInfo := #[]) (fl : Nat := 33) (sup : Nat := 0) (ifs : Array Nat := #[]) (fds : Array FieldInfo := #[]) : ClassFile where
  minorVersion := 0
  majorVersion := 65
  constantPool := pool
  accessFlags := fl
  thisClass := this
  superClass := sup
  interfaces := ifs
  fields := fds
  methods := ms
  attributes := attrs
def plain (name : String) (sup : Option ClassId) : Class where
  name := name
  kind := .ordinary
  loader := none
  accessFlags := 33
  super := sup
  interfaces := #[]
  cf := none
  fields := #[]
  methods := #[]
  instanceTypes := #[]
  staticTypes := #[]
  resolved := #[]
  callSites := []
  init := .initialized
  statics := none
  mirror := none

def pool0 : Array CpInfo := pool [(5, u "<init>"), (0, u "()V"), (1, .class_ 10), (1, u "java/lang/Object")] 113

def k0c0 : Code := { maxStack := 0, maxLocals := 1, code := object_method_1_code, exceptionTable := #[], attributes := #[] }
def k0m0 : Method := { name := "<init>", desc := "()V", sig := { parameters := [], returnType := none }, accessFlags := 1, code := some k0c0 }
/-- java/lang/Object -/
def k0 : Class := { plain "java/lang/Object" none with
  accessFlags := 33
  interfaces := #[]
  cf := some (fileOf pool0 8 #[] #[{ accessFlags := 1, nameIndex := 5, descriptorIndex := 6, attributes := #[] }] 33 0 #[] #[])
  fields := #[]
  methods := #[k0m0]
  instanceTypes := #[]
  staticTypes := #[]
  resolved := Array.replicate 124 none
  statics := none }

def pool1 : Array CpInfo := pool [(2, .class_ 4), (1, u "java/lang/Object"), (0, u "<init>"), (0, u "()V"), (0, .long 2), (1, .long 10723151780598845931), (1, .methodref 12 13), (0, .class_ 14), (0, .nameAndType 15 16), (0, u "com/example/bulk_retrieval/bulkretrieval/comparison/SplitMix64NextLongPinLaw"), (0, u "inv"), (0, u "(J)J"), (0, .long 13787848793156543929), (1, .long 11400714819323198485), (1, .class_ 22), (0, u "com/example/bulk_retrieval/bulkretrieval/comparison/SplitMix64"), (0, .methodref 21 24), (0, .nameAndType 5 25), (0, u "(J)V"), (0, .methodref 21 27), (0, .nameAndType 28 29), (0, u "nextLong"), (0, u "()J"), (0, .methodref 12 31), (0, .nameAndType 32 16), (0, u "unmix"), (2, u "law"), (0, u "(J)Z")] 3

def k1m0 : Method := { name := "<init>", desc := "()V", sig := { parameters := [], returnType := none }, accessFlags := 1, code := none }
def k1c1 : Code := { maxStack := 8, maxLocals := 4, code := method_2_code, exceptionTable := #[], attributes := #[] }
def k1m1 : Method := { name := "inv", desc := "(J)J", sig := { parameters := [.long], returnType := some .long }, accessFlags := 10, code := some k1c1 }
def k1c2 : Code := { maxStack := 5, maxLocals := 2, code := method_3_code, exceptionTable := #[], attributes := #[] }
def k1m2 : Method := { name := "unmix", desc := "(J)J", sig := { parameters := [.long], returnType := some .long }, accessFlags := 10, code := some k1c2 }
def k1c3 : Code := { maxStack := 8, maxLocals := 9, code := code, exceptionTable := #[], attributes := #[] }
def k1m3 : Method := { name := "law", desc := "(J)Z", sig := { parameters := [.long], returnType := some .boolean }, accessFlags := 9, code := some k1c3 }
/-- com/example/bulk_retrieval/bulkretrieval/comparison/SplitMix64NextLongPinLaw -/
def k1 : Class := { plain "com/example/bulk_retrieval/bulkretrieval/comparison/SplitMix64NextLongPinLaw" (some 0) with
  accessFlags := 49
  interfaces := #[]
  cf := some (fileOf pool1 12 #[] #[{ accessFlags := 1, nameIndex := 5, descriptorIndex := 6, attributes := #[] }, { accessFlags := 10, nameIndex := 15, descriptorIndex := 16, attributes := #[] }, { accessFlags := 10, nameIndex := 32, descriptorIndex := 16, attributes := #[] }, { accessFlags := 9, nameIndex := 35, descriptorIndex := 36, attributes := #[] }] 49 2 #[] #[])
  fields := #[]
  methods := #[k1m0, k1m1, k1m2, k1m3]
  instanceTypes := #[]
  staticTypes := #[]
  resolved := Array.replicate 40 none
  statics := none }

def pool2 : Array CpInfo := pool [(1, .methodref 2 3), (0, .class_ 4), (0, .nameAndType 5 6), (0, u "java/lang/Object"), (0, u "<init>"), (0, u "()V"), (0, .fieldref 8 9), (0, .class_ 10), (0, .nameAndType 11 12), (0, u "com/example/bulk_retrieval/bulkretrieval/comparison/SplitMix64"), (0, u "state"), (0, u "J"), (0, .long 11400714819323198485), (1, .long 13787848793156543929), (1, .long 10723151780598845931), (1, u "STEP"), (1, u "(J)V"), (2, u "nextLong"), (0, u "()J")] 2

def k2c0 : Code := { maxStack := 3, maxLocals := 3, code := prog_16_method_1_code, exceptionTable := #[], attributes := #[] }
def k2m0 : Method := { name := "<init>", desc := "(J)V", sig := { parameters := [.long], returnType := none }, accessFlags := 0, code := some k2c0 }
def k2c1 : Code := { maxStack := 5, maxLocals := 3, code := prog_16_method_2_code, exceptionTable := #[], attributes := #[] }
def k2m1 : Method := { name := "nextLong", desc := "()J", sig := { parameters := [], returnType := some .long }, accessFlags := 0, code := some k2c1 }
/-- com/example/bulk_retrieval/bulkretrieval/comparison/SplitMix64 -/
def k2 : Class := { plain "com/example/bulk_retrieval/bulkretrieval/comparison/SplitMix64" (some 0) with
  accessFlags := 32
  interfaces := #[]
  cf := some (fileOf pool2 8 #[] #[{ accessFlags := 0, nameIndex := 5, descriptorIndex := 21, attributes := #[] }, { accessFlags := 0, nameIndex := 24, descriptorIndex := 25, attributes := #[] }] 32 2 #[] #[{ accessFlags := 26, nameIndex := 19, descriptorIndex := 12, attributes := #[] }, { accessFlags := 2, nameIndex := 11, descriptorIndex := 12, attributes := #[] }])
  fields := #[{ name := "STEP", type := .long, accessFlags := 26, slot := 0, constantValue := 0 }, { name := "state", type := .long, accessFlags := 2, slot := 0, constantValue := 0 }]
  methods := #[k2m0, k2m1]
  instanceTypes := #[.long]
  staticTypes := #[.long]
  resolved := Array.replicate 28 none
  statics := none }

def pool3 : Array CpInfo := pool [(1, u "java/lang/Cloneable"), (0, .class_ 1), (0, u "java/lang/Object"), (0, .class_ 3)] 3

/-- java/lang/Cloneable -/
def k3 : Class := { plain "java/lang/Cloneable" (some 0) with
  accessFlags := 1537
  interfaces := #[]
  cf := some (fileOf pool3 2 #[] #[] 1537 4 #[] #[])
  fields := #[]
  methods := #[]
  instanceTypes := #[]
  staticTypes := #[]
  resolved := Array.replicate 8 none
  statics := none }

def pool4 : Array CpInfo := pool [(1, u "java/io/Serializable"), (0, .class_ 1), (0, u "java/lang/Object"), (0, .class_ 3)] 3

/-- java/io/Serializable -/
def k4 : Class := { plain "java/io/Serializable" (some 0) with
  accessFlags := 1537
  interfaces := #[]
  cf := some (fileOf pool4 2 #[] #[] 1537 4 #[] #[])
  fields := #[]
  methods := #[]
  instanceTypes := #[]
  staticTypes := #[]
  resolved := Array.replicate 8 none
  statics := none }

/-- the primitive byte -/
def k5 : Class := { plain "byte" none with kind := .primitive 'B', accessFlags := 0x411 }
/-- [B -/
def k6 : Class := { plain "[B" (some 0) with kind := .array 5 .byte, interfaces := #[3, 4], accessFlags := 1041 }

/-- the primitive int -/
def k7 : Class := { plain "int" none with kind := .primitive 'I', accessFlags := 0x411 }
/-- [I -/
def k8 : Class := { plain "[I" (some 0) with kind := .array 7 .int, interfaces := #[3, 4], accessFlags := 1041 }

def heap : Heap := #[]
def classes : Array Class := #[k0, k1, k2, k3, k4, k5, k6, k7, k8]
def interned : List (Array UInt16 × Addr) := []
def slotsUsed : Nat := 0
def theMethod : MethodId := ⟨1, 3⟩
def args0 : Array Value := #[.long 5]
def aboutOver (below : List Frame) : State where
  vm := { classes := classes, interned := interned.toArray }
  heap := heap
  slotsUsed := slotsUsed
  threads := #[{ frames := .invoking theMethod args0 :: below }]
def below0 : List Frame := [.native { method := ⟨0, 0⟩, args := #[] }]
def about1 : State := aboutOver below0
def p0 : Program := .bare "" "" ""
def e0 : Env := launch0.env 0 0 0
theorem w_frames : about1.frames = Frame.invoking theMethod args0 :: below0 := rfl
set_option maxRecDepth 65536 in
theorem w_args : argsFit about1.vm theMethod args0 = true := by decide +kernel
set_option maxRecDepth 65536 in
theorem w_heap : heapFits about1 = true := by decide +kernel
set_option maxRecDepth 65536 in
theorem w_runnable : about1.curStatus? = some .runnable := by decide +kernel
set_option maxRecDepth 65536 in
theorem w_alone : about1.alone = true := by decide +kernel
set_option maxRecDepth 65536 in
theorem w_named : about1.methodNamed? x = some theMethod := by decide +kernel
set_option maxRecDepth 65536 in
theorem w_hears : about1.hears theMethod below0 = true := by decide +kernel
set_option maxRecDepth 65536 in
theorem w_ripe : about1.ripe theMethod args0 below0 = true := by decide +kernel
theorem w_running : about1.status = .running := rfl
set_option maxRecDepth 65536 in
theorem w_room : about1.hasRoom e0.platform room_1 = true :=
  launch0.hasRoom_least _ room_1 (by decide +kernel) (by decide +kernel) (by decide +kernel) (by decide +kernel) (by decide +kernel) (by decide +kernel)
theorem allAtoms_all (ts : List Jvm.Cond) (a : Array Jvm.Value) (st : Jvm.State) : (allAtoms ts).before a st = ts.all (fun c => c.before a st) := by
  induction ts with
  | nil => rfl
  | cons c t ih =>
    show (Jvm.Cond.and c (allAtoms t)).before a st = _
    rw [Jvm.Cond.before_and, ih, List.all_cons]
def words1 : List Jvm.Cond := Jvm.Cond.code x code maxLocals ret :: tables_1
/-- a 'code' word, met by the world's own term for the bytes: nothing is compared byte by byte -/
theorem code_word {y : MethodName} {bytes : ByteArray} {mx : Nat} {rt : Option FieldType} {a : Array Value} {s : State} {m : MethodId} {meth : Method} {c : Code} (h1 : s.methodNamed? y = some m) (h2 : s.vm.method? m = some meth) (h3 : meth.code = some c) (h4 : c.code = bytes)
    (h5 : (c.maxLocals == mx && c.exceptionTable.isEmpty && decide (c.maxStack ≤ mostOperands) && decide (meth.sig.returnType = rt) && !meth.locks && decide (parseMethodDescriptor y.desc = some meth.sig)) = true) : (Jvm.Cond.code y bytes mx rt).before a s = true := by
  simp only [Bool.and_eq_true, beq_iff_eq, Bool.not_eq_true', decide_eq_true_eq] at h5
  obtain ⟨⟨⟨⟨⟨g1, g2⟩, g3⟩, g4⟩, g5⟩, g6⟩ := h5
  simp [Cond.before, Cond.holds, Cond.value, h1, h2, h3, h4, g1, g2, g3, g4, g5, g6]
def isCode : Jvm.Cond → Bool
  | .code _ _ _ _ => true
  | _ => false
theorem all_split {L : List Jvm.Cond} {P : Jvm.Cond → Bool} (h1 : L.all (fun c => isCode c || P c) = true) (h2 : ∀ c ∈ L.filter isCode, P c = true) : L.all P = true := by
  refine List.all_eq_true.mpr fun c hc => ?_
  have h := List.all_eq_true.mp h1 c hc
  rcases Bool.eq_false_or_eq_true (isCode c) with hi | hi
  · exact h2 c (List.mem_filter.mpr ⟨hc, hi⟩)
  · simpa [hi] using h
set_option maxRecDepth 65536 in
theorem w_c0 : (Jvm.Cond.code x code maxLocals ret).before args0 about1 = true := code_word (m := ⟨1, 3⟩) (meth := k1m3) (c := k1c3) (by decide +kernel) rfl rfl rfl (by decide +kernel)
set_option maxRecDepth 65536 in
theorem w_c1 : (Jvm.Cond.code ({ cls := "com/example/bulk_retrieval/bulkretrieval/comparison/SplitMix64", name := "<init>", desc := "(J)V" } : Jvm.MethodName) prog_16_method_1_code (3 : Nat) (Option.none : Option Jvm.ClassFile.FieldType)).before args0 about1 = true := code_word (m := ⟨2, 0⟩) (meth := k2m0) (c := k2c0) (by decide +kernel) rfl rfl rfl (by decide +kernel)
set_option maxRecDepth 65536 in
theorem w_c2 : (Jvm.Cond.code ({ cls := "java/lang/Object", name := "<init>", desc := "()V" } : Jvm.MethodName) object_method_1_code (1 : Nat) (Option.none : Option Jvm.ClassFile.FieldType)).before args0 about1 = true := code_word (m := ⟨0, 0⟩) (meth := k0m0) (c := k0c0) (by decide +kernel) rfl rfl rfl (by decide +kernel)
set_option maxRecDepth 65536 in
theorem w_c3 : (Jvm.Cond.code ({ cls := "com/example/bulk_retrieval/bulkretrieval/comparison/SplitMix64", name := "nextLong", desc := "()J" } : Jvm.MethodName) prog_16_method_2_code (3 : Nat) (Option.some Jvm.ClassFile.FieldType.long)).before args0 about1 = true := code_word (m := ⟨2, 1⟩) (meth := k2m1) (c := k2c1) (by decide +kernel) rfl rfl rfl (by decide +kernel)
set_option maxRecDepth 65536 in
theorem w_c4 : (Jvm.Cond.code ({ cls := "com/example/bulk_retrieval/bulkretrieval/comparison/SplitMix64NextLongPinLaw", name := "unmix", desc := "(J)J" } : Jvm.MethodName) method_3_code (2 : Nat) (Option.some Jvm.ClassFile.FieldType.long)).before args0 about1 = true := code_word (m := ⟨1, 2⟩) (meth := k1m2) (c := k1c2) (by decide +kernel) rfl rfl rfl (by decide +kernel)
set_option maxRecDepth 65536 in
theorem w_c5 : (Jvm.Cond.code ({ cls := "com/example/bulk_retrieval/bulkretrieval/comparison/SplitMix64NextLongPinLaw", name := "inv", desc := "(J)J" } : Jvm.MethodName) method_2_code (4 : Nat) (Option.some Jvm.ClassFile.FieldType.long)).before args0 about1 = true := code_word (m := ⟨1, 1⟩) (meth := k1m1) (c := k1c1) (by decide +kernel) rfl rfl rfl (by decide +kernel)
def codes1 : List Jvm.Cond := [Jvm.Cond.code x code maxLocals ret, Jvm.Cond.code ({ cls := "com/example/bulk_retrieval/bulkretrieval/comparison/SplitMix64", name := "<init>", desc := "(J)V" } : Jvm.MethodName) prog_16_method_1_code (3 : Nat) (Option.none : Option Jvm.ClassFile.FieldType), Jvm.Cond.code ({ cls := "java/lang/Object", name := "<init>", desc := "()V" } : Jvm.MethodName) object_method_1_code (1 : Nat) (Option.none : Option Jvm.ClassFile.FieldType), Jvm.Cond.code ({ cls := "com/example/bulk_retrieval/bulkretrieval/comparison/SplitMix64", name := "nextLong", desc := "()J" } : Jvm.MethodName) prog_16_method_2_code (3 : Nat) (Option.some Jvm.ClassFile.FieldType.long), Jvm.Cond.code ({ cls := "com/example/bulk_retrieval/bulkretrieval/comparison/SplitMix64NextLongPinLaw", name := "unmix", desc := "(J)J" } : Jvm.MethodName) method_3_code (2 : Nat) (Option.some Jvm.ClassFile.FieldType.long), Jvm.Cond.code ({ cls := "com/example/bulk_retrieval/bulkretrieval/comparison/SplitMix64NextLongPinLaw", name := "inv", desc := "(J)J" } : Jvm.MethodName) method_2_code (4 : Nat) (Option.some Jvm.ClassFile.FieldType.long)]
set_option maxRecDepth 65536 in
theorem codes_eq : words1.filter isCode = codes1 := rfl
theorem w_codes : ∀ c ∈ words1.filter isCode, c.before args0 about1 = true := by
  rw [codes_eq]
  intro c hc
  simp only [codes1, List.mem_cons, List.not_mem_nil, or_false] at hc
  rcases hc with rfl | rfl | rfl | rfl | rfl | rfl
  · exact w_c0
  · exact w_c1
  · exact w_c2
  · exact w_c3
  · exact w_c4
  · exact w_c5
set_option maxRecDepth 65536 in
theorem w_t1 : (words1.take 24).all (fun c => isCode c || c.before args0 about1) = true := by decide +kernel
set_option maxRecDepth 65536 in
theorem w_t2 : (words1.drop 24).all (fun c => isCode c || c.before args0 about1) = true := by decide +kernel
theorem w_tables : (allAtoms (Jvm.Cond.code x code maxLocals ret :: tables_1)).before args0 about1 = true := by
  rw [allAtoms_all]
  show words1.all (fun c => c.before args0 about1) = true
  refine all_split ?_ w_codes
  rw [← List.take_append_drop 24 words1, List.all_append, w_t1, w_t2]
  rfl
set_option maxRecDepth 65536 in
theorem w_case : (Jvm.Cond.and given_1 narrow_1).before args0 about1 = true := by decide +kernel
theorem w_applies : (headSpec (Jvm.Cond.code x code maxLocals ret :: tables_1) room_1).applies x e0.platform about1 = true :=
  (Spec.applies_iff w_frames).mpr ⟨w_running, w_runnable, w_alone, w_named, w_hears, w_ripe, w_room, w_tables⟩
theorem atStart : AtStart classFile x code maxLocals ret World_1 tables_1 room_1 Calls_1 rest_1 Pre_1 launch0 p0 e0 about1 theMethod args0 below0 :=
  ⟨lists_1, trivial, launch0.admits_env _ _ _, launch0.least_env, fairChoices_fair.cas, fairChoices_fair.clock, w_frames, w_args, w_heap, w_applies, trivial, trivial, w_case⟩
end start1
theorem witness_1 : WitnessClaimed_1 := ⟨start1.p0, start1.e0, start1.about1, start1.theMethod, start1.args0, start1.below0, start1.atStart⟩
end Jvm.Pilot.@@N@@
