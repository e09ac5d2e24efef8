import JvmDerived
import JvmDerived.Pilot.@@N@@Statement
import JvmDerived.Pilot.@@N@@Code
set_option linter.unusedVariables false
set_option linter.unusedSimpArgs false
namespace Jvm.Pilot.@@N@@
open Jvm Jvm.ClassFile Sem Op Lib Jvm.Free Jvm.Stand Jvm.LawKit Jvm.RoadKit Bundle Jvm.Pilot.@@N@@.Jvm.D
abbrev oU : Slot := .unset
abbrev oS : Slot := .second
abbrev oN : Slot := .val .null
abbrev oI (x : Int32) : Slot := .val (.int x)
abbrev oJ (x : Int64) : Slot := .val (.long x)
abbrev oR (a : Addr) : Slot := .val (.ref a)
section Own
variable {p : Program} {l : Launch} {e : Env} {R : Room} {s : State} {m : MethodId} {args : Array Value} {below : List Frame} {meth : Method} {c : Code} {T : State} {locs : List Loc} {cells slots : Nat} {Q : Option Value → Heap → List Loc → Prop} {kc ks : Nat} {Z : State} {a0 : Array Value} {h : Heap}
/-- from the state st the body comes to its end, and Q holds there -/
def own_Fin (p : Program) (e : Env) (below : List Frame) (s : State) (Q : Option Value → Heap → List Loc → Prop) (kc ks : Nat) (st : State) : Prop :=
  ∃ s₂ o, Steps p.tables e below st s₂ ∧ s₂.status = .running ∧ Ended s₂ below o ∧ ∃ v L, o = .returned v ∧ Q v s₂.heap L ∧ FrameEnd s o s₂ L kc ks
abbrev own_Go (X : Stand p l e R s m args below meth c T locs cells slots) (Q : Option Value → Heap → List Loc → Prop) (kc ks : Nat) (pc : Nat) (Ls : Array Slot) (S : List Value) : Prop := own_Fin p e below s Q kc ks (T.setTop (mkF m pc Ls S))
theorem own_st {a b : State} (hst : ∀ t, Steps p.tables e below b t → Steps p.tables e below a t) (k : own_Fin p e below s Q kc ks b) : own_Fin p e below s Q kc ks a := by
  obtain ⟨s₂, o, h1, r⟩ := k
  exact ⟨s₂, o, hst _ h1, r⟩
theorem own_cast {g g' : JFrame} (q : g = g') (k : own_Fin p e below s Q kc ks (T.setTop g')) : own_Fin p e below s Q kc ks (T.setTop g) := q ▸ k
theorem own_end (X : Stand p l e R s m args below meth c T locs cells slots) {v : Option Value} {a : State} (hv : meth.sig.returnType = none → v = none) (hlocks : meth.locks = false) (eT : T.heap = h)
    (hs : ∀ fs, (∀ (f : JFrame) (acts : List Action), f.method = m → f.locked = none → f.entered = [] → (doReturn e (T.setTop f) acts v).1 = T.setFrames fs) → Steps p.tables e below a (T.setFrames fs))
    (hc : cells ≤ kc) (hl : slots ≤ ks) (hq : Q v h locs) : own_Fin p e below s Q kc ks a := by
  obtain ⟨fs, hr, hrun, hended, hW, hsame⟩ := X.leave hv hlocks
  exact ⟨_, _, hs fs hr, hrun, hended, _, _, rfl, by show Q v T.heap locs; rw [eT]; exact hq, ⟨_, rfl⟩, hW, hsame.mono hc hl⟩
theorem own_retV (X : Stand p l e R s m args below meth c T locs cells slots) (hx : p.tables.exec = Jvm.exec) (hret : meth.sig.returnType = none) (hlocks : meth.locks = false) (eT : T.heap = h) {pc : Nat} {Ls : Array Slot} (hd : decode c.code pc = .ok (.return_, 1)) (hc : cells ≤ kc) (hl : slots ≤ ks) (hq : Q none h locs) :
    own_Fin p e below s Q kc ks (T.setTop (mkF m pc Ls [])) := own_end X (fun _ => rfl) hlocks eT (fun _ hr => X.returnOut hx hret hd hr) hc hl hq
theorem own_retN (X : Stand p l e R s m args below meth c T locs cells slots) (hx : p.tables.exec = Jvm.exec) {t : FieldType} (hret : meth.sig.returnType = some t) (ht : t = .boolean ∨ t = .byte ∨ t = .char ∨ t = .short) (hlocks : meth.locks = false) (eT : T.heap = h) {pc : Nat} {Ls : Array Slot} {z : Int32} {rest : List Value} (hd : decode c.code pc = .ok (.ireturn, 1)) (hc : cells ≤ kc) (hl : slots ≤ ks) (hq : Q (some (.int (nar t z))) h locs) :
    own_Fin p e below s Q kc ks (T.setTop (mkF m pc Ls (.int z :: rest))) := own_end X (fun h => by rw [hret] at h; cases h) hlocks eT (fun _ hr => retN X hx hret ht hd hr) hc hl hq
theorem own_retI (X : Stand p l e R s m args below meth c T locs cells slots) (hx : p.tables.exec = Jvm.exec) (hret : meth.sig.returnType = some .int) (hlocks : meth.locks = false) (eT : T.heap = h) {pc : Nat} {Ls : Array Slot} {z : Int32} {rest : List Value} (hd : decode c.code pc = .ok (.ireturn, 1)) (hc : cells ≤ kc) (hl : slots ≤ ks) (hq : Q (some (.int z)) h locs) :
    own_Fin p e below s Q kc ks (T.setTop (mkF m pc Ls (.int z :: rest))) := own_end X (fun h => by rw [hret] at h; cases h) hlocks eT (fun _ hr => retOut X hx hret rfl (Or.inl ⟨rfl, Or.inl rfl, _, rfl⟩) hd hr) hc hl hq
theorem own_retJ (X : Stand p l e R s m args below meth c T locs cells slots) (hx : p.tables.exec = Jvm.exec) (hret : meth.sig.returnType = some .long) (hlocks : meth.locks = false) (eT : T.heap = h) {pc : Nat} {Ls : Array Slot} {z : Int64} {rest : List Value} (hd : decode c.code pc = .ok (.lreturn, 1)) (hc : cells ≤ kc) (hl : slots ≤ ks) (hq : Q (some (.long z)) h locs) :
    own_Fin p e below s Q kc ks (T.setTop (mkF m pc Ls (.long z :: rest))) := own_end X (fun h => by rw [hret] at h; cases h) hlocks eT (fun _ hr => retOut X hx hret rfl (Or.inr (Or.inl ⟨rfl, rfl, _, rfl⟩)) hd hr) hc hl hq
theorem own_retA (X : Stand p l e R s m args below meth c T locs cells slots) (hx : p.tables.exec = Jvm.exec) {t : FieldType} (hret : meth.sig.returnType = some t) (ht : t.isReference = true) (hlocks : meth.locks = false) (eT : T.heap = h) {pc : Nat} {Ls : Array Slot} {a : Addr} {rest : List Value} (hd : decode c.code pc = .ok (.areturn, 1)) (hc : cells ≤ kc) (hl : slots ≤ ks) (hq : Q (some (.ref a)) h locs) :
    own_Fin p e below s Q kc ks (T.setTop (mkF m pc Ls (.ref a :: rest))) := own_end X (fun h => by rw [hret] at h; cases h) hlocks eT (fun _ hr => retOut X hx hret (by cases t <;> first | rfl | cases ht) (Or.inr (Or.inr (Or.inr (Or.inr ⟨rfl, ht, rfl⟩)))) hd hr) hc hl hq
theorem own_nar1 : nar .boolean 1 = 1 := by decide
theorem own_nar0 : nar .boolean 0 = 0 := by decide
theorem own_lrem {g : JFrame} {target : State} (X : Stand p l e R s m args below meth c T locs cells slots) (hx : p.tables.exec = Jvm.exec) (hg : g.method = m) {x y : Int64} {rest : List Value} (hd : decode c.code g.pc = .ok (.lrem, 1)) (hs : g.stack = .long y :: .long x :: rest) (hy : y ≠ 0)
    (hr : Steps p.tables e below (T.setTop { g with pc := g.pc + 1, stack := .long (x % y) :: rest }) target) : Steps p.tables e below (T.setTop g) target := by
  have q : x - x / y * y = x % y := lrem_mod x y
  exact XS.lrem X.here hx hg hd hs hy (by rw [q]; exact hr)
/-! the calls -/
variable {y z : MethodName} {bytes : ByteArray} {maxL : Nat} {ret : Option FieldType} {rm : Room} {W : Nat} {as' : Array Value} {Qc : Option Value → Heap → List Loc → Prop} {own C : String} {index : Nat}
theorem own_callS (X : Stand p l e R s m args below meth c T locs cells slots) (hx : p.tables.exec = Jvm.exec) (hZ : Z.Warmed39 s.vm) (hown : s.vm.findClass own = some m.cls)
    (wl : (Cond.methodLink own index y).before a0 Z = true) (ws : (Cond.static y).before a0 Z = true) (wz : (Cond.initialized y.cls).before a0 Z = true) (wc : (Cond.code y bytes maxL ret).before a0 Z = true)
    (hy : y.cls ≠ "java/lang/invoke/MethodHandle" ∧ y.cls ≠ "java/lang/invoke/VarHandle")
    (hM : MetFree l y (head1 [Cond.code y bytes maxL ret] rm) (fun a U => a = as' ∧ Z.Warmed39 U.vm ∧ U.heap = h) (fun _ _ _ _ _ => True) (fun _ U o U' => ∃ v L, o = .returned v ∧ Qc v U'.heap L ∧ FrameEnd U o U' L rm.cells rm.slots))
    (hf : rm.frames + 1 ≤ R.frames) (hl : W + (maxL + 11) + rm.locals ≤ R.locals) {pc : Nat} {Ls : Array Slot} {S : List Value} (hsize : Ls.size = c.maxLocals) (argsL rest : List Value)
    (hlen : ∀ sig, parseMethodDescriptor y.desc = some sig → argsL.length = sig.parameters.length) (hS : S = argsL.reverse ++ rest) (ha : argsL.toArray = as') (hW : (rest.map fun v => v.category).sum ≤ W)
    (hd : decode c.code pc = .ok (.invokestatic index, 3)) (eT : T.heap = h) (hcl : cells + rm.cells ≤ R.cells) (hsl : slots + rm.slots ≤ R.slots)
    (k : ∀ (v : Option Value) (T' : State) (L' : List Loc) (X' : Stand p l e R s m args below meth c T' (locs ++ L') (cells + rm.cells) (slots + rm.slots)), Qc v T'.heap L' → own_Fin p e below s Q kc ks (T'.setTop (mkF m (pc + 3) Ls (v.toList ++ rest)))) :
    own_Fin p e below s Q kc ks (T.setTop (mkF m pc Ls S)) := by
  subst hS
  obtain ⟨v, _, ⟨T', L1, k1, n1⟩, -, X', ⟨L', hQ, l1, y1, z1⟩, st⟩ := Jvm.LawKit.callS X hx (y := y) hown (mvT hZ wl) (mvT hZ ws) (mvT hZ wz) (mvT hZ wc) hy (backOf (W := W) hM hZ wc wz hf hl) (g := mkF m pc Ls (argsL.reverse ++ rest)) rfl hsize (argsL := argsL) (rest := rest) hlen rfl (by show 2 * 0 + _ ≤ _; omega) hd (fun _ _ => ⟨ha, eT, hcl, hsl⟩)
  dsimp only [Pt.U, Pt.locs, Pt.cells, Pt.slots] at X' l1 y1 z1 st hQ
  subst l1 y1 z1
  exact own_st (fun t => st t) (k v T' L' X' hQ)
theorem own_callI (X : Stand p l e R s m args below meth c T locs cells slots) (hx : p.tables.exec = Jvm.exec) (hZ : Z.Warmed39 s.vm) (hown : s.vm.findClass own = some m.cls)
    (wl : (Cond.methodLink own index y).before a0 Z = true) (ws : (Cond.instanceMethod y).before a0 Z = true) (wz : (Cond.initialized y.cls).before a0 Z = true) (wc : (Cond.code y bytes maxL none).before a0 Z = true)
    (hn : y.name = "<init>") (hy : y.cls ≠ "java/lang/invoke/MethodHandle" ∧ y.cls ≠ "java/lang/invoke/VarHandle")
    (hM : MetFree l y (head1 [Cond.code y bytes maxL none] rm) (fun a U => a = as' ∧ Z.Warmed39 U.vm ∧ U.heap = h) (fun _ _ _ _ _ => True) (fun _ U o U' => ∃ v L, o = .returned v ∧ Qc v U'.heap L ∧ FrameEnd U o U' L rm.cells rm.slots))
    (hf : rm.frames + 1 ≤ R.frames) (hl : W + (maxL + 11) + rm.locals ≤ R.locals) {pc : Nat} {Ls : Array Slot} {S : List Value} (hsize : Ls.size = c.maxLocals) (a : Addr) (argsL rest : List Value)
    (hlen : ∀ sig, parseMethodDescriptor y.desc = some sig → argsL.length = sig.parameters.length) (hS : S = argsL.reverse ++ .ref a :: rest) (ha : (Value.ref a :: argsL).toArray = as') (hW : (rest.map fun v => v.category).sum ≤ W)
    (hd : decode c.code pc = .ok (.invokespecial index, 3)) (eT : T.heap = h) (hcl : cells + rm.cells ≤ R.cells) (hsl : slots + rm.slots ≤ R.slots)
    (k : ∀ (v : Option Value) (T' : State) (L' : List Loc) (X' : Stand p l e R s m args below meth c T' (locs ++ L') (cells + rm.cells) (slots + rm.slots)), Qc v T'.heap L' → own_Fin p e below s Q kc ks (T'.setTop (mkF m (pc + 3) Ls (v.toList ++ rest)))) :
    own_Fin p e below s Q kc ks (T.setTop (mkF m pc Ls S)) := by
  subst hS
  obtain ⟨v, _, ⟨T', L1, k1, n1⟩, -, X', ⟨L', hQ, l1, y1, z1⟩, st⟩ := X.specialBack hx (y := y) hn hown (mvT hZ wl) (mvT hZ ws) (mvT hZ wc) hy (backOf (W := W) hM hZ wc wz hf hl) (g := mkF m pc Ls (argsL.reverse ++ .ref a :: rest)) rfl hsize (Steps.refl _) (a := a) (argsL := argsL) (rest := rest) hlen rfl (by show 2 * 0 + _ ≤ _; omega) hd (fun _ _ => ⟨ha, eT, hcl, hsl⟩)
  dsimp only [Pt.U, Pt.locs, Pt.cells, Pt.slots] at X' l1 y1 z1 st hQ
  subst l1 y1 z1
  exact own_st (fun t => st.trans) (k v T' L' X' hQ)
theorem own_callV (X : Stand p l e R s m args below meth c T locs cells slots) (hx : p.tables.exec = Jvm.exec) (hZ : Z.Warmed39 s.vm) (hown : s.vm.findClass own = some m.cls)
    (wl : (Cond.methodLink own index y).before a0 Z = true) (wd : (Cond.declares y).before a0 Z = true) (wsel : (Cond.selects C y y).before a0 Z = true) (ws : (Cond.instanceMethod y).before a0 Z = true) (wz : (Cond.initialized y.cls).before a0 Z = true) (wc : (Cond.code y bytes maxL ret).before a0 Z = true)
    (hy : y.cls ≠ "java/lang/invoke/MethodHandle" ∧ y.cls ≠ "java/lang/invoke/VarHandle")
    (hM : MetFree l y (head1 [Cond.code y bytes maxL ret] rm) (fun a U => a = as' ∧ Z.Warmed39 U.vm ∧ U.heap = h) (fun _ _ _ _ _ => True) (fun _ U o U' => ∃ v L, o = .returned v ∧ Qc v U'.heap L ∧ FrameEnd U o U' L rm.cells rm.slots))
    (hf : rm.frames + 1 ≤ R.frames) (hl : W + (maxL + 11) + rm.locals ≤ R.locals) {pc : Nat} {Ls : Array Slot} {S : List Value} (hsize : Ls.size = c.maxLocals) (a : Addr) (argsL rest : List Value)
    (hlen : ∀ sig, parseMethodDescriptor y.desc = some sig → argsL.length = sig.parameters.length) (hS : S = argsL.reverse ++ .ref a :: rest) (ha : (Value.ref a :: argsL).toArray = as') (hW : (rest.map fun v => v.category).sum ≤ W)
    (hd : decode c.code pc = .ok (.invokevirtual index, 3)) (eT : T.heap = h) (EA : Exa Z h a C) (hcl : cells + rm.cells ≤ R.cells) (hsl : slots + rm.slots ≤ R.slots)
    (k : ∀ (v : Option Value) (T' : State) (L' : List Loc) (X' : Stand p l e R s m args below meth c T' (locs ++ L') (cells + rm.cells) (slots + rm.slots)), Qc v T'.heap L' → own_Fin p e below s Q kc ks (T'.setTop (mkF m (pc + 3) Ls (v.toList ++ rest)))) :
    own_Fin p e below s Q kc ks (T.setTop (mkF m pc Ls S)) := by
  subst hS
  obtain ⟨cq, kq, q1, q2, q3⟩ := isOf hZ eT EA
  obtain ⟨v, _, ⟨T', L1, k1, n1⟩, -, X', ⟨L', hQ, l1, y1, z1⟩, st⟩ := X.virtualBack hx (y := y) (z := y) hown (mvT hZ wl) (mvT hZ wd) (notFace_of_selects (args := #[]) (mvT hZ wsel)) (mvT hZ wsel) (mvT hZ ws) hy (backOf (W := W) hM hZ wc wz hf hl) q1 q3 (g := mkF m pc Ls (argsL.reverse ++ .ref a :: rest)) rfl hsize (Steps.refl _) (argsL := argsL) (rest := rest) hlen rfl (by show 2 * 0 + _ ≤ _; omega) hd (fun _ _ => ⟨ha, eT, hcl, hsl⟩)
  dsimp only [Pt.U, Pt.locs, Pt.cells, Pt.slots] at X' l1 y1 z1 st hQ
  subst l1 y1 z1
  exact own_st (fun t => st.trans) (k v T' L' X' hQ)
/-! arrays -/
variable {a : Addr} {kA : ClassId} {n j x : Int32} {vs : List Value} {dv : Value}
theorem own_stI (X : Stand p l e R s m args below meth c T locs cells slots) (hx : p.tables.exec = Jvm.exec) (hZ : Z.Warmed39 s.vm) (eT : T.heap = h) (V : Arv Z h a kA .int n vs dv) (q : ¬ j < 0 ∧ j < n) (hi : j.toNatClampNeg < vs.length) {g : JFrame} (hg : g.method = m) {rest : List Value} (hs : g.stack = .int x :: .int j :: .ref a :: rest) (hd : decode c.code g.pc = .ok (.iastore, 1)) :
    ∃ T' h', Stand p l e R s m args below meth c T' (locs ++ [⟨a, j.toNatClampNeg⟩]) cells slots ∧ T'.heap = h' ∧ Wr h h' a j.toNatClampNeg (.int x) ∧ Arv Z h' a kA .int n (vs.set j.toNatClampNeg (.int x)) dv ∧ ∀ target, Steps p.tables e below (T'.setTop { g with pc := g.pc + 1, stack := rest }) target → Steps p.tables e below (T.setTop g) target := by
  obtain ⟨cl, Ar, q1, S1, N1, H1, G1⟩ := V
  obtain ⟨T', h', X', e', W', st⟩ := stI X hx hZ eT Ar (inb_of S1 q) hg hs hd
  exact ⟨T', h', X', e', W', Arv.set Ar q1 S1 N1 H1 G1 rfl W' _ rfl hi, st⟩
theorem own_stB (X : Stand p l e R s m args below meth c T locs cells slots) (hx : p.tables.exec = Jvm.exec) (hZ : Z.Warmed39 s.vm) (eT : T.heap = h) (V : Arv Z h a kA .byte n vs dv) (q : ¬ j < 0 ∧ j < n) (hi : j.toNatClampNeg < vs.length) {g : JFrame} (hg : g.method = m) {rest : List Value} (hs : g.stack = .int x :: .int j :: .ref a :: rest) (hd : decode c.code g.pc = .ok (.bastore, 1)) :
    ∃ T' h', Stand p l e R s m args below meth c T' (locs ++ [⟨a, j.toNatClampNeg⟩]) cells slots ∧ T'.heap = h' ∧ Wr h h' a j.toNatClampNeg (.int (nar .byte x)) ∧ Arv Z h' a kA .byte n (vs.set j.toNatClampNeg (.int x.toInt8.toInt32)) dv ∧ ∀ target, Steps p.tables e below (T'.setTop { g with pc := g.pc + 1, stack := rest }) target → Steps p.tables e below (T.setTop g) target := by
  obtain ⟨cl, Ar, q1, S1, N1, H1, G1⟩ := V
  obtain ⟨T', h', X', e', W', st⟩ := stB X hx hZ eT Ar (inb_of S1 q) hg hs hd
  exact ⟨T', h', X', e', W', Arv.set Ar q1 S1 N1 H1 G1 (fits_nar_byte x) W' _ rfl hi, st⟩
theorem own_stJ {x : Int64} (X : Stand p l e R s m args below meth c T locs cells slots) (hx : p.tables.exec = Jvm.exec) (hZ : Z.Warmed39 s.vm) (eT : T.heap = h) (V : Arv Z h a kA .long n vs dv) (q : ¬ j < 0 ∧ j < n) (hi : j.toNatClampNeg < vs.length) {g : JFrame} (hg : g.method = m) {rest : List Value} (hs : g.stack = .long x :: .int j :: .ref a :: rest) (hd : decode c.code g.pc = .ok (.lastore, 1)) :
    ∃ T' h', Stand p l e R s m args below meth c T' (locs ++ [⟨a, j.toNatClampNeg⟩]) cells slots ∧ T'.heap = h' ∧ Wr h h' a j.toNatClampNeg (.long x) ∧ Arv Z h' a kA .long n (vs.set j.toNatClampNeg (.long x)) dv ∧ ∀ target, Steps p.tables e below (T'.setTop { g with pc := g.pc + 1, stack := rest }) target → Steps p.tables e below (T.setTop g) target := by
  obtain ⟨cl, Ar, q1, S1, N1, H1, G1⟩ := V
  obtain ⟨T', h', X', e', W', st⟩ := stJ X hx hZ eT Ar (inb_of S1 q) hg hs hd
  exact ⟨T', h', X', e', W', Arv.set Ar q1 S1 N1 H1 G1 rfl W' _ rfl hi, st⟩
theorem own_ldI (X : Stand p l e R s m args below meth c T locs cells slots) (hx : p.tables.exec = Jvm.exec) (hZ : Z.Warmed39 s.vm) (eT : T.heap = h) (V : Arv Z h a kA .int n vs dv) (q : ¬ j < 0 ∧ j < n) {v : Value} (hv : vs.getD j.toNatClampNeg dv = v) {g : JFrame} (hg : g.method = m) {rest : List Value} (hs : g.stack = .int j :: .ref a :: rest) (hd : decode c.code g.pc = .ok (.iaload, 1)) :
    ∀ target, Steps p.tables e below (T.setTop { g with pc := g.pc + 1, stack := v :: rest }) target → Steps p.tables e below (T.setTop g) target := by
  obtain ⟨cl, Ar, q1, S1, N1, H1, G1⟩ := V
  exact X.iaload hx (by rw [eT]; exact Ar.1) (State.isArrayOf_alike hZ.alike Ar.2.1) Ar.2.2 (inb_of S1 q) (H1.at (inb_of S1 q) hv) hg hs hd
theorem own_ldB (X : Stand p l e R s m args below meth c T locs cells slots) (hx : p.tables.exec = Jvm.exec) (hZ : Z.Warmed39 s.vm) (eT : T.heap = h) (V : Arv Z h a kA .byte n vs dv) (q : ¬ j < 0 ∧ j < n) {v : Value} (hv : vs.getD j.toNatClampNeg dv = v) {g : JFrame} (hg : g.method = m) {rest : List Value} (hs : g.stack = .int j :: .ref a :: rest) (hd : decode c.code g.pc = .ok (.baload, 1)) :
    ∀ target, Steps p.tables e below (T.setTop { g with pc := g.pc + 1, stack := v :: rest }) target → Steps p.tables e below (T.setTop g) target := by
  obtain ⟨cl, Ar, q1, S1, N1, H1, G1⟩ := V
  exact X.baloadBytes hx (by rw [eT]; exact Ar.1) (State.isArrayOf_alike hZ.alike Ar.2.1) Ar.2.2 (inb_of S1 q) (H1.at (inb_of S1 q) hv) hg hs hd
theorem own_ldJ (X : Stand p l e R s m args below meth c T locs cells slots) (hx : p.tables.exec = Jvm.exec) (hZ : Z.Warmed39 s.vm) (eT : T.heap = h) (V : Arv Z h a kA .long n vs dv) (q : ¬ j < 0 ∧ j < n) {v : Value} (hv : vs.getD j.toNatClampNeg dv = v) {g : JFrame} (hg : g.method = m) {rest : List Value} (hs : g.stack = .int j :: .ref a :: rest) (hd : decode c.code g.pc = .ok (.laload, 1)) :
    ∀ target, Steps p.tables e below (T.setTop { g with pc := g.pc + 1, stack := v :: rest }) target → Steps p.tables e below (T.setTop g) target := by
  obtain ⟨cl, Ar, q1, S1, N1, H1, G1⟩ := V
  exact X.laload hx (by rw [eT]; exact Ar.1) (State.isArrayOf_alike hZ.alike Ar.2.1) Ar.2.2 (inb_of S1 q) (H1.at (inb_of S1 q) hv) hg hs hd
theorem own_len {ty : FieldType} (X : Stand p l e R s m args below meth c T locs cells slots) (hx : p.tables.exec = Jvm.exec) (hZ : Z.Warmed39 s.vm) (eT : T.heap = h) (V : Arv Z h a kA ty n vs dv) {g : JFrame} (hg : g.method = m) {rest : List Value} (hs : g.stack = .ref a :: rest) (hd : decode c.code g.pc = .ok (.arraylength, 1)) :
    ∀ target, Steps p.tables e below (T.setTop { g with pc := g.pc + 1, stack := .int n :: rest }) target → Steps p.tables e below (T.setTop g) target := by
  obtain ⟨cl, Ar, q1, S1, N1, H1, G1⟩ := V
  intro t k
  refine X.arraylength hx (by rw [eT]; exact Ar.1) (State.isArrayOf_alike hZ.alike Ar.2.1) hg hs hd t ?_
  rw [len_of S1 N1]; exact k
end Own

theorem own_sub (a b : Int32) : a + b - a = b := by rw [Int32.add_comm]; exact Int32.add_sub_cancel b a
theorem d1_0 : decode prog_40_method_1_code 0 = .ok (.aload_n 0, 1) := by decide +kernel
theorem d1_1 : decode prog_40_method_1_code 1 = .ok (.invokespecial 1, 3) := by decide +kernel
theorem d1_4 : decode prog_40_method_1_code 4 = .ok (.aload_n 0, 1) := by decide +kernel
theorem d1_5 : decode prog_40_method_1_code 5 = .ok (.iload_n 1, 1) := by decide +kernel
theorem d1_6 : decode prog_40_method_1_code 6 = .ok (.putfield 7, 3) := by decide +kernel
theorem d1_9 : decode prog_40_method_1_code 9 = .ok (.aload_n 0, 1) := by decide +kernel
theorem d1_10 : decode prog_40_method_1_code 10 = .ok (.aload_n 2, 1) := by decide +kernel
theorem d1_11 : decode prog_40_method_1_code 11 = .ok (.putfield 13, 3) := by decide +kernel
theorem d1_14 : decode prog_40_method_1_code 14 = .ok (.aload_n 0, 1) := by decide +kernel
theorem d1_15 : decode prog_40_method_1_code 15 = .ok (.aload_n 3, 1) := by decide +kernel
theorem d1_16 : decode prog_40_method_1_code 16 = .ok (.putfield 17, 3) := by decide +kernel
theorem d1_19 : decode prog_40_method_1_code 19 = .ok (.aload_n 0, 1) := by decide +kernel
theorem d1_20 : decode prog_40_method_1_code 20 = .ok (.aload 4, 2) := by decide +kernel
theorem d1_22 : decode prog_40_method_1_code 22 = .ok (.putfield 20, 3) := by decide +kernel
theorem d1_25 : decode prog_40_method_1_code 25 = .ok (.return_, 1) := by decide +kernel
theorem pn_1 : plainName "com/example/bulk_retrieval/bulkretrieval/index/Neighbours" = true := by first | (simp [plainName, overriddenIn]; done) | decide +kernel
theorem ef_1 (m : MethodId) (r0 : Addr) (p1 : Int32) (r2 : Addr) (r3 : Addr) (r4 : Addr) : entryFrame m #[(.ref r0), (.int p1), (.ref r2), (.ref r3), (.ref r4)] 5 = mkF m 0 #[.val (.ref r0), .val (.int p1), .val (.ref r2), .val (.ref r3), .val (.ref r4)] [] := by first | (simp [entryFrame, mkF, argsToLocals, Value.category]; done) | rfl
def Q1 (Z : State) (r0 : Addr) (p1 : Int32) (r2 : Addr) (r3 : Addr) (r4 : Addr)  (h0 : Heap) (n0 : Nat) (v : Option Value) (h : Heap) (L : List Loc) : Prop := v = none ∧ Fr n0 L ∧ Keep h0 h [r0] ∧ Fld Z h r0 "com/example/bulk_retrieval/bulkretrieval/index/Neighbours" "limit" "I" (.int p1) ∧ Fld Z h r0 "com/example/bulk_retrieval/bulkretrieval/index/Neighbours" "starts" "[I" (.ref r2) ∧ Fld Z h r0 "com/example/bulk_retrieval/bulkretrieval/index/Neighbours" "documents" "[I" (.ref r3) ∧ Fld Z h r0 "com/example/bulk_retrieval/bulkretrieval/index/Neighbours" "similarities" "[D" (.ref r4)
set_option maxRecDepth 65536 in
set_option maxHeartbeats 40000000 in
theorem rm1 (l : Launch) (Z : State) (a0 : Array Value) (hw : ∀ d ∈ tables_1, d.before a0 Z = true) (ws : List Jvm.Cond) (r0 : Addr) (p1 : Int32) (r2 : Addr) (r3 : Addr) (r4 : Addr)  (h0 : Heap) (n0 : Nat) (Z0 : n0 ≤ h0.size) (PE : Exa Z h0 r0 "com/example/bulk_retrieval/bulkretrieval/index/Neighbours") (PG : n0 ≤ r0) (P_limit : Fld Z h0 r0 "com/example/bulk_retrieval/bulkretrieval/index/Neighbours" "limit" "I" (.int (0 : Int32))) (P_starts : Fld Z h0 r0 "com/example/bulk_retrieval/bulkretrieval/index/Neighbours" "starts" "[I" .null) (P_documents : Fld Z h0 r0 "com/example/bulk_retrieval/bulkretrieval/index/Neighbours" "documents" "[I" .null) (P_similarities : Fld Z h0 r0 "com/example/bulk_retrieval/bulkretrieval/index/Neighbours" "similarities" "[D" .null) :
    MetFree l (⟨"com/example/bulk_retrieval/bulkretrieval/index/Neighbours", "<init>", "(I[I[I[D)V"⟩ : MethodName) (head1 (Jvm.Cond.code (⟨"com/example/bulk_retrieval/bulkretrieval/index/Neighbours", "<init>", "(I[I[I[D)V"⟩ : MethodName) prog_40_method_1_code 5 none :: ws) ({ frames := 1, cells := 0, slots := 0, locals := 12 } : Room)) (fun a U => a = #[(.ref r0), (.int p1), (.ref r2), (.ref r3), (.ref r4)] ∧ Z.Warmed39 U.vm ∧ U.heap = h0) (fun _ _ _ _ _ => True) (fun _ U o U' => ∃ v L, o = .returned v ∧ Q1 Z r0 p1 r2 r3 r4 h0 n0 v U'.heap L ∧ FrameEnd U o U' L ({ frames := 1, cells := 0, slots := 0, locals := 12 } : Room).cells ({ frames := 1, cells := 0, slots := 0, locals := 12 } : Room).slots) := by
  refine MetFree.of_bodySF (plainFor_of_name pn_1) hisR ?_
  intro p e s m args below meth c s₁ Bd hml0 hP hK
  obtain ⟨rfl, hZ, hh⟩ := hP
  have hx := Bd.exec
  have hby := Bd.bytes
  have hml : c.maxLocals = 5 := hml0
  have hown : s.vm.findClass "com/example/bulk_retrieval/bulkretrieval/index/Neighbours" = some m.cls := findClass_of_methodNamed Bd.named
  have hnm := (name_of_methodNamed Bd.named Bd.method).1
  have hlk : meth.locks = false := Bd.notSynchronized
  have X0 : Stand p l e ({ frames := 1, cells := 0, slots := 0, locals := 12 } : Room) s m #[(.ref r0), (.int p1), (.ref r2), (.ref r3), (.ref r4)] below meth c s₁ [] 0 0 := Stand.of_body Bd
  have e0 : s₁.heap = h0 := by rw [← hh, Bd.state]; rfl
  have N0 := Fr.nil n0
  refine own_cast (Q := Q1 Z r0 p1 r2 r3 r4 h0 n0) (kc := 0) (ks := 0) (ef_1 m r0 p1 r2 r3 r4) ?_
  have K_1 := Keep.refl h0 [r0]
  refine own_st (fun _ k => XS.aloadN X0.here hx rfl (hb hby d1_0) rfl rfl k) ?_
  show own_Go X0 (Q1 Z r0 p1 r2 r3 r4 h0 n0) 0 0 1 #[.val (.ref r0), .val (.int p1), .val (.ref r2), .val (.ref r3), .val (.ref r4)] [(.ref r0)]
  obtain ⟨T2, X2, e2, st2⟩ := initO X0 hx hZ hown (hw _ (List.mem_of_getElem? (i := 9) rfl)) (hw _ (List.mem_of_getElem? (i := 10) rfl)) (hw _ (List.mem_of_getElem? (i := 11) rfl)) e0 (g := (mkF m 1 #[.val (.ref r0), .val (.int p1), .val (.ref r2), .val (.ref r3), .val (.ref r4)] [(.ref r0)])) rfl (by rw [hml]; rfl) rfl (hb hby d1_1) (by decide) (W := 0) (by show 2 * 0 + _ ≤ _; exact Nat.le_of_eq rfl) (by decide)
  refine own_st st2 ?_
  show own_Go X2 (Q1 Z r0 p1 r2 r3 r4 h0 n0) 0 0 4 #[.val (.ref r0), .val (.int p1), .val (.ref r2), .val (.ref r3), .val (.ref r4)] []
  refine own_st (fun _ k => XS.aloadN X2.here hx rfl (hb hby d1_4) rfl rfl k) ?_
  show own_Go X2 (Q1 Z r0 p1 r2 r3 r4 h0 n0) 0 0 5 #[.val (.ref r0), .val (.int p1), .val (.ref r2), .val (.ref r3), .val (.ref r4)] [(.ref r0)]
  refine own_st (fun _ k => XS.iloadN X2.here hx rfl (hb hby d1_5) rfl k) ?_
  show own_Go X2 (Q1 Z r0 p1 r2 r3 r4 h0 n0) 0 0 6 #[.val (.ref r0), .val (.int p1), .val (.ref r2), .val (.ref r3), .val (.ref r4)] [(.int p1), (.ref r0)]
  obtain ⟨T3, h3, X3, e3, W3, st3⟩ := putF X2 hx hZ hown (host := "") (Or.inl (hw _ (List.mem_of_getElem? (i := 12) rfl))) Via.refl e2 P_limit PE (Or.inr ⟨(hw _ (List.mem_of_getElem? (i := 13) rfl)), rfl, hnm⟩) (hw _ (List.mem_of_getElem? (i := 4) rfl)) (ty := .int) (by decide) rfl rfl (g := (mkF m 6 #[.val (.ref r0), .val (.int p1), .val (.ref r2), .val (.ref r3), .val (.ref r4)] [(.int p1), (.ref r0)])) rfl rfl (hb hby d1_6)
  refine own_st st3 ?_
  have f_4 := PE.wr W3
  have f_5 := P_starts.other W3 (Or.inr (slot_ne (Or.inr (hw _ (List.mem_of_getElem? (i := 15) rfl))) (Or.inr (hw _ (List.mem_of_getElem? (i := 13) rfl))) (by decide) (t := (.array .int)) (t' := .int) (by decide) (by decide)))
  have f_6 := P_documents.other W3 (Or.inr (slot_ne (Or.inr (hw _ (List.mem_of_getElem? (i := 17) rfl))) (Or.inr (hw _ (List.mem_of_getElem? (i := 13) rfl))) (by decide) (t := (.array .int)) (t' := .int) (by decide) (by decide)))
  have f_7 := P_similarities.other W3 (Or.inr (slot_ne (Or.inr (hw _ (List.mem_of_getElem? (i := 19) rfl))) (Or.inr (hw _ (List.mem_of_getElem? (i := 13) rfl))) (by decide) (t := (.array .double)) (t' := .int) (by decide) (by decide)))
  have Z_8 := Nat.le_trans Z0 (Nat.le_of_eq W3.size.symm)
  have K_9 := K_1.wr W3 (Or.inl (List.mem_of_getElem? (i := 0) rfl))
  have f_10 := P_limit.same W3
  have N_11 := Fr.snoc X3 N0 PG
  show own_Go X3 (Q1 Z r0 p1 r2 r3 r4 h0 n0) 0 0 9 #[.val (.ref r0), .val (.int p1), .val (.ref r2), .val (.ref r3), .val (.ref r4)] []
  refine own_st (fun _ k => XS.aloadN X3.here hx rfl (hb hby d1_9) rfl rfl k) ?_
  show own_Go X3 (Q1 Z r0 p1 r2 r3 r4 h0 n0) 0 0 10 #[.val (.ref r0), .val (.int p1), .val (.ref r2), .val (.ref r3), .val (.ref r4)] [(.ref r0)]
  refine own_st (fun _ k => XS.aloadN X3.here hx rfl (hb hby d1_10) rfl rfl k) ?_
  show own_Go X3 (Q1 Z r0 p1 r2 r3 r4 h0 n0) 0 0 11 #[.val (.ref r0), .val (.int p1), .val (.ref r2), .val (.ref r3), .val (.ref r4)] [(.ref r2), (.ref r0)]
  obtain ⟨T12, h12, X12, e12, W12, st12⟩ := putF X3 hx hZ hown (host := "") (Or.inl (hw _ (List.mem_of_getElem? (i := 14) rfl))) Via.refl e3 f_5 f_4 (Or.inr ⟨(hw _ (List.mem_of_getElem? (i := 15) rfl)), rfl, hnm⟩) (hw _ (List.mem_of_getElem? (i := 4) rfl)) (ty := (.array .int)) (by decide) rfl rfl (g := (mkF m 11 #[.val (.ref r0), .val (.int p1), .val (.ref r2), .val (.ref r3), .val (.ref r4)] [(.ref r2), (.ref r0)])) rfl rfl (hb hby d1_11)
  refine own_st st12 ?_
  have f_13 := f_4.wr W12
  have f_14 := f_10.other W12 (Or.inr (slot_ne (Or.inr (hw _ (List.mem_of_getElem? (i := 13) rfl))) (Or.inr (hw _ (List.mem_of_getElem? (i := 15) rfl))) (by decide) (t := .int) (t' := (.array .int)) (by decide) (by decide)))
  have f_15 := f_6.other W12 (Or.inr (slot_ne (Or.inr (hw _ (List.mem_of_getElem? (i := 17) rfl))) (Or.inr (hw _ (List.mem_of_getElem? (i := 15) rfl))) (by decide) (t := (.array .int)) (t' := (.array .int)) (by decide) (by decide)))
  have f_16 := f_7.other W12 (Or.inr (slot_ne (Or.inr (hw _ (List.mem_of_getElem? (i := 19) rfl))) (Or.inr (hw _ (List.mem_of_getElem? (i := 15) rfl))) (by decide) (t := (.array .double)) (t' := (.array .int)) (by decide) (by decide)))
  have Z_17 := Nat.le_trans Z_8 (Nat.le_of_eq W12.size.symm)
  have K_18 := K_9.wr W12 (Or.inl (List.mem_of_getElem? (i := 0) rfl))
  have f_19 := f_5.same W12
  have N_20 := Fr.snoc X12 N_11 PG
  show own_Go X12 (Q1 Z r0 p1 r2 r3 r4 h0 n0) 0 0 14 #[.val (.ref r0), .val (.int p1), .val (.ref r2), .val (.ref r3), .val (.ref r4)] []
  refine own_st (fun _ k => XS.aloadN X12.here hx rfl (hb hby d1_14) rfl rfl k) ?_
  show own_Go X12 (Q1 Z r0 p1 r2 r3 r4 h0 n0) 0 0 15 #[.val (.ref r0), .val (.int p1), .val (.ref r2), .val (.ref r3), .val (.ref r4)] [(.ref r0)]
  refine own_st (fun _ k => XS.aloadN X12.here hx rfl (hb hby d1_15) rfl rfl k) ?_
  show own_Go X12 (Q1 Z r0 p1 r2 r3 r4 h0 n0) 0 0 16 #[.val (.ref r0), .val (.int p1), .val (.ref r2), .val (.ref r3), .val (.ref r4)] [(.ref r3), (.ref r0)]
  obtain ⟨T21, h21, X21, e21, W21, st21⟩ := putF X12 hx hZ hown (host := "") (Or.inl (hw _ (List.mem_of_getElem? (i := 16) rfl))) Via.refl e12 f_15 f_13 (Or.inr ⟨(hw _ (List.mem_of_getElem? (i := 17) rfl)), rfl, hnm⟩) (hw _ (List.mem_of_getElem? (i := 4) rfl)) (ty := (.array .int)) (by decide) rfl rfl (g := (mkF m 16 #[.val (.ref r0), .val (.int p1), .val (.ref r2), .val (.ref r3), .val (.ref r4)] [(.ref r3), (.ref r0)])) rfl rfl (hb hby d1_16)
  refine own_st st21 ?_
  have f_22 := f_13.wr W21
  have f_23 := f_14.other W21 (Or.inr (slot_ne (Or.inr (hw _ (List.mem_of_getElem? (i := 13) rfl))) (Or.inr (hw _ (List.mem_of_getElem? (i := 17) rfl))) (by decide) (t := .int) (t' := (.array .int)) (by decide) (by decide)))
  have f_24 := f_19.other W21 (Or.inr (slot_ne (Or.inr (hw _ (List.mem_of_getElem? (i := 15) rfl))) (Or.inr (hw _ (List.mem_of_getElem? (i := 17) rfl))) (by decide) (t := (.array .int)) (t' := (.array .int)) (by decide) (by decide)))
  have f_25 := f_16.other W21 (Or.inr (slot_ne (Or.inr (hw _ (List.mem_of_getElem? (i := 19) rfl))) (Or.inr (hw _ (List.mem_of_getElem? (i := 17) rfl))) (by decide) (t := (.array .double)) (t' := (.array .int)) (by decide) (by decide)))
  have Z_26 := Nat.le_trans Z_17 (Nat.le_of_eq W21.size.symm)
  have K_27 := K_18.wr W21 (Or.inl (List.mem_of_getElem? (i := 0) rfl))
  have f_28 := f_15.same W21
  have N_29 := Fr.snoc X21 N_20 PG
  show own_Go X21 (Q1 Z r0 p1 r2 r3 r4 h0 n0) 0 0 19 #[.val (.ref r0), .val (.int p1), .val (.ref r2), .val (.ref r3), .val (.ref r4)] []
  refine own_st (fun _ k => XS.aloadN X21.here hx rfl (hb hby d1_19) rfl rfl k) ?_
  show own_Go X21 (Q1 Z r0 p1 r2 r3 r4 h0 n0) 0 0 20 #[.val (.ref r0), .val (.int p1), .val (.ref r2), .val (.ref r3), .val (.ref r4)] [(.ref r0)]
  refine own_st (fun _ k => XS.aload X21.here hx rfl (hb hby d1_20) rfl rfl k) ?_
  show own_Go X21 (Q1 Z r0 p1 r2 r3 r4 h0 n0) 0 0 22 #[.val (.ref r0), .val (.int p1), .val (.ref r2), .val (.ref r3), .val (.ref r4)] [(.ref r4), (.ref r0)]
  obtain ⟨T30, h30, X30, e30, W30, st30⟩ := putF X21 hx hZ hown (host := "") (Or.inl (hw _ (List.mem_of_getElem? (i := 18) rfl))) Via.refl e21 f_25 f_22 (Or.inr ⟨(hw _ (List.mem_of_getElem? (i := 19) rfl)), rfl, hnm⟩) (hw _ (List.mem_of_getElem? (i := 4) rfl)) (ty := (.array .double)) (by decide) rfl rfl (g := (mkF m 22 #[.val (.ref r0), .val (.int p1), .val (.ref r2), .val (.ref r3), .val (.ref r4)] [(.ref r4), (.ref r0)])) rfl rfl (hb hby d1_22)
  refine own_st st30 ?_
  have f_31 := f_22.wr W30
  have f_32 := f_23.other W30 (Or.inr (slot_ne (Or.inr (hw _ (List.mem_of_getElem? (i := 13) rfl))) (Or.inr (hw _ (List.mem_of_getElem? (i := 19) rfl))) (by decide) (t := .int) (t' := (.array .double)) (by decide) (by decide)))
  have f_33 := f_24.other W30 (Or.inr (slot_ne (Or.inr (hw _ (List.mem_of_getElem? (i := 15) rfl))) (Or.inr (hw _ (List.mem_of_getElem? (i := 19) rfl))) (by decide) (t := (.array .int)) (t' := (.array .double)) (by decide) (by decide)))
  have f_34 := f_28.other W30 (Or.inr (slot_ne (Or.inr (hw _ (List.mem_of_getElem? (i := 17) rfl))) (Or.inr (hw _ (List.mem_of_getElem? (i := 19) rfl))) (by decide) (t := (.array .int)) (t' := (.array .double)) (by decide) (by decide)))
  have Z_35 := Nat.le_trans Z_26 (Nat.le_of_eq W30.size.symm)
  have K_36 := K_27.wr W30 (Or.inl (List.mem_of_getElem? (i := 0) rfl))
  have f_37 := f_25.same W30
  have N_38 := Fr.snoc X30 N_29 PG
  show own_Go X30 (Q1 Z r0 p1 r2 r3 r4 h0 n0) 0 0 25 #[.val (.ref r0), .val (.int p1), .val (.ref r2), .val (.ref r3), .val (.ref r4)] []
  refine own_retV X30 hx Bd.returns hlk e30 (hb hby d1_25) (by decide) (by decide) ?_
  exact ⟨rfl, N_38, K_36, f_32, f_33, f_34, f_37⟩
theorem d3_0 : decode prog_40_method_3_code 0 = .ok (.aload_n 0, 1) := by decide +kernel
theorem d3_1 : decode prog_40_method_3_code 1 = .ok (.getfield 13, 3) := by decide +kernel
theorem d3_4 : decode prog_40_method_3_code 4 = .ok (.iload_n 1, 1) := by decide +kernel
theorem d3_5 : decode prog_40_method_3_code 5 = .ok (.iconst 1, 1) := by decide +kernel
theorem d3_6 : decode prog_40_method_3_code 6 = .ok (.iadd, 1) := by decide +kernel
theorem d3_7 : decode prog_40_method_3_code 7 = .ok (.iaload, 1) := by decide +kernel
theorem d3_8 : decode prog_40_method_3_code 8 = .ok (.aload_n 0, 1) := by decide +kernel
theorem d3_9 : decode prog_40_method_3_code 9 = .ok (.getfield 13, 3) := by decide +kernel
theorem d3_12 : decode prog_40_method_3_code 12 = .ok (.iload_n 1, 1) := by decide +kernel
theorem d3_13 : decode prog_40_method_3_code 13 = .ok (.iaload, 1) := by decide +kernel
theorem d3_14 : decode prog_40_method_3_code 14 = .ok (.isub, 1) := by decide +kernel
theorem d3_15 : decode prog_40_method_3_code 15 = .ok (.ireturn, 1) := by decide +kernel
theorem pn_3 : plainName "com/example/bulk_retrieval/bulkretrieval/index/Neighbours" = true := by first | (simp [plainName, overriddenIn]; done) | decide +kernel
theorem ef_3 (m : MethodId) (r0 : Addr) (p1 : Int32) : entryFrame m #[(.ref r0), (.int p1)] 2 = mkF m 0 #[.val (.ref r0), .val (.int p1)] [] := by first | (simp [entryFrame, mkF, argsToLocals, Value.category]; done) | rfl
def Q3 (Z : State) (r0 : Addr) (p1 : Int32) (sa : Addr) (k : ClassId) (nn : Int32) (vs : List Value) (xx yy : Int32) (h0 : Heap) (n0 : Nat) (v : Option Value) (h : Heap) (L : List Loc) : Prop := v = some (.int (xx - yy)) ∧ Fr n0 L ∧ h = h0
set_option maxRecDepth 65536 in
set_option maxHeartbeats 40000000 in
theorem rm3 (l : Launch) (Z : State) (a0 : Array Value) (hw : ∀ d ∈ tables_1, d.before a0 Z = true) (ws : List Jvm.Cond) (r0 : Addr) (p1 : Int32) (sa : Addr) (k : ClassId) (nn : Int32) (vs : List Value) (xx yy : Int32) (h0 : Heap) (n0 : Nat) (Z0 : n0 ≤ h0.size) (PF : Fld Z h0 r0 "com/example/bulk_retrieval/bulkretrieval/index/Neighbours" "starts" "[I" (.ref sa)) (PV : Arv Z h0 sa k .int nn vs (.int (0 : Int32))) (B1 : ¬ (p1 + (1 : Int32)) < 0 ∧ (p1 + (1 : Int32)) < nn) (B0 : ¬ p1 < 0 ∧ p1 < nn) (h1 : vs.getD (p1 + (1 : Int32)).toNatClampNeg (.int (0 : Int32)) = .int xx) (h2 : vs.getD p1.toNatClampNeg (.int (0 : Int32)) = .int yy) :
    MetFree l (⟨"com/example/bulk_retrieval/bulkretrieval/index/Neighbours", "count", "(I)I"⟩ : MethodName) (head1 (Jvm.Cond.code (⟨"com/example/bulk_retrieval/bulkretrieval/index/Neighbours", "count", "(I)I"⟩ : MethodName) prog_40_method_3_code 2 (some .int) :: ws) ({ frames := 0, cells := 0, slots := 0, locals := 0 } : Room)) (fun a U => a = #[(.ref r0), (.int p1)] ∧ Z.Warmed39 U.vm ∧ U.heap = h0) (fun _ _ _ _ _ => True) (fun _ U o U' => ∃ v L, o = .returned v ∧ Q3 Z r0 p1 sa k nn vs xx yy h0 n0 v U'.heap L ∧ FrameEnd U o U' L ({ frames := 0, cells := 0, slots := 0, locals := 0 } : Room).cells ({ frames := 0, cells := 0, slots := 0, locals := 0 } : Room).slots) := by
  refine MetFree.of_bodySF (plainFor_of_name pn_3) hisR ?_
  intro p e s m args below meth c s₁ Bd hml0 hP hK
  obtain ⟨rfl, hZ, hh⟩ := hP
  have hx := Bd.exec
  have hby := Bd.bytes
  have hml : c.maxLocals = 2 := hml0
  have hown : s.vm.findClass "com/example/bulk_retrieval/bulkretrieval/index/Neighbours" = some m.cls := findClass_of_methodNamed Bd.named
  have hnm := (name_of_methodNamed Bd.named Bd.method).1
  have hlk : meth.locks = false := Bd.notSynchronized
  have X0 : Stand p l e ({ frames := 0, cells := 0, slots := 0, locals := 0 } : Room) s m #[(.ref r0), (.int p1)] below meth c s₁ [] 0 0 := Stand.of_body Bd
  have e0 : s₁.heap = h0 := by rw [← hh, Bd.state]; rfl
  have N0 := Fr.nil n0
  refine own_cast (Q := Q3 Z r0 p1 sa k nn vs xx yy h0 n0) (kc := 0) (ks := 0) (ef_3 m r0 p1) ?_
  refine own_st (fun _ k => XS.aloadN X0.here hx rfl (hb hby d3_0) rfl rfl k) ?_
  show own_Go X0 (Q3 Z r0 p1 sa k nn vs xx yy h0 n0) 0 0 1 #[.val (.ref r0), .val (.int p1)] [(.ref r0)]
  obtain ⟨T1, X1, e1, st1⟩ := getF X0 hx hZ hown (host := "") (Or.inl (hw _ (List.mem_of_getElem? (i := 14) rfl))) Via.refl e0 PF (g := (mkF m 1 #[.val (.ref r0), .val (.int p1)] [(.ref r0)])) rfl rfl (hb hby d3_1)
  refine own_st st1 ?_
  show own_Go X1 (Q3 Z r0 p1 sa k nn vs xx yy h0 n0) 0 0 4 #[.val (.ref r0), .val (.int p1)] [(.ref sa)]
  refine own_st (fun _ k => XS.iloadN X1.here hx rfl (hb hby d3_4) rfl k) ?_
  show own_Go X1 (Q3 Z r0 p1 sa k nn vs xx yy h0 n0) 0 0 5 #[.val (.ref r0), .val (.int p1)] [(.int p1), (.ref sa)]
  refine own_st (fun _ k => XS.iconst X1.here hx rfl (hb hby d3_5) k) ?_
  show own_Go X1 (Q3 Z r0 p1 sa k nn vs xx yy h0 n0) 0 0 6 #[.val (.ref r0), .val (.int p1)] [(.int (1 : Int32)), (.int p1), (.ref sa)]
  refine own_st (fun _ k => XS.iadd X1.here hx rfl (hb hby d3_6) rfl k) ?_
  show own_Go X1 (Q3 Z r0 p1 sa k nn vs xx yy h0 n0) 0 0 7 #[.val (.ref r0), .val (.int p1)] [(.int (p1 + (1 : Int32))), (.ref sa)]
  refine own_st (fun _ k => own_ldI X1 hx hZ e1 PV (j := (p1 + (1 : Int32))) B1 (v := (.int xx)) h1 (g := (mkF m 7 #[.val (.ref r0), .val (.int p1)] [(.int (p1 + (1 : Int32))), (.ref sa)])) rfl rfl (hb hby d3_7) _ k) ?_
  show own_Go X1 (Q3 Z r0 p1 sa k nn vs xx yy h0 n0) 0 0 8 #[.val (.ref r0), .val (.int p1)] [(.int xx)]
  refine own_st (fun _ k => XS.aloadN X1.here hx rfl (hb hby d3_8) rfl rfl k) ?_
  show own_Go X1 (Q3 Z r0 p1 sa k nn vs xx yy h0 n0) 0 0 9 #[.val (.ref r0), .val (.int p1)] [(.ref r0), (.int xx)]
  obtain ⟨T2, X2, e2, st2⟩ := getF X1 hx hZ hown (host := "") (Or.inl (hw _ (List.mem_of_getElem? (i := 14) rfl))) Via.refl e1 PF (g := (mkF m 9 #[.val (.ref r0), .val (.int p1)] [(.ref r0), (.int xx)])) rfl rfl (hb hby d3_9)
  refine own_st st2 ?_
  show own_Go X2 (Q3 Z r0 p1 sa k nn vs xx yy h0 n0) 0 0 12 #[.val (.ref r0), .val (.int p1)] [(.ref sa), (.int xx)]
  refine own_st (fun _ k => XS.iloadN X2.here hx rfl (hb hby d3_12) rfl k) ?_
  show own_Go X2 (Q3 Z r0 p1 sa k nn vs xx yy h0 n0) 0 0 13 #[.val (.ref r0), .val (.int p1)] [(.int p1), (.ref sa), (.int xx)]
  refine own_st (fun _ k => own_ldI X2 hx hZ e2 PV (j := p1) B0 (v := (.int yy)) h2 (g := (mkF m 13 #[.val (.ref r0), .val (.int p1)] [(.int p1), (.ref sa), (.int xx)])) rfl rfl (hb hby d3_13) _ k) ?_
  show own_Go X2 (Q3 Z r0 p1 sa k nn vs xx yy h0 n0) 0 0 14 #[.val (.ref r0), .val (.int p1)] [(.int yy), (.int xx)]
  refine own_st (fun _ k => XS.isub X2.here hx rfl (hb hby d3_14) rfl k) ?_
  show own_Go X2 (Q3 Z r0 p1 sa k nn vs xx yy h0 n0) 0 0 15 #[.val (.ref r0), .val (.int p1)] [(.int (xx - yy))]
  refine own_retI X2 hx Bd.returns hlk e2 (hb hby d3_15) (by decide) (by decide) ?_
  exact ⟨rfl, N0, rfl⟩
theorem pn_0 : plainName "com/example/bulk_retrieval/bulkretrieval/index/NeighboursCountPinLaw" = true := by first | (simp [plainName, overriddenIn]; done) | decide +kernel
theorem pd_0_0 : parseMethodDescriptor "(I[I[I[D)V" = some ⟨[.int, (.array .int), (.array .int), (.array .double)], none⟩ := by decide +kernel
theorem pd_0_1 : parseMethodDescriptor "(I)I" = some ⟨[.int], some .int⟩ := by decide +kernel
theorem ef_0 (m : MethodId) (p0 : Int32) (p1 : Int32) (p2 : Int32) : entryFrame m #[(.int p0), (.int p1), (.int p2)] maxLocals = mkF m 0 #[.val (.int p0), .val (.int p1), .val (.int p2), .unset, .unset, .unset, .unset, .unset, .unset, .unset] [] := by first | (simp [entryFrame, mkF, argsToLocals, Value.category, maxLocals]; done) | rfl
def Q0 (Z : State) (p0 : Int32) (p1 : Int32) (p2 : Int32)  (h0 : Heap) (n0 : Nat) (v : Option Value) (h : Heap) (L : List Loc) : Prop := v = some (.int 1) ∧ Fr n0 L
set_option maxRecDepth 65536 in
set_option maxHeartbeats 40000000 in
theorem rm0 (l : Launch) (Z : State) (a0 : Array Value) (hw : ∀ d ∈ tables_1, d.before a0 Z = true) (ws : List Jvm.Cond) (p0 : Int32) (p1 : Int32) (p2 : Int32)  (h0 : Heap) (n0 : Nat) (Z0 : n0 ≤ h0.size)  :
    MetFree l x (head1 (Jvm.Cond.code x code maxLocals ret :: ws) room_1) (fun a U => a = #[(.int p0), (.int p1), (.int p2)] ∧ Z.Warmed39 U.vm ∧ U.heap = h0) (fun _ _ _ _ _ => True) (fun _ U o U' => ∃ v L, o = .returned v ∧ Q0 Z p0 p1 p2 h0 n0 v U'.heap L ∧ FrameEnd U o U' L 4 614) := by
  refine MetFree.of_bodySF (plainFor_of_name pn_0) hisR ?_
  intro p e s m args below meth c s₁ Bd hml0 hP hK
  obtain ⟨rfl, hZ, hh⟩ := hP
  have hx := Bd.exec
  have hby := Bd.bytes
  have hml : c.maxLocals = 10 := hml0
  have hown : s.vm.findClass "com/example/bulk_retrieval/bulkretrieval/index/NeighboursCountPinLaw" = some m.cls := findClass_of_methodNamed Bd.named
  have hnm := (name_of_methodNamed Bd.named Bd.method).1
  have hlk : meth.locks = false := Bd.notSynchronized
  have X0 : Stand p l e room_1 s m #[(.int p0), (.int p1), (.int p2)] below meth c s₁ [] 0 0 := Stand.of_body Bd
  have e0 : s₁.heap = h0 := by rw [← hh, Bd.state]; rfl
  have N0 := Fr.nil n0
  refine own_cast (Q := Q0 Z p0 p1 p2 h0 n0) (kc := 4) (ks := 614) (ef_0 m p0 p1 p2) ?_
  refine own_st (fun _ k => XS.iloadN X0.here hx rfl (hb hby at_0) rfl k) ?_
  show own_Go X0 (Q0 Z p0 p1 p2 h0 n0) 4 614 1 #[.val (.int p0), .val (.int p1), .val (.int p2), .unset, .unset, .unset, .unset, .unset, .unset, .unset] [(.int p0)]
  refine own_st (fun t k => X0.ldcInt hx hown (mvT hZ (hw _ (List.mem_of_getElem? (i := 0) rfl))) (g := (mkF m 1 #[.val (.int p0), .val (.int p1), .val (.int p2), .unset, .unset, .unset, .unset, .unset, .unset, .unset] [(.int p0)])) rfl (hb hby at_1) t k) ?_
  show own_Go X0 (Q0 Z p0 p1 p2 h0 n0) 4 614 3 #[.val (.int p0), .val (.int p1), .val (.int p2), .unset, .unset, .unset, .unset, .unset, .unset, .unset] [(.int (2147483647 : Int32)), (.int p0)]
  refine own_st (fun _ k => XS.iand X0.here hx rfl (hb hby at_3) rfl k) ?_
  show own_Go X0 (Q0 Z p0 p1 p2 h0 n0) 4 614 4 #[.val (.int p0), .val (.int p1), .val (.int p2), .unset, .unset, .unset, .unset, .unset, .unset, .unset] [(.int (p0 &&& (2147483647 : Int32)))]
  refine own_st (fun _ k => XS.bipush X0.here hx rfl (hb hby at_4) k) ?_
  show own_Go X0 (Q0 Z p0 p1 p2 h0 n0) 4 614 6 #[.val (.int p0), .val (.int p1), .val (.int p2), .unset, .unset, .unset, .unset, .unset, .unset, .unset] [(.int (101 : Int32)), (.int (p0 &&& (2147483647 : Int32)))]
  refine own_st (fun _ k => iremM X0 hx rfl (hb hby at_6) rfl (by decide) k) ?_
  show own_Go X0 (Q0 Z p0 p1 p2 h0 n0) 4 614 7 #[.val (.int p0), .val (.int p1), .val (.int p2), .unset, .unset, .unset, .unset, .unset, .unset, .unset] [(.int ((p0 &&& (2147483647 : Int32)) % (101 : Int32)))]
  refine own_st (fun _ k => XS.istoreN X0.here hx rfl (hb hby at_7) rfl (l' := #[.val (.int p0), .val (.int p1), .val (.int p2), .val (.int ((p0 &&& (2147483647 : Int32)) % (101 : Int32))), .unset, .unset, .unset, .unset, .unset, .unset]) rfl k) ?_
  show own_Go X0 (Q0 Z p0 p1 p2 h0 n0) 4 614 8 #[.val (.int p0), .val (.int p1), .val (.int p2), .val (.int ((p0 &&& (2147483647 : Int32)) % (101 : Int32))), .unset, .unset, .unset, .unset, .unset, .unset] []
  generalize hxa : ((p0 &&& (2147483647 : Int32)) % (101 : Int32)) = xa
  show own_Go X0 (Q0 Z p0 p1 p2 h0 n0) 4 614 8 #[.val (.int p0), .val (.int p1), .val (.int p2), .val (.int xa), .unset, .unset, .unset, .unset, .unset, .unset] []
  refine own_st (fun _ k => XS.iloadN X0.here hx rfl (hb hby at_8) rfl k) ?_
  show own_Go X0 (Q0 Z p0 p1 p2 h0 n0) 4 614 9 #[.val (.int p0), .val (.int p1), .val (.int p2), .val (.int xa), .unset, .unset, .unset, .unset, .unset, .unset] [(.int p1)]
  refine own_st (fun t k => X0.ldcInt hx hown (mvT hZ (hw _ (List.mem_of_getElem? (i := 0) rfl))) (g := (mkF m 9 #[.val (.int p0), .val (.int p1), .val (.int p2), .val (.int xa), .unset, .unset, .unset, .unset, .unset, .unset] [(.int p1)])) rfl (hb hby at_9) t k) ?_
  show own_Go X0 (Q0 Z p0 p1 p2 h0 n0) 4 614 11 #[.val (.int p0), .val (.int p1), .val (.int p2), .val (.int xa), .unset, .unset, .unset, .unset, .unset, .unset] [(.int (2147483647 : Int32)), (.int p1)]
  refine own_st (fun _ k => XS.iand X0.here hx rfl (hb hby at_11) rfl k) ?_
  show own_Go X0 (Q0 Z p0 p1 p2 h0 n0) 4 614 12 #[.val (.int p0), .val (.int p1), .val (.int p2), .val (.int xa), .unset, .unset, .unset, .unset, .unset, .unset] [(.int (p1 &&& (2147483647 : Int32)))]
  refine own_st (fun _ k => XS.bipush X0.here hx rfl (hb hby at_12) k) ?_
  show own_Go X0 (Q0 Z p0 p1 p2 h0 n0) 4 614 14 #[.val (.int p0), .val (.int p1), .val (.int p2), .val (.int xa), .unset, .unset, .unset, .unset, .unset, .unset] [(.int (101 : Int32)), (.int (p1 &&& (2147483647 : Int32)))]
  refine own_st (fun _ k => iremM X0 hx rfl (hb hby at_14) rfl (by decide) k) ?_
  show own_Go X0 (Q0 Z p0 p1 p2 h0 n0) 4 614 15 #[.val (.int p0), .val (.int p1), .val (.int p2), .val (.int xa), .unset, .unset, .unset, .unset, .unset, .unset] [(.int ((p1 &&& (2147483647 : Int32)) % (101 : Int32)))]
  refine own_st (fun _ k => XS.istore X0.here hx rfl (hb hby at_15) rfl (l' := #[.val (.int p0), .val (.int p1), .val (.int p2), .val (.int xa), .val (.int ((p1 &&& (2147483647 : Int32)) % (101 : Int32))), .unset, .unset, .unset, .unset, .unset]) rfl k) ?_
  show own_Go X0 (Q0 Z p0 p1 p2 h0 n0) 4 614 17 #[.val (.int p0), .val (.int p1), .val (.int p2), .val (.int xa), .val (.int ((p1 &&& (2147483647 : Int32)) % (101 : Int32))), .unset, .unset, .unset, .unset, .unset] []
  generalize hxb : ((p1 &&& (2147483647 : Int32)) % (101 : Int32)) = xb
  show own_Go X0 (Q0 Z p0 p1 p2 h0 n0) 4 614 17 #[.val (.int p0), .val (.int p1), .val (.int p2), .val (.int xa), .val (.int xb), .unset, .unset, .unset, .unset, .unset] []
  refine own_st (fun _ k => XS.iloadN X0.here hx rfl (hb hby at_17) rfl k) ?_
  show own_Go X0 (Q0 Z p0 p1 p2 h0 n0) 4 614 18 #[.val (.int p0), .val (.int p1), .val (.int p2), .val (.int xa), .val (.int xb), .unset, .unset, .unset, .unset, .unset] [(.int p2)]
  refine own_st (fun t k => X0.ldcInt hx hown (mvT hZ (hw _ (List.mem_of_getElem? (i := 0) rfl))) (g := (mkF m 18 #[.val (.int p0), .val (.int p1), .val (.int p2), .val (.int xa), .val (.int xb), .unset, .unset, .unset, .unset, .unset] [(.int p2)])) rfl (hb hby at_18) t k) ?_
  show own_Go X0 (Q0 Z p0 p1 p2 h0 n0) 4 614 20 #[.val (.int p0), .val (.int p1), .val (.int p2), .val (.int xa), .val (.int xb), .unset, .unset, .unset, .unset, .unset] [(.int (2147483647 : Int32)), (.int p2)]
  refine own_st (fun _ k => XS.iand X0.here hx rfl (hb hby at_20) rfl k) ?_
  show own_Go X0 (Q0 Z p0 p1 p2 h0 n0) 4 614 21 #[.val (.int p0), .val (.int p1), .val (.int p2), .val (.int xa), .val (.int xb), .unset, .unset, .unset, .unset, .unset] [(.int (p2 &&& (2147483647 : Int32)))]
  refine own_st (fun _ k => XS.bipush X0.here hx rfl (hb hby at_21) k) ?_
  show own_Go X0 (Q0 Z p0 p1 p2 h0 n0) 4 614 23 #[.val (.int p0), .val (.int p1), .val (.int p2), .val (.int xa), .val (.int xb), .unset, .unset, .unset, .unset, .unset] [(.int (101 : Int32)), (.int (p2 &&& (2147483647 : Int32)))]
  refine own_st (fun _ k => iremM X0 hx rfl (hb hby at_23) rfl (by decide) k) ?_
  show own_Go X0 (Q0 Z p0 p1 p2 h0 n0) 4 614 24 #[.val (.int p0), .val (.int p1), .val (.int p2), .val (.int xa), .val (.int xb), .unset, .unset, .unset, .unset, .unset] [(.int ((p2 &&& (2147483647 : Int32)) % (101 : Int32)))]
  refine own_st (fun _ k => XS.istore X0.here hx rfl (hb hby at_24) rfl (l' := #[.val (.int p0), .val (.int p1), .val (.int p2), .val (.int xa), .val (.int xb), .val (.int ((p2 &&& (2147483647 : Int32)) % (101 : Int32))), .unset, .unset, .unset, .unset]) rfl k) ?_
  show own_Go X0 (Q0 Z p0 p1 p2 h0 n0) 4 614 26 #[.val (.int p0), .val (.int p1), .val (.int p2), .val (.int xa), .val (.int xb), .val (.int ((p2 &&& (2147483647 : Int32)) % (101 : Int32))), .unset, .unset, .unset, .unset] []
  generalize hxc : ((p2 &&& (2147483647 : Int32)) % (101 : Int32)) = xc
  show own_Go X0 (Q0 Z p0 p1 p2 h0 n0) 4 614 26 #[.val (.int p0), .val (.int p1), .val (.int p2), .val (.int xa), .val (.int xb), .val (.int xc), .unset, .unset, .unset, .unset] []
  refine own_st (fun _ k => XS.iconst X0.here hx rfl (hb hby at_26) k) ?_
  show own_Go X0 (Q0 Z p0 p1 p2 h0 n0) 4 614 27 #[.val (.int p0), .val (.int p1), .val (.int p2), .val (.int xa), .val (.int xb), .val (.int xc), .unset, .unset, .unset, .unset] [(.int (4 : Int32))]
  obtain ⟨T1, h1, k1, X1, e1, E1, A1, st1⟩ := newP X0 hx hZ (hw _ (List.mem_of_getElem? (i := 1) rfl)) e0 (g := (mkF m 27 #[.val (.int p0), .val (.int p1), .val (.int p2), .val (.int xa), .val (.int xb), .val (.int xc), .unset, .unset, .unset, .unset] [(.int (4 : Int32))])) rfl (hb hby at_27) rfl (by decide) (cap := 4) (by decide) (by decide) (by decide) (by decide)
  obtain ⟨b1, g1⟩ : ∃ z, z = h0.size := ⟨_, rfl⟩
  rw [← g1] at A1 st1
  refine own_st st1 ?_
  have G_2 := Nat.le_trans Z0 (Nat.le_of_eq g1.symm)
  have Z_3 := Nat.le_trans Z0 E1.1
  have V1 : Arv Z h1 b1 k1 .int (4 : Int32) [(.int (0 : Int32)), (.int (0 : Int32)), (.int (0 : Int32)), (.int (0 : Int32))] (.int (0 : Int32)) := (Arv.new A1 (by decide)).pad (pad_rep [] (.int (0 : Int32)) 4)
  show own_Go X1 (Q0 Z p0 p1 p2 h0 n0) 4 614 29 #[.val (.int p0), .val (.int p1), .val (.int p2), .val (.int xa), .val (.int xb), .val (.int xc), .unset, .unset, .unset, .unset] [(.ref b1)]
  refine own_st (fun _ k => XS.astore X1.here hx rfl (hb hby at_29) rfl rfl (l' := #[.val (.int p0), .val (.int p1), .val (.int p2), .val (.int xa), .val (.int xb), .val (.int xc), .val (.ref b1), .unset, .unset, .unset]) rfl k) ?_
  show own_Go X1 (Q0 Z p0 p1 p2 h0 n0) 4 614 31 #[.val (.int p0), .val (.int p1), .val (.int p2), .val (.int xa), .val (.int xb), .val (.int xc), .val (.ref b1), .unset, .unset, .unset] []
  refine own_st (fun _ k => XS.aload X1.here hx rfl (hb hby at_31) rfl rfl k) ?_
  show own_Go X1 (Q0 Z p0 p1 p2 h0 n0) 4 614 33 #[.val (.int p0), .val (.int p1), .val (.int p2), .val (.int xa), .val (.int xb), .val (.int xc), .val (.ref b1), .unset, .unset, .unset] [(.ref b1)]
  refine own_st (fun _ k => XS.iconst X1.here hx rfl (hb hby at_33) k) ?_
  show own_Go X1 (Q0 Z p0 p1 p2 h0 n0) 4 614 34 #[.val (.int p0), .val (.int p1), .val (.int p2), .val (.int xa), .val (.int xb), .val (.int xc), .val (.ref b1), .unset, .unset, .unset] [(.int (0 : Int32)), (.ref b1)]
  refine own_st (fun _ k => XS.iconst X1.here hx rfl (hb hby at_34) k) ?_
  show own_Go X1 (Q0 Z p0 p1 p2 h0 n0) 4 614 35 #[.val (.int p0), .val (.int p1), .val (.int p2), .val (.int xa), .val (.int xb), .val (.int xc), .val (.ref b1), .unset, .unset, .unset] [(.int (0 : Int32)), (.int (0 : Int32)), (.ref b1)]
  obtain ⟨T4, h4, X4, e4, W4, V4, st4⟩ := own_stI X1 hx hZ e1 V1 (j := (0 : Int32)) ⟨by decide, by decide⟩ (Nat.le_of_ble_eq_true rfl) (g := (mkF m 35 #[.val (.int p0), .val (.int p1), .val (.int p2), .val (.int xa), .val (.int xb), .val (.int xc), .val (.ref b1), .unset, .unset, .unset] [(.int (0 : Int32)), (.int (0 : Int32)), (.ref b1)])) rfl rfl (hb hby at_35)
  refine own_st st4 ?_
  have Z_5 := Nat.le_trans Z_3 (Nat.le_of_eq W4.size.symm)
  have U4 : Arv Z h4 b1 k1 .int (4 : Int32) [(.int (0 : Int32)), (.int (0 : Int32)), (.int (0 : Int32)), (.int (0 : Int32))] (.int (0 : Int32)) := V4
  have N_6 := Fr.snoc X4 N0 G_2
  show own_Go X4 (Q0 Z p0 p1 p2 h0 n0) 4 614 36 #[.val (.int p0), .val (.int p1), .val (.int p2), .val (.int xa), .val (.int xb), .val (.int xc), .val (.ref b1), .unset, .unset, .unset] []
  refine own_st (fun _ k => XS.aload X4.here hx rfl (hb hby at_36) rfl rfl k) ?_
  show own_Go X4 (Q0 Z p0 p1 p2 h0 n0) 4 614 38 #[.val (.int p0), .val (.int p1), .val (.int p2), .val (.int xa), .val (.int xb), .val (.int xc), .val (.ref b1), .unset, .unset, .unset] [(.ref b1)]
  refine own_st (fun _ k => XS.iconst X4.here hx rfl (hb hby at_38) k) ?_
  show own_Go X4 (Q0 Z p0 p1 p2 h0 n0) 4 614 39 #[.val (.int p0), .val (.int p1), .val (.int p2), .val (.int xa), .val (.int xb), .val (.int xc), .val (.ref b1), .unset, .unset, .unset] [(.int (1 : Int32)), (.ref b1)]
  refine own_st (fun _ k => XS.iloadN X4.here hx rfl (hb hby at_39) rfl k) ?_
  show own_Go X4 (Q0 Z p0 p1 p2 h0 n0) 4 614 40 #[.val (.int p0), .val (.int p1), .val (.int p2), .val (.int xa), .val (.int xb), .val (.int xc), .val (.ref b1), .unset, .unset, .unset] [(.int xa), (.int (1 : Int32)), (.ref b1)]
  obtain ⟨T7, h7, X7, e7, W7, V7, st7⟩ := own_stI X4 hx hZ e4 U4 (j := (1 : Int32)) ⟨by decide, by decide⟩ (Nat.le_of_ble_eq_true rfl) (g := (mkF m 40 #[.val (.int p0), .val (.int p1), .val (.int p2), .val (.int xa), .val (.int xb), .val (.int xc), .val (.ref b1), .unset, .unset, .unset] [(.int xa), (.int (1 : Int32)), (.ref b1)])) rfl rfl (hb hby at_40)
  refine own_st st7 ?_
  have Z_8 := Nat.le_trans Z_5 (Nat.le_of_eq W7.size.symm)
  have U7 : Arv Z h7 b1 k1 .int (4 : Int32) [(.int (0 : Int32)), (.int xa), (.int (0 : Int32)), (.int (0 : Int32))] (.int (0 : Int32)) := V7
  have N_9 := Fr.snoc X7 N_6 G_2
  show own_Go X7 (Q0 Z p0 p1 p2 h0 n0) 4 614 41 #[.val (.int p0), .val (.int p1), .val (.int p2), .val (.int xa), .val (.int xb), .val (.int xc), .val (.ref b1), .unset, .unset, .unset] []
  refine own_st (fun _ k => XS.aload X7.here hx rfl (hb hby at_41) rfl rfl k) ?_
  show own_Go X7 (Q0 Z p0 p1 p2 h0 n0) 4 614 43 #[.val (.int p0), .val (.int p1), .val (.int p2), .val (.int xa), .val (.int xb), .val (.int xc), .val (.ref b1), .unset, .unset, .unset] [(.ref b1)]
  refine own_st (fun _ k => XS.iconst X7.here hx rfl (hb hby at_43) k) ?_
  show own_Go X7 (Q0 Z p0 p1 p2 h0 n0) 4 614 44 #[.val (.int p0), .val (.int p1), .val (.int p2), .val (.int xa), .val (.int xb), .val (.int xc), .val (.ref b1), .unset, .unset, .unset] [(.int (2 : Int32)), (.ref b1)]
  refine own_st (fun _ k => XS.iloadN X7.here hx rfl (hb hby at_44) rfl k) ?_
  show own_Go X7 (Q0 Z p0 p1 p2 h0 n0) 4 614 45 #[.val (.int p0), .val (.int p1), .val (.int p2), .val (.int xa), .val (.int xb), .val (.int xc), .val (.ref b1), .unset, .unset, .unset] [(.int xa), (.int (2 : Int32)), (.ref b1)]
  refine own_st (fun _ k => XS.iload X7.here hx rfl (hb hby at_45) rfl k) ?_
  show own_Go X7 (Q0 Z p0 p1 p2 h0 n0) 4 614 47 #[.val (.int p0), .val (.int p1), .val (.int p2), .val (.int xa), .val (.int xb), .val (.int xc), .val (.ref b1), .unset, .unset, .unset] [(.int xb), (.int xa), (.int (2 : Int32)), (.ref b1)]
  refine own_st (fun _ k => XS.iadd X7.here hx rfl (hb hby at_47) rfl k) ?_
  show own_Go X7 (Q0 Z p0 p1 p2 h0 n0) 4 614 48 #[.val (.int p0), .val (.int p1), .val (.int p2), .val (.int xa), .val (.int xb), .val (.int xc), .val (.ref b1), .unset, .unset, .unset] [(.int (xa + xb)), (.int (2 : Int32)), (.ref b1)]
  obtain ⟨T10, h10, X10, e10, W10, V10, st10⟩ := own_stI X7 hx hZ e7 U7 (j := (2 : Int32)) ⟨by decide, by decide⟩ (Nat.le_of_ble_eq_true rfl) (g := (mkF m 48 #[.val (.int p0), .val (.int p1), .val (.int p2), .val (.int xa), .val (.int xb), .val (.int xc), .val (.ref b1), .unset, .unset, .unset] [(.int (xa + xb)), (.int (2 : Int32)), (.ref b1)])) rfl rfl (hb hby at_48)
  refine own_st st10 ?_
  have Z_11 := Nat.le_trans Z_8 (Nat.le_of_eq W10.size.symm)
  have U10 : Arv Z h10 b1 k1 .int (4 : Int32) [(.int (0 : Int32)), (.int xa), (.int (xa + xb)), (.int (0 : Int32))] (.int (0 : Int32)) := V10
  have N_12 := Fr.snoc X10 N_9 G_2
  show own_Go X10 (Q0 Z p0 p1 p2 h0 n0) 4 614 49 #[.val (.int p0), .val (.int p1), .val (.int p2), .val (.int xa), .val (.int xb), .val (.int xc), .val (.ref b1), .unset, .unset, .unset] []
  refine own_st (fun _ k => XS.aload X10.here hx rfl (hb hby at_49) rfl rfl k) ?_
  show own_Go X10 (Q0 Z p0 p1 p2 h0 n0) 4 614 51 #[.val (.int p0), .val (.int p1), .val (.int p2), .val (.int xa), .val (.int xb), .val (.int xc), .val (.ref b1), .unset, .unset, .unset] [(.ref b1)]
  refine own_st (fun _ k => XS.iconst X10.here hx rfl (hb hby at_51) k) ?_
  show own_Go X10 (Q0 Z p0 p1 p2 h0 n0) 4 614 52 #[.val (.int p0), .val (.int p1), .val (.int p2), .val (.int xa), .val (.int xb), .val (.int xc), .val (.ref b1), .unset, .unset, .unset] [(.int (3 : Int32)), (.ref b1)]
  refine own_st (fun _ k => XS.iloadN X10.here hx rfl (hb hby at_52) rfl k) ?_
  show own_Go X10 (Q0 Z p0 p1 p2 h0 n0) 4 614 53 #[.val (.int p0), .val (.int p1), .val (.int p2), .val (.int xa), .val (.int xb), .val (.int xc), .val (.ref b1), .unset, .unset, .unset] [(.int xa), (.int (3 : Int32)), (.ref b1)]
  refine own_st (fun _ k => XS.iload X10.here hx rfl (hb hby at_53) rfl k) ?_
  show own_Go X10 (Q0 Z p0 p1 p2 h0 n0) 4 614 55 #[.val (.int p0), .val (.int p1), .val (.int p2), .val (.int xa), .val (.int xb), .val (.int xc), .val (.ref b1), .unset, .unset, .unset] [(.int xb), (.int xa), (.int (3 : Int32)), (.ref b1)]
  refine own_st (fun _ k => XS.iadd X10.here hx rfl (hb hby at_55) rfl k) ?_
  show own_Go X10 (Q0 Z p0 p1 p2 h0 n0) 4 614 56 #[.val (.int p0), .val (.int p1), .val (.int p2), .val (.int xa), .val (.int xb), .val (.int xc), .val (.ref b1), .unset, .unset, .unset] [(.int (xa + xb)), (.int (3 : Int32)), (.ref b1)]
  refine own_st (fun _ k => XS.iload X10.here hx rfl (hb hby at_56) rfl k) ?_
  show own_Go X10 (Q0 Z p0 p1 p2 h0 n0) 4 614 58 #[.val (.int p0), .val (.int p1), .val (.int p2), .val (.int xa), .val (.int xb), .val (.int xc), .val (.ref b1), .unset, .unset, .unset] [(.int xc), (.int (xa + xb)), (.int (3 : Int32)), (.ref b1)]
  refine own_st (fun _ k => XS.iadd X10.here hx rfl (hb hby at_58) rfl k) ?_
  show own_Go X10 (Q0 Z p0 p1 p2 h0 n0) 4 614 59 #[.val (.int p0), .val (.int p1), .val (.int p2), .val (.int xa), .val (.int xb), .val (.int xc), .val (.ref b1), .unset, .unset, .unset] [(.int ((xa + xb) + xc)), (.int (3 : Int32)), (.ref b1)]
  obtain ⟨T13, h13, X13, e13, W13, V13, st13⟩ := own_stI X10 hx hZ e10 U10 (j := (3 : Int32)) ⟨by decide, by decide⟩ (Nat.le_of_ble_eq_true rfl) (g := (mkF m 59 #[.val (.int p0), .val (.int p1), .val (.int p2), .val (.int xa), .val (.int xb), .val (.int xc), .val (.ref b1), .unset, .unset, .unset] [(.int ((xa + xb) + xc)), (.int (3 : Int32)), (.ref b1)])) rfl rfl (hb hby at_59)
  refine own_st st13 ?_
  have Z_14 := Nat.le_trans Z_11 (Nat.le_of_eq W13.size.symm)
  have U13 : Arv Z h13 b1 k1 .int (4 : Int32) [(.int (0 : Int32)), (.int xa), (.int (xa + xb)), (.int ((xa + xb) + xc))] (.int (0 : Int32)) := V13
  have N_15 := Fr.snoc X13 N_12 G_2
  show own_Go X13 (Q0 Z p0 p1 p2 h0 n0) 4 614 60 #[.val (.int p0), .val (.int p1), .val (.int p2), .val (.int xa), .val (.int xb), .val (.int xc), .val (.ref b1), .unset, .unset, .unset] []
  refine own_st (fun _ k => XS.sipush X13.here hx rfl (hb hby at_60) k) ?_
  show own_Go X13 (Q0 Z p0 p1 p2 h0 n0) 4 614 63 #[.val (.int p0), .val (.int p1), .val (.int p2), .val (.int xa), .val (.int xb), .val (.int xc), .val (.ref b1), .unset, .unset, .unset] [(.int (303 : Int32))]
  obtain ⟨T16, h16, k16, X16, e16, E16, A16, st16⟩ := newP X13 hx hZ (hw _ (List.mem_of_getElem? (i := 1) rfl)) e13 (g := (mkF m 63 #[.val (.int p0), .val (.int p1), .val (.int p2), .val (.int xa), .val (.int xb), .val (.int xc), .val (.ref b1), .unset, .unset, .unset] [(.int (303 : Int32))])) rfl (hb hby at_63) rfl (by decide) (cap := 303) (by decide) (by decide) (by decide) (by decide)
  obtain ⟨b16, g16⟩ : ∃ z, z = h13.size := ⟨_, rfl⟩
  rw [← g16] at A16 st16
  refine own_st st16 ?_
  have ne_17 := Nat.ne_of_lt (Nat.lt_of_lt_of_le U13.lt (Nat.le_of_eq g16.symm))
  have G_18 := Nat.le_trans Z_14 (Nat.le_of_eq g16.symm)
  have f_19 := U13.ext E16
  have Z_20 := Nat.le_trans Z_14 E16.1
  have V16 := Arv.new A16 (by decide)
  show own_Go X16 (Q0 Z p0 p1 p2 h0 n0) 4 614 65 #[.val (.int p0), .val (.int p1), .val (.int p2), .val (.int xa), .val (.int xb), .val (.int xc), .val (.ref b1), .unset, .unset, .unset] [(.ref b16)]
  refine own_st (fun _ k => XS.astore X16.here hx rfl (hb hby at_65) rfl rfl (l' := #[.val (.int p0), .val (.int p1), .val (.int p2), .val (.int xa), .val (.int xb), .val (.int xc), .val (.ref b1), .val (.ref b16), .unset, .unset]) rfl k) ?_
  show own_Go X16 (Q0 Z p0 p1 p2 h0 n0) 4 614 67 #[.val (.int p0), .val (.int p1), .val (.int p2), .val (.int xa), .val (.int xb), .val (.int xc), .val (.ref b1), .val (.ref b16), .unset, .unset] []
  refine own_st (fun _ k => XS.sipush X16.here hx rfl (hb hby at_67) k) ?_
  show own_Go X16 (Q0 Z p0 p1 p2 h0 n0) 4 614 70 #[.val (.int p0), .val (.int p1), .val (.int p2), .val (.int xa), .val (.int xb), .val (.int xc), .val (.ref b1), .val (.ref b16), .unset, .unset] [(.int (303 : Int32))]
  obtain ⟨T21, h21, k21, X21, e21, E21, A21, st21⟩ := newP X16 hx hZ (hw _ (List.mem_of_getElem? (i := 2) rfl)) e16 (g := (mkF m 70 #[.val (.int p0), .val (.int p1), .val (.int p2), .val (.int xa), .val (.int xb), .val (.int xc), .val (.ref b1), .val (.ref b16), .unset, .unset] [(.int (303 : Int32))])) rfl (hb hby at_70) rfl (by decide) (cap := 303) (by decide) (by decide) (by decide) (by decide)
  obtain ⟨b21, g21⟩ : ∃ z, z = h16.size := ⟨_, rfl⟩
  rw [← g21] at A21 st21
  refine own_st st21 ?_
  have ne_22 := Nat.ne_of_lt (Nat.lt_of_lt_of_le f_19.lt (Nat.le_of_eq g21.symm))
  have ne_23 := Nat.ne_of_lt (Nat.lt_of_lt_of_le V16.lt (Nat.le_of_eq g21.symm))
  have G_24 := Nat.le_trans Z_20 (Nat.le_of_eq g21.symm)
  have f_25 := f_19.ext E21
  have f_26 := V16.ext E21
  have Z_27 := Nat.le_trans Z_20 E21.1
  have V_28 := Arv.new A21 (by decide)
  show own_Go X21 (Q0 Z p0 p1 p2 h0 n0) 4 614 72 #[.val (.int p0), .val (.int p1), .val (.int p2), .val (.int xa), .val (.int xb), .val (.int xc), .val (.ref b1), .val (.ref b16), .unset, .unset] [(.ref b21)]
  refine own_st (fun _ k => XS.astore X21.here hx rfl (hb hby at_72) rfl rfl (l' := #[.val (.int p0), .val (.int p1), .val (.int p2), .val (.int xa), .val (.int xb), .val (.int xc), .val (.ref b1), .val (.ref b16), .val (.ref b21), .unset]) rfl k) ?_
  show own_Go X21 (Q0 Z p0 p1 p2 h0 n0) 4 614 74 #[.val (.int p0), .val (.int p1), .val (.int p2), .val (.int xa), .val (.int xb), .val (.int xc), .val (.ref b1), .val (.ref b16), .val (.ref b21), .unset] []
  obtain ⟨T29, h29, X29, e29, E29, A29, D29, -, st29⟩ := newO X21 hx hZ hown (hw _ (List.mem_of_getElem? (i := 3) rfl)) (hw _ (List.mem_of_getElem? (i := 4) rfl)) (hw _ (List.mem_of_getElem? (i := 5) rfl)) e21 (g := (mkF m 74 #[.val (.int p0), .val (.int p1), .val (.int p2), .val (.int xa), .val (.int xb), .val (.int xc), .val (.ref b1), .val (.ref b16), .val (.ref b21), .unset] [])) rfl (hb hby at_74) (by decide) (by decide)
  obtain ⟨b29, g29⟩ : ∃ z, z = h21.size := ⟨_, rfl⟩
  rw [← g29] at A29 D29 st29
  refine own_st st29 ?_
  have ne_30 := Nat.ne_of_lt (Nat.lt_of_lt_of_le f_25.lt (Nat.le_of_eq g29.symm))
  have ne_31 := Nat.ne_of_lt (Nat.lt_of_lt_of_le f_26.lt (Nat.le_of_eq g29.symm))
  have ne_32 := Nat.ne_of_lt (Nat.lt_of_lt_of_le V_28.lt (Nat.le_of_eq g29.symm))
  have G_33 := Nat.le_trans Z_27 (Nat.le_of_eq g29.symm)
  have f_34 := f_25.ext E29
  have f_35 := f_26.ext E29
  have f_36 := V_28.ext E29
  have Z_37 := Nat.le_trans Z_27 E29.1
  have F_limit_29 : Fld Z h29 b29 "com/example/bulk_retrieval/bulkretrieval/index/Neighbours" "limit" "I" (.int (0 : Int32)) := D29 (Or.inr (hw _ (List.mem_of_getElem? (i := 13) rfl))) (ty := .int) (by decide)
  have F_starts_29 : Fld Z h29 b29 "com/example/bulk_retrieval/bulkretrieval/index/Neighbours" "starts" "[I" .null := D29 (Or.inr (hw _ (List.mem_of_getElem? (i := 15) rfl))) (ty := (.array .int)) (by decide)
  have F_documents_29 : Fld Z h29 b29 "com/example/bulk_retrieval/bulkretrieval/index/Neighbours" "documents" "[I" .null := D29 (Or.inr (hw _ (List.mem_of_getElem? (i := 17) rfl))) (ty := (.array .int)) (by decide)
  have F_similarities_29 : Fld Z h29 b29 "com/example/bulk_retrieval/bulkretrieval/index/Neighbours" "similarities" "[D" .null := D29 (Or.inr (hw _ (List.mem_of_getElem? (i := 19) rfl))) (ty := (.array .double)) (by decide)
  show own_Go X29 (Q0 Z p0 p1 p2 h0 n0) 4 614 77 #[.val (.int p0), .val (.int p1), .val (.int p2), .val (.int xa), .val (.int xb), .val (.int xc), .val (.ref b1), .val (.ref b16), .val (.ref b21), .unset] [(.ref b29)]
  refine own_st (fun _ k => XS.dup X29.here hx rfl (hb hby at_77) rfl rfl k) ?_
  show own_Go X29 (Q0 Z p0 p1 p2 h0 n0) 4 614 78 #[.val (.int p0), .val (.int p1), .val (.int p2), .val (.int xa), .val (.int xb), .val (.int xc), .val (.ref b1), .val (.ref b16), .val (.ref b21), .unset] [(.ref b29), (.ref b29)]
  refine own_st (fun _ k => XS.bipush X29.here hx rfl (hb hby at_78) k) ?_
  show own_Go X29 (Q0 Z p0 p1 p2 h0 n0) 4 614 80 #[.val (.int p0), .val (.int p1), .val (.int p2), .val (.int xa), .val (.int xb), .val (.int xc), .val (.ref b1), .val (.ref b16), .val (.ref b21), .unset] [(.int (100 : Int32)), (.ref b29), (.ref b29)]
  refine own_st (fun _ k => XS.aload X29.here hx rfl (hb hby at_80) rfl rfl k) ?_
  show own_Go X29 (Q0 Z p0 p1 p2 h0 n0) 4 614 82 #[.val (.int p0), .val (.int p1), .val (.int p2), .val (.int xa), .val (.int xb), .val (.int xc), .val (.ref b1), .val (.ref b16), .val (.ref b21), .unset] [(.ref b1), (.int (100 : Int32)), (.ref b29), (.ref b29)]
  refine own_st (fun _ k => XS.aload X29.here hx rfl (hb hby at_82) rfl rfl k) ?_
  show own_Go X29 (Q0 Z p0 p1 p2 h0 n0) 4 614 84 #[.val (.int p0), .val (.int p1), .val (.int p2), .val (.int xa), .val (.int xb), .val (.int xc), .val (.ref b1), .val (.ref b16), .val (.ref b21), .unset] [(.ref b16), (.ref b1), (.int (100 : Int32)), (.ref b29), (.ref b29)]
  refine own_st (fun _ k => XS.aload X29.here hx rfl (hb hby at_84) rfl rfl k) ?_
  show own_Go X29 (Q0 Z p0 p1 p2 h0 n0) 4 614 86 #[.val (.int p0), .val (.int p1), .val (.int p2), .val (.int xa), .val (.int xb), .val (.int xc), .val (.ref b1), .val (.ref b16), .val (.ref b21), .unset] [(.ref b21), (.ref b16), (.ref b1), (.int (100 : Int32)), (.ref b29), (.ref b29)]
  refine own_callI (W := 1) X29 hx hZ hown (hw _ (List.mem_of_getElem? (i := 6) rfl)) (hw _ (List.mem_of_getElem? (i := 7) rfl)) (hw _ (List.mem_of_getElem? (i := 5) rfl)) (hw _ (List.mem_of_getElem? (i := 8) rfl)) rfl (by decide) (rm1 l Z a0 hw [] b29 (100 : Int32) b1 b16 b21 h29 n0 Z_37 A29 G_33 F_limit_29 F_starts_29 F_documents_29 F_similarities_29) (by decide) (by decide) (by rw [hml]; rfl) b29 [(.int (100 : Int32)), (.ref b1), (.ref b16), (.ref b21)] [(.ref b29)] (lenOf pd_0_0 rfl) rfl rfl (Nat.le_of_ble_eq_true rfl) (hb hby at_86) e29 (by decide) (by decide) ?_
  rintro _ T38 L38 X38 ⟨rfl, N38q, K38q, F38_limit, F38_starts, F38_documents, F38_similarities⟩
  have N_39 := Fr.app N_15 N38q
  have f_40 := f_34.keep K38q (ninS ne_30 nin0)
  have f_41 := f_35.keep K38q (ninS ne_31 nin0)
  have f_42 := f_36.keep K38q (ninS ne_32 nin0)
  have f_43 := A29.keep K38q
  have Z_44 := Nat.le_trans Z_37 K38q.1
  show own_Go X38 (Q0 Z p0 p1 p2 h0 n0) 4 614 89 #[.val (.int p0), .val (.int p1), .val (.int p2), .val (.int xa), .val (.int xb), .val (.int xc), .val (.ref b1), .val (.ref b16), .val (.ref b21), .unset] [(.ref b29)]
  refine own_st (fun _ k => XS.astore X38.here hx rfl (hb hby at_89) rfl rfl (l' := #[.val (.int p0), .val (.int p1), .val (.int p2), .val (.int xa), .val (.int xb), .val (.int xc), .val (.ref b1), .val (.ref b16), .val (.ref b21), .val (.ref b29)]) rfl k) ?_
  show own_Go X38 (Q0 Z p0 p1 p2 h0 n0) 4 614 91 #[.val (.int p0), .val (.int p1), .val (.int p2), .val (.int xa), .val (.int xb), .val (.int xc), .val (.ref b1), .val (.ref b16), .val (.ref b21), .val (.ref b29)] []
  refine own_st (fun _ k => XS.aload X38.here hx rfl (hb hby at_91) rfl rfl k) ?_
  show own_Go X38 (Q0 Z p0 p1 p2 h0 n0) 4 614 93 #[.val (.int p0), .val (.int p1), .val (.int p2), .val (.int xa), .val (.int xb), .val (.int xc), .val (.ref b1), .val (.ref b16), .val (.ref b21), .val (.ref b29)] [(.ref b29)]
  refine own_st (fun _ k => XS.iconst X38.here hx rfl (hb hby at_93) k) ?_
  show own_Go X38 (Q0 Z p0 p1 p2 h0 n0) 4 614 94 #[.val (.int p0), .val (.int p1), .val (.int p2), .val (.int xa), .val (.int xb), .val (.int xc), .val (.ref b1), .val (.ref b16), .val (.ref b21), .val (.ref b29)] [(.int (0 : Int32)), (.ref b29)]
  refine own_callV (W := 0) X38 hx hZ hown (hw _ (List.mem_of_getElem? (i := 20) rfl)) (hw _ (List.mem_of_getElem? (i := 21) rfl)) (hw _ (List.mem_of_getElem? (i := 23) rfl)) (hw _ (List.mem_of_getElem? (i := 22) rfl)) (hw _ (List.mem_of_getElem? (i := 5) rfl)) (hw _ (List.mem_of_getElem? (i := 24) rfl)) (by decide) (rm3 l Z a0 hw [] b29 (0 : Int32) b1 k1 (4 : Int32) [(.int (0 : Int32)), (.int xa), (.int (xa + xb)), (.int ((xa + xb) + xc))] xa (0 : Int32) T38.heap n0 Z_44 F38_starts f_40 ⟨by decide, by decide⟩ ⟨by decide, by decide⟩ rfl rfl) (by decide) (by decide) (by rw [hml]; rfl) b29 [(.int (0 : Int32))] [] (lenOf pd_0_1 rfl) rfl rfl (Nat.le_of_ble_eq_true rfl) (hb hby at_94) (Eq.refl T38.heap) f_43 (by decide) (by decide) ?_
  rintro _ T45 L45 X45 ⟨rfl, N45q, e45⟩
  have N_46 := Fr.app N_39 N45q
  show own_Go X45 (Q0 Z p0 p1 p2 h0 n0) 4 614 97 #[.val (.int p0), .val (.int p1), .val (.int p2), .val (.int xa), .val (.int xb), .val (.int xc), .val (.ref b1), .val (.ref b16), .val (.ref b21), .val (.ref b29)] [(.int (xa - (0 : Int32)))]
  refine own_st (fun _ k => XS.iloadN X45.here hx rfl (hb hby at_97) rfl k) ?_
  show own_Go X45 (Q0 Z p0 p1 p2 h0 n0) 4 614 98 #[.val (.int p0), .val (.int p1), .val (.int p2), .val (.int xa), .val (.int xb), .val (.int xc), .val (.ref b1), .val (.ref b16), .val (.ref b21), .val (.ref b29)] [(.int xa), (.int (xa - (0 : Int32)))]
  have c98_47 : (xa - (0 : Int32)) = xa := Int32.sub_zero _
  refine own_st (fun _ k => XS.icmpNo X45.here hx rfl (hb hby at_98) rfl (teq c98_47).2 k) ?_
  show own_Go X45 (Q0 Z p0 p1 p2 h0 n0) 4 614 101 #[.val (.int p0), .val (.int p1), .val (.int p2), .val (.int xa), .val (.int xb), .val (.int xc), .val (.ref b1), .val (.ref b16), .val (.ref b21), .val (.ref b29)] []
  refine own_st (fun _ k => XS.aload X45.here hx rfl (hb hby at_101) rfl rfl k) ?_
  show own_Go X45 (Q0 Z p0 p1 p2 h0 n0) 4 614 103 #[.val (.int p0), .val (.int p1), .val (.int p2), .val (.int xa), .val (.int xb), .val (.int xc), .val (.ref b1), .val (.ref b16), .val (.ref b21), .val (.ref b29)] [(.ref b29)]
  refine own_st (fun _ k => XS.iconst X45.here hx rfl (hb hby at_103) k) ?_
  show own_Go X45 (Q0 Z p0 p1 p2 h0 n0) 4 614 104 #[.val (.int p0), .val (.int p1), .val (.int p2), .val (.int xa), .val (.int xb), .val (.int xc), .val (.ref b1), .val (.ref b16), .val (.ref b21), .val (.ref b29)] [(.int (1 : Int32)), (.ref b29)]
  refine own_callV (W := 0) X45 hx hZ hown (hw _ (List.mem_of_getElem? (i := 20) rfl)) (hw _ (List.mem_of_getElem? (i := 21) rfl)) (hw _ (List.mem_of_getElem? (i := 23) rfl)) (hw _ (List.mem_of_getElem? (i := 22) rfl)) (hw _ (List.mem_of_getElem? (i := 5) rfl)) (hw _ (List.mem_of_getElem? (i := 24) rfl)) (by decide) (rm3 l Z a0 hw [] b29 (1 : Int32) b1 k1 (4 : Int32) [(.int (0 : Int32)), (.int xa), (.int (xa + xb)), (.int ((xa + xb) + xc))] (xa + xb) xa T38.heap n0 Z_44 F38_starts f_40 ⟨by decide, by decide⟩ ⟨by decide, by decide⟩ rfl rfl) (by decide) (by decide) (by rw [hml]; rfl) b29 [(.int (1 : Int32))] [] (lenOf pd_0_1 rfl) rfl rfl (Nat.le_of_ble_eq_true rfl) (hb hby at_104) e45 f_43 (by decide) (by decide) ?_
  rintro _ T48 L48 X48 ⟨rfl, N48q, e48⟩
  have N_49 := Fr.app N_46 N48q
  show own_Go X48 (Q0 Z p0 p1 p2 h0 n0) 4 614 107 #[.val (.int p0), .val (.int p1), .val (.int p2), .val (.int xa), .val (.int xb), .val (.int xc), .val (.ref b1), .val (.ref b16), .val (.ref b21), .val (.ref b29)] [(.int ((xa + xb) - xa))]
  refine own_st (fun _ k => XS.iload X48.here hx rfl (hb hby at_107) rfl k) ?_
  show own_Go X48 (Q0 Z p0 p1 p2 h0 n0) 4 614 109 #[.val (.int p0), .val (.int p1), .val (.int p2), .val (.int xa), .val (.int xb), .val (.int xc), .val (.ref b1), .val (.ref b16), .val (.ref b21), .val (.ref b29)] [(.int xb), (.int ((xa + xb) - xa))]
  have c109_50 : ((xa + xb) - xa) = xb := own_sub _ _
  refine own_st (fun _ k => XS.icmpNo X48.here hx rfl (hb hby at_109) rfl (teq c109_50).2 k) ?_
  show own_Go X48 (Q0 Z p0 p1 p2 h0 n0) 4 614 112 #[.val (.int p0), .val (.int p1), .val (.int p2), .val (.int xa), .val (.int xb), .val (.int xc), .val (.ref b1), .val (.ref b16), .val (.ref b21), .val (.ref b29)] []
  refine own_st (fun _ k => XS.aload X48.here hx rfl (hb hby at_112) rfl rfl k) ?_
  show own_Go X48 (Q0 Z p0 p1 p2 h0 n0) 4 614 114 #[.val (.int p0), .val (.int p1), .val (.int p2), .val (.int xa), .val (.int xb), .val (.int xc), .val (.ref b1), .val (.ref b16), .val (.ref b21), .val (.ref b29)] [(.ref b29)]
  refine own_st (fun _ k => XS.iconst X48.here hx rfl (hb hby at_114) k) ?_
  show own_Go X48 (Q0 Z p0 p1 p2 h0 n0) 4 614 115 #[.val (.int p0), .val (.int p1), .val (.int p2), .val (.int xa), .val (.int xb), .val (.int xc), .val (.ref b1), .val (.ref b16), .val (.ref b21), .val (.ref b29)] [(.int (2 : Int32)), (.ref b29)]
  refine own_callV (W := 0) X48 hx hZ hown (hw _ (List.mem_of_getElem? (i := 20) rfl)) (hw _ (List.mem_of_getElem? (i := 21) rfl)) (hw _ (List.mem_of_getElem? (i := 23) rfl)) (hw _ (List.mem_of_getElem? (i := 22) rfl)) (hw _ (List.mem_of_getElem? (i := 5) rfl)) (hw _ (List.mem_of_getElem? (i := 24) rfl)) (by decide) (rm3 l Z a0 hw [] b29 (2 : Int32) b1 k1 (4 : Int32) [(.int (0 : Int32)), (.int xa), (.int (xa + xb)), (.int ((xa + xb) + xc))] ((xa + xb) + xc) (xa + xb) T38.heap n0 Z_44 F38_starts f_40 ⟨by decide, by decide⟩ ⟨by decide, by decide⟩ rfl rfl) (by decide) (by decide) (by rw [hml]; rfl) b29 [(.int (2 : Int32))] [] (lenOf pd_0_1 rfl) rfl rfl (Nat.le_of_ble_eq_true rfl) (hb hby at_115) e48 f_43 (by decide) (by decide) ?_
  rintro _ T51 L51 X51 ⟨rfl, N51q, e51⟩
  have N_52 := Fr.app N_49 N51q
  show own_Go X51 (Q0 Z p0 p1 p2 h0 n0) 4 614 118 #[.val (.int p0), .val (.int p1), .val (.int p2), .val (.int xa), .val (.int xb), .val (.int xc), .val (.ref b1), .val (.ref b16), .val (.ref b21), .val (.ref b29)] [(.int (((xa + xb) + xc) - (xa + xb)))]
  refine own_st (fun _ k => XS.iload X51.here hx rfl (hb hby at_118) rfl k) ?_
  show own_Go X51 (Q0 Z p0 p1 p2 h0 n0) 4 614 120 #[.val (.int p0), .val (.int p1), .val (.int p2), .val (.int xa), .val (.int xb), .val (.int xc), .val (.ref b1), .val (.ref b16), .val (.ref b21), .val (.ref b29)] [(.int xc), (.int (((xa + xb) + xc) - (xa + xb)))]
  have c120_53 : (((xa + xb) + xc) - (xa + xb)) = xc := own_sub _ _
  refine own_st (fun _ k => XS.icmpNo X51.here hx rfl (hb hby at_120) rfl (teq c120_53).2 k) ?_
  show own_Go X51 (Q0 Z p0 p1 p2 h0 n0) 4 614 123 #[.val (.int p0), .val (.int p1), .val (.int p2), .val (.int xa), .val (.int xb), .val (.int xc), .val (.ref b1), .val (.ref b16), .val (.ref b21), .val (.ref b29)] []
  refine own_st (fun _ k => XS.iconst X51.here hx rfl (hb hby at_123) k) ?_
  show own_Go X51 (Q0 Z p0 p1 p2 h0 n0) 4 614 124 #[.val (.int p0), .val (.int p1), .val (.int p2), .val (.int xa), .val (.int xb), .val (.int xc), .val (.ref b1), .val (.ref b16), .val (.ref b21), .val (.ref b29)] [(.int (1 : Int32))]
  refine own_st (fun _ k => XS.goto X51.here hx rfl (pc0 := 124) (pc' := 128) rfl (hb hby at_124) (by decide) (by decide) k) ?_
  show own_Go X51 (Q0 Z p0 p1 p2 h0 n0) 4 614 128 #[.val (.int p0), .val (.int p1), .val (.int p2), .val (.int xa), .val (.int xb), .val (.int xc), .val (.ref b1), .val (.ref b16), .val (.ref b21), .val (.ref b29)] [(.int (1 : Int32))]
  refine own_retN X51 hx Bd.returns (by simp) hlk e51 (hb hby at_128) (by decide) (by decide) ?_
  exact ⟨rfl, N_52⟩
set_option maxRecDepth 65536 in
set_option maxHeartbeats 40000000 in
theorem comes_1 {Post : Tables → Env → Array Value → State → Outcome → State → Prop} (hpost : ∀ tb e args s v u, (limb_1_1.after args s (.returned v) u = true ∧ limb_1_2.after args s (.returned v) u = true ∧ True) → FrameEnd s (.returned v) u (Jvm.fieldLocs frame_1_writes args s ++ Jvm.arrayLocs frame_1_arrays args s ++ Jvm.staticLocs frame_1_statics s) 16 1344 → Post tb e args s (.returned v) u) :
    ArmFor flags0 classFile x code maxLocals ret World_1 tables_1 room_1 Calls_1 rest_1 Pre_1 Post := by
  intro l hfl _ _ p e ha hc hk s m args below hf hA hF happ hP
  obtain ⟨hcalls, hrest, hpre⟩ := hP
  obtain ⟨-, -, -, hnamed, -, -, -, hat⟩ := (Spec.applies_iff hf).mp happ
  obtain ⟨hg, hn⟩ := and_e (Cond.before_iff.mp (show (Jvm.Cond.and given_1 narrow_1).before args s = true from hpre))
  obtain ⟨g1, g2⟩ := and_e hg
  obtain ⟨g3, g4⟩ := and_e g2
  obtain ⟨g5, g6⟩ := and_e g4
  obtain ⟨w0, w1, w2, rfl⟩ : ∃ w0 w1 w2 : Value, args = #[w0, w1, w2] := by
    have hs : args.size = 3 := by simpa [Cond.value, given_1] using g1
    obtain ⟨L⟩ := args
    match L, hs with
    | [w0, w1, w2], _ => exact ⟨w0, w1, w2, rfl⟩
  have hw := fun d (hd : d ∈ tables_1) => atoms_spec (ws := Jvm.Cond.code x code maxLocals ret :: tables_1) hat d (List.mem_cons_of_mem _ hd)
  obtain ⟨i0, ei0⟩ := is_v g3
  obtain rfl : w0 = (.int i0) := Option.some.inj ei0
  obtain ⟨i1, ei1⟩ := is_v g5
  obtain rfl : w1 = (.int i1) := Option.some.inj ei1
  obtain ⟨i2, ei2⟩ := is_v g6
  obtain rfl : w2 = (.int i2) := Option.some.inj ei2
  obtain ⟨n, o, h1, h2, h3, _, L, rfl, ⟨rfl, N⟩, hq⟩ := rm0 l s _ hw tables_1 i0 i1 i2 s.heap s.heap.size (Nat.le_refl _) p e ha hc hk s m _ below hf ((Spec.applies_iff_loose hf).mp happ).1 ⟨rfl, State.Warmed39.refl s, rfl⟩ trivial
  refine ⟨n, _, h1, h2, h3, hpost _ _ _ _ _ _ ⟨Cond.after_iff.mpr rfl, Cond.after_iff.mpr (eq_i res_at (Term.int_eval (1)) rfl), trivial⟩ ⟨hq.1, hq.2.1, (hq.2.2.sift fun y hy => Or.inr (N y hy)).mono (by decide) (by decide)⟩⟩
theorem main_1_1 : Claimed_1_1 := comes_1 fun _ _ _ _ _ _ h hF => ⟨h.1, hF⟩
theorem main_1_2 : Claimed_1_2 := comes_1 fun _ _ _ _ _ _ h hF => ⟨h.2.1, hF⟩
end Jvm.Pilot.@@N@@
namespace Jvm.Pilot.@@N@@
open Jvm Jvm.ClassFile Sem Op Lib Jvm.Free Jvm.Stand Jvm.Pilot.@@N@@.Jvm.D
/-! MADE BY PROGRAM (witnessworld.py) out of the Statement's table words and the real class files: 9 classes; the members and pool entries that the words name. The judged class is class 1, her method 1. -/
namespace start1
open Jvm.ClassFile
def u (s : String) : CpInfo := .utf8 (stringToUtf16 s)
/-- a pool by its gaps: so many unusable entries, then the entry; so many at the end -/
def gap : Nat → List CpInfo → List CpInfo
  | 0, r => r
  | n + 1, r => .unusable :: gap n r
def poolList (es : List (Nat × CpInfo)) (last : Nat) : List CpInfo := es.foldr (fun e r => gap e.1 (e.2 :: r)) (gap last [])
def pool (es : List (Nat × CpInfo)) (last : Nat) : Array CpInfo := ⟨poolList es last⟩
def fileOf (pool : Array CpInfo) (this : Nat) (attrs : Array Attribute := #[]) (ms : Array MethodInfo := #[]) (fl : Nat := 33) (sup : Nat := 0) (ifs : Array Nat := #[]) (fds : Array FieldInfo := #[]) : ClassFile where
  minorVersion := 0
  majorVersion := 65
  constantPool := pool
  accessFlags := fl
  thisClass := this
  superClass := sup
  interfaces := ifs
  fields := fds
  methods := ms
  attributes := attrs
def plain (name : String) (sup : Option ClassId) : Class where
  name := name
  kind := .ordinary
  loader := none
  accessFlags := 33
  super := sup
  interfaces := #[]
  cf := none
  fields := #[]
  methods := #[]
  instanceTypes := #[]
  staticTypes := #[]
  resolved := #[]
  callSites := []
  init := .initialized
  statics := none
  mirror := none

def pool0 : Array CpInfo := pool [(5, u "<init>"), (0, u "()V"), (1, .class_ 10), (1, u "java/lang/Object")] 113

def k0c0 : Code := { maxStack := 0, maxLocals := 1, code := object_method_1_code, exceptionTable := #[], attributes := #[] }
def k0m0 : Method := { name := "<init>", desc := "()V", sig := { parameters := [], returnType := none }, accessFlags := 1, code := some k0c0 }
/-- java/lang/Object -/
def k0 : Class := { plain "java/lang/Object" none with
  accessFlags := 33
  interfaces := #[]
  cf := some (fileOf pool0 8 #[] #[{ accessFlags := 1, nameIndex := 5, descriptorIndex := 6, attributes := #[] }] 33 0 #[] #[])
  fields := #[]
  methods := #[k0m0]
  instanceTypes := #[]
  staticTypes := #[]
  resolved := Array.replicate 124 none
  statics := none }

def pool1 : Array CpInfo := pool [(2, .class_ 4), (1, u "java/lang/Object"), (0, u "<init>"), (0, u "()V"), (0, .integer 2147483647), (0, .class_ 9), (0, u "com/example/bulk_retrieval/bulkretrieval/index/Neighbours"), (0, .methodref 8 11), (0, .nameAndType 5 12), (0, u "(I[I[I[D)V"), (0, .methodref 8 14), (0, .nameAndType 15 16), (0, u "count"), (0, u "(I)I"), (0, .class_ 18), (0, u "com/example/bulk_retrieval/bulkretrieval/index/NeighboursCountPinLaw"), (2, u "law"), (0, u "(III)Z")] 7

def k1m0 : Method := { name := "<init>", desc := "()V", sig := { parameters := [], returnType := none }, accessFlags := 1, code := none }
def k1c1 : Code := { maxStack := 6, maxLocals := 10, code := code, exceptionTable := #[], attributes := #[] }
def k1m1 : Method := { name := "law", desc := "(III)Z", sig := { parameters := [.int, .int, .int], returnType := some .boolean }, accessFlags := 9, code := some k1c1 }
/-- com/example/bulk_retrieval/bulkretrieval/index/NeighboursCountPinLaw -/
def k1 : Class := { plain "com/example/bulk_retrieval/bulkretrieval/index/NeighboursCountPinLaw" (some 0) with
  accessFlags := 49
  interfaces := #[]
  cf := some (fileOf pool1 17 #[] #[{ accessFlags := 1, nameIndex := 5, descriptorIndex := 6, attributes := #[] }, { accessFlags := 9, nameIndex := 21, descriptorIndex := 22, attributes := #[] }] 49 2 #[] #[])
  fields := #[]
  methods := #[k1m0, k1m1]
  instanceTypes := #[]
  staticTypes := #[]
  resolved := Array.replicate 30 none
  statics := none }

def pool2 : Array CpInfo := pool [(1, .methodref 2 3), (0, .class_ 4), (0, .nameAndType 5 6), (0, u "java/lang/Object"), (0, u "<init>"), (0, u "()V"), (0, .fieldref 8 9), (0, .class_ 10), (0, .nameAndType 11 12), (0, u "com/example/bulk_retrieval/bulkretrieval/index/Neighbours"), (0, u "limit"), (0, u "I"), (0, .fieldref 8 14), (0, .nameAndType 15 16), (0, u "starts"), (0, u "[I"), (0, .fieldref 8 18), (0, .nameAndType 19 16), (0, u "documents"), (0, .fieldref 8 21), (0, .nameAndType 22 23), (0, u "similarities"), (0, u "[D"), (0, u "MOST"), (2, u "POSTINGS_BUDGET"), (1, u "(I[I[I[D)V"), (3, u "count"), (0, u "(I)I")] 6

def k2c0 : Code := { maxStack := 2, maxLocals := 5, code := prog_40_method_1_code, exceptionTable := #[], attributes := #[] }
def k2m0 : Method := { name := "<init>", desc := "(I[I[I[D)V", sig := { parameters := [.int, (.array .int), (.array .int), (.array .double)], returnType := none }, accessFlags := 0, code := some k2c0 }
def k2c1 : Code := { maxStack := 3, maxLocals := 2, code := prog_40_method_3_code, exceptionTable := #[], attributes := #[] }
def k2m1 : Method := { name := "count", desc := "(I)I", sig := { parameters := [.int], returnType := some .int }, accessFlags := 1, code := some k2c1 }
/-- com/example/bulk_retrieval/bulkretrieval/index/Neighbours -/
def k2 : Class := { plain "com/example/bulk_retrieval/bulkretrieval/index/Neighbours" (some 0) with
  accessFlags := 33
  interfaces := #[]
  cf := some (fileOf pool2 8 #[] #[{ accessFlags := 0, nameIndex := 5, descriptorIndex := 29, attributes := #[] }, { accessFlags := 1, nameIndex := 33, descriptorIndex := 34, attributes := #[] }] 33 2 #[] #[{ accessFlags := 25, nameIndex := 24, descriptorIndex := 12, attributes := #[] }, { accessFlags := 25, nameIndex := 27, descriptorIndex := 12, attributes := #[] }, { accessFlags := 18, nameIndex := 11, descriptorIndex := 12, attributes := #[] }, { accessFlags := 18, nameIndex := 15, descriptorIndex := 16, attributes := #[] }, { accessFlags := 18, nameIndex := 19, descriptorIndex := 16, attributes := #[] }, { accessFlags := 18, nameIndex := 22, descriptorIndex := 23, attributes := #[] }])
  fields := #[{ name := "MOST", type := .int, accessFlags := 25, slot := 0, constantValue := 0 }, { name := "POSTINGS_BUDGET", type := .int, accessFlags := 25, slot := 1, constantValue := 0 }, { name := "limit", type := .int, accessFlags := 18, slot := 0, constantValue := 0 }, { name := "starts", type := (.array .int), accessFlags := 18, slot := 1, constantValue := 0 }, { name := "documents", type := (.array .int), accessFlags := 18, slot := 2, constantValue := 0 }, { name := "similarities", type := (.array .double), accessFlags := 18, slot := 3, constantValue := 0 }]
  methods := #[k2m0, k2m1]
  instanceTypes := #[.int, (.array .int), (.array .int), (.array .double)]
  staticTypes := #[.int, .int]
  resolved := Array.replicate 41 none
  statics := none }

def pool3 : Array CpInfo := pool [(1, u "java/lang/Cloneable"), (0, .class_ 1), (0, u "java/lang/Object"), (0, .class_ 3)] 3

/-- java/lang/Cloneable -/
def k3 : Class := { plain "java/lang/Cloneable" (some 0) with
  accessFlags := 1537
  interfaces := #[]
  cf := some (fileOf pool3 2 #[] #[] 1537 4 #[] #[])
  fields := #[]
  methods := #[]
  instanceTypes := #[]
  staticTypes := #[]
  resolved := Array.replicate 8 none
  statics := none }

def pool4 : Array CpInfo := pool [(1, u "java/io/Serializable"), (0, .class_ 1), (0, u "java/lang/Object"), (0, .class_ 3)] 3

/-- java/io/Serializable -/
def k4 : Class := { plain "java/io/Serializable" (some 0) with
  accessFlags := 1537
  interfaces := #[]
  cf := some (fileOf pool4 2 #[] #[] 1537 4 #[] #[])
  fields := #[]
  methods := #[]
  instanceTypes := #[]
  staticTypes := #[]
  resolved := Array.replicate 8 none
  statics := none }

/-- the primitive byte -/
def k5 : Class := { plain "byte" none with kind := .primitive 'B', accessFlags := 0x411 }
/-- [B -/
def k6 : Class := { plain "[B" (some 0) with kind := .array 5 .byte, interfaces := #[3, 4], accessFlags := 1041 }

/-- the primitive int -/
def k7 : Class := { plain "int" none with kind := .primitive 'I', accessFlags := 0x411 }
/-- [I -/
def k8 : Class := { plain "[I" (some 0) with kind := .array 7 .int, interfaces := #[3, 4], accessFlags := 1041 }

/-- the primitive double -/
def k9 : Class := { plain "double" none with kind := .primitive 'D', accessFlags := 0x411 }
/-- [D -/
def k10 : Class := { plain "[D" (some 0) with kind := .array 9 .double, interfaces := #[3, 4], accessFlags := 1041 }

def heap : Heap := #[]
def classes : Array Class := #[k0, k1, k2, k3, k4, k5, k6, k7, k8, k9, k10]
def interned : List (Array UInt16 × Addr) := []
def slotsUsed : Nat := 0
def theMethod : MethodId := ⟨1, 1⟩
def args0 : Array Value := #[.int 5, .int 7, .int 9]
def aboutOver (below : List Frame) : State where
  vm := { classes := classes, interned := interned.toArray }
  heap := heap
  slotsUsed := slotsUsed
  threads := #[{ frames := .invoking theMethod args0 :: below }]
def below0 : List Frame := [.native { method := ⟨0, 0⟩, args := #[] }]
def about1 : State := aboutOver below0
def p0 : Program := .bare "" "" ""
def e0 : Env := launch0.env 0 0 0
theorem w_frames : about1.frames = Frame.invoking theMethod args0 :: below0 := rfl
set_option maxRecDepth 65536 in
theorem w_args : argsFit about1.vm theMethod args0 = true := by decide +kernel
set_option maxRecDepth 65536 in
theorem w_heap : heapFits about1 = true := by decide +kernel
set_option maxRecDepth 65536 in
theorem w_runnable : about1.curStatus? = some .runnable := by decide +kernel
set_option maxRecDepth 65536 in
theorem w_alone : about1.alone = true := by decide +kernel
set_option maxRecDepth 65536 in
theorem w_named : about1.methodNamed? x = some theMethod := by decide +kernel
set_option maxRecDepth 65536 in
theorem w_hears : about1.hears theMethod below0 = true := by decide +kernel
set_option maxRecDepth 65536 in
theorem w_ripe : about1.ripe theMethod args0 below0 = true := by decide +kernel
theorem w_running : about1.status = .running := rfl
set_option maxRecDepth 65536 in
theorem w_room : about1.hasRoom e0.platform room_1 = true :=
  launch0.hasRoom_least _ room_1 (by decide +kernel) (by decide +kernel) (by decide +kernel) (by decide +kernel) (by decide +kernel) (by decide +kernel)
theorem allAtoms_all (ts : List Jvm.Cond) (a : Array Jvm.Value) (st : Jvm.State) : (allAtoms ts).before a st = ts.all (fun c => c.before a st) := by
  induction ts with
  | nil => rfl
  | cons c t ih =>
    show (Jvm.Cond.and c (allAtoms t)).before a st = _
    rw [Jvm.Cond.before_and, ih, List.all_cons]
def words1 : List Jvm.Cond := Jvm.Cond.code x code maxLocals ret :: tables_1
/-- a 'code' word, met by the world's own term for the bytes: nothing is compared byte by byte -/
theorem code_word {y : MethodName} {bytes : ByteArray} {mx : Nat} {rt : Option FieldType} {a : Array Value} {s : State} {m : MethodId} {meth : Method} {c : Code} (h1 : s.methodNamed? y = some m) (h2 : s.vm.method? m = some meth) (h3 : meth.code = some c) (h4 : c.code = bytes)
    (h5 : (c.maxLocals == mx && c.exceptionTable.isEmpty && decide (c.maxStack ≤ mostOperands) && decide (meth.sig.returnType = rt) && !meth.locks && decide (parseMethodDescriptor y.desc = some meth.sig)) = true) : (Jvm.Cond.code y bytes mx rt).before a s = true := by
  simp only [Bool.and_eq_true, beq_iff_eq, Bool.not_eq_true', decide_eq_true_eq] at h5
  obtain ⟨⟨⟨⟨⟨g1, g2⟩, g3⟩, g4⟩, g5⟩, g6⟩ := h5
  simp [Cond.before, Cond.holds, Cond.value, h1, h2, h3, h4, g1, g2, g3, g4, g5, g6]
def isCode : Jvm.Cond → Bool
  | .code _ _ _ _ => true
  | _ => false
theorem all_split {L : List Jvm.Cond} {P : Jvm.Cond → Bool} (h1 : L.all (fun c => isCode c || P c) = true) (h2 : ∀ c ∈ L.filter isCode, P c = true) : L.all P = true := by
  refine List.all_eq_true.mpr fun c hc => ?_
  have h := List.all_eq_true.mp h1 c hc
  rcases Bool.eq_false_or_eq_true (isCode c) with hi | hi
  · exact h2 c (List.mem_filter.mpr ⟨hc, hi⟩)
  · simpa [hi] using h
set_option maxRecDepth 65536 in
theorem w_c0 : (Jvm.Cond.code x code maxLocals ret).before args0 about1 = true := code_word (m := ⟨1, 1⟩) (meth := k1m1) (c := k1c1) (by decide +kernel) rfl rfl rfl (by decide +kernel)
set_option maxRecDepth 65536 in
theorem w_c1 : (Jvm.Cond.code ({ cls := "com/example/bulk_retrieval/bulkretrieval/index/Neighbours", name := "<init>", desc := "(I[I[I[D)V" } : Jvm.MethodName) prog_40_method_1_code (5 : Nat) (Option.none : Option Jvm.ClassFile.FieldType)).before args0 about1 = true := code_word (m := ⟨2, 0⟩) (meth := k2m0) (c := k2c0) (by decide +kernel) rfl rfl rfl (by decide +kernel)
set_option maxRecDepth 65536 in
theorem w_c2 : (Jvm.Cond.code ({ cls := "java/lang/Object", name := "<init>", desc := "()V" } : Jvm.MethodName) object_method_1_code (1 : Nat) (Option.none : Option Jvm.ClassFile.FieldType)).before args0 about1 = true := code_word (m := ⟨0, 0⟩) (meth := k0m0) (c := k0c0) (by decide +kernel) rfl rfl rfl (by decide +kernel)
set_option maxRecDepth 65536 in
theorem w_c3 : (Jvm.Cond.code ({ cls := "com/example/bulk_retrieval/bulkretrieval/index/Neighbours", name := "count", desc := "(I)I" } : Jvm.MethodName) prog_40_method_3_code (2 : Nat) (Option.some Jvm.ClassFile.FieldType.int)).before args0 about1 = true := code_word (m := ⟨2, 1⟩) (meth := k2m1) (c := k2c1) (by decide +kernel) rfl rfl rfl (by decide +kernel)
def codes1 : List Jvm.Cond := [Jvm.Cond.code x code maxLocals ret, Jvm.Cond.code ({ cls := "com/example/bulk_retrieval/bulkretrieval/index/Neighbours", name := "<init>", desc := "(I[I[I[D)V" } : Jvm.MethodName) prog_40_method_1_code (5 : Nat) (Option.none : Option Jvm.ClassFile.FieldType), Jvm.Cond.code ({ cls := "java/lang/Object", name := "<init>", desc := "()V" } : Jvm.MethodName) object_method_1_code (1 : Nat) (Option.none : Option Jvm.ClassFile.FieldType), Jvm.Cond.code ({ cls := "com/example/bulk_retrieval/bulkretrieval/index/Neighbours", name := "count", desc := "(I)I" } : Jvm.MethodName) prog_40_method_3_code (2 : Nat) (Option.some Jvm.ClassFile.FieldType.int)]
set_option maxRecDepth 65536 in
theorem codes_eq : words1.filter isCode = codes1 := rfl
theorem w_codes : ∀ c ∈ words1.filter isCode, c.before args0 about1 = true := by
  rw [codes_eq]
  intro c hc
  simp only [codes1, List.mem_cons, List.not_mem_nil, or_false] at hc
  rcases hc with rfl | rfl | rfl | rfl
  · exact w_c0
  · exact w_c1
  · exact w_c2
  · exact w_c3
set_option maxRecDepth 65536 in
theorem w_t1 : (words1.take 24).all (fun c => isCode c || c.before args0 about1) = true := by decide +kernel
set_option maxRecDepth 65536 in
theorem w_t2 : (words1.drop 24).all (fun c => isCode c || c.before args0 about1) = true := by decide +kernel
theorem w_tables : (allAtoms (Jvm.Cond.code x code maxLocals ret :: tables_1)).before args0 about1 = true := by
  rw [allAtoms_all]
  show words1.all (fun c => c.before args0 about1) = true
  refine all_split ?_ w_codes
  rw [← List.take_append_drop 24 words1, List.all_append, w_t1, w_t2]
  rfl
set_option maxRecDepth 65536 in
theorem w_case : (Jvm.Cond.and given_1 narrow_1).before args0 about1 = true := by decide +kernel
theorem w_applies : (headSpec (Jvm.Cond.code x code maxLocals ret :: tables_1) room_1).applies x e0.platform about1 = true :=
  (Spec.applies_iff w_frames).mpr ⟨w_running, w_runnable, w_alone, w_named, w_hears, w_ripe, w_room, w_tables⟩
theorem atStart : AtStart classFile x code maxLocals ret World_1 tables_1 room_1 Calls_1 rest_1 Pre_1 launch0 p0 e0 about1 theMethod args0 below0 :=
  ⟨lists_1, trivial, launch0.admits_env _ _ _, launch0.least_env, fairChoices_fair.cas, fairChoices_fair.clock, w_frames, w_args, w_heap, w_applies, trivial, trivial, w_case⟩
end start1
theorem witness_1 : WitnessClaimed_1 := ⟨start1.p0, start1.e0, start1.about1, start1.theMethod, start1.args0, start1.below0, start1.atStart⟩
end Jvm.Pilot.@@N@@
