import JvmDerived
import JvmDerived.Pilot.@@N@@Statement
import JvmDerived.Pilot.@@N@@Code
set_option linter.unusedVariables false
set_option linter.unusedSimpArgs false
namespace Jvm.Pilot.@@N@@
open Jvm Jvm.ClassFile Sem Op Lib Jvm.Free Jvm.Stand Jvm.LawKit Jvm.RoadKit Bundle Jvm.Pilot.@@N@@.Jvm.D
abbrev oU : Slot := .unset
abbrev oS : Slot := .second
abbrev oN : Slot := .val .null
abbrev oI (x : Int32) : Slot := .val (.int x)
abbrev oJ (x : Int64) : Slot := .val (.long x)
abbrev oR (a : Addr) : Slot := .val (.ref a)
section Own
variable {p : Program} {l : Launch} {e : Env} {R : Room} {s : State} {m : MethodId} {args : Array Value} {below : List Frame} {meth : Method} {c : Code} {T : State} {locs : List Loc} {cells slots : Nat} {Q : Option Value → Heap → List Loc → Prop} {kc ks : Nat} {Z : State} {a0 : Array Value} {h : Heap}
/-- from the state st the body comes to its end, and Q holds there -/
def own_Fin (p : Program) (e : Env) (below : List Frame) (s : State) (Q : Option Value → Heap → List Loc → Prop) (kc ks : Nat) (st : State) : Prop :=
  ∃ s₂ o, Steps p.tables e below st s₂ ∧ s₂.status = .running ∧ Ended s₂ below o ∧ ∃ v L, o = .returned v ∧ Q v s₂.heap L ∧ FrameEnd s o s₂ L kc ks
abbrev own_Go (X : Stand p l e R s m args below meth c T locs cells slots) (Q : Option Value → Heap → List Loc → Prop) (kc ks : Nat) (pc : Nat) (Ls : Array Slot) (S : List Value) : Prop := own_Fin p e below s Q kc ks (T.setTop (mkF m pc Ls S))
theorem own_st {a b : State} (hst : ∀ t, Steps p.tables e below b t → Steps p.tables e below a t) (k : own_Fin p e below s Q kc ks b) : own_Fin p e below s Q kc ks a := by
  obtain ⟨s₂, o, h1, r⟩ := k
  exact ⟨s₂, o, hst _ h1, r⟩
theorem own_cast {g g' : JFrame} (q : g = g') (k : own_Fin p e below s Q kc ks (T.setTop g')) : own_Fin p e below s Q kc ks (T.setTop g) := q ▸ k
theorem own_end (X : Stand p l e R s m args below meth c T locs cells slots) {v : Option Value} {a : State} (hv : meth.sig.returnType = none → v = none) (hlocks : meth.locks = false) (eT : T.heap = h)
    (hs : ∀ fs, (∀ (f : JFrame) (acts : List Action), f.method = m → f.locked = none → f.entered = [] → (doReturn e (T.setTop f) acts v).1 = T.setFrames fs) → Steps p.tables e below a (T.setFrames fs))
    (hc : cells ≤ kc) (hl : slots ≤ ks) (hq : Q v h locs) : own_Fin p e below s Q kc ks a := by
  obtain ⟨fs, hr, hrun, hended, hW, hsame⟩ := X.leave hv hlocks
  exact ⟨_, _, hs fs hr, hrun, hended, _, _, rfl, by show Q v T.heap locs; rw [eT]; exact hq, ⟨_, rfl⟩, hW, hsame.mono hc hl⟩
theorem own_retV (X : Stand p l e R s m args below meth c T locs cells slots) (hx : p.tables.exec = Jvm.exec) (hret : meth.sig.returnType = none) (hlocks : meth.locks = false) (eT : T.heap = h) {pc : Nat} {Ls : Array Slot} (hd : decode c.code pc = .ok (.return_, 1)) (hc : cells ≤ kc) (hl : slots ≤ ks) (hq : Q none h locs) :
    own_Fin p e below s Q kc ks (T.setTop (mkF m pc Ls [])) := own_end X (fun _ => rfl) hlocks eT (fun _ hr => X.returnOut hx hret hd hr) hc hl hq
theorem own_retN (X : Stand p l e R s m args below meth c T locs cells slots) (hx : p.tables.exec = Jvm.exec) {t : FieldType} (hret : meth.sig.returnType = some t) (ht : t = .boolean ∨ t = .byte ∨ t = .char ∨ t = .short) (hlocks : meth.locks = false) (eT : T.heap = h) {pc : Nat} {Ls : Array Slot} {z : Int32} {rest : List Value} (hd : decode c.code pc = .ok (.ireturn, 1)) (hc : cells ≤ kc) (hl : slots ≤ ks) (hq : Q (some (.int (nar t z))) h locs) :
    own_Fin p e below s Q kc ks (T.setTop (mkF m pc Ls (.int z :: rest))) := own_end X (fun h => by rw [hret] at h; cases h) hlocks eT (fun _ hr => retN X hx hret ht hd hr) hc hl hq
theorem own_retI (X : Stand p l e R s m args below meth c T locs cells slots) (hx : p.tables.exec = Jvm.exec) (hret : meth.sig.returnType = some .int) (hlocks : meth.locks = false) (eT : T.heap = h) {pc : Nat} {Ls : Array Slot} {z : Int32} {rest : List Value} (hd : decode c.code pc = .ok (.ireturn, 1)) (hc : cells ≤ kc) (hl : slots ≤ ks) (hq : Q (some (.int z)) h locs) :
    own_Fin p e below s Q kc ks (T.setTop (mkF m pc Ls (.int z :: rest))) := own_end X (fun h => by rw [hret] at h; cases h) hlocks eT (fun _ hr => retOut X hx hret rfl (Or.inl ⟨rfl, Or.inl rfl, _, rfl⟩) hd hr) hc hl hq
theorem own_retJ (X : Stand p l e R s m args below meth c T locs cells slots) (hx : p.tables.exec = Jvm.exec) (hret : meth.sig.returnType = some .long) (hlocks : meth.locks = false) (eT : T.heap = h) {pc : Nat} {Ls : Array Slot} {z : Int64} {rest : List Value} (hd : decode c.code pc = .ok (.lreturn, 1)) (hc : cells ≤ kc) (hl : slots ≤ ks) (hq : Q (some (.long z)) h locs) :
    own_Fin p e below s Q kc ks (T.setTop (mkF m pc Ls (.long z :: rest))) := own_end X (fun h => by rw [hret] at h; cases h) hlocks eT (fun _ hr => retOut X hx hret rfl (Or.inr (Or.inl ⟨rfl, rfl, _, rfl⟩)) hd hr) hc hl hq
theorem own_retA (X : Stand p l e R s m args below meth c T locs cells slots) (hx : p.tables.exec = Jvm.exec) {t : FieldType} (hret : meth.sig.returnType = some t) (ht : t.isReference = true) (hlocks : meth.locks = false) (eT : T.heap = h) {pc : Nat} {Ls : Array Slot} {a : Addr} {rest : List Value} (hd : decode c.code pc = .ok (.areturn, 1)) (hc : cells ≤ kc) (hl : slots ≤ ks) (hq : Q (some (.ref a)) h locs) :
    own_Fin p e below s Q kc ks (T.setTop (mkF m pc Ls (.ref a :: rest))) := own_end X (fun h => by rw [hret] at h; cases h) hlocks eT (fun _ hr => retOut X hx hret (by cases t <;> first | rfl | cases ht) (Or.inr (Or.inr (Or.inr (Or.inr ⟨rfl, ht, rfl⟩)))) hd hr) hc hl hq
theorem own_nar1 : nar .boolean 1 = 1 := by decide
theorem own_nar0 : nar .boolean 0 = 0 := by decide
theorem own_lrem {g : JFrame} {target : State} (X : Stand p l e R s m args below meth c T locs cells slots) (hx : p.tables.exec = Jvm.exec) (hg : g.method = m) {x y : Int64} {rest : List Value} (hd : decode c.code g.pc = .ok (.lrem, 1)) (hs : g.stack = .long y :: .long x :: rest) (hy : y ≠ 0)
    (hr : Steps p.tables e below (T.setTop { g with pc := g.pc + 1, stack := .long (x % y) :: rest }) target) : Steps p.tables e below (T.setTop g) target := by
  have q : x - x / y * y = x % y := lrem_mod x y
  exact XS.lrem X.here hx hg hd hs hy (by rw [q]; exact hr)
/-! the calls -/
variable {y z : MethodName} {bytes : ByteArray} {maxL : Nat} {ret : Option FieldType} {rm : Room} {W : Nat} {as' : Array Value} {Qc : Option Value → Heap → List Loc → Prop} {own C : String} {index : Nat}
theorem own_callS (X : Stand p l e R s m args below meth c T locs cells slots) (hx : p.tables.exec = Jvm.exec) (hZ : Z.Warmed39 s.vm) (hown : s.vm.findClass own = some m.cls)
    (wl : (Cond.methodLink own index y).before a0 Z = true) (ws : (Cond.static y).before a0 Z = true) (wz : (Cond.initialized y.cls).before a0 Z = true) (wc : (Cond.code y bytes maxL ret).before a0 Z = true)
    (hy : y.cls ≠ "java/lang/invoke/MethodHandle" ∧ y.cls ≠ "java/lang/invoke/VarHandle")
    (hM : MetFree l y (head1 [Cond.code y bytes maxL ret] rm) (fun a U => a = as' ∧ Z.Warmed39 U.vm ∧ U.heap = h) (fun _ _ _ _ _ => True) (fun _ U o U' => ∃ v L, o = .returned v ∧ Qc v U'.heap L ∧ FrameEnd U o U' L rm.cells rm.slots))
    (hf : rm.frames + 1 ≤ R.frames) (hl : W + (maxL + 11) + rm.locals ≤ R.locals) {pc : Nat} {Ls : Array Slot} {S : List Value} (hsize : Ls.size = c.maxLocals) (argsL rest : List Value)
    (hlen : ∀ sig, parseMethodDescriptor y.desc = some sig → argsL.length = sig.parameters.length) (hS : S = argsL.reverse ++ rest) (ha : argsL.toArray = as') (hW : (rest.map fun v => v.category).sum ≤ W)
    (hd : decode c.code pc = .ok (.invokestatic index, 3)) (eT : T.heap = h) (hcl : cells + rm.cells ≤ R.cells) (hsl : slots + rm.slots ≤ R.slots)
    (k : ∀ (v : Option Value) (T' : State) (L' : List Loc) (X' : Stand p l e R s m args below meth c T' (locs ++ L') (cells + rm.cells) (slots + rm.slots)), Qc v T'.heap L' → own_Fin p e below s Q kc ks (T'.setTop (mkF m (pc + 3) Ls (v.toList ++ rest)))) :
    own_Fin p e below s Q kc ks (T.setTop (mkF m pc Ls S)) := by
  subst hS
  obtain ⟨v, _, ⟨T', L1, k1, n1⟩, -, X', ⟨L', hQ, l1, y1, z1⟩, st⟩ := Jvm.LawKit.callS X hx (y := y) hown (mvT hZ wl) (mvT hZ ws) (mvT hZ wz) (mvT hZ wc) hy (backOf (W := W) hM hZ wc wz hf hl) (g := mkF m pc Ls (argsL.reverse ++ rest)) rfl hsize (argsL := argsL) (rest := rest) hlen rfl (by show 2 * 0 + _ ≤ _; omega) hd (fun _ _ => ⟨ha, eT, hcl, hsl⟩)
  dsimp only [Pt.U, Pt.locs, Pt.cells, Pt.slots] at X' l1 y1 z1 st hQ
  subst l1 y1 z1
  exact own_st (fun t => st t) (k v T' L' X' hQ)
theorem own_callI (X : Stand p l e R s m args below meth c T locs cells slots) (hx : p.tables.exec = Jvm.exec) (hZ : Z.Warmed39 s.vm) (hown : s.vm.findClass own = some m.cls)
    (wl : (Cond.methodLink own index y).before a0 Z = true) (ws : (Cond.instanceMethod y).before a0 Z = true) (wz : (Cond.initialized y.cls).before a0 Z = true) (wc : (Cond.code y bytes maxL none).before a0 Z = true)
    (hn : y.name = "<init>") (hy : y.cls ≠ "java/lang/invoke/MethodHandle" ∧ y.cls ≠ "java/lang/invoke/VarHandle")
    (hM : MetFree l y (head1 [Cond.code y bytes maxL none] rm) (fun a U => a = as' ∧ Z.Warmed39 U.vm ∧ U.heap = h) (fun _ _ _ _ _ => True) (fun _ U o U' => ∃ v L, o = .returned v ∧ Qc v U'.heap L ∧ FrameEnd U o U' L rm.cells rm.slots))
    (hf : rm.frames + 1 ≤ R.frames) (hl : W + (maxL + 11) + rm.locals ≤ R.locals) {pc : Nat} {Ls : Array Slot} {S : List Value} (hsize : Ls.size = c.maxLocals) (a : Addr) (argsL rest : List Value)
    (hlen : ∀ sig, parseMethodDescriptor y.desc = some sig → argsL.length = sig.parameters.length) (hS : S = argsL.reverse ++ .ref a :: rest) (ha : (Value.ref a :: argsL).toArray = as') (hW : (rest.map fun v => v.category).sum ≤ W)
    (hd : decode c.code pc = .ok (.invokespecial index, 3)) (eT : T.heap = h) (hcl : cells + rm.cells ≤ R.cells) (hsl : slots + rm.slots ≤ R.slots)
    (k : ∀ (v : Option Value) (T' : State) (L' : List Loc) (X' : Stand p l e R s m args below meth c T' (locs ++ L') (cells + rm.cells) (slots + rm.slots)), Qc v T'.heap L' → own_Fin p e below s Q kc ks (T'.setTop (mkF m (pc + 3) Ls (v.toList ++ rest)))) :
    own_Fin p e below s Q kc ks (T.setTop (mkF m pc Ls S)) := by
  subst hS
  obtain ⟨v, _, ⟨T', L1, k1, n1⟩, -, X', ⟨L', hQ, l1, y1, z1⟩, st⟩ := X.specialBack hx (y := y) hn hown (mvT hZ wl) (mvT hZ ws) (mvT hZ wc) hy (backOf (W := W) hM hZ wc wz hf hl) (g := mkF m pc Ls (argsL.reverse ++ .ref a :: rest)) rfl hsize (Steps.refl _) (a := a) (argsL := argsL) (rest := rest) hlen rfl (by show 2 * 0 + _ ≤ _; omega) hd (fun _ _ => ⟨ha, eT, hcl, hsl⟩)
  dsimp only [Pt.U, Pt.locs, Pt.cells, Pt.slots] at X' l1 y1 z1 st hQ
  subst l1 y1 z1
  exact own_st (fun t => st.trans) (k v T' L' X' hQ)
theorem own_callV (X : Stand p l e R s m args below meth c T locs cells slots) (hx : p.tables.exec = Jvm.exec) (hZ : Z.Warmed39 s.vm) (hown : s.vm.findClass own = some m.cls)
    (wl : (Cond.methodLink own index y).before a0 Z = true) (wd : (Cond.declares y).before a0 Z = true) (wsel : (Cond.selects C y y).before a0 Z = true) (ws : (Cond.instanceMethod y).before a0 Z = true) (wz : (Cond.initialized y.cls).before a0 Z = true) (wc : (Cond.code y bytes maxL ret).before a0 Z = true)
    (hy : y.cls ≠ "java/lang/invoke/MethodHandle" ∧ y.cls ≠ "java/lang/invoke/VarHandle")
    (hM : MetFree l y (head1 [Cond.code y bytes maxL ret] rm) (fun a U => a = as' ∧ Z.Warmed39 U.vm ∧ U.heap = h) (fun _ _ _ _ _ => True) (fun _ U o U' => ∃ v L, o = .returned v ∧ Qc v U'.heap L ∧ FrameEnd U o U' L rm.cells rm.slots))
    (hf : rm.frames + 1 ≤ R.frames) (hl : W + (maxL + 11) + rm.locals ≤ R.locals) {pc : Nat} {Ls : Array Slot} {S : List Value} (hsize : Ls.size = c.maxLocals) (a : Addr) (argsL rest : List Value)
    (hlen : ∀ sig, parseMethodDescriptor y.desc = some sig → argsL.length = sig.parameters.length) (hS : S = argsL.reverse ++ .ref a :: rest) (ha : (Value.ref a :: argsL).toArray = as') (hW : (rest.map fun v => v.category).sum ≤ W)
    (hd : decode c.code pc = .ok (.invokevirtual index, 3)) (eT : T.heap = h) (EA : Exa Z h a C) (hcl : cells + rm.cells ≤ R.cells) (hsl : slots + rm.slots ≤ R.slots)
    (k : ∀ (v : Option Value) (T' : State) (L' : List Loc) (X' : Stand p l e R s m args below meth c T' (locs ++ L') (cells + rm.cells) (slots + rm.slots)), Qc v T'.heap L' → own_Fin p e below s Q kc ks (T'.setTop (mkF m (pc + 3) Ls (v.toList ++ rest)))) :
    own_Fin p e below s Q kc ks (T.setTop (mkF m pc Ls S)) := by
  subst hS
  obtain ⟨cq, kq, q1, q2, q3⟩ := isOf hZ eT EA
  obtain ⟨v, _, ⟨T', L1, k1, n1⟩, -, X', ⟨L', hQ, l1, y1, z1⟩, st⟩ := X.virtualBack hx (y := y) (z := y) hown (mvT hZ wl) (mvT hZ wd) (notFace_of_selects (args := #[]) (mvT hZ wsel)) (mvT hZ wsel) (mvT hZ ws) hy (backOf (W := W) hM hZ wc wz hf hl) q1 q3 (g := mkF m pc Ls (argsL.reverse ++ .ref a :: rest)) rfl hsize (Steps.refl _) (argsL := argsL) (rest := rest) hlen rfl (by show 2 * 0 + _ ≤ _; omega) hd (fun _ _ => ⟨ha, eT, hcl, hsl⟩)
  dsimp only [Pt.U, Pt.locs, Pt.cells, Pt.slots] at X' l1 y1 z1 st hQ
  subst l1 y1 z1
  exact own_st (fun t => st.trans) (k v T' L' X' hQ)
/-! arrays -/
variable {a : Addr} {kA : ClassId} {n j x : Int32} {vs : List Value} {dv : Value}
theorem own_stI (X : Stand p l e R s m args below meth c T locs cells slots) (hx : p.tables.exec = Jvm.exec) (hZ : Z.Warmed39 s.vm) (eT : T.heap = h) (V : Arv Z h a kA .int n vs dv) (q : ¬ j < 0 ∧ j < n) (hi : j.toNatClampNeg < vs.length) {g : JFrame} (hg : g.method = m) {rest : List Value} (hs : g.stack = .int x :: .int j :: .ref a :: rest) (hd : decode c.code g.pc = .ok (.iastore, 1)) :
    ∃ T' h', Stand p l e R s m args below meth c T' (locs ++ [⟨a, j.toNatClampNeg⟩]) cells slots ∧ T'.heap = h' ∧ Wr h h' a j.toNatClampNeg (.int x) ∧ Arv Z h' a kA .int n (vs.set j.toNatClampNeg (.int x)) dv ∧ ∀ target, Steps p.tables e below (T'.setTop { g with pc := g.pc + 1, stack := rest }) target → Steps p.tables e below (T.setTop g) target := by
  obtain ⟨cl, Ar, q1, S1, N1, H1, G1⟩ := V
  obtain ⟨T', h', X', e', W', st⟩ := stI X hx hZ eT Ar (inb_of S1 q) hg hs hd
  exact ⟨T', h', X', e', W', Arv.set Ar q1 S1 N1 H1 G1 rfl W' _ rfl hi, st⟩
theorem own_stB (X : Stand p l e R s m args below meth c T locs cells slots) (hx : p.tables.exec = Jvm.exec) (hZ : Z.Warmed39 s.vm) (eT : T.heap = h) (V : Arv Z h a kA .byte n vs dv) (q : ¬ j < 0 ∧ j < n) (hi : j.toNatClampNeg < vs.length) {g : JFrame} (hg : g.method = m) {rest : List Value} (hs : g.stack = .int x :: .int j :: .ref a :: rest) (hd : decode c.code g.pc = .ok (.bastore, 1)) :
    ∃ T' h', Stand p l e R s m args below meth c T' (locs ++ [⟨a, j.toNatClampNeg⟩]) cells slots ∧ T'.heap = h' ∧ Wr h h' a j.toNatClampNeg (.int (nar .byte x)) ∧ Arv Z h' a kA .byte n (vs.set j.toNatClampNeg (.int x.toInt8.toInt32)) dv ∧ ∀ target, Steps p.tables e below (T'.setTop { g with pc := g.pc + 1, stack := rest }) target → Steps p.tables e below (T.setTop g) target := by
  obtain ⟨cl, Ar, q1, S1, N1, H1, G1⟩ := V
  obtain ⟨T', h', X', e', W', st⟩ := stB X hx hZ eT Ar (inb_of S1 q) hg hs hd
  exact ⟨T', h', X', e', W', Arv.set Ar q1 S1 N1 H1 G1 (fits_nar_byte x) W' _ rfl hi, st⟩
theorem own_stJ {x : Int64} (X : Stand p l e R s m args below meth c T locs cells slots) (hx : p.tables.exec = Jvm.exec) (hZ : Z.Warmed39 s.vm) (eT : T.heap = h) (V : Arv Z h a kA .long n vs dv) (q : ¬ j < 0 ∧ j < n) (hi : j.toNatClampNeg < vs.length) {g : JFrame} (hg : g.method = m) {rest : List Value} (hs : g.stack = .long x :: .int j :: .ref a :: rest) (hd : decode c.code g.pc = .ok (.lastore, 1)) :
    ∃ T' h', Stand p l e R s m args below meth c T' (locs ++ [⟨a, j.toNatClampNeg⟩]) cells slots ∧ T'.heap = h' ∧ Wr h h' a j.toNatClampNeg (.long x) ∧ Arv Z h' a kA .long n (vs.set j.toNatClampNeg (.long x)) dv ∧ ∀ target, Steps p.tables e below (T'.setTop { g with pc := g.pc + 1, stack := rest }) target → Steps p.tables e below (T.setTop g) target := by
  obtain ⟨cl, Ar, q1, S1, N1, H1, G1⟩ := V
  obtain ⟨T', h', X', e', W', st⟩ := stJ X hx hZ eT Ar (inb_of S1 q) hg hs hd
  exact ⟨T', h', X', e', W', Arv.set Ar q1 S1 N1 H1 G1 rfl W' _ rfl hi, st⟩
theorem own_ldI (X : Stand p l e R s m args below meth c T locs cells slots) (hx : p.tables.exec = Jvm.exec) (hZ : Z.Warmed39 s.vm) (eT : T.heap = h) (V : Arv Z h a kA .int n vs dv) (q : ¬ j < 0 ∧ j < n) {v : Value} (hv : vs.getD j.toNatClampNeg dv = v) {g : JFrame} (hg : g.method = m) {rest : List Value} (hs : g.stack = .int j :: .ref a :: rest) (hd : decode c.code g.pc = .ok (.iaload, 1)) :
    ∀ target, Steps p.tables e below (T.setTop { g with pc := g.pc + 1, stack := v :: rest }) target → Steps p.tables e below (T.setTop g) target := by
  obtain ⟨cl, Ar, q1, S1, N1, H1, G1⟩ := V
  exact X.iaload hx (by rw [eT]; exact Ar.1) (State.isArrayOf_alike hZ.alike Ar.2.1) Ar.2.2 (inb_of S1 q) (H1.at (inb_of S1 q) hv) hg hs hd
theorem own_ldB (X : Stand p l e R s m args below meth c T locs cells slots) (hx : p.tables.exec = Jvm.exec) (hZ : Z.Warmed39 s.vm) (eT : T.heap = h) (V : Arv Z h a kA .byte n vs dv) (q : ¬ j < 0 ∧ j < n) {v : Value} (hv : vs.getD j.toNatClampNeg dv = v) {g : JFrame} (hg : g.method = m) {rest : List Value} (hs : g.stack = .int j :: .ref a :: rest) (hd : decode c.code g.pc = .ok (.baload, 1)) :
    ∀ target, Steps p.tables e below (T.setTop { g with pc := g.pc + 1, stack := v :: rest }) target → Steps p.tables e below (T.setTop g) target := by
  obtain ⟨cl, Ar, q1, S1, N1, H1, G1⟩ := V
  exact X.baloadBytes hx (by rw [eT]; exact Ar.1) (State.isArrayOf_alike hZ.alike Ar.2.1) Ar.2.2 (inb_of S1 q) (H1.at (inb_of S1 q) hv) hg hs hd
theorem own_ldJ (X : Stand p l e R s m args below meth c T locs cells slots) (hx : p.tables.exec = Jvm.exec) (hZ : Z.Warmed39 s.vm) (eT : T.heap = h) (V : Arv Z h a kA .long n vs dv) (q : ¬ j < 0 ∧ j < n) {v : Value} (hv : vs.getD j.toNatClampNeg dv = v) {g : JFrame} (hg : g.method = m) {rest : List Value} (hs : g.stack = .int j :: .ref a :: rest) (hd : decode c.code g.pc = .ok (.laload, 1)) :
    ∀ target, Steps p.tables e below (T.setTop { g with pc := g.pc + 1, stack := v :: rest }) target → Steps p.tables e below (T.setTop g) target := by
  obtain ⟨cl, Ar, q1, S1, N1, H1, G1⟩ := V
  exact X.laload hx (by rw [eT]; exact Ar.1) (State.isArrayOf_alike hZ.alike Ar.2.1) Ar.2.2 (inb_of S1 q) (H1.at (inb_of S1 q) hv) hg hs hd
theorem own_len {ty : FieldType} (X : Stand p l e R s m args below meth c T locs cells slots) (hx : p.tables.exec = Jvm.exec) (hZ : Z.Warmed39 s.vm) (eT : T.heap = h) (V : Arv Z h a kA ty n vs dv) {g : JFrame} (hg : g.method = m) {rest : List Value} (hs : g.stack = .ref a :: rest) (hd : decode c.code g.pc = .ok (.arraylength, 1)) :
    ∀ target, Steps p.tables e below (T.setTop { g with pc := g.pc + 1, stack := .int n :: rest }) target → Steps p.tables e below (T.setTop g) target := by
  obtain ⟨cl, Ar, q1, S1, N1, H1, G1⟩ := V
  intro t k
  refine X.arraylength hx (by rw [eT]; exact Ar.1) (State.isArrayOf_alike hZ.alike Ar.2.1) hg hs hd t ?_
  rw [len_of S1 N1]; exact k
end Own

def own_enc (x d i : Int32) : Int32 := ((x + ((3 : Int32) * d)) + i)
def own_p0 (ld : Int32) : Int32 := if ld = 1 then 1 else 0
def own_p1 (ld c0 : Int32) : Int32 := if 0 < c0 then own_p0 ld + (1 : Int32) else own_p0 ld
def own_p2 (ld c0 : Int32) : Int32 := if 1 < c0 then own_p1 ld c0 + (1 : Int32) else own_p1 ld c0
def own_p3 (ld c0 c1 : Int32) : Int32 := if 0 < c1 then own_p2 ld c0 + (1 : Int32) else own_p2 ld c0
def own_p4 (ld c0 c1 : Int32) : Int32 := if 1 < c1 then own_p3 ld c0 c1 + (1 : Int32) else own_p3 ld c0 c1
def own_p5 (ld c0 c1 c2 : Int32) : Int32 := if 0 < c2 then own_p4 ld c0 c1 + (1 : Int32) else own_p4 ld c0 c1
def own_p6 (ld c0 c1 c2 : Int32) : Int32 := if 1 < c2 then own_p5 ld c0 c1 c2 + (1 : Int32) else own_p5 ld c0 c1 c2
def own_v0 (x ld : Int32) : List Value := if ld = 1 then [(.int (x + (100 : Int32))), (.int (0 : Int32)), (.int (0 : Int32)), (.int (0 : Int32)), (.int (0 : Int32)), (.int (0 : Int32)), (.int (0 : Int32))] else [(.int (0 : Int32)), (.int (0 : Int32)), (.int (0 : Int32)), (.int (0 : Int32)), (.int (0 : Int32)), (.int (0 : Int32)), (.int (0 : Int32))]
def own_v1 (x ld c0 : Int32) : List Value := if 0 < c0 then (own_v0 x ld).set (own_p0 ld).toNatClampNeg (.int (own_enc x 0 0)) else own_v0 x ld
def own_v2 (x ld c0 : Int32) : List Value := if 1 < c0 then (own_v1 x ld c0).set (own_p1 ld c0).toNatClampNeg (.int (own_enc x 0 1)) else own_v1 x ld c0
def own_v3 (x ld c0 c1 : Int32) : List Value := if 0 < c1 then (own_v2 x ld c0).set (own_p2 ld c0).toNatClampNeg (.int (own_enc x 1 0)) else own_v2 x ld c0
def own_v4 (x ld c0 c1 : Int32) : List Value := if 1 < c1 then (own_v3 x ld c0 c1).set (own_p3 ld c0 c1).toNatClampNeg (.int (own_enc x 1 1)) else own_v3 x ld c0 c1
def own_v5 (x ld c0 c1 c2 : Int32) : List Value := if 0 < c2 then (own_v4 x ld c0 c1).set (own_p4 ld c0 c1).toNatClampNeg (.int (own_enc x 2 0)) else own_v4 x ld c0 c1
def own_v6 (x ld c0 c1 c2 : Int32) : List Value := if 1 < c2 then (own_v5 x ld c0 c1 c2).set (own_p5 ld c0 c1 c2).toNatClampNeg (.int (own_enc x 2 1)) else own_v5 x ld c0 c1 c2
theorem own_l0 (x ld : Int32) : (own_v0 x ld).length = 7 := by unfold own_v0; split <;> rfl
theorem own_l1 (x ld c0 : Int32) : (own_v1 x ld c0).length = 7 := by unfold own_v1; split <;> (try rw [List.length_set]) <;> exact own_l0 _ _
theorem own_l2 (x ld c0 : Int32) : (own_v2 x ld c0).length = 7 := by unfold own_v2; split <;> (try rw [List.length_set]) <;> exact own_l1 _ _ _
theorem own_l3 (x ld c0 c1 : Int32) : (own_v3 x ld c0 c1).length = 7 := by unfold own_v3; split <;> (try rw [List.length_set]) <;> exact own_l2 _ _ _
theorem own_l4 (x ld c0 c1 : Int32) : (own_v4 x ld c0 c1).length = 7 := by unfold own_v4; split <;> (try rw [List.length_set]) <;> exact own_l3 _ _ _ _
theorem own_l5 (x ld c0 c1 c2 : Int32) : (own_v5 x ld c0 c1 c2).length = 7 := by unfold own_v5; split <;> (try rw [List.length_set]) <;> exact own_l4 _ _ _ _
theorem own_in {j : Int32} {vs : List Value} (h : ¬ j < 0 ∧ j < 7) (hl : vs.length = 7) : j.toNatClampNeg < vs.length := by
  obtain ⟨h0, h1⟩ := h
  rw [hl]
  rw [Int32.lt_iff_toInt_lt] at h0 h1
  have e0 : (0 : Int32).toInt = 0 := by decide
  have e7 : (7 : Int32).toInt = 7 := by decide
  simp only [Int32.toNatClampNeg]
  omega
theorem own_d3 {a l : Int32} (h : (a &&& (3 : Int32)) % (3 : Int32) = l) : l = 0 ∨ l = 1 ∨ l = 2 := by
  subst h
  have h1 := c_mask a 3 2 (by decide) (by decide)
  have h2 := (c_irem (a &&& (3 : Int32)) 3 3 (by decide)).1 (by omega)
  have e0 : (0 : Int32).toInt = 0 := by decide
  have e1 : (1 : Int32).toInt = 1 := by decide
  have e2 : (2 : Int32).toInt = 2 := by decide
  simp only [← Int32.toInt_inj, e0, e1, e2]
  omega
theorem own_d2 {a l : Int32} (h : (a &&& (1 : Int32)) = l) : l = 0 ∨ l = 1 := by
  subst h
  have h1 := c_mask a 1 1 (by decide) (by decide)
  have e0 : (0 : Int32).toInt = 0 := by decide
  have e1 : (1 : Int32).toInt = 1 := by decide
  simp only [← Int32.toInt_inj, e0, e1]
  omega
theorem own_dd {a l : Int32} (h : (a &&& (2147483647 : Int32)) % (3 : Int32) = l) : l = 0 ∨ l = 1 ∨ l = 2 := by
  subst h
  have h1 := c_mask a 2147483647 31 (by decide) (by decide)
  have h2 := (c_irem (a &&& (2147483647 : Int32)) 3 3 (by decide)).1 (by omega)
  have e0 : (0 : Int32).toInt = 0 := by decide
  have e1 : (1 : Int32).toInt = 1 := by decide
  have e2 : (2 : Int32).toInt = 2 := by decide
  simp only [← Int32.toInt_inj, e0, e1, e2]
  omega
theorem own_ii {a c l : Int32} (hc : c = 0 ∨ c = 1 ∨ c = 2) (hz : ¬ c = 0) (h : (a &&& (2147483647 : Int32)) % c = l) : (l = 0 ∧ (0 : Int32) < c) ∨ (l = 1 ∧ (1 : Int32) < c) := by
  subst h
  have h1 := c_mask a 2147483647 31 (by decide) (by decide)
  have e0 : (0 : Int32).toInt = 0 := by decide
  have e1 : (1 : Int32).toInt = 1 := by decide
  rcases hc with rfl | rfl | rfl
  · exact absurd rfl hz
  · have h2 := (c_irem (a &&& (2147483647 : Int32)) 1 1 (by decide)).1 (by omega)
    refine Or.inl ⟨Int32.toInt_inj.mp ?_, by decide⟩
    rw [e0]; omega
  · have h2 := (c_irem (a &&& (2147483647 : Int32)) 2 2 (by decide)).1 (by omega)
    by_cases q : a.toInt % 2 = 0
    · refine Or.inl ⟨Int32.toInt_inj.mp ?_, by decide⟩
      rw [e0]; omega
    · refine Or.inr ⟨Int32.toInt_inj.mp ?_, by decide⟩
      rw [e1]; omega
theorem own_b0 {ld : Int32} (hl : ld = 0 ∨ ld = 1) : ¬ (own_p0 ld) < 0 ∧ (own_p0 ld) < 7 := by
  rcases hl with rfl | rfl <;> decide
theorem own_b1 {ld c0 : Int32} (hl : ld = 0 ∨ ld = 1) (h0 : c0 = 0 ∨ c0 = 1 ∨ c0 = 2) : ¬ (own_p1 ld c0) < 0 ∧ (own_p1 ld c0) < 7 := by
  rcases hl with rfl | rfl <;> rcases h0 with rfl | rfl | rfl <;> decide
theorem own_b2 {ld c0 : Int32} (hl : ld = 0 ∨ ld = 1) (h0 : c0 = 0 ∨ c0 = 1 ∨ c0 = 2) : ¬ (own_p2 ld c0) < 0 ∧ (own_p2 ld c0) < 7 := by
  rcases hl with rfl | rfl <;> rcases h0 with rfl | rfl | rfl <;> decide
theorem own_b3 {ld c0 c1 : Int32} (hl : ld = 0 ∨ ld = 1) (h0 : c0 = 0 ∨ c0 = 1 ∨ c0 = 2) (h1 : c1 = 0 ∨ c1 = 1 ∨ c1 = 2) : ¬ (own_p3 ld c0 c1) < 0 ∧ (own_p3 ld c0 c1) < 7 := by
  rcases hl with rfl | rfl <;> rcases h0 with rfl | rfl | rfl <;> rcases h1 with rfl | rfl | rfl <;> decide
theorem own_b4 {ld c0 c1 : Int32} (hl : ld = 0 ∨ ld = 1) (h0 : c0 = 0 ∨ c0 = 1 ∨ c0 = 2) (h1 : c1 = 0 ∨ c1 = 1 ∨ c1 = 2) : ¬ (own_p4 ld c0 c1) < 0 ∧ (own_p4 ld c0 c1) < 7 := by
  rcases hl with rfl | rfl <;> rcases h0 with rfl | rfl | rfl <;> rcases h1 with rfl | rfl | rfl <;> decide
theorem own_b5 {ld c0 c1 c2 : Int32} (hl : ld = 0 ∨ ld = 1) (h0 : c0 = 0 ∨ c0 = 1 ∨ c0 = 2) (h1 : c1 = 0 ∨ c1 = 1 ∨ c1 = 2) (h2 : c2 = 0 ∨ c2 = 1 ∨ c2 = 2) : ¬ (own_p5 ld c0 c1 c2) < 0 ∧ (own_p5 ld c0 c1 c2) < 7 := by
  rcases hl with rfl | rfl <;> rcases h0 with rfl | rfl | rfl <;> rcases h1 with rfl | rfl | rfl <;> rcases h2 with rfl | rfl | rfl <;> decide
set_option maxHeartbeats 40000000 in
theorem own_g0 {x ld c0 c1 c2 ii : Int32} (hl : ld = 0 ∨ ld = 1) (h0 : c0 = 0 ∨ c0 = 1 ∨ c0 = 2) (h1 : c1 = 0 ∨ c1 = 1 ∨ c1 = 2) (h2 : c2 = 0 ∨ c2 = 1 ∨ c2 = 2) (hi : (ii = 0 ∧ (0 : Int32) < c0) ∨ (ii = 1 ∧ (1 : Int32) < c0)) : (¬ ((own_p0 ld) + ii) < 0 ∧ ((own_p0 ld) + ii) < 7) ∧ (own_v6 x ld c0 c1 c2).getD ((own_p0 ld) + ii).toNatClampNeg (.int (0 : Int32)) = .int (own_enc x (0 : Int32) ii) := by
  rcases hl with rfl | rfl <;> rcases h0 with rfl | rfl | rfl <;> rcases h1 with rfl | rfl | rfl <;> rcases h2 with rfl | rfl | rfl <;> rcases hi with ⟨rfl, q⟩ | ⟨rfl, q⟩ <;> first | exact ⟨by decide, rfl⟩ | exact absurd q (by decide)
set_option maxHeartbeats 40000000 in
theorem own_g1 {x ld c0 c1 c2 ii : Int32} (hl : ld = 0 ∨ ld = 1) (h0 : c0 = 0 ∨ c0 = 1 ∨ c0 = 2) (h1 : c1 = 0 ∨ c1 = 1 ∨ c1 = 2) (h2 : c2 = 0 ∨ c2 = 1 ∨ c2 = 2) (hi : (ii = 0 ∧ (0 : Int32) < c1) ∨ (ii = 1 ∧ (1 : Int32) < c1)) : (¬ ((own_p2 ld c0) + ii) < 0 ∧ ((own_p2 ld c0) + ii) < 7) ∧ (own_v6 x ld c0 c1 c2).getD ((own_p2 ld c0) + ii).toNatClampNeg (.int (0 : Int32)) = .int (own_enc x (1 : Int32) ii) := by
  rcases hl with rfl | rfl <;> rcases h0 with rfl | rfl | rfl <;> rcases h1 with rfl | rfl | rfl <;> rcases h2 with rfl | rfl | rfl <;> rcases hi with ⟨rfl, q⟩ | ⟨rfl, q⟩ <;> first | exact ⟨by decide, rfl⟩ | exact absurd q (by decide)
set_option maxHeartbeats 40000000 in
theorem own_g2 {x ld c0 c1 c2 ii : Int32} (hl : ld = 0 ∨ ld = 1) (h0 : c0 = 0 ∨ c0 = 1 ∨ c0 = 2) (h1 : c1 = 0 ∨ c1 = 1 ∨ c1 = 2) (h2 : c2 = 0 ∨ c2 = 1 ∨ c2 = 2) (hi : (ii = 0 ∧ (0 : Int32) < c2) ∨ (ii = 1 ∧ (1 : Int32) < c2)) : (¬ ((own_p4 ld c0 c1) + ii) < 0 ∧ ((own_p4 ld c0 c1) + ii) < 7) ∧ (own_v6 x ld c0 c1 c2).getD ((own_p4 ld c0 c1) + ii).toNatClampNeg (.int (0 : Int32)) = .int (own_enc x (2 : Int32) ii) := by
  rcases hl with rfl | rfl <;> rcases h0 with rfl | rfl | rfl <;> rcases h1 with rfl | rfl | rfl <;> rcases h2 with rfl | rfl | rfl <;> rcases hi with ⟨rfl, q⟩ | ⟨rfl, q⟩ <;> first | exact ⟨by decide, rfl⟩ | exact absurd q (by decide)
theorem d1_0 : decode prog_40_method_1_code 0 = .ok (.aload_n 0, 1) := by decide +kernel
theorem d1_1 : decode prog_40_method_1_code 1 = .ok (.invokespecial 1, 3) := by decide +kernel
theorem d1_4 : decode prog_40_method_1_code 4 = .ok (.aload_n 0, 1) := by decide +kernel
theorem d1_5 : decode prog_40_method_1_code 5 = .ok (.iload_n 1, 1) := by decide +kernel
theorem d1_6 : decode prog_40_method_1_code 6 = .ok (.putfield 7, 3) := by decide +kernel
theorem d1_9 : decode prog_40_method_1_code 9 = .ok (.aload_n 0, 1) := by decide +kernel
theorem d1_10 : decode prog_40_method_1_code 10 = .ok (.aload_n 2, 1) := by decide +kernel
theorem d1_11 : decode prog_40_method_1_code 11 = .ok (.putfield 13, 3) := by decide +kernel
theorem d1_14 : decode prog_40_method_1_code 14 = .ok (.aload_n 0, 1) := by decide +kernel
theorem d1_15 : decode prog_40_method_1_code 15 = .ok (.aload_n 3, 1) := by decide +kernel
theorem d1_16 : decode prog_40_method_1_code 16 = .ok (.putfield 17, 3) := by decide +kernel
theorem d1_19 : decode prog_40_method_1_code 19 = .ok (.aload_n 0, 1) := by decide +kernel
theorem d1_20 : decode prog_40_method_1_code 20 = .ok (.aload 4, 2) := by decide +kernel
theorem d1_22 : decode prog_40_method_1_code 22 = .ok (.putfield 20, 3) := by decide +kernel
theorem d1_25 : decode prog_40_method_1_code 25 = .ok (.return_, 1) := by decide +kernel
theorem pn_1 : plainName "com/example/bulk_retrieval/bulkretrieval/index/Neighbours" = true := by first | (simp [plainName, overriddenIn]; done) | decide +kernel
theorem ef_1 (m : MethodId) (r0 : Addr) (p1 : Int32) (r2 : Addr) (r3 : Addr) (r4 : Addr) : entryFrame m #[(.ref r0), (.int p1), (.ref r2), (.ref r3), (.ref r4)] 5 = mkF m 0 #[.val (.ref r0), .val (.int p1), .val (.ref r2), .val (.ref r3), .val (.ref r4)] [] := by first | (simp [entryFrame, mkF, argsToLocals, Value.category]; done) | rfl
def Q1 (Z : State) (r0 : Addr) (p1 : Int32) (r2 : Addr) (r3 : Addr) (r4 : Addr)  (h0 : Heap) (n0 : Nat) (v : Option Value) (h : Heap) (L : List Loc) : Prop := v = none ∧ Fr n0 L ∧ Keep h0 h [r0] ∧ Fld Z h r0 "com/example/bulk_retrieval/bulkretrieval/index/Neighbours" "limit" "I" (.int p1) ∧ Fld Z h r0 "com/example/bulk_retrieval/bulkretrieval/index/Neighbours" "starts" "[I" (.ref r2) ∧ Fld Z h r0 "com/example/bulk_retrieval/bulkretrieval/index/Neighbours" "documents" "[I" (.ref r3) ∧ Fld Z h r0 "com/example/bulk_retrieval/bulkretrieval/index/Neighbours" "similarities" "[D" (.ref r4)
set_option maxRecDepth 65536 in
set_option maxHeartbeats 40000000 in
theorem rm1 (l : Launch) (Z : State) (a0 : Array Value) (hw : ∀ d ∈ tables_1, d.before a0 Z = true) (ws : List Jvm.Cond) (r0 : Addr) (p1 : Int32) (r2 : Addr) (r3 : Addr) (r4 : Addr)  (h0 : Heap) (n0 : Nat) (Z0 : n0 ≤ h0.size) (PE : Exa Z h0 r0 "com/example/bulk_retrieval/bulkretrieval/index/Neighbours") (PG : n0 ≤ r0) (P_limit : Fld Z h0 r0 "com/example/bulk_retrieval/bulkretrieval/index/Neighbours" "limit" "I" (.int (0 : Int32))) (P_starts : Fld Z h0 r0 "com/example/bulk_retrieval/bulkretrieval/index/Neighbours" "starts" "[I" .null) (P_documents : Fld Z h0 r0 "com/example/bulk_retrieval/bulkretrieval/index/Neighbours" "documents" "[I" .null) (P_similarities : Fld Z h0 r0 "com/example/bulk_retrieval/bulkretrieval/index/Neighbours" "similarities" "[D" .null) :
    MetFree l (⟨"com/example/bulk_retrieval/bulkretrieval/index/Neighbours", "<init>", "(I[I[I[D)V"⟩ : MethodName) (head1 (Jvm.Cond.code (⟨"com/example/bulk_retrieval/bulkretrieval/index/Neighbours", "<init>", "(I[I[I[D)V"⟩ : MethodName) prog_40_method_1_code 5 none :: ws) ({ frames := 1, cells := 0, slots := 0, locals := 12 } : Room)) (fun a U => a = #[(.ref r0), (.int p1), (.ref r2), (.ref r3), (.ref r4)] ∧ Z.Warmed39 U.vm ∧ U.heap = h0) (fun _ _ _ _ _ => True) (fun _ U o U' => ∃ v L, o = .returned v ∧ Q1 Z r0 p1 r2 r3 r4 h0 n0 v U'.heap L ∧ FrameEnd U o U' L ({ frames := 1, cells := 0, slots := 0, locals := 12 } : Room).cells ({ frames := 1, cells := 0, slots := 0, locals := 12 } : Room).slots) := by
  refine MetFree.of_bodySF (plainFor_of_name pn_1) hisR ?_
  intro p e s m args below meth c s₁ Bd hml0 hP hK
  obtain ⟨rfl, hZ, hh⟩ := hP
  have hx := Bd.exec
  have hby := Bd.bytes
  have hml : c.maxLocals = 5 := hml0
  have hown : s.vm.findClass "com/example/bulk_retrieval/bulkretrieval/index/Neighbours" = some m.cls := findClass_of_methodNamed Bd.named
  have hnm := (name_of_methodNamed Bd.named Bd.method).1
  have hlk : meth.locks = false := Bd.notSynchronized
  have X0 : Stand p l e ({ frames := 1, cells := 0, slots := 0, locals := 12 } : Room) s m #[(.ref r0), (.int p1), (.ref r2), (.ref r3), (.ref r4)] below meth c s₁ [] 0 0 := Stand.of_body Bd
  have e0 : s₁.heap = h0 := by rw [← hh, Bd.state]; rfl
  have N0 := Fr.nil n0
  refine own_cast (Q := Q1 Z r0 p1 r2 r3 r4 h0 n0) (kc := 0) (ks := 0) (ef_1 m r0 p1 r2 r3 r4) ?_
  have K_1 := Keep.refl h0 [r0]
  refine own_st (fun _ k => XS.aloadN X0.here hx rfl (hb hby d1_0) rfl rfl k) ?_
  show own_Go X0 (Q1 Z r0 p1 r2 r3 r4 h0 n0) 0 0 1 #[.val (.ref r0), .val (.int p1), .val (.ref r2), .val (.ref r3), .val (.ref r4)] [(.ref r0)]
  obtain ⟨T2, X2, e2, st2⟩ := initO X0 hx hZ hown (hw _ (List.mem_of_getElem? (i := 8) rfl)) (hw _ (List.mem_of_getElem? (i := 9) rfl)) (hw _ (List.mem_of_getElem? (i := 10) rfl)) e0 (g := (mkF m 1 #[.val (.ref r0), .val (.int p1), .val (.ref r2), .val (.ref r3), .val (.ref r4)] [(.ref r0)])) rfl (by rw [hml]; rfl) rfl (hb hby d1_1) (by decide) (W := 0) (by show 2 * 0 + _ ≤ _; exact Nat.le_of_eq rfl) (by decide)
  refine own_st st2 ?_
  show own_Go X2 (Q1 Z r0 p1 r2 r3 r4 h0 n0) 0 0 4 #[.val (.ref r0), .val (.int p1), .val (.ref r2), .val (.ref r3), .val (.ref r4)] []
  refine own_st (fun _ k => XS.aloadN X2.here hx rfl (hb hby d1_4) rfl rfl k) ?_
  show own_Go X2 (Q1 Z r0 p1 r2 r3 r4 h0 n0) 0 0 5 #[.val (.ref r0), .val (.int p1), .val (.ref r2), .val (.ref r3), .val (.ref r4)] [(.ref r0)]
  refine own_st (fun _ k => XS.iloadN X2.here hx rfl (hb hby d1_5) rfl k) ?_
  show own_Go X2 (Q1 Z r0 p1 r2 r3 r4 h0 n0) 0 0 6 #[.val (.ref r0), .val (.int p1), .val (.ref r2), .val (.ref r3), .val (.ref r4)] [(.int p1), (.ref r0)]
  obtain ⟨T3, h3, X3, e3, W3, st3⟩ := putF X2 hx hZ hown (host := "") (Or.inl (hw _ (List.mem_of_getElem? (i := 11) rfl))) Via.refl e2 P_limit PE (Or.inr ⟨(hw _ (List.mem_of_getElem? (i := 12) rfl)), rfl, hnm⟩) (hw _ (List.mem_of_getElem? (i := 3) rfl)) (ty := .int) (by decide) rfl rfl (g := (mkF m 6 #[.val (.ref r0), .val (.int p1), .val (.ref r2), .val (.ref r3), .val (.ref r4)] [(.int p1), (.ref r0)])) rfl rfl (hb hby d1_6)
  refine own_st st3 ?_
  have f_4 := PE.wr W3
  have f_5 := P_starts.other W3 (Or.inr (slot_ne (Or.inr (hw _ (List.mem_of_getElem? (i := 14) rfl))) (Or.inr (hw _ (List.mem_of_getElem? (i := 12) rfl))) (by decide) (t := (.array .int)) (t' := .int) (by decide) (by decide)))
  have f_6 := P_documents.other W3 (Or.inr (slot_ne (Or.inr (hw _ (List.mem_of_getElem? (i := 16) rfl))) (Or.inr (hw _ (List.mem_of_getElem? (i := 12) rfl))) (by decide) (t := (.array .int)) (t' := .int) (by decide) (by decide)))
  have f_7 := P_similarities.other W3 (Or.inr (slot_ne (Or.inr (hw _ (List.mem_of_getElem? (i := 18) rfl))) (Or.inr (hw _ (List.mem_of_getElem? (i := 12) rfl))) (by decide) (t := (.array .double)) (t' := .int) (by decide) (by decide)))
  have Z_8 := Nat.le_trans Z0 (Nat.le_of_eq W3.size.symm)
  have K_9 := K_1.wr W3 (Or.inl (List.mem_of_getElem? (i := 0) rfl))
  have f_10 := P_limit.same W3
  have N_11 := Fr.snoc X3 N0 PG
  show own_Go X3 (Q1 Z r0 p1 r2 r3 r4 h0 n0) 0 0 9 #[.val (.ref r0), .val (.int p1), .val (.ref r2), .val (.ref r3), .val (.ref r4)] []
  refine own_st (fun _ k => XS.aloadN X3.here hx rfl (hb hby d1_9) rfl rfl k) ?_
  show own_Go X3 (Q1 Z r0 p1 r2 r3 r4 h0 n0) 0 0 10 #[.val (.ref r0), .val (.int p1), .val (.ref r2), .val (.ref r3), .val (.ref r4)] [(.ref r0)]
  refine own_st (fun _ k => XS.aloadN X3.here hx rfl (hb hby d1_10) rfl rfl k) ?_
  show own_Go X3 (Q1 Z r0 p1 r2 r3 r4 h0 n0) 0 0 11 #[.val (.ref r0), .val (.int p1), .val (.ref r2), .val (.ref r3), .val (.ref r4)] [(.ref r2), (.ref r0)]
  obtain ⟨T12, h12, X12, e12, W12, st12⟩ := putF X3 hx hZ hown (host := "") (Or.inl (hw _ (List.mem_of_getElem? (i := 13) rfl))) Via.refl e3 f_5 f_4 (Or.inr ⟨(hw _ (List.mem_of_getElem? (i := 14) rfl)), rfl, hnm⟩) (hw _ (List.mem_of_getElem? (i := 3) rfl)) (ty := (.array .int)) (by decide) rfl rfl (g := (mkF m 11 #[.val (.ref r0), .val (.int p1), .val (.ref r2), .val (.ref r3), .val (.ref r4)] [(.ref r2), (.ref r0)])) rfl rfl (hb hby d1_11)
  refine own_st st12 ?_
  have f_13 := f_4.wr W12
  have f_14 := f_10.other W12 (Or.inr (slot_ne (Or.inr (hw _ (List.mem_of_getElem? (i := 12) rfl))) (Or.inr (hw _ (List.mem_of_getElem? (i := 14) rfl))) (by decide) (t := .int) (t' := (.array .int)) (by decide) (by decide)))
  have f_15 := f_6.other W12 (Or.inr (slot_ne (Or.inr (hw _ (List.mem_of_getElem? (i := 16) rfl))) (Or.inr (hw _ (List.mem_of_getElem? (i := 14) rfl))) (by decide) (t := (.array .int)) (t' := (.array .int)) (by decide) (by decide)))
  have f_16 := f_7.other W12 (Or.inr (slot_ne (Or.inr (hw _ (List.mem_of_getElem? (i := 18) rfl))) (Or.inr (hw _ (List.mem_of_getElem? (i := 14) rfl))) (by decide) (t := (.array .double)) (t' := (.array .int)) (by decide) (by decide)))
  have Z_17 := Nat.le_trans Z_8 (Nat.le_of_eq W12.size.symm)
  have K_18 := K_9.wr W12 (Or.inl (List.mem_of_getElem? (i := 0) rfl))
  have f_19 := f_5.same W12
  have N_20 := Fr.snoc X12 N_11 PG
  show own_Go X12 (Q1 Z r0 p1 r2 r3 r4 h0 n0) 0 0 14 #[.val (.ref r0), .val (.int p1), .val (.ref r2), .val (.ref r3), .val (.ref r4)] []
  refine own_st (fun _ k => XS.aloadN X12.here hx rfl (hb hby d1_14) rfl rfl k) ?_
  show own_Go X12 (Q1 Z r0 p1 r2 r3 r4 h0 n0) 0 0 15 #[.val (.ref r0), .val (.int p1), .val (.ref r2), .val (.ref r3), .val (.ref r4)] [(.ref r0)]
  refine own_st (fun _ k => XS.aloadN X12.here hx rfl (hb hby d1_15) rfl rfl k) ?_
  show own_Go X12 (Q1 Z r0 p1 r2 r3 r4 h0 n0) 0 0 16 #[.val (.ref r0), .val (.int p1), .val (.ref r2), .val (.ref r3), .val (.ref r4)] [(.ref r3), (.ref r0)]
  obtain ⟨T21, h21, X21, e21, W21, st21⟩ := putF X12 hx hZ hown (host := "") (Or.inl (hw _ (List.mem_of_getElem? (i := 15) rfl))) Via.refl e12 f_15 f_13 (Or.inr ⟨(hw _ (List.mem_of_getElem? (i := 16) rfl)), rfl, hnm⟩) (hw _ (List.mem_of_getElem? (i := 3) rfl)) (ty := (.array .int)) (by decide) rfl rfl (g := (mkF m 16 #[.val (.ref r0), .val (.int p1), .val (.ref r2), .val (.ref r3), .val (.ref r4)] [(.ref r3), (.ref r0)])) rfl rfl (hb hby d1_16)
  refine own_st st21 ?_
  have f_22 := f_13.wr W21
  have f_23 := f_14.other W21 (Or.inr (slot_ne (Or.inr (hw _ (List.mem_of_getElem? (i := 12) rfl))) (Or.inr (hw _ (List.mem_of_getElem? (i := 16) rfl))) (by decide) (t := .int) (t' := (.array .int)) (by decide) (by decide)))
  have f_24 := f_19.other W21 (Or.inr (slot_ne (Or.inr (hw _ (List.mem_of_getElem? (i := 14) rfl))) (Or.inr (hw _ (List.mem_of_getElem? (i := 16) rfl))) (by decide) (t := (.array .int)) (t' := (.array .int)) (by decide) (by decide)))
  have f_25 := f_16.other W21 (Or.inr (slot_ne (Or.inr (hw _ (List.mem_of_getElem? (i := 18) rfl))) (Or.inr (hw _ (List.mem_of_getElem? (i := 16) rfl))) (by decide) (t := (.array .double)) (t' := (.array .int)) (by decide) (by decide)))
  have Z_26 := Nat.le_trans Z_17 (Nat.le_of_eq W21.size.symm)
  have K_27 := K_18.wr W21 (Or.inl (List.mem_of_getElem? (i := 0) rfl))
  have f_28 := f_15.same W21
  have N_29 := Fr.snoc X21 N_20 PG
  show own_Go X21 (Q1 Z r0 p1 r2 r3 r4 h0 n0) 0 0 19 #[.val (.ref r0), .val (.int p1), .val (.ref r2), .val (.ref r3), .val (.ref r4)] []
  refine own_st (fun _ k => XS.aloadN X21.here hx rfl (hb hby d1_19) rfl rfl k) ?_
  show own_Go X21 (Q1 Z r0 p1 r2 r3 r4 h0 n0) 0 0 20 #[.val (.ref r0), .val (.int p1), .val (.ref r2), .val (.ref r3), .val (.ref r4)] [(.ref r0)]
  refine own_st (fun _ k => XS.aload X21.here hx rfl (hb hby d1_20) rfl rfl k) ?_
  show own_Go X21 (Q1 Z r0 p1 r2 r3 r4 h0 n0) 0 0 22 #[.val (.ref r0), .val (.int p1), .val (.ref r2), .val (.ref r3), .val (.ref r4)] [(.ref r4), (.ref r0)]
  obtain ⟨T30, h30, X30, e30, W30, st30⟩ := putF X21 hx hZ hown (host := "") (Or.inl (hw _ (List.mem_of_getElem? (i := 17) rfl))) Via.refl e21 f_25 f_22 (Or.inr ⟨(hw _ (List.mem_of_getElem? (i := 18) rfl)), rfl, hnm⟩) (hw _ (List.mem_of_getElem? (i := 3) rfl)) (ty := (.array .double)) (by decide) rfl rfl (g := (mkF m 22 #[.val (.ref r0), .val (.int p1), .val (.ref r2), .val (.ref r3), .val (.ref r4)] [(.ref r4), (.ref r0)])) rfl rfl (hb hby d1_22)
  refine own_st st30 ?_
  have f_31 := f_22.wr W30
  have f_32 := f_23.other W30 (Or.inr (slot_ne (Or.inr (hw _ (List.mem_of_getElem? (i := 12) rfl))) (Or.inr (hw _ (List.mem_of_getElem? (i := 18) rfl))) (by decide) (t := .int) (t' := (.array .double)) (by decide) (by decide)))
  have f_33 := f_24.other W30 (Or.inr (slot_ne (Or.inr (hw _ (List.mem_of_getElem? (i := 14) rfl))) (Or.inr (hw _ (List.mem_of_getElem? (i := 18) rfl))) (by decide) (t := (.array .int)) (t' := (.array .double)) (by decide) (by decide)))
  have f_34 := f_28.other W30 (Or.inr (slot_ne (Or.inr (hw _ (List.mem_of_getElem? (i := 16) rfl))) (Or.inr (hw _ (List.mem_of_getElem? (i := 18) rfl))) (by decide) (t := (.array .int)) (t' := (.array .double)) (by decide) (by decide)))
  have Z_35 := Nat.le_trans Z_26 (Nat.le_of_eq W30.size.symm)
  have K_36 := K_27.wr W30 (Or.inl (List.mem_of_getElem? (i := 0) rfl))
  have f_37 := f_25.same W30
  have N_38 := Fr.snoc X30 N_29 PG
  show own_Go X30 (Q1 Z r0 p1 r2 r3 r4 h0 n0) 0 0 25 #[.val (.ref r0), .val (.int p1), .val (.ref r2), .val (.ref r3), .val (.ref r4)] []
  refine own_retV X30 hx Bd.returns hlk e30 (hb hby d1_25) (by decide) (by decide) ?_
  exact ⟨rfl, N_38, K_36, f_32, f_33, f_34, f_37⟩
theorem d3_0 : decode method_2_code 0 = .ok (.iload_n 0, 1) := by decide +kernel
theorem d3_1 : decode method_2_code 1 = .ok (.iconst 3, 1) := by decide +kernel
theorem d3_2 : decode method_2_code 2 = .ok (.iload_n 1, 1) := by decide +kernel
theorem d3_3 : decode method_2_code 3 = .ok (.imul, 1) := by decide +kernel
theorem d3_4 : decode method_2_code 4 = .ok (.iadd, 1) := by decide +kernel
theorem d3_5 : decode method_2_code 5 = .ok (.iload_n 2, 1) := by decide +kernel
theorem d3_6 : decode method_2_code 6 = .ok (.iadd, 1) := by decide +kernel
theorem d3_7 : decode method_2_code 7 = .ok (.ireturn, 1) := by decide +kernel
theorem pn_3 : plainName "com/example/bulk_retrieval/bulkretrieval/index/NeighboursDocumentPinLaw" = true := by first | (simp [plainName, overriddenIn]; done) | decide +kernel
theorem ef_3 (m : MethodId) (p0 : Int32) (p1 : Int32) (p2 : Int32) : entryFrame m #[(.int p0), (.int p1), (.int p2)] 3 = mkF m 0 #[.val (.int p0), .val (.int p1), .val (.int p2)] [] := by first | (simp [entryFrame, mkF, argsToLocals, Value.category]; done) | rfl
def Q3 (Z : State) (p0 : Int32) (p1 : Int32) (p2 : Int32)  (h0 : Heap) (n0 : Nat) (v : Option Value) (h : Heap) (L : List Loc) : Prop := v = some (.int (own_enc p0 p1 p2)) ∧ Fr n0 L ∧ h = h0
set_option maxRecDepth 65536 in
set_option maxHeartbeats 40000000 in
theorem rm3 (l : Launch) (Z : State) (a0 : Array Value) (hw : ∀ d ∈ tables_1, d.before a0 Z = true) (ws : List Jvm.Cond) (p0 : Int32) (p1 : Int32) (p2 : Int32)  (h0 : Heap) (n0 : Nat) (Z0 : n0 ≤ h0.size)  :
    MetFree l (⟨"com/example/bulk_retrieval/bulkretrieval/index/NeighboursDocumentPinLaw", "enc", "(III)I"⟩ : MethodName) (head1 (Jvm.Cond.code (⟨"com/example/bulk_retrieval/bulkretrieval/index/NeighboursDocumentPinLaw", "enc", "(III)I"⟩ : MethodName) method_2_code 3 (some .int) :: ws) ({ frames := 0, cells := 0, slots := 0, locals := 0 } : Room)) (fun a U => a = #[(.int p0), (.int p1), (.int p2)] ∧ Z.Warmed39 U.vm ∧ U.heap = h0) (fun _ _ _ _ _ => True) (fun _ U o U' => ∃ v L, o = .returned v ∧ Q3 Z p0 p1 p2 h0 n0 v U'.heap L ∧ FrameEnd U o U' L ({ frames := 0, cells := 0, slots := 0, locals := 0 } : Room).cells ({ frames := 0, cells := 0, slots := 0, locals := 0 } : Room).slots) := by
  refine MetFree.of_bodySF (plainFor_of_name pn_3) hisR ?_
  intro p e s m args below meth c s₁ Bd hml0 hP hK
  obtain ⟨rfl, hZ, hh⟩ := hP
  have hx := Bd.exec
  have hby := Bd.bytes
  have hml : c.maxLocals = 3 := hml0
  have hown : s.vm.findClass "com/example/bulk_retrieval/bulkretrieval/index/NeighboursDocumentPinLaw" = some m.cls := findClass_of_methodNamed Bd.named
  have hnm := (name_of_methodNamed Bd.named Bd.method).1
  have hlk : meth.locks = false := Bd.notSynchronized
  have X0 : Stand p l e ({ frames := 0, cells := 0, slots := 0, locals := 0 } : Room) s m #[(.int p0), (.int p1), (.int p2)] below meth c s₁ [] 0 0 := Stand.of_body Bd
  have e0 : s₁.heap = h0 := by rw [← hh, Bd.state]; rfl
  have N0 := Fr.nil n0
  refine own_cast (Q := Q3 Z p0 p1 p2 h0 n0) (kc := 0) (ks := 0) (ef_3 m p0 p1 p2) ?_
  refine own_st (fun _ k => XS.iloadN X0.here hx rfl (hb hby d3_0) rfl k) ?_
  show own_Go X0 (Q3 Z p0 p1 p2 h0 n0) 0 0 1 #[.val (.int p0), .val (.int p1), .val (.int p2)] [(.int p0)]
  refine own_st (fun _ k => XS.iconst X0.here hx rfl (hb hby d3_1) k) ?_
  show own_Go X0 (Q3 Z p0 p1 p2 h0 n0) 0 0 2 #[.val (.int p0), .val (.int p1), .val (.int p2)] [(.int (3 : Int32)), (.int p0)]
  refine own_st (fun _ k => XS.iloadN X0.here hx rfl (hb hby d3_2) rfl k) ?_
  show own_Go X0 (Q3 Z p0 p1 p2 h0 n0) 0 0 3 #[.val (.int p0), .val (.int p1), .val (.int p2)] [(.int p1), (.int (3 : Int32)), (.int p0)]
  refine own_st (fun _ k => XS.imul X0.here hx rfl (hb hby d3_3) rfl k) ?_
  show own_Go X0 (Q3 Z p0 p1 p2 h0 n0) 0 0 4 #[.val (.int p0), .val (.int p1), .val (.int p2)] [(.int ((3 : Int32) * p1)), (.int p0)]
  refine own_st (fun _ k => XS.iadd X0.here hx rfl (hb hby d3_4) rfl k) ?_
  show own_Go X0 (Q3 Z p0 p1 p2 h0 n0) 0 0 5 #[.val (.int p0), .val (.int p1), .val (.int p2)] [(.int (p0 + ((3 : Int32) * p1)))]
  refine own_st (fun _ k => XS.iloadN X0.here hx rfl (hb hby d3_5) rfl k) ?_
  show own_Go X0 (Q3 Z p0 p1 p2 h0 n0) 0 0 6 #[.val (.int p0), .val (.int p1), .val (.int p2)] [(.int p2), (.int (p0 + ((3 : Int32) * p1)))]
  refine own_st (fun _ k => XS.iadd X0.here hx rfl (hb hby d3_6) rfl k) ?_
  show own_Go X0 (Q3 Z p0 p1 p2 h0 n0) 0 0 7 #[.val (.int p0), .val (.int p1), .val (.int p2)] [(.int ((p0 + ((3 : Int32) * p1)) + p2))]
  refine own_retI X0 hx Bd.returns hlk e0 (hb hby d3_7) (by decide) (by decide) ?_
  exact ⟨rfl, N0, rfl⟩
theorem d4_0 : decode prog_40_method_4_code 0 = .ok (.aload_n 0, 1) := by decide +kernel
theorem d4_1 : decode prog_40_method_4_code 1 = .ok (.getfield 17, 3) := by decide +kernel
theorem d4_4 : decode prog_40_method_4_code 4 = .ok (.aload_n 0, 1) := by decide +kernel
theorem d4_5 : decode prog_40_method_4_code 5 = .ok (.getfield 13, 3) := by decide +kernel
theorem d4_8 : decode prog_40_method_4_code 8 = .ok (.iload_n 1, 1) := by decide +kernel
theorem d4_9 : decode prog_40_method_4_code 9 = .ok (.iaload, 1) := by decide +kernel
theorem d4_10 : decode prog_40_method_4_code 10 = .ok (.iload_n 2, 1) := by decide +kernel
theorem d4_11 : decode prog_40_method_4_code 11 = .ok (.iadd, 1) := by decide +kernel
theorem d4_12 : decode prog_40_method_4_code 12 = .ok (.iaload, 1) := by decide +kernel
theorem d4_13 : decode prog_40_method_4_code 13 = .ok (.ireturn, 1) := by decide +kernel
theorem pn_4 : plainName "com/example/bulk_retrieval/bulkretrieval/index/Neighbours" = true := by first | (simp [plainName, overriddenIn]; done) | decide +kernel
theorem ef_4 (m : MethodId) (r0 : Addr) (p1 : Int32) (p2 : Int32) : entryFrame m #[(.ref r0), (.int p1), (.int p2)] 3 = mkF m 0 #[.val (.ref r0), .val (.int p1), .val (.int p2)] [] := by first | (simp [entryFrame, mkF, argsToLocals, Value.category]; done) | rfl
def Q4 (Z : State) (r0 : Addr) (p1 : Int32) (p2 : Int32) (sa da : Addr) (kA kB : ClassId) (us vs : List Value) (ss ww : Int32) (h0 : Heap) (n0 : Nat) (v : Option Value) (h : Heap) (L : List Loc) : Prop := v = some (.int ww) ∧ Fr n0 L ∧ h = h0
set_option maxRecDepth 65536 in
set_option maxHeartbeats 40000000 in
theorem rm4 (l : Launch) (Z : State) (a0 : Array Value) (hw : ∀ d ∈ tables_1, d.before a0 Z = true) (ws : List Jvm.Cond) (r0 : Addr) (p1 : Int32) (p2 : Int32) (sa da : Addr) (kA kB : ClassId) (us vs : List Value) (ss ww : Int32) (h0 : Heap) (n0 : Nat) (Z0 : n0 ≤ h0.size) (PF : Fld Z h0 r0 "com/example/bulk_retrieval/bulkretrieval/index/Neighbours" "starts" "[I" (.ref sa)) (PG : Fld Z h0 r0 "com/example/bulk_retrieval/bulkretrieval/index/Neighbours" "documents" "[I" (.ref da)) (PV : Arv Z h0 sa kA .int (4 : Int32) us (.int (0 : Int32))) (PW : Arv Z h0 da kB .int (7 : Int32) vs (.int (0 : Int32))) (B0 : ¬ p1 < 0 ∧ p1 < 4) (g1 : us.getD p1.toNatClampNeg (.int (0 : Int32)) = .int ss) (BB : (¬ (ss + p2) < 0 ∧ (ss + p2) < 7) ∧ vs.getD (ss + p2).toNatClampNeg (.int (0 : Int32)) = .int ww) :
    MetFree l (⟨"com/example/bulk_retrieval/bulkretrieval/index/Neighbours", "document", "(II)I"⟩ : MethodName) (head1 (Jvm.Cond.code (⟨"com/example/bulk_retrieval/bulkretrieval/index/Neighbours", "document", "(II)I"⟩ : MethodName) prog_40_method_4_code 3 (some .int) :: ws) ({ frames := 0, cells := 0, slots := 0, locals := 0 } : Room)) (fun a U => a = #[(.ref r0), (.int p1), (.int p2)] ∧ Z.Warmed39 U.vm ∧ U.heap = h0) (fun _ _ _ _ _ => True) (fun _ U o U' => ∃ v L, o = .returned v ∧ Q4 Z r0 p1 p2 sa da kA kB us vs ss ww h0 n0 v U'.heap L ∧ FrameEnd U o U' L ({ frames := 0, cells := 0, slots := 0, locals := 0 } : Room).cells ({ frames := 0, cells := 0, slots := 0, locals := 0 } : Room).slots) := by
  refine MetFree.of_bodySF (plainFor_of_name pn_4) hisR ?_
  intro p e s m args below meth c s₁ Bd hml0 hP hK
  obtain ⟨rfl, hZ, hh⟩ := hP
  have hx := Bd.exec
  have hby := Bd.bytes
  have hml : c.maxLocals = 3 := hml0
  have hown : s.vm.findClass "com/example/bulk_retrieval/bulkretrieval/index/Neighbours" = some m.cls := findClass_of_methodNamed Bd.named
  have hnm := (name_of_methodNamed Bd.named Bd.method).1
  have hlk : meth.locks = false := Bd.notSynchronized
  have X0 : Stand p l e ({ frames := 0, cells := 0, slots := 0, locals := 0 } : Room) s m #[(.ref r0), (.int p1), (.int p2)] below meth c s₁ [] 0 0 := Stand.of_body Bd
  have e0 : s₁.heap = h0 := by rw [← hh, Bd.state]; rfl
  have N0 := Fr.nil n0
  refine own_cast (Q := Q4 Z r0 p1 p2 sa da kA kB us vs ss ww h0 n0) (kc := 0) (ks := 0) (ef_4 m r0 p1 p2) ?_
  refine own_st (fun _ k => XS.aloadN X0.here hx rfl (hb hby d4_0) rfl rfl k) ?_
  show own_Go X0 (Q4 Z r0 p1 p2 sa da kA kB us vs ss ww h0 n0) 0 0 1 #[.val (.ref r0), .val (.int p1), .val (.int p2)] [(.ref r0)]
  obtain ⟨T1, X1, e1, st1⟩ := getF X0 hx hZ hown (host := "") (Or.inl (hw _ (List.mem_of_getElem? (i := 15) rfl))) Via.refl e0 PG (g := (mkF m 1 #[.val (.ref r0), .val (.int p1), .val (.int p2)] [(.ref r0)])) rfl rfl (hb hby d4_1)
  refine own_st st1 ?_
  show own_Go X1 (Q4 Z r0 p1 p2 sa da kA kB us vs ss ww h0 n0) 0 0 4 #[.val (.ref r0), .val (.int p1), .val (.int p2)] [(.ref da)]
  refine own_st (fun _ k => XS.aloadN X1.here hx rfl (hb hby d4_4) rfl rfl k) ?_
  show own_Go X1 (Q4 Z r0 p1 p2 sa da kA kB us vs ss ww h0 n0) 0 0 5 #[.val (.ref r0), .val (.int p1), .val (.int p2)] [(.ref r0), (.ref da)]
  obtain ⟨T2, X2, e2, st2⟩ := getF X1 hx hZ hown (host := "") (Or.inl (hw _ (List.mem_of_getElem? (i := 13) rfl))) Via.refl e1 PF (g := (mkF m 5 #[.val (.ref r0), .val (.int p1), .val (.int p2)] [(.ref r0), (.ref da)])) rfl rfl (hb hby d4_5)
  refine own_st st2 ?_
  show own_Go X2 (Q4 Z r0 p1 p2 sa da kA kB us vs ss ww h0 n0) 0 0 8 #[.val (.ref r0), .val (.int p1), .val (.int p2)] [(.ref sa), (.ref da)]
  refine own_st (fun _ k => XS.iloadN X2.here hx rfl (hb hby d4_8) rfl k) ?_
  show own_Go X2 (Q4 Z r0 p1 p2 sa da kA kB us vs ss ww h0 n0) 0 0 9 #[.val (.ref r0), .val (.int p1), .val (.int p2)] [(.int p1), (.ref sa), (.ref da)]
  refine own_st (fun _ k => own_ldI X2 hx hZ e2 PV (j := p1) B0 (v := (.int ss)) g1 (g := (mkF m 9 #[.val (.ref r0), .val (.int p1), .val (.int p2)] [(.int p1), (.ref sa), (.ref da)])) rfl rfl (hb hby d4_9) _ k) ?_
  show own_Go X2 (Q4 Z r0 p1 p2 sa da kA kB us vs ss ww h0 n0) 0 0 10 #[.val (.ref r0), .val (.int p1), .val (.int p2)] [(.int ss), (.ref da)]
  refine own_st (fun _ k => XS.iloadN X2.here hx rfl (hb hby d4_10) rfl k) ?_
  show own_Go X2 (Q4 Z r0 p1 p2 sa da kA kB us vs ss ww h0 n0) 0 0 11 #[.val (.ref r0), .val (.int p1), .val (.int p2)] [(.int p2), (.int ss), (.ref da)]
  refine own_st (fun _ k => XS.iadd X2.here hx rfl (hb hby d4_11) rfl k) ?_
  show own_Go X2 (Q4 Z r0 p1 p2 sa da kA kB us vs ss ww h0 n0) 0 0 12 #[.val (.ref r0), .val (.int p1), .val (.int p2)] [(.int (ss + p2)), (.ref da)]
  refine own_st (fun _ k => own_ldI X2 hx hZ e2 PW (j := (ss + p2)) BB.1 (v := (.int ww)) BB.2 (g := (mkF m 12 #[.val (.ref r0), .val (.int p1), .val (.int p2)] [(.int (ss + p2)), (.ref da)])) rfl rfl (hb hby d4_12) _ k) ?_
  show own_Go X2 (Q4 Z r0 p1 p2 sa da kA kB us vs ss ww h0 n0) 0 0 13 #[.val (.ref r0), .val (.int p1), .val (.int p2)] [(.int ww)]
  refine own_retI X2 hx Bd.returns hlk e2 (hb hby d4_13) (by decide) (by decide) ?_
  exact ⟨rfl, N0, rfl⟩
theorem pn_0 : plainName "com/example/bulk_retrieval/bulkretrieval/index/NeighboursDocumentPinLaw" = true := by first | (simp [plainName, overriddenIn]; done) | decide +kernel
theorem pd_0_0 : parseMethodDescriptor "(I[I[I[D)V" = some ⟨[.int, (.array .int), (.array .int), (.array .double)], none⟩ := by decide +kernel
theorem pd_0_1 : parseMethodDescriptor "(II)I" = some ⟨[.int, .int], some .int⟩ := by decide +kernel
theorem pd_0_2 : parseMethodDescriptor "(III)I" = some ⟨[.int, .int, .int], some .int⟩ := by decide +kernel
theorem ef_0 (m : MethodId) (p0 : Int32) (p1 : Int32) (p2 : Int32) (p3 : Int32) : entryFrame m #[(.int p0), (.int p1), (.int p2), (.int p3)] maxLocals = mkF m 0 #[.val (.int p0), .val (.int p1), .val (.int p2), .val (.int p3), .unset, .unset, .unset, .unset, .unset, .unset, .unset, .unset, .unset, .unset, .unset, .unset, .unset, .unset, .unset, .unset] [] := by first | (simp [entryFrame, mkF, argsToLocals, Value.category, maxLocals]; done) | rfl
def Q0 (Z : State) (p0 : Int32) (p1 : Int32) (p2 : Int32) (p3 : Int32)  (h0 : Heap) (n0 : Nat) (v : Option Value) (h : Heap) (L : List Loc) : Prop := v = some (.int 1) ∧ Fr n0 L
set_option maxRecDepth 65536 in
set_option maxHeartbeats 40000000 in
theorem rm0 (l : Launch) (Z : State) (a0 : Array Value) (hw : ∀ d ∈ tables_1, d.before a0 Z = true) (ws : List Jvm.Cond) (p0 : Int32) (p1 : Int32) (p2 : Int32) (p3 : Int32)  (h0 : Heap) (n0 : Nat) (Z0 : n0 ≤ h0.size)  :
    MetFree l x (head1 (Jvm.Cond.code x code maxLocals ret :: ws) room_1) (fun a U => a = #[(.int p0), (.int p1), (.int p2), (.int p3)] ∧ Z.Warmed39 U.vm ∧ U.heap = h0) (fun _ _ _ _ _ => True) (fun _ U o U' => ∃ v L, o = .returned v ∧ Q0 Z p0 p1 p2 p3 h0 n0 v U'.heap L ∧ FrameEnd U o U' L 4 22) := by
  refine MetFree.of_bodySF (plainFor_of_name pn_0) hisR ?_
  intro p e s m args below meth c s₁ Bd hml0 hP hK
  obtain ⟨rfl, hZ, hh⟩ := hP
  have hx := Bd.exec
  have hby := Bd.bytes
  have hml : c.maxLocals = 20 := hml0
  have hown : s.vm.findClass "com/example/bulk_retrieval/bulkretrieval/index/NeighboursDocumentPinLaw" = some m.cls := findClass_of_methodNamed Bd.named
  have hnm := (name_of_methodNamed Bd.named Bd.method).1
  have hlk : meth.locks = false := Bd.notSynchronized
  have X0 : Stand p l e room_1 s m #[(.int p0), (.int p1), (.int p2), (.int p3)] below meth c s₁ [] 0 0 := Stand.of_body Bd
  have e0 : s₁.heap = h0 := by rw [← hh, Bd.state]; rfl
  have N0 := Fr.nil n0
  refine own_cast (Q := Q0 Z p0 p1 p2 p3 h0 n0) (kc := 4) (ks := 22) (ef_0 m p0 p1 p2 p3) ?_
  refine own_st (fun _ k => XS.iloadN X0.here hx rfl (hb hby at_0) rfl k) ?_
  show own_Go X0 (Q0 Z p0 p1 p2 p3 h0 n0) 4 22 1 #[.val (.int p0), .val (.int p1), .val (.int p2), .val (.int p3), .unset, .unset, .unset, .unset, .unset, .unset, .unset, .unset, .unset, .unset, .unset, .unset, .unset, .unset, .unset, .unset] [(.int p1)]
  refine own_st (fun _ k => XS.iconst X0.here hx rfl (hb hby at_1) k) ?_
  show own_Go X0 (Q0 Z p0 p1 p2 p3 h0 n0) 4 22 2 #[.val (.int p0), .val (.int p1), .val (.int p2), .val (.int p3), .unset, .unset, .unset, .unset, .unset, .unset, .unset, .unset, .unset, .unset, .unset, .unset, .unset, .unset, .unset, .unset] [(.int (3 : Int32)), (.int p1)]
  refine own_st (fun _ k => XS.iand X0.here hx rfl (hb hby at_2) rfl k) ?_
  show own_Go X0 (Q0 Z p0 p1 p2 p3 h0 n0) 4 22 3 #[.val (.int p0), .val (.int p1), .val (.int p2), .val (.int p3), .unset, .unset, .unset, .unset, .unset, .unset, .unset, .unset, .unset, .unset, .unset, .unset, .unset, .unset, .unset, .unset] [(.int (p1 &&& (3 : Int32)))]
  refine own_st (fun _ k => XS.iconst X0.here hx rfl (hb hby at_3) k) ?_
  show own_Go X0 (Q0 Z p0 p1 p2 p3 h0 n0) 4 22 4 #[.val (.int p0), .val (.int p1), .val (.int p2), .val (.int p3), .unset, .unset, .unset, .unset, .unset, .unset, .unset, .unset, .unset, .unset, .unset, .unset, .unset, .unset, .unset, .unset] [(.int (3 : Int32)), (.int (p1 &&& (3 : Int32)))]
  refine own_st (fun _ k => iremM X0 hx rfl (hb hby at_4) rfl (by decide) k) ?_
  show own_Go X0 (Q0 Z p0 p1 p2 p3 h0 n0) 4 22 5 #[.val (.int p0), .val (.int p1), .val (.int p2), .val (.int p3), .unset, .unset, .unset, .unset, .unset, .unset, .unset, .unset, .unset, .unset, .unset, .unset, .unset, .unset, .unset, .unset] [(.int ((p1 &&& (3 : Int32)) % (3 : Int32)))]
  refine own_st (fun _ k => XS.istore X0.here hx rfl (hb hby at_5) rfl (l' := #[.val (.int p0), .val (.int p1), .val (.int p2), .val (.int p3), .val (.int ((p1 &&& (3 : Int32)) % (3 : Int32))), .unset, .unset, .unset, .unset, .unset, .unset, .unset, .unset, .unset, .unset, .unset, .unset, .unset, .unset, .unset]) rfl k) ?_
  show own_Go X0 (Q0 Z p0 p1 p2 p3 h0 n0) 4 22 7 #[.val (.int p0), .val (.int p1), .val (.int p2), .val (.int p3), .val (.int ((p1 &&& (3 : Int32)) % (3 : Int32))), .unset, .unset, .unset, .unset, .unset, .unset, .unset, .unset, .unset, .unset, .unset, .unset, .unset, .unset, .unset] []
  generalize hc0 : ((p1 &&& (3 : Int32)) % (3 : Int32)) = c0
  show own_Go X0 (Q0 Z p0 p1 p2 p3 h0 n0) 4 22 7 #[.val (.int p0), .val (.int p1), .val (.int p2), .val (.int p3), .val (.int c0), .unset, .unset, .unset, .unset, .unset, .unset, .unset, .unset, .unset, .unset, .unset, .unset, .unset, .unset, .unset] []
  have hd0 := own_d3 hc0
  refine own_st (fun _ k => XS.iloadN X0.here hx rfl (hb hby at_7) rfl k) ?_
  show own_Go X0 (Q0 Z p0 p1 p2 p3 h0 n0) 4 22 8 #[.val (.int p0), .val (.int p1), .val (.int p2), .val (.int p3), .val (.int c0), .unset, .unset, .unset, .unset, .unset, .unset, .unset, .unset, .unset, .unset, .unset, .unset, .unset, .unset, .unset] [(.int p1)]
  refine own_st (fun _ k => XS.iconst X0.here hx rfl (hb hby at_8) k) ?_
  show own_Go X0 (Q0 Z p0 p1 p2 p3 h0 n0) 4 22 9 #[.val (.int p0), .val (.int p1), .val (.int p2), .val (.int p3), .val (.int c0), .unset, .unset, .unset, .unset, .unset, .unset, .unset, .unset, .unset, .unset, .unset, .unset, .unset, .unset, .unset] [(.int (2 : Int32)), (.int p1)]
  refine own_st (fun _ k => XS.iushr X0.here hx rfl (hb hby at_9) rfl k) ?_
  show own_Go X0 (Q0 Z p0 p1 p2 p3 h0 n0) 4 22 10 #[.val (.int p0), .val (.int p1), .val (.int p2), .val (.int p3), .val (.int c0), .unset, .unset, .unset, .unset, .unset, .unset, .unset, .unset, .unset, .unset, .unset, .unset, .unset, .unset, .unset] [(.int ((p1.toUInt32 >>> ((2 : Int32) &&& 31).toUInt32).toInt32))]
  refine own_st (fun _ k => XS.iconst X0.here hx rfl (hb hby at_10) k) ?_
  show own_Go X0 (Q0 Z p0 p1 p2 p3 h0 n0) 4 22 11 #[.val (.int p0), .val (.int p1), .val (.int p2), .val (.int p3), .val (.int c0), .unset, .unset, .unset, .unset, .unset, .unset, .unset, .unset, .unset, .unset, .unset, .unset, .unset, .unset, .unset] [(.int (3 : Int32)), (.int ((p1.toUInt32 >>> ((2 : Int32) &&& 31).toUInt32).toInt32))]
  refine own_st (fun _ k => XS.iand X0.here hx rfl (hb hby at_11) rfl k) ?_
  show own_Go X0 (Q0 Z p0 p1 p2 p3 h0 n0) 4 22 12 #[.val (.int p0), .val (.int p1), .val (.int p2), .val (.int p3), .val (.int c0), .unset, .unset, .unset, .unset, .unset, .unset, .unset, .unset, .unset, .unset, .unset, .unset, .unset, .unset, .unset] [(.int (((p1.toUInt32 >>> ((2 : Int32) &&& 31).toUInt32).toInt32) &&& (3 : Int32)))]
  refine own_st (fun _ k => XS.iconst X0.here hx rfl (hb hby at_12) k) ?_
  show own_Go X0 (Q0 Z p0 p1 p2 p3 h0 n0) 4 22 13 #[.val (.int p0), .val (.int p1), .val (.int p2), .val (.int p3), .val (.int c0), .unset, .unset, .unset, .unset, .unset, .unset, .unset, .unset, .unset, .unset, .unset, .unset, .unset, .unset, .unset] [(.int (3 : Int32)), (.int (((p1.toUInt32 >>> ((2 : Int32) &&& 31).toUInt32).toInt32) &&& (3 : Int32)))]
  refine own_st (fun _ k => iremM X0 hx rfl (hb hby at_13) rfl (by decide) k) ?_
  show own_Go X0 (Q0 Z p0 p1 p2 p3 h0 n0) 4 22 14 #[.val (.int p0), .val (.int p1), .val (.int p2), .val (.int p3), .val (.int c0), .unset, .unset, .unset, .unset, .unset, .unset, .unset, .unset, .unset, .unset, .unset, .unset, .unset, .unset, .unset] [(.int ((((p1.toUInt32 >>> ((2 : Int32) &&& 31).toUInt32).toInt32) &&& (3 : Int32)) % (3 : Int32)))]
  refine own_st (fun _ k => XS.istore X0.here hx rfl (hb hby at_14) rfl (l' := #[.val (.int p0), .val (.int p1), .val (.int p2), .val (.int p3), .val (.int c0), .val (.int ((((p1.toUInt32 >>> ((2 : Int32) &&& 31).toUInt32).toInt32) &&& (3 : Int32)) % (3 : Int32))), .unset, .unset, .unset, .unset, .unset, .unset, .unset, .unset, .unset, .unset, .unset, .unset, .unset, .unset]) rfl k) ?_
  show own_Go X0 (Q0 Z p0 p1 p2 p3 h0 n0) 4 22 16 #[.val (.int p0), .val (.int p1), .val (.int p2), .val (.int p3), .val (.int c0), .val (.int ((((p1.toUInt32 >>> ((2 : Int32) &&& 31).toUInt32).toInt32) &&& (3 : Int32)) % (3 : Int32))), .unset, .unset, .unset, .unset, .unset, .unset, .unset, .unset, .unset, .unset, .unset, .unset, .unset, .unset] []
  generalize hc1 : ((((p1.toUInt32 >>> ((2 : Int32) &&& 31).toUInt32).toInt32) &&& (3 : Int32)) % (3 : Int32)) = c1
  show own_Go X0 (Q0 Z p0 p1 p2 p3 h0 n0) 4 22 16 #[.val (.int p0), .val (.int p1), .val (.int p2), .val (.int p3), .val (.int c0), .val (.int c1), .unset, .unset, .unset, .unset, .unset, .unset, .unset, .unset, .unset, .unset, .unset, .unset, .unset, .unset] []
  have hd1 := own_d3 hc1
  refine own_st (fun _ k => XS.iloadN X0.here hx rfl (hb hby at_16) rfl k) ?_
  show own_Go X0 (Q0 Z p0 p1 p2 p3 h0 n0) 4 22 17 #[.val (.int p0), .val (.int p1), .val (.int p2), .val (.int p3), .val (.int c0), .val (.int c1), .unset, .unset, .unset, .unset, .unset, .unset, .unset, .unset, .unset, .unset, .unset, .unset, .unset, .unset] [(.int p1)]
  refine own_st (fun _ k => XS.iconst X0.here hx rfl (hb hby at_17) k) ?_
  show own_Go X0 (Q0 Z p0 p1 p2 p3 h0 n0) 4 22 18 #[.val (.int p0), .val (.int p1), .val (.int p2), .val (.int p3), .val (.int c0), .val (.int c1), .unset, .unset, .unset, .unset, .unset, .unset, .unset, .unset, .unset, .unset, .unset, .unset, .unset, .unset] [(.int (4 : Int32)), (.int p1)]
  refine own_st (fun _ k => XS.iushr X0.here hx rfl (hb hby at_18) rfl k) ?_
  show own_Go X0 (Q0 Z p0 p1 p2 p3 h0 n0) 4 22 19 #[.val (.int p0), .val (.int p1), .val (.int p2), .val (.int p3), .val (.int c0), .val (.int c1), .unset, .unset, .unset, .unset, .unset, .unset, .unset, .unset, .unset, .unset, .unset, .unset, .unset, .unset] [(.int ((p1.toUInt32 >>> ((4 : Int32) &&& 31).toUInt32).toInt32))]
  refine own_st (fun _ k => XS.iconst X0.here hx rfl (hb hby at_19) k) ?_
  show own_Go X0 (Q0 Z p0 p1 p2 p3 h0 n0) 4 22 20 #[.val (.int p0), .val (.int p1), .val (.int p2), .val (.int p3), .val (.int c0), .val (.int c1), .unset, .unset, .unset, .unset, .unset, .unset, .unset, .unset, .unset, .unset, .unset, .unset, .unset, .unset] [(.int (3 : Int32)), (.int ((p1.toUInt32 >>> ((4 : Int32) &&& 31).toUInt32).toInt32))]
  refine own_st (fun _ k => XS.iand X0.here hx rfl (hb hby at_20) rfl k) ?_
  show own_Go X0 (Q0 Z p0 p1 p2 p3 h0 n0) 4 22 21 #[.val (.int p0), .val (.int p1), .val (.int p2), .val (.int p3), .val (.int c0), .val (.int c1), .unset, .unset, .unset, .unset, .unset, .unset, .unset, .unset, .unset, .unset, .unset, .unset, .unset, .unset] [(.int (((p1.toUInt32 >>> ((4 : Int32) &&& 31).toUInt32).toInt32) &&& (3 : Int32)))]
  refine own_st (fun _ k => XS.iconst X0.here hx rfl (hb hby at_21) k) ?_
  show own_Go X0 (Q0 Z p0 p1 p2 p3 h0 n0) 4 22 22 #[.val (.int p0), .val (.int p1), .val (.int p2), .val (.int p3), .val (.int c0), .val (.int c1), .unset, .unset, .unset, .unset, .unset, .unset, .unset, .unset, .unset, .unset, .unset, .unset, .unset, .unset] [(.int (3 : Int32)), (.int (((p1.toUInt32 >>> ((4 : Int32) &&& 31).toUInt32).toInt32) &&& (3 : Int32)))]
  refine own_st (fun _ k => iremM X0 hx rfl (hb hby at_22) rfl (by decide) k) ?_
  show own_Go X0 (Q0 Z p0 p1 p2 p3 h0 n0) 4 22 23 #[.val (.int p0), .val (.int p1), .val (.int p2), .val (.int p3), .val (.int c0), .val (.int c1), .unset, .unset, .unset, .unset, .unset, .unset, .unset, .unset, .unset, .unset, .unset, .unset, .unset, .unset] [(.int ((((p1.toUInt32 >>> ((4 : Int32) &&& 31).toUInt32).toInt32) &&& (3 : Int32)) % (3 : Int32)))]
  refine own_st (fun _ k => XS.istore X0.here hx rfl (hb hby at_23) rfl (l' := #[.val (.int p0), .val (.int p1), .val (.int p2), .val (.int p3), .val (.int c0), .val (.int c1), .val (.int ((((p1.toUInt32 >>> ((4 : Int32) &&& 31).toUInt32).toInt32) &&& (3 : Int32)) % (3 : Int32))), .unset, .unset, .unset, .unset, .unset, .unset, .unset, .unset, .unset, .unset, .unset, .unset, .unset]) rfl k) ?_
  show own_Go X0 (Q0 Z p0 p1 p2 p3 h0 n0) 4 22 25 #[.val (.int p0), .val (.int p1), .val (.int p2), .val (.int p3), .val (.int c0), .val (.int c1), .val (.int ((((p1.toUInt32 >>> ((4 : Int32) &&& 31).toUInt32).toInt32) &&& (3 : Int32)) % (3 : Int32))), .unset, .unset, .unset, .unset, .unset, .unset, .unset, .unset, .unset, .unset, .unset, .unset, .unset] []
  generalize hc2 : ((((p1.toUInt32 >>> ((4 : Int32) &&& 31).toUInt32).toInt32) &&& (3 : Int32)) % (3 : Int32)) = c2
  show own_Go X0 (Q0 Z p0 p1 p2 p3 h0 n0) 4 22 25 #[.val (.int p0), .val (.int p1), .val (.int p2), .val (.int p3), .val (.int c0), .val (.int c1), .val (.int c2), .unset, .unset, .unset, .unset, .unset, .unset, .unset, .unset, .unset, .unset, .unset, .unset, .unset] []
  have hd2 := own_d3 hc2
  refine own_st (fun _ k => XS.iloadN X0.here hx rfl (hb hby at_25) rfl k) ?_
  show own_Go X0 (Q0 Z p0 p1 p2 p3 h0 n0) 4 22 26 #[.val (.int p0), .val (.int p1), .val (.int p2), .val (.int p3), .val (.int c0), .val (.int c1), .val (.int c2), .unset, .unset, .unset, .unset, .unset, .unset, .unset, .unset, .unset, .unset, .unset, .unset, .unset] [(.int p1)]
  refine own_st (fun _ k => XS.bipush X0.here hx rfl (hb hby at_26) k) ?_
  show own_Go X0 (Q0 Z p0 p1 p2 p3 h0 n0) 4 22 28 #[.val (.int p0), .val (.int p1), .val (.int p2), .val (.int p3), .val (.int c0), .val (.int c1), .val (.int c2), .unset, .unset, .unset, .unset, .unset, .unset, .unset, .unset, .unset, .unset, .unset, .unset, .unset] [(.int (6 : Int32)), (.int p1)]
  refine own_st (fun _ k => XS.iushr X0.here hx rfl (hb hby at_28) rfl k) ?_
  show own_Go X0 (Q0 Z p0 p1 p2 p3 h0 n0) 4 22 29 #[.val (.int p0), .val (.int p1), .val (.int p2), .val (.int p3), .val (.int c0), .val (.int c1), .val (.int c2), .unset, .unset, .unset, .unset, .unset, .unset, .unset, .unset, .unset, .unset, .unset, .unset, .unset] [(.int ((p1.toUInt32 >>> ((6 : Int32) &&& 31).toUInt32).toInt32))]
  refine own_st (fun _ k => XS.iconst X0.here hx rfl (hb hby at_29) k) ?_
  show own_Go X0 (Q0 Z p0 p1 p2 p3 h0 n0) 4 22 30 #[.val (.int p0), .val (.int p1), .val (.int p2), .val (.int p3), .val (.int c0), .val (.int c1), .val (.int c2), .unset, .unset, .unset, .unset, .unset, .unset, .unset, .unset, .unset, .unset, .unset, .unset, .unset] [(.int (1 : Int32)), (.int ((p1.toUInt32 >>> ((6 : Int32) &&& 31).toUInt32).toInt32))]
  refine own_st (fun _ k => XS.iand X0.here hx rfl (hb hby at_30) rfl k) ?_
  show own_Go X0 (Q0 Z p0 p1 p2 p3 h0 n0) 4 22 31 #[.val (.int p0), .val (.int p1), .val (.int p2), .val (.int p3), .val (.int c0), .val (.int c1), .val (.int c2), .unset, .unset, .unset, .unset, .unset, .unset, .unset, .unset, .unset, .unset, .unset, .unset, .unset] [(.int (((p1.toUInt32 >>> ((6 : Int32) &&& 31).toUInt32).toInt32) &&& (1 : Int32)))]
  refine own_st (fun _ k => XS.istore X0.here hx rfl (hb hby at_31) rfl (l' := #[.val (.int p0), .val (.int p1), .val (.int p2), .val (.int p3), .val (.int c0), .val (.int c1), .val (.int c2), .val (.int (((p1.toUInt32 >>> ((6 : Int32) &&& 31).toUInt32).toInt32) &&& (1 : Int32))), .unset, .unset, .unset, .unset, .unset, .unset, .unset, .unset, .unset, .unset, .unset, .unset]) rfl k) ?_
  show own_Go X0 (Q0 Z p0 p1 p2 p3 h0 n0) 4 22 33 #[.val (.int p0), .val (.int p1), .val (.int p2), .val (.int p3), .val (.int c0), .val (.int c1), .val (.int c2), .val (.int (((p1.toUInt32 >>> ((6 : Int32) &&& 31).toUInt32).toInt32) &&& (1 : Int32))), .unset, .unset, .unset, .unset, .unset, .unset, .unset, .unset, .unset, .unset, .unset, .unset] []
  generalize hld : (((p1.toUInt32 >>> ((6 : Int32) &&& 31).toUInt32).toInt32) &&& (1 : Int32)) = ld
  show own_Go X0 (Q0 Z p0 p1 p2 p3 h0 n0) 4 22 33 #[.val (.int p0), .val (.int p1), .val (.int p2), .val (.int p3), .val (.int c0), .val (.int c1), .val (.int c2), .val (.int ld), .unset, .unset, .unset, .unset, .unset, .unset, .unset, .unset, .unset, .unset, .unset, .unset] []
  have hdl := own_d2 hld
  refine own_st (fun _ k => XS.bipush X0.here hx rfl (hb hby at_33) k) ?_
  show own_Go X0 (Q0 Z p0 p1 p2 p3 h0 n0) 4 22 35 #[.val (.int p0), .val (.int p1), .val (.int p2), .val (.int p3), .val (.int c0), .val (.int c1), .val (.int c2), .val (.int ld), .unset, .unset, .unset, .unset, .unset, .unset, .unset, .unset, .unset, .unset, .unset, .unset] [(.int (7 : Int32))]
  obtain ⟨T1, h1, k1, X1, e1, E1, A1, st1⟩ := newP X0 hx hZ (hw _ (List.mem_of_getElem? (i := 0) rfl)) e0 (g := (mkF m 35 #[.val (.int p0), .val (.int p1), .val (.int p2), .val (.int p3), .val (.int c0), .val (.int c1), .val (.int c2), .val (.int ld), .unset, .unset, .unset, .unset, .unset, .unset, .unset, .unset, .unset, .unset, .unset, .unset] [(.int (7 : Int32))])) rfl (hb hby at_35) rfl (by decide) (cap := 7) (by decide) (by decide) (by decide) (by decide)
  obtain ⟨b1, g1⟩ : ∃ z, z = h0.size := ⟨_, rfl⟩
  rw [← g1] at A1 st1
  refine own_st st1 ?_
  have G_2 := Nat.le_trans Z0 (Nat.le_of_eq g1.symm)
  have Z_3 := Nat.le_trans Z0 E1.1
  have V1 : Arv Z h1 b1 k1 .int (7 : Int32) [(.int (0 : Int32)), (.int (0 : Int32)), (.int (0 : Int32)), (.int (0 : Int32)), (.int (0 : Int32)), (.int (0 : Int32)), (.int (0 : Int32))] (.int (0 : Int32)) := (Arv.new A1 (by decide)).pad (pad_rep [] (.int (0 : Int32)) 7)
  show own_Go X1 (Q0 Z p0 p1 p2 p3 h0 n0) 4 22 37 #[.val (.int p0), .val (.int p1), .val (.int p2), .val (.int p3), .val (.int c0), .val (.int c1), .val (.int c2), .val (.int ld), .unset, .unset, .unset, .unset, .unset, .unset, .unset, .unset, .unset, .unset, .unset, .unset] [(.ref b1)]
  refine own_st (fun _ k => XS.astore X1.here hx rfl (hb hby at_37) rfl rfl (l' := #[.val (.int p0), .val (.int p1), .val (.int p2), .val (.int p3), .val (.int c0), .val (.int c1), .val (.int c2), .val (.int ld), .val (.ref b1), .unset, .unset, .unset, .unset, .unset, .unset, .unset, .unset, .unset, .unset, .unset]) rfl k) ?_
  show own_Go X1 (Q0 Z p0 p1 p2 p3 h0 n0) 4 22 39 #[.val (.int p0), .val (.int p1), .val (.int p2), .val (.int p3), .val (.int c0), .val (.int c1), .val (.int c2), .val (.int ld), .val (.ref b1), .unset, .unset, .unset, .unset, .unset, .unset, .unset, .unset, .unset, .unset, .unset] []
  refine own_st (fun _ k => XS.bipush X1.here hx rfl (hb hby at_39) k) ?_
  show own_Go X1 (Q0 Z p0 p1 p2 p3 h0 n0) 4 22 41 #[.val (.int p0), .val (.int p1), .val (.int p2), .val (.int p3), .val (.int c0), .val (.int c1), .val (.int c2), .val (.int ld), .val (.ref b1), .unset, .unset, .unset, .unset, .unset, .unset, .unset, .unset, .unset, .unset, .unset] [(.int (7 : Int32))]
  obtain ⟨T4, h4, k4, X4, e4, E4, A4, st4⟩ := newP X1 hx hZ (hw _ (List.mem_of_getElem? (i := 1) rfl)) e1 (g := (mkF m 41 #[.val (.int p0), .val (.int p1), .val (.int p2), .val (.int p3), .val (.int c0), .val (.int c1), .val (.int c2), .val (.int ld), .val (.ref b1), .unset, .unset, .unset, .unset, .unset, .unset, .unset, .unset, .unset, .unset, .unset] [(.int (7 : Int32))])) rfl (hb hby at_41) rfl (by decide) (cap := 7) (by decide) (by decide) (by decide) (by decide)
  obtain ⟨b4, g4⟩ : ∃ z, z = h1.size := ⟨_, rfl⟩
  rw [← g4] at A4 st4
  refine own_st st4 ?_
  have ne_5 := Nat.ne_of_lt (Nat.lt_of_lt_of_le V1.lt (Nat.le_of_eq g4.symm))
  have G_6 := Nat.le_trans Z_3 (Nat.le_of_eq g4.symm)
  have f_7 := V1.ext E4
  have Z_8 := Nat.le_trans Z_3 E4.1
  have V_9 := Arv.new A4 (by decide)
  show own_Go X4 (Q0 Z p0 p1 p2 p3 h0 n0) 4 22 43 #[.val (.int p0), .val (.int p1), .val (.int p2), .val (.int p3), .val (.int c0), .val (.int c1), .val (.int c2), .val (.int ld), .val (.ref b1), .unset, .unset, .unset, .unset, .unset, .unset, .unset, .unset, .unset, .unset, .unset] [(.ref b4)]
  refine own_st (fun _ k => XS.astore X4.here hx rfl (hb hby at_43) rfl rfl (l' := #[.val (.int p0), .val (.int p1), .val (.int p2), .val (.int p3), .val (.int c0), .val (.int c1), .val (.int c2), .val (.int ld), .val (.ref b1), .val (.ref b4), .unset, .unset, .unset, .unset, .unset, .unset, .unset, .unset, .unset, .unset]) rfl k) ?_
  show own_Go X4 (Q0 Z p0 p1 p2 p3 h0 n0) 4 22 45 #[.val (.int p0), .val (.int p1), .val (.int p2), .val (.int p3), .val (.int c0), .val (.int c1), .val (.int c2), .val (.int ld), .val (.ref b1), .val (.ref b4), .unset, .unset, .unset, .unset, .unset, .unset, .unset, .unset, .unset, .unset] []
  refine own_st (fun _ k => XS.iconst X4.here hx rfl (hb hby at_45) k) ?_
  show own_Go X4 (Q0 Z p0 p1 p2 p3 h0 n0) 4 22 46 #[.val (.int p0), .val (.int p1), .val (.int p2), .val (.int p3), .val (.int c0), .val (.int c1), .val (.int c2), .val (.int ld), .val (.ref b1), .val (.ref b4), .unset, .unset, .unset, .unset, .unset, .unset, .unset, .unset, .unset, .unset] [(.int (0 : Int32))]
  refine own_st (fun _ k => XS.istore X4.here hx rfl (hb hby at_46) rfl (l' := #[.val (.int p0), .val (.int p1), .val (.int p2), .val (.int p3), .val (.int c0), .val (.int c1), .val (.int c2), .val (.int ld), .val (.ref b1), .val (.ref b4), .val (.int (0 : Int32)), .unset, .unset, .unset, .unset, .unset, .unset, .unset, .unset, .unset]) rfl k) ?_
  show own_Go X4 (Q0 Z p0 p1 p2 p3 h0 n0) 4 22 48 #[.val (.int p0), .val (.int p1), .val (.int p2), .val (.int p3), .val (.int c0), .val (.int c1), .val (.int c2), .val (.int ld), .val (.ref b1), .val (.ref b4), .val (.int (0 : Int32)), .unset, .unset, .unset, .unset, .unset, .unset, .unset, .unset, .unset] []
  have J66 : ∀ (pv : Int32) (hpv : pv = (own_p0 ld)) (vv : List Value) (hvv : vv = (own_v0 p0 ld)) {T : State} {locs : List Loc} {h : Heap} (X : Stand p l e room_1 s m #[(.int p0), (.int p1), (.int p2), (.int p3)] below meth c T locs 2 14) (_ : T.heap = h) (_ : Fr n0 locs) (_ : n0 ≤ h.size) (_ : Arv Z h b1 k1 .int (7 : Int32) vv (.int (0 : Int32))), own_Go X (Q0 Z p0 p1 p2 p3 h0 n0) 4 22 66 #[.val (.int p0), .val (.int p1), .val (.int p2), .val (.int p3), .val (.int c0), .val (.int c1), .val (.int c2), .val (.int ld), .val (.ref b1), .val (.ref b4), .val (.int pv), .unset, .unset, .unset, .unset, .unset, .unset, .unset, .unset, .unset] [] := by
    intro pv hpv vv hvv T10 L10 h10 X10 e10 N10 Z10 f10_0
    subst hpv hvv
    show own_Go X10 (Q0 Z p0 p1 p2 p3 h0 n0) 4 22 66 #[.val (.int p0), .val (.int p1), .val (.int p2), .val (.int p3), .val (.int c0), .val (.int c1), .val (.int c2), .val (.int ld), .val (.ref b1), .val (.ref b4), .val (.int (own_p0 ld)), .unset, .unset, .unset, .unset, .unset, .unset, .unset, .unset, .unset] []
    refine own_st (fun _ k => XS.iload X10.here hx rfl (hb hby at_66) rfl k) ?_
    show own_Go X10 (Q0 Z p0 p1 p2 p3 h0 n0) 4 22 68 #[.val (.int p0), .val (.int p1), .val (.int p2), .val (.int p3), .val (.int c0), .val (.int c1), .val (.int c2), .val (.int ld), .val (.ref b1), .val (.ref b4), .val (.int (own_p0 ld)), .unset, .unset, .unset, .unset, .unset, .unset, .unset, .unset, .unset] [(.int (own_p0 ld))]
    refine own_st (fun _ k => XS.istore X10.here hx rfl (hb hby at_68) rfl (l' := #[.val (.int p0), .val (.int p1), .val (.int p2), .val (.int p3), .val (.int c0), .val (.int c1), .val (.int c2), .val (.int ld), .val (.ref b1), .val (.ref b4), .val (.int (own_p0 ld)), .val (.int (own_p0 ld)), .unset, .unset, .unset, .unset, .unset, .unset, .unset, .unset]) rfl k) ?_
    show own_Go X10 (Q0 Z p0 p1 p2 p3 h0 n0) 4 22 70 #[.val (.int p0), .val (.int p1), .val (.int p2), .val (.int p3), .val (.int c0), .val (.int c1), .val (.int c2), .val (.int ld), .val (.ref b1), .val (.ref b4), .val (.int (own_p0 ld)), .val (.int (own_p0 ld)), .unset, .unset, .unset, .unset, .unset, .unset, .unset, .unset] []
    have J89 : ∀ (pv : Int32) (hpv : pv = (own_p1 ld c0)) (vv : List Value) (hvv : vv = (own_v1 p0 ld c0)) {T : State} {locs : List Loc} {h : Heap} (X : Stand p l e room_1 s m #[(.int p0), (.int p1), (.int p2), (.int p3)] below meth c T locs 2 14) (_ : T.heap = h) (_ : Fr n0 locs) (_ : n0 ≤ h.size) (_ : Arv Z h b1 k1 .int (7 : Int32) vv (.int (0 : Int32))), own_Go X (Q0 Z p0 p1 p2 p3 h0 n0) 4 22 89 #[.val (.int p0), .val (.int p1), .val (.int p2), .val (.int p3), .val (.int c0), .val (.int c1), .val (.int c2), .val (.int ld), .val (.ref b1), .val (.ref b4), .val (.int pv), .val (.int (own_p0 ld)), .unset, .unset, .unset, .unset, .unset, .unset, .unset, .unset] [] := by
      intro pv hpv vv hvv T11 L11 h11 X11 e11 N11 Z11 f11_0
      subst hpv hvv
      show own_Go X11 (Q0 Z p0 p1 p2 p3 h0 n0) 4 22 89 #[.val (.int p0), .val (.int p1), .val (.int p2), .val (.int p3), .val (.int c0), .val (.int c1), .val (.int c2), .val (.int ld), .val (.ref b1), .val (.ref b4), .val (.int (own_p1 ld c0)), .val (.int (own_p0 ld)), .unset, .unset, .unset, .unset, .unset, .unset, .unset, .unset] []
      have J109 : ∀ (pv : Int32) (hpv : pv = (own_p2 ld c0)) (vv : List Value) (hvv : vv = (own_v2 p0 ld c0)) {T : State} {locs : List Loc} {h : Heap} (X : Stand p l e room_1 s m #[(.int p0), (.int p1), (.int p2), (.int p3)] below meth c T locs 2 14) (_ : T.heap = h) (_ : Fr n0 locs) (_ : n0 ≤ h.size) (_ : Arv Z h b1 k1 .int (7 : Int32) vv (.int (0 : Int32))), own_Go X (Q0 Z p0 p1 p2 p3 h0 n0) 4 22 109 #[.val (.int p0), .val (.int p1), .val (.int p2), .val (.int p3), .val (.int c0), .val (.int c1), .val (.int c2), .val (.int ld), .val (.ref b1), .val (.ref b4), .val (.int pv), .val (.int (own_p0 ld)), .unset, .unset, .unset, .unset, .unset, .unset, .unset, .unset] [] := by
        intro pv hpv vv hvv T12 L12 h12 X12 e12 N12 Z12 f12_0
        subst hpv hvv
        show own_Go X12 (Q0 Z p0 p1 p2 p3 h0 n0) 4 22 109 #[.val (.int p0), .val (.int p1), .val (.int p2), .val (.int p3), .val (.int c0), .val (.int c1), .val (.int c2), .val (.int ld), .val (.ref b1), .val (.ref b4), .val (.int (own_p2 ld c0)), .val (.int (own_p0 ld)), .unset, .unset, .unset, .unset, .unset, .unset, .unset, .unset] []
        refine own_st (fun _ k => XS.iload X12.here hx rfl (hb hby at_109) rfl k) ?_
        show own_Go X12 (Q0 Z p0 p1 p2 p3 h0 n0) 4 22 111 #[.val (.int p0), .val (.int p1), .val (.int p2), .val (.int p3), .val (.int c0), .val (.int c1), .val (.int c2), .val (.int ld), .val (.ref b1), .val (.ref b4), .val (.int (own_p2 ld c0)), .val (.int (own_p0 ld)), .unset, .unset, .unset, .unset, .unset, .unset, .unset, .unset] [(.int (own_p2 ld c0))]
        refine own_st (fun _ k => XS.istore X12.here hx rfl (hb hby at_111) rfl (l' := #[.val (.int p0), .val (.int p1), .val (.int p2), .val (.int p3), .val (.int c0), .val (.int c1), .val (.int c2), .val (.int ld), .val (.ref b1), .val (.ref b4), .val (.int (own_p2 ld c0)), .val (.int (own_p0 ld)), .val (.int (own_p2 ld c0)), .unset, .unset, .unset, .unset, .unset, .unset, .unset]) rfl k) ?_
        show own_Go X12 (Q0 Z p0 p1 p2 p3 h0 n0) 4 22 113 #[.val (.int p0), .val (.int p1), .val (.int p2), .val (.int p3), .val (.int c0), .val (.int c1), .val (.int c2), .val (.int ld), .val (.ref b1), .val (.ref b4), .val (.int (own_p2 ld c0)), .val (.int (own_p0 ld)), .val (.int (own_p2 ld c0)), .unset, .unset, .unset, .unset, .unset, .unset, .unset] []
        have J132 : ∀ (pv : Int32) (hpv : pv = (own_p3 ld c0 c1)) (vv : List Value) (hvv : vv = (own_v3 p0 ld c0 c1)) {T : State} {locs : List Loc} {h : Heap} (X : Stand p l e room_1 s m #[(.int p0), (.int p1), (.int p2), (.int p3)] below meth c T locs 2 14) (_ : T.heap = h) (_ : Fr n0 locs) (_ : n0 ≤ h.size) (_ : Arv Z h b1 k1 .int (7 : Int32) vv (.int (0 : Int32))), own_Go X (Q0 Z p0 p1 p2 p3 h0 n0) 4 22 132 #[.val (.int p0), .val (.int p1), .val (.int p2), .val (.int p3), .val (.int c0), .val (.int c1), .val (.int c2), .val (.int ld), .val (.ref b1), .val (.ref b4), .val (.int pv), .val (.int (own_p0 ld)), .val (.int (own_p2 ld c0)), .unset, .unset, .unset, .unset, .unset, .unset, .unset] [] := by
          intro pv hpv vv hvv T13 L13 h13 X13 e13 N13 Z13 f13_0
          subst hpv hvv
          show own_Go X13 (Q0 Z p0 p1 p2 p3 h0 n0) 4 22 132 #[.val (.int p0), .val (.int p1), .val (.int p2), .val (.int p3), .val (.int c0), .val (.int c1), .val (.int c2), .val (.int ld), .val (.ref b1), .val (.ref b4), .val (.int (own_p3 ld c0 c1)), .val (.int (own_p0 ld)), .val (.int (own_p2 ld c0)), .unset, .unset, .unset, .unset, .unset, .unset, .unset] []
          have J152 : ∀ (pv : Int32) (hpv : pv = (own_p4 ld c0 c1)) (vv : List Value) (hvv : vv = (own_v4 p0 ld c0 c1)) {T : State} {locs : List Loc} {h : Heap} (X : Stand p l e room_1 s m #[(.int p0), (.int p1), (.int p2), (.int p3)] below meth c T locs 2 14) (_ : T.heap = h) (_ : Fr n0 locs) (_ : n0 ≤ h.size) (_ : Arv Z h b1 k1 .int (7 : Int32) vv (.int (0 : Int32))), own_Go X (Q0 Z p0 p1 p2 p3 h0 n0) 4 22 152 #[.val (.int p0), .val (.int p1), .val (.int p2), .val (.int p3), .val (.int c0), .val (.int c1), .val (.int c2), .val (.int ld), .val (.ref b1), .val (.ref b4), .val (.int pv), .val (.int (own_p0 ld)), .val (.int (own_p2 ld c0)), .unset, .unset, .unset, .unset, .unset, .unset, .unset] [] := by
            intro pv hpv vv hvv T14 L14 h14 X14 e14 N14 Z14 f14_0
            subst hpv hvv
            show own_Go X14 (Q0 Z p0 p1 p2 p3 h0 n0) 4 22 152 #[.val (.int p0), .val (.int p1), .val (.int p2), .val (.int p3), .val (.int c0), .val (.int c1), .val (.int c2), .val (.int ld), .val (.ref b1), .val (.ref b4), .val (.int (own_p4 ld c0 c1)), .val (.int (own_p0 ld)), .val (.int (own_p2 ld c0)), .unset, .unset, .unset, .unset, .unset, .unset, .unset] []
            refine own_st (fun _ k => XS.iload X14.here hx rfl (hb hby at_152) rfl k) ?_
            show own_Go X14 (Q0 Z p0 p1 p2 p3 h0 n0) 4 22 154 #[.val (.int p0), .val (.int p1), .val (.int p2), .val (.int p3), .val (.int c0), .val (.int c1), .val (.int c2), .val (.int ld), .val (.ref b1), .val (.ref b4), .val (.int (own_p4 ld c0 c1)), .val (.int (own_p0 ld)), .val (.int (own_p2 ld c0)), .unset, .unset, .unset, .unset, .unset, .unset, .unset] [(.int (own_p4 ld c0 c1))]
            refine own_st (fun _ k => XS.istore X14.here hx rfl (hb hby at_154) rfl (l' := #[.val (.int p0), .val (.int p1), .val (.int p2), .val (.int p3), .val (.int c0), .val (.int c1), .val (.int c2), .val (.int ld), .val (.ref b1), .val (.ref b4), .val (.int (own_p4 ld c0 c1)), .val (.int (own_p0 ld)), .val (.int (own_p2 ld c0)), .val (.int (own_p4 ld c0 c1)), .unset, .unset, .unset, .unset, .unset, .unset]) rfl k) ?_
            show own_Go X14 (Q0 Z p0 p1 p2 p3 h0 n0) 4 22 156 #[.val (.int p0), .val (.int p1), .val (.int p2), .val (.int p3), .val (.int c0), .val (.int c1), .val (.int c2), .val (.int ld), .val (.ref b1), .val (.ref b4), .val (.int (own_p4 ld c0 c1)), .val (.int (own_p0 ld)), .val (.int (own_p2 ld c0)), .val (.int (own_p4 ld c0 c1)), .unset, .unset, .unset, .unset, .unset, .unset] []
            have J175 : ∀ (pv : Int32) (hpv : pv = (own_p5 ld c0 c1 c2)) (vv : List Value) (hvv : vv = (own_v5 p0 ld c0 c1 c2)) {T : State} {locs : List Loc} {h : Heap} (X : Stand p l e room_1 s m #[(.int p0), (.int p1), (.int p2), (.int p3)] below meth c T locs 2 14) (_ : T.heap = h) (_ : Fr n0 locs) (_ : n0 ≤ h.size) (_ : Arv Z h b1 k1 .int (7 : Int32) vv (.int (0 : Int32))), own_Go X (Q0 Z p0 p1 p2 p3 h0 n0) 4 22 175 #[.val (.int p0), .val (.int p1), .val (.int p2), .val (.int p3), .val (.int c0), .val (.int c1), .val (.int c2), .val (.int ld), .val (.ref b1), .val (.ref b4), .val (.int pv), .val (.int (own_p0 ld)), .val (.int (own_p2 ld c0)), .val (.int (own_p4 ld c0 c1)), .unset, .unset, .unset, .unset, .unset, .unset] [] := by
              intro pv hpv vv hvv T15 L15 h15 X15 e15 N15 Z15 f15_0
              subst hpv hvv
              show own_Go X15 (Q0 Z p0 p1 p2 p3 h0 n0) 4 22 175 #[.val (.int p0), .val (.int p1), .val (.int p2), .val (.int p3), .val (.int c0), .val (.int c1), .val (.int c2), .val (.int ld), .val (.ref b1), .val (.ref b4), .val (.int (own_p5 ld c0 c1 c2)), .val (.int (own_p0 ld)), .val (.int (own_p2 ld c0)), .val (.int (own_p4 ld c0 c1)), .unset, .unset, .unset, .unset, .unset, .unset] []
              have J195 : ∀ (pv : Int32) (hpv : pv = (own_p6 ld c0 c1 c2)) (vv : List Value) (hvv : vv = (own_v6 p0 ld c0 c1 c2)) {T : State} {locs : List Loc} {h : Heap} (X : Stand p l e room_1 s m #[(.int p0), (.int p1), (.int p2), (.int p3)] below meth c T locs 2 14) (_ : T.heap = h) (_ : Fr n0 locs) (_ : n0 ≤ h.size) (_ : Arv Z h b1 k1 .int (7 : Int32) vv (.int (0 : Int32))), own_Go X (Q0 Z p0 p1 p2 p3 h0 n0) 4 22 195 #[.val (.int p0), .val (.int p1), .val (.int p2), .val (.int p3), .val (.int c0), .val (.int c1), .val (.int c2), .val (.int ld), .val (.ref b1), .val (.ref b4), .val (.int pv), .val (.int (own_p0 ld)), .val (.int (own_p2 ld c0)), .val (.int (own_p4 ld c0 c1)), .unset, .unset, .unset, .unset, .unset, .unset] [] := by
                intro pv hpv vv hvv T16 L16 h16 X16 e16 N16 Z16 f16_0
                subst hpv hvv
                show own_Go X16 (Q0 Z p0 p1 p2 p3 h0 n0) 4 22 195 #[.val (.int p0), .val (.int p1), .val (.int p2), .val (.int p3), .val (.int c0), .val (.int c1), .val (.int c2), .val (.int ld), .val (.ref b1), .val (.ref b4), .val (.int (own_p6 ld c0 c1 c2)), .val (.int (own_p0 ld)), .val (.int (own_p2 ld c0)), .val (.int (own_p4 ld c0 c1)), .unset, .unset, .unset, .unset, .unset, .unset] []
                refine own_st (fun _ k => XS.iload X16.here hx rfl (hb hby at_195) rfl k) ?_
                show own_Go X16 (Q0 Z p0 p1 p2 p3 h0 n0) 4 22 197 #[.val (.int p0), .val (.int p1), .val (.int p2), .val (.int p3), .val (.int c0), .val (.int c1), .val (.int c2), .val (.int ld), .val (.ref b1), .val (.ref b4), .val (.int (own_p6 ld c0 c1 c2)), .val (.int (own_p0 ld)), .val (.int (own_p2 ld c0)), .val (.int (own_p4 ld c0 c1)), .unset, .unset, .unset, .unset, .unset, .unset] [(.int (own_p6 ld c0 c1 c2))]
                refine own_st (fun _ k => XS.istore X16.here hx rfl (hb hby at_197) rfl (l' := #[.val (.int p0), .val (.int p1), .val (.int p2), .val (.int p3), .val (.int c0), .val (.int c1), .val (.int c2), .val (.int ld), .val (.ref b1), .val (.ref b4), .val (.int (own_p6 ld c0 c1 c2)), .val (.int (own_p0 ld)), .val (.int (own_p2 ld c0)), .val (.int (own_p4 ld c0 c1)), .val (.int (own_p6 ld c0 c1 c2)), .unset, .unset, .unset, .unset, .unset]) rfl k) ?_
                show own_Go X16 (Q0 Z p0 p1 p2 p3 h0 n0) 4 22 199 #[.val (.int p0), .val (.int p1), .val (.int p2), .val (.int p3), .val (.int c0), .val (.int c1), .val (.int c2), .val (.int ld), .val (.ref b1), .val (.ref b4), .val (.int (own_p6 ld c0 c1 c2)), .val (.int (own_p0 ld)), .val (.int (own_p2 ld c0)), .val (.int (own_p4 ld c0 c1)), .val (.int (own_p6 ld c0 c1 c2)), .unset, .unset, .unset, .unset, .unset] []
                refine own_st (fun _ k => XS.iconst X16.here hx rfl (hb hby at_199) k) ?_
                show own_Go X16 (Q0 Z p0 p1 p2 p3 h0 n0) 4 22 200 #[.val (.int p0), .val (.int p1), .val (.int p2), .val (.int p3), .val (.int c0), .val (.int c1), .val (.int c2), .val (.int ld), .val (.ref b1), .val (.ref b4), .val (.int (own_p6 ld c0 c1 c2)), .val (.int (own_p0 ld)), .val (.int (own_p2 ld c0)), .val (.int (own_p4 ld c0 c1)), .val (.int (own_p6 ld c0 c1 c2)), .unset, .unset, .unset, .unset, .unset] [(.int (4 : Int32))]
                obtain ⟨T17, h17, k17, X17, e17, E17, A17, st17⟩ := newP X16 hx hZ (hw _ (List.mem_of_getElem? (i := 0) rfl)) e16 (g := (mkF m 200 #[.val (.int p0), .val (.int p1), .val (.int p2), .val (.int p3), .val (.int c0), .val (.int c1), .val (.int c2), .val (.int ld), .val (.ref b1), .val (.ref b4), .val (.int (own_p6 ld c0 c1 c2)), .val (.int (own_p0 ld)), .val (.int (own_p2 ld c0)), .val (.int (own_p4 ld c0 c1)), .val (.int (own_p6 ld c0 c1 c2)), .unset, .unset, .unset, .unset, .unset] [(.int (4 : Int32))])) rfl (hb hby at_200) rfl (by decide) (cap := 4) (by decide) (by decide) (by decide) (by decide)
                obtain ⟨b17, g17⟩ : ∃ z, z = h16.size := ⟨_, rfl⟩
                rw [← g17] at A17 st17
                refine own_st st17 ?_
                have ne_18 := Nat.ne_of_lt (Nat.lt_of_lt_of_le f16_0.lt (Nat.le_of_eq g17.symm))
                have G_19 := Nat.le_trans Z16 (Nat.le_of_eq g17.symm)
                have f_20 := f16_0.ext E17
                have Z_21 := Nat.le_trans Z16 E17.1
                have V17 : Arv Z h17 b17 k17 .int (4 : Int32) [(.int (0 : Int32)), (.int (0 : Int32)), (.int (0 : Int32)), (.int (0 : Int32))] (.int (0 : Int32)) := (Arv.new A17 (by decide)).pad (pad_rep [] (.int (0 : Int32)) 4)
                show own_Go X17 (Q0 Z p0 p1 p2 p3 h0 n0) 4 22 202 #[.val (.int p0), .val (.int p1), .val (.int p2), .val (.int p3), .val (.int c0), .val (.int c1), .val (.int c2), .val (.int ld), .val (.ref b1), .val (.ref b4), .val (.int (own_p6 ld c0 c1 c2)), .val (.int (own_p0 ld)), .val (.int (own_p2 ld c0)), .val (.int (own_p4 ld c0 c1)), .val (.int (own_p6 ld c0 c1 c2)), .unset, .unset, .unset, .unset, .unset] [(.ref b17)]
                refine own_st (fun _ k => XS.dup X17.here hx rfl (hb hby at_202) rfl rfl k) ?_
                show own_Go X17 (Q0 Z p0 p1 p2 p3 h0 n0) 4 22 203 #[.val (.int p0), .val (.int p1), .val (.int p2), .val (.int p3), .val (.int c0), .val (.int c1), .val (.int c2), .val (.int ld), .val (.ref b1), .val (.ref b4), .val (.int (own_p6 ld c0 c1 c2)), .val (.int (own_p0 ld)), .val (.int (own_p2 ld c0)), .val (.int (own_p4 ld c0 c1)), .val (.int (own_p6 ld c0 c1 c2)), .unset, .unset, .unset, .unset, .unset] [(.ref b17), (.ref b17)]
                refine own_st (fun _ k => XS.iconst X17.here hx rfl (hb hby at_203) k) ?_
                show own_Go X17 (Q0 Z p0 p1 p2 p3 h0 n0) 4 22 204 #[.val (.int p0), .val (.int p1), .val (.int p2), .val (.int p3), .val (.int c0), .val (.int c1), .val (.int c2), .val (.int ld), .val (.ref b1), .val (.ref b4), .val (.int (own_p6 ld c0 c1 c2)), .val (.int (own_p0 ld)), .val (.int (own_p2 ld c0)), .val (.int (own_p4 ld c0 c1)), .val (.int (own_p6 ld c0 c1 c2)), .unset, .unset, .unset, .unset, .unset] [(.int (0 : Int32)), (.ref b17), (.ref b17)]
                refine own_st (fun _ k => XS.iload X17.here hx rfl (hb hby at_204) rfl k) ?_
                show own_Go X17 (Q0 Z p0 p1 p2 p3 h0 n0) 4 22 206 #[.val (.int p0), .val (.int p1), .val (.int p2), .val (.int p3), .val (.int c0), .val (.int c1), .val (.int c2), .val (.int ld), .val (.ref b1), .val (.ref b4), .val (.int (own_p6 ld c0 c1 c2)), .val (.int (own_p0 ld)), .val (.int (own_p2 ld c0)), .val (.int (own_p4 ld c0 c1)), .val (.int (own_p6 ld c0 c1 c2)), .unset, .unset, .unset, .unset, .unset] [(.int (own_p0 ld)), (.int (0 : Int32)), (.ref b17), (.ref b17)]
                obtain ⟨T22, h22, X22, e22, W22, V22, st22⟩ := own_stI X17 hx hZ e17 V17 (j := (0 : Int32)) ⟨by decide, by decide⟩ (Nat.le_of_ble_eq_true rfl) (g := (mkF m 206 #[.val (.int p0), .val (.int p1), .val (.int p2), .val (.int p3), .val (.int c0), .val (.int c1), .val (.int c2), .val (.int ld), .val (.ref b1), .val (.ref b4), .val (.int (own_p6 ld c0 c1 c2)), .val (.int (own_p0 ld)), .val (.int (own_p2 ld c0)), .val (.int (own_p4 ld c0 c1)), .val (.int (own_p6 ld c0 c1 c2)), .unset, .unset, .unset, .unset, .unset] [(.int (own_p0 ld)), (.int (0 : Int32)), (.ref b17), (.ref b17)])) rfl rfl (hb hby at_206)
                refine own_st st22 ?_
                have f_23 := f_20.other W22 ne_18
                have Z_24 := Nat.le_trans Z_21 (Nat.le_of_eq W22.size.symm)
                have U22 : Arv Z h22 b17 k17 .int (4 : Int32) [(.int (own_p0 ld)), (.int (0 : Int32)), (.int (0 : Int32)), (.int (0 : Int32))] (.int (0 : Int32)) := V22
                have N_25 := Fr.snoc X22 N16 G_19
                show own_Go X22 (Q0 Z p0 p1 p2 p3 h0 n0) 4 22 207 #[.val (.int p0), .val (.int p1), .val (.int p2), .val (.int p3), .val (.int c0), .val (.int c1), .val (.int c2), .val (.int ld), .val (.ref b1), .val (.ref b4), .val (.int (own_p6 ld c0 c1 c2)), .val (.int (own_p0 ld)), .val (.int (own_p2 ld c0)), .val (.int (own_p4 ld c0 c1)), .val (.int (own_p6 ld c0 c1 c2)), .unset, .unset, .unset, .unset, .unset] [(.ref b17)]
                refine own_st (fun _ k => XS.dup X22.here hx rfl (hb hby at_207) rfl rfl k) ?_
                show own_Go X22 (Q0 Z p0 p1 p2 p3 h0 n0) 4 22 208 #[.val (.int p0), .val (.int p1), .val (.int p2), .val (.int p3), .val (.int c0), .val (.int c1), .val (.int c2), .val (.int ld), .val (.ref b1), .val (.ref b4), .val (.int (own_p6 ld c0 c1 c2)), .val (.int (own_p0 ld)), .val (.int (own_p2 ld c0)), .val (.int (own_p4 ld c0 c1)), .val (.int (own_p6 ld c0 c1 c2)), .unset, .unset, .unset, .unset, .unset] [(.ref b17), (.ref b17)]
                refine own_st (fun _ k => XS.iconst X22.here hx rfl (hb hby at_208) k) ?_
                show own_Go X22 (Q0 Z p0 p1 p2 p3 h0 n0) 4 22 209 #[.val (.int p0), .val (.int p1), .val (.int p2), .val (.int p3), .val (.int c0), .val (.int c1), .val (.int c2), .val (.int ld), .val (.ref b1), .val (.ref b4), .val (.int (own_p6 ld c0 c1 c2)), .val (.int (own_p0 ld)), .val (.int (own_p2 ld c0)), .val (.int (own_p4 ld c0 c1)), .val (.int (own_p6 ld c0 c1 c2)), .unset, .unset, .unset, .unset, .unset] [(.int (1 : Int32)), (.ref b17), (.ref b17)]
                refine own_st (fun _ k => XS.iload X22.here hx rfl (hb hby at_209) rfl k) ?_
                show own_Go X22 (Q0 Z p0 p1 p2 p3 h0 n0) 4 22 211 #[.val (.int p0), .val (.int p1), .val (.int p2), .val (.int p3), .val (.int c0), .val (.int c1), .val (.int c2), .val (.int ld), .val (.ref b1), .val (.ref b4), .val (.int (own_p6 ld c0 c1 c2)), .val (.int (own_p0 ld)), .val (.int (own_p2 ld c0)), .val (.int (own_p4 ld c0 c1)), .val (.int (own_p6 ld c0 c1 c2)), .unset, .unset, .unset, .unset, .unset] [(.int (own_p2 ld c0)), (.int (1 : Int32)), (.ref b17), (.ref b17)]
                obtain ⟨T26, h26, X26, e26, W26, V26, st26⟩ := own_stI X22 hx hZ e22 U22 (j := (1 : Int32)) ⟨by decide, by decide⟩ (Nat.le_of_ble_eq_true rfl) (g := (mkF m 211 #[.val (.int p0), .val (.int p1), .val (.int p2), .val (.int p3), .val (.int c0), .val (.int c1), .val (.int c2), .val (.int ld), .val (.ref b1), .val (.ref b4), .val (.int (own_p6 ld c0 c1 c2)), .val (.int (own_p0 ld)), .val (.int (own_p2 ld c0)), .val (.int (own_p4 ld c0 c1)), .val (.int (own_p6 ld c0 c1 c2)), .unset, .unset, .unset, .unset, .unset] [(.int (own_p2 ld c0)), (.int (1 : Int32)), (.ref b17), (.ref b17)])) rfl rfl (hb hby at_211)
                refine own_st st26 ?_
                have f_27 := f_23.other W26 ne_18
                have Z_28 := Nat.le_trans Z_24 (Nat.le_of_eq W26.size.symm)
                have U26 : Arv Z h26 b17 k17 .int (4 : Int32) [(.int (own_p0 ld)), (.int (own_p2 ld c0)), (.int (0 : Int32)), (.int (0 : Int32))] (.int (0 : Int32)) := V26
                have N_29 := Fr.snoc X26 N_25 G_19
                show own_Go X26 (Q0 Z p0 p1 p2 p3 h0 n0) 4 22 212 #[.val (.int p0), .val (.int p1), .val (.int p2), .val (.int p3), .val (.int c0), .val (.int c1), .val (.int c2), .val (.int ld), .val (.ref b1), .val (.ref b4), .val (.int (own_p6 ld c0 c1 c2)), .val (.int (own_p0 ld)), .val (.int (own_p2 ld c0)), .val (.int (own_p4 ld c0 c1)), .val (.int (own_p6 ld c0 c1 c2)), .unset, .unset, .unset, .unset, .unset] [(.ref b17)]
                refine own_st (fun _ k => XS.dup X26.here hx rfl (hb hby at_212) rfl rfl k) ?_
                show own_Go X26 (Q0 Z p0 p1 p2 p3 h0 n0) 4 22 213 #[.val (.int p0), .val (.int p1), .val (.int p2), .val (.int p3), .val (.int c0), .val (.int c1), .val (.int c2), .val (.int ld), .val (.ref b1), .val (.ref b4), .val (.int (own_p6 ld c0 c1 c2)), .val (.int (own_p0 ld)), .val (.int (own_p2 ld c0)), .val (.int (own_p4 ld c0 c1)), .val (.int (own_p6 ld c0 c1 c2)), .unset, .unset, .unset, .unset, .unset] [(.ref b17), (.ref b17)]
                refine own_st (fun _ k => XS.iconst X26.here hx rfl (hb hby at_213) k) ?_
                show own_Go X26 (Q0 Z p0 p1 p2 p3 h0 n0) 4 22 214 #[.val (.int p0), .val (.int p1), .val (.int p2), .val (.int p3), .val (.int c0), .val (.int c1), .val (.int c2), .val (.int ld), .val (.ref b1), .val (.ref b4), .val (.int (own_p6 ld c0 c1 c2)), .val (.int (own_p0 ld)), .val (.int (own_p2 ld c0)), .val (.int (own_p4 ld c0 c1)), .val (.int (own_p6 ld c0 c1 c2)), .unset, .unset, .unset, .unset, .unset] [(.int (2 : Int32)), (.ref b17), (.ref b17)]
                refine own_st (fun _ k => XS.iload X26.here hx rfl (hb hby at_214) rfl k) ?_
                show own_Go X26 (Q0 Z p0 p1 p2 p3 h0 n0) 4 22 216 #[.val (.int p0), .val (.int p1), .val (.int p2), .val (.int p3), .val (.int c0), .val (.int c1), .val (.int c2), .val (.int ld), .val (.ref b1), .val (.ref b4), .val (.int (own_p6 ld c0 c1 c2)), .val (.int (own_p0 ld)), .val (.int (own_p2 ld c0)), .val (.int (own_p4 ld c0 c1)), .val (.int (own_p6 ld c0 c1 c2)), .unset, .unset, .unset, .unset, .unset] [(.int (own_p4 ld c0 c1)), (.int (2 : Int32)), (.ref b17), (.ref b17)]
                obtain ⟨T30, h30, X30, e30, W30, V30, st30⟩ := own_stI X26 hx hZ e26 U26 (j := (2 : Int32)) ⟨by decide, by decide⟩ (Nat.le_of_ble_eq_true rfl) (g := (mkF m 216 #[.val (.int p0), .val (.int p1), .val (.int p2), .val (.int p3), .val (.int c0), .val (.int c1), .val (.int c2), .val (.int ld), .val (.ref b1), .val (.ref b4), .val (.int (own_p6 ld c0 c1 c2)), .val (.int (own_p0 ld)), .val (.int (own_p2 ld c0)), .val (.int (own_p4 ld c0 c1)), .val (.int (own_p6 ld c0 c1 c2)), .unset, .unset, .unset, .unset, .unset] [(.int (own_p4 ld c0 c1)), (.int (2 : Int32)), (.ref b17), (.ref b17)])) rfl rfl (hb hby at_216)
                refine own_st st30 ?_
                have f_31 := f_27.other W30 ne_18
                have Z_32 := Nat.le_trans Z_28 (Nat.le_of_eq W30.size.symm)
                have U30 : Arv Z h30 b17 k17 .int (4 : Int32) [(.int (own_p0 ld)), (.int (own_p2 ld c0)), (.int (own_p4 ld c0 c1)), (.int (0 : Int32))] (.int (0 : Int32)) := V30
                have N_33 := Fr.snoc X30 N_29 G_19
                show own_Go X30 (Q0 Z p0 p1 p2 p3 h0 n0) 4 22 217 #[.val (.int p0), .val (.int p1), .val (.int p2), .val (.int p3), .val (.int c0), .val (.int c1), .val (.int c2), .val (.int ld), .val (.ref b1), .val (.ref b4), .val (.int (own_p6 ld c0 c1 c2)), .val (.int (own_p0 ld)), .val (.int (own_p2 ld c0)), .val (.int (own_p4 ld c0 c1)), .val (.int (own_p6 ld c0 c1 c2)), .unset, .unset, .unset, .unset, .unset] [(.ref b17)]
                refine own_st (fun _ k => XS.dup X30.here hx rfl (hb hby at_217) rfl rfl k) ?_
                show own_Go X30 (Q0 Z p0 p1 p2 p3 h0 n0) 4 22 218 #[.val (.int p0), .val (.int p1), .val (.int p2), .val (.int p3), .val (.int c0), .val (.int c1), .val (.int c2), .val (.int ld), .val (.ref b1), .val (.ref b4), .val (.int (own_p6 ld c0 c1 c2)), .val (.int (own_p0 ld)), .val (.int (own_p2 ld c0)), .val (.int (own_p4 ld c0 c1)), .val (.int (own_p6 ld c0 c1 c2)), .unset, .unset, .unset, .unset, .unset] [(.ref b17), (.ref b17)]
                refine own_st (fun _ k => XS.iconst X30.here hx rfl (hb hby at_218) k) ?_
                show own_Go X30 (Q0 Z p0 p1 p2 p3 h0 n0) 4 22 219 #[.val (.int p0), .val (.int p1), .val (.int p2), .val (.int p3), .val (.int c0), .val (.int c1), .val (.int c2), .val (.int ld), .val (.ref b1), .val (.ref b4), .val (.int (own_p6 ld c0 c1 c2)), .val (.int (own_p0 ld)), .val (.int (own_p2 ld c0)), .val (.int (own_p4 ld c0 c1)), .val (.int (own_p6 ld c0 c1 c2)), .unset, .unset, .unset, .unset, .unset] [(.int (3 : Int32)), (.ref b17), (.ref b17)]
                refine own_st (fun _ k => XS.iload X30.here hx rfl (hb hby at_219) rfl k) ?_
                show own_Go X30 (Q0 Z p0 p1 p2 p3 h0 n0) 4 22 221 #[.val (.int p0), .val (.int p1), .val (.int p2), .val (.int p3), .val (.int c0), .val (.int c1), .val (.int c2), .val (.int ld), .val (.ref b1), .val (.ref b4), .val (.int (own_p6 ld c0 c1 c2)), .val (.int (own_p0 ld)), .val (.int (own_p2 ld c0)), .val (.int (own_p4 ld c0 c1)), .val (.int (own_p6 ld c0 c1 c2)), .unset, .unset, .unset, .unset, .unset] [(.int (own_p6 ld c0 c1 c2)), (.int (3 : Int32)), (.ref b17), (.ref b17)]
                obtain ⟨T34, h34, X34, e34, W34, V34, st34⟩ := own_stI X30 hx hZ e30 U30 (j := (3 : Int32)) ⟨by decide, by decide⟩ (Nat.le_of_ble_eq_true rfl) (g := (mkF m 221 #[.val (.int p0), .val (.int p1), .val (.int p2), .val (.int p3), .val (.int c0), .val (.int c1), .val (.int c2), .val (.int ld), .val (.ref b1), .val (.ref b4), .val (.int (own_p6 ld c0 c1 c2)), .val (.int (own_p0 ld)), .val (.int (own_p2 ld c0)), .val (.int (own_p4 ld c0 c1)), .val (.int (own_p6 ld c0 c1 c2)), .unset, .unset, .unset, .unset, .unset] [(.int (own_p6 ld c0 c1 c2)), (.int (3 : Int32)), (.ref b17), (.ref b17)])) rfl rfl (hb hby at_221)
                refine own_st st34 ?_
                have f_35 := f_31.other W34 ne_18
                have Z_36 := Nat.le_trans Z_32 (Nat.le_of_eq W34.size.symm)
                have U34 : Arv Z h34 b17 k17 .int (4 : Int32) [(.int (own_p0 ld)), (.int (own_p2 ld c0)), (.int (own_p4 ld c0 c1)), (.int (own_p6 ld c0 c1 c2))] (.int (0 : Int32)) := V34
                have N_37 := Fr.snoc X34 N_33 G_19
                show own_Go X34 (Q0 Z p0 p1 p2 p3 h0 n0) 4 22 222 #[.val (.int p0), .val (.int p1), .val (.int p2), .val (.int p3), .val (.int c0), .val (.int c1), .val (.int c2), .val (.int ld), .val (.ref b1), .val (.ref b4), .val (.int (own_p6 ld c0 c1 c2)), .val (.int (own_p0 ld)), .val (.int (own_p2 ld c0)), .val (.int (own_p4 ld c0 c1)), .val (.int (own_p6 ld c0 c1 c2)), .unset, .unset, .unset, .unset, .unset] [(.ref b17)]
                refine own_st (fun _ k => XS.astore X34.here hx rfl (hb hby at_222) rfl rfl (l' := #[.val (.int p0), .val (.int p1), .val (.int p2), .val (.int p3), .val (.int c0), .val (.int c1), .val (.int c2), .val (.int ld), .val (.ref b1), .val (.ref b4), .val (.int (own_p6 ld c0 c1 c2)), .val (.int (own_p0 ld)), .val (.int (own_p2 ld c0)), .val (.int (own_p4 ld c0 c1)), .val (.int (own_p6 ld c0 c1 c2)), .val (.ref b17), .unset, .unset, .unset, .unset]) rfl k) ?_
                show own_Go X34 (Q0 Z p0 p1 p2 p3 h0 n0) 4 22 224 #[.val (.int p0), .val (.int p1), .val (.int p2), .val (.int p3), .val (.int c0), .val (.int c1), .val (.int c2), .val (.int ld), .val (.ref b1), .val (.ref b4), .val (.int (own_p6 ld c0 c1 c2)), .val (.int (own_p0 ld)), .val (.int (own_p2 ld c0)), .val (.int (own_p4 ld c0 c1)), .val (.int (own_p6 ld c0 c1 c2)), .val (.ref b17), .unset, .unset, .unset, .unset] []
                obtain ⟨T38, h38, X38, e38, E38, A38, D38, -, st38⟩ := newO X34 hx hZ hown (hw _ (List.mem_of_getElem? (i := 2) rfl)) (hw _ (List.mem_of_getElem? (i := 3) rfl)) (hw _ (List.mem_of_getElem? (i := 4) rfl)) e34 (g := (mkF m 224 #[.val (.int p0), .val (.int p1), .val (.int p2), .val (.int p3), .val (.int c0), .val (.int c1), .val (.int c2), .val (.int ld), .val (.ref b1), .val (.ref b4), .val (.int (own_p6 ld c0 c1 c2)), .val (.int (own_p0 ld)), .val (.int (own_p2 ld c0)), .val (.int (own_p4 ld c0 c1)), .val (.int (own_p6 ld c0 c1 c2)), .val (.ref b17), .unset, .unset, .unset, .unset] [])) rfl (hb hby at_224) (by decide) (by decide)
                obtain ⟨b38, g38⟩ : ∃ z, z = h34.size := ⟨_, rfl⟩
                rw [← g38] at A38 D38 st38
                refine own_st st38 ?_
                have ne_39 := Nat.ne_of_lt (Nat.lt_of_lt_of_le f_35.lt (Nat.le_of_eq g38.symm))
                have ne_40 := Nat.ne_of_lt (Nat.lt_of_lt_of_le U34.lt (Nat.le_of_eq g38.symm))
                have G_41 := Nat.le_trans Z_36 (Nat.le_of_eq g38.symm)
                have f_42 := f_35.ext E38
                have f_43 := U34.ext E38
                have Z_44 := Nat.le_trans Z_36 E38.1
                have F_limit_38 : Fld Z h38 b38 "com/example/bulk_retrieval/bulkretrieval/index/Neighbours" "limit" "I" (.int (0 : Int32)) := D38 (Or.inr (hw _ (List.mem_of_getElem? (i := 12) rfl))) (ty := .int) (by decide)
                have F_starts_38 : Fld Z h38 b38 "com/example/bulk_retrieval/bulkretrieval/index/Neighbours" "starts" "[I" .null := D38 (Or.inr (hw _ (List.mem_of_getElem? (i := 14) rfl))) (ty := (.array .int)) (by decide)
                have F_documents_38 : Fld Z h38 b38 "com/example/bulk_retrieval/bulkretrieval/index/Neighbours" "documents" "[I" .null := D38 (Or.inr (hw _ (List.mem_of_getElem? (i := 16) rfl))) (ty := (.array .int)) (by decide)
                have F_similarities_38 : Fld Z h38 b38 "com/example/bulk_retrieval/bulkretrieval/index/Neighbours" "similarities" "[D" .null := D38 (Or.inr (hw _ (List.mem_of_getElem? (i := 18) rfl))) (ty := (.array .double)) (by decide)
                show own_Go X38 (Q0 Z p0 p1 p2 p3 h0 n0) 4 22 227 #[.val (.int p0), .val (.int p1), .val (.int p2), .val (.int p3), .val (.int c0), .val (.int c1), .val (.int c2), .val (.int ld), .val (.ref b1), .val (.ref b4), .val (.int (own_p6 ld c0 c1 c2)), .val (.int (own_p0 ld)), .val (.int (own_p2 ld c0)), .val (.int (own_p4 ld c0 c1)), .val (.int (own_p6 ld c0 c1 c2)), .val (.ref b17), .unset, .unset, .unset, .unset] [(.ref b38)]
                refine own_st (fun _ k => XS.dup X38.here hx rfl (hb hby at_227) rfl rfl k) ?_
                show own_Go X38 (Q0 Z p0 p1 p2 p3 h0 n0) 4 22 228 #[.val (.int p0), .val (.int p1), .val (.int p2), .val (.int p3), .val (.int c0), .val (.int c1), .val (.int c2), .val (.int ld), .val (.ref b1), .val (.ref b4), .val (.int (own_p6 ld c0 c1 c2)), .val (.int (own_p0 ld)), .val (.int (own_p2 ld c0)), .val (.int (own_p4 ld c0 c1)), .val (.int (own_p6 ld c0 c1 c2)), .val (.ref b17), .unset, .unset, .unset, .unset] [(.ref b38), (.ref b38)]
                refine own_st (fun _ k => XS.iconst X38.here hx rfl (hb hby at_228) k) ?_
                show own_Go X38 (Q0 Z p0 p1 p2 p3 h0 n0) 4 22 229 #[.val (.int p0), .val (.int p1), .val (.int p2), .val (.int p3), .val (.int c0), .val (.int c1), .val (.int c2), .val (.int ld), .val (.ref b1), .val (.ref b4), .val (.int (own_p6 ld c0 c1 c2)), .val (.int (own_p0 ld)), .val (.int (own_p2 ld c0)), .val (.int (own_p4 ld c0 c1)), .val (.int (own_p6 ld c0 c1 c2)), .val (.ref b17), .unset, .unset, .unset, .unset] [(.int (2 : Int32)), (.ref b38), (.ref b38)]
                refine own_st (fun _ k => XS.aload X38.here hx rfl (hb hby at_229) rfl rfl k) ?_
                show own_Go X38 (Q0 Z p0 p1 p2 p3 h0 n0) 4 22 231 #[.val (.int p0), .val (.int p1), .val (.int p2), .val (.int p3), .val (.int c0), .val (.int c1), .val (.int c2), .val (.int ld), .val (.ref b1), .val (.ref b4), .val (.int (own_p6 ld c0 c1 c2)), .val (.int (own_p0 ld)), .val (.int (own_p2 ld c0)), .val (.int (own_p4 ld c0 c1)), .val (.int (own_p6 ld c0 c1 c2)), .val (.ref b17), .unset, .unset, .unset, .unset] [(.ref b17), (.int (2 : Int32)), (.ref b38), (.ref b38)]
                refine own_st (fun _ k => XS.aload X38.here hx rfl (hb hby at_231) rfl rfl k) ?_
                show own_Go X38 (Q0 Z p0 p1 p2 p3 h0 n0) 4 22 233 #[.val (.int p0), .val (.int p1), .val (.int p2), .val (.int p3), .val (.int c0), .val (.int c1), .val (.int c2), .val (.int ld), .val (.ref b1), .val (.ref b4), .val (.int (own_p6 ld c0 c1 c2)), .val (.int (own_p0 ld)), .val (.int (own_p2 ld c0)), .val (.int (own_p4 ld c0 c1)), .val (.int (own_p6 ld c0 c1 c2)), .val (.ref b17), .unset, .unset, .unset, .unset] [(.ref b1), (.ref b17), (.int (2 : Int32)), (.ref b38), (.ref b38)]
                refine own_st (fun _ k => XS.aload X38.here hx rfl (hb hby at_233) rfl rfl k) ?_
                show own_Go X38 (Q0 Z p0 p1 p2 p3 h0 n0) 4 22 235 #[.val (.int p0), .val (.int p1), .val (.int p2), .val (.int p3), .val (.int c0), .val (.int c1), .val (.int c2), .val (.int ld), .val (.ref b1), .val (.ref b4), .val (.int (own_p6 ld c0 c1 c2)), .val (.int (own_p0 ld)), .val (.int (own_p2 ld c0)), .val (.int (own_p4 ld c0 c1)), .val (.int (own_p6 ld c0 c1 c2)), .val (.ref b17), .unset, .unset, .unset, .unset] [(.ref b4), (.ref b1), (.ref b17), (.int (2 : Int32)), (.ref b38), (.ref b38)]
                refine own_callI (W := 1) X38 hx hZ hown (hw _ (List.mem_of_getElem? (i := 5) rfl)) (hw _ (List.mem_of_getElem? (i := 6) rfl)) (hw _ (List.mem_of_getElem? (i := 4) rfl)) (hw _ (List.mem_of_getElem? (i := 7) rfl)) rfl (by decide) (rm1 l Z a0 hw [] b38 (2 : Int32) b17 b1 b4 h38 n0 Z_44 A38 G_41 F_limit_38 F_starts_38 F_documents_38 F_similarities_38) (by decide) (by decide) (by rw [hml]; rfl) b38 [(.int (2 : Int32)), (.ref b17), (.ref b1), (.ref b4)] [(.ref b38)] (lenOf pd_0_0 rfl) rfl rfl (Nat.le_of_ble_eq_true rfl) (hb hby at_235) e38 (by decide) (by decide) ?_
                rintro _ T45 L45 X45 ⟨rfl, N45q, K45q, F45_limit, F45_starts, F45_documents, F45_similarities⟩
                have N_46 := Fr.app N_37 N45q
                have f_47 := f_42.keep K45q (ninS ne_39 nin0)
                have f_48 := f_43.keep K45q (ninS ne_40 nin0)
                have f_49 := A38.keep K45q
                have Z_50 := Nat.le_trans Z_44 K45q.1
                show own_Go X45 (Q0 Z p0 p1 p2 p3 h0 n0) 4 22 238 #[.val (.int p0), .val (.int p1), .val (.int p2), .val (.int p3), .val (.int c0), .val (.int c1), .val (.int c2), .val (.int ld), .val (.ref b1), .val (.ref b4), .val (.int (own_p6 ld c0 c1 c2)), .val (.int (own_p0 ld)), .val (.int (own_p2 ld c0)), .val (.int (own_p4 ld c0 c1)), .val (.int (own_p6 ld c0 c1 c2)), .val (.ref b17), .unset, .unset, .unset, .unset] [(.ref b38)]
                refine own_st (fun _ k => XS.astore X45.here hx rfl (hb hby at_238) rfl rfl (l' := #[.val (.int p0), .val (.int p1), .val (.int p2), .val (.int p3), .val (.int c0), .val (.int c1), .val (.int c2), .val (.int ld), .val (.ref b1), .val (.ref b4), .val (.int (own_p6 ld c0 c1 c2)), .val (.int (own_p0 ld)), .val (.int (own_p2 ld c0)), .val (.int (own_p4 ld c0 c1)), .val (.int (own_p6 ld c0 c1 c2)), .val (.ref b17), .val (.ref b38), .unset, .unset, .unset]) rfl k) ?_
                show own_Go X45 (Q0 Z p0 p1 p2 p3 h0 n0) 4 22 240 #[.val (.int p0), .val (.int p1), .val (.int p2), .val (.int p3), .val (.int c0), .val (.int c1), .val (.int c2), .val (.int ld), .val (.ref b1), .val (.ref b4), .val (.int (own_p6 ld c0 c1 c2)), .val (.int (own_p0 ld)), .val (.int (own_p2 ld c0)), .val (.int (own_p4 ld c0 c1)), .val (.int (own_p6 ld c0 c1 c2)), .val (.ref b17), .val (.ref b38), .unset, .unset, .unset] []
                refine own_st (fun _ k => XS.iloadN X45.here hx rfl (hb hby at_240) rfl k) ?_
                show own_Go X45 (Q0 Z p0 p1 p2 p3 h0 n0) 4 22 241 #[.val (.int p0), .val (.int p1), .val (.int p2), .val (.int p3), .val (.int c0), .val (.int c1), .val (.int c2), .val (.int ld), .val (.ref b1), .val (.ref b4), .val (.int (own_p6 ld c0 c1 c2)), .val (.int (own_p0 ld)), .val (.int (own_p2 ld c0)), .val (.int (own_p4 ld c0 c1)), .val (.int (own_p6 ld c0 c1 c2)), .val (.ref b17), .val (.ref b38), .unset, .unset, .unset] [(.int p2)]
                refine own_st (fun t k => X45.ldcInt hx hown (mvT hZ (hw _ (List.mem_of_getElem? (i := 19) rfl))) (g := (mkF m 241 #[.val (.int p0), .val (.int p1), .val (.int p2), .val (.int p3), .val (.int c0), .val (.int c1), .val (.int c2), .val (.int ld), .val (.ref b1), .val (.ref b4), .val (.int (own_p6 ld c0 c1 c2)), .val (.int (own_p0 ld)), .val (.int (own_p2 ld c0)), .val (.int (own_p4 ld c0 c1)), .val (.int (own_p6 ld c0 c1 c2)), .val (.ref b17), .val (.ref b38), .unset, .unset, .unset] [(.int p2)])) rfl (hb hby at_241) t k) ?_
                show own_Go X45 (Q0 Z p0 p1 p2 p3 h0 n0) 4 22 243 #[.val (.int p0), .val (.int p1), .val (.int p2), .val (.int p3), .val (.int c0), .val (.int c1), .val (.int c2), .val (.int ld), .val (.ref b1), .val (.ref b4), .val (.int (own_p6 ld c0 c1 c2)), .val (.int (own_p0 ld)), .val (.int (own_p2 ld c0)), .val (.int (own_p4 ld c0 c1)), .val (.int (own_p6 ld c0 c1 c2)), .val (.ref b17), .val (.ref b38), .unset, .unset, .unset] [(.int (2147483647 : Int32)), (.int p2)]
                refine own_st (fun _ k => XS.iand X45.here hx rfl (hb hby at_243) rfl k) ?_
                show own_Go X45 (Q0 Z p0 p1 p2 p3 h0 n0) 4 22 244 #[.val (.int p0), .val (.int p1), .val (.int p2), .val (.int p3), .val (.int c0), .val (.int c1), .val (.int c2), .val (.int ld), .val (.ref b1), .val (.ref b4), .val (.int (own_p6 ld c0 c1 c2)), .val (.int (own_p0 ld)), .val (.int (own_p2 ld c0)), .val (.int (own_p4 ld c0 c1)), .val (.int (own_p6 ld c0 c1 c2)), .val (.ref b17), .val (.ref b38), .unset, .unset, .unset] [(.int (p2 &&& (2147483647 : Int32)))]
                refine own_st (fun _ k => XS.iconst X45.here hx rfl (hb hby at_244) k) ?_
                show own_Go X45 (Q0 Z p0 p1 p2 p3 h0 n0) 4 22 245 #[.val (.int p0), .val (.int p1), .val (.int p2), .val (.int p3), .val (.int c0), .val (.int c1), .val (.int c2), .val (.int ld), .val (.ref b1), .val (.ref b4), .val (.int (own_p6 ld c0 c1 c2)), .val (.int (own_p0 ld)), .val (.int (own_p2 ld c0)), .val (.int (own_p4 ld c0 c1)), .val (.int (own_p6 ld c0 c1 c2)), .val (.ref b17), .val (.ref b38), .unset, .unset, .unset] [(.int (3 : Int32)), (.int (p2 &&& (2147483647 : Int32)))]
                refine own_st (fun _ k => iremM X45 hx rfl (hb hby at_245) rfl (by decide) k) ?_
                show own_Go X45 (Q0 Z p0 p1 p2 p3 h0 n0) 4 22 246 #[.val (.int p0), .val (.int p1), .val (.int p2), .val (.int p3), .val (.int c0), .val (.int c1), .val (.int c2), .val (.int ld), .val (.ref b1), .val (.ref b4), .val (.int (own_p6 ld c0 c1 c2)), .val (.int (own_p0 ld)), .val (.int (own_p2 ld c0)), .val (.int (own_p4 ld c0 c1)), .val (.int (own_p6 ld c0 c1 c2)), .val (.ref b17), .val (.ref b38), .unset, .unset, .unset] [(.int ((p2 &&& (2147483647 : Int32)) % (3 : Int32)))]
                refine own_st (fun _ k => XS.istore X45.here hx rfl (hb hby at_246) rfl (l' := #[.val (.int p0), .val (.int p1), .val (.int p2), .val (.int p3), .val (.int c0), .val (.int c1), .val (.int c2), .val (.int ld), .val (.ref b1), .val (.ref b4), .val (.int (own_p6 ld c0 c1 c2)), .val (.int (own_p0 ld)), .val (.int (own_p2 ld c0)), .val (.int (own_p4 ld c0 c1)), .val (.int (own_p6 ld c0 c1 c2)), .val (.ref b17), .val (.ref b38), .val (.int ((p2 &&& (2147483647 : Int32)) % (3 : Int32))), .unset, .unset]) rfl k) ?_
                show own_Go X45 (Q0 Z p0 p1 p2 p3 h0 n0) 4 22 248 #[.val (.int p0), .val (.int p1), .val (.int p2), .val (.int p3), .val (.int c0), .val (.int c1), .val (.int c2), .val (.int ld), .val (.ref b1), .val (.ref b4), .val (.int (own_p6 ld c0 c1 c2)), .val (.int (own_p0 ld)), .val (.int (own_p2 ld c0)), .val (.int (own_p4 ld c0 c1)), .val (.int (own_p6 ld c0 c1 c2)), .val (.ref b17), .val (.ref b38), .val (.int ((p2 &&& (2147483647 : Int32)) % (3 : Int32))), .unset, .unset] []
                generalize hdd : ((p2 &&& (2147483647 : Int32)) % (3 : Int32)) = dd
                show own_Go X45 (Q0 Z p0 p1 p2 p3 h0 n0) 4 22 248 #[.val (.int p0), .val (.int p1), .val (.int p2), .val (.int p3), .val (.int c0), .val (.int c1), .val (.int c2), .val (.int ld), .val (.ref b1), .val (.ref b4), .val (.int (own_p6 ld c0 c1 c2)), .val (.int (own_p0 ld)), .val (.int (own_p2 ld c0)), .val (.int (own_p4 ld c0 c1)), .val (.int (own_p6 ld c0 c1 c2)), .val (.ref b17), .val (.ref b38), .val (.int dd), .unset, .unset] []
                rcases own_dd hdd with rfl | rfl | rfl
                · skip
                  show own_Go X45 (Q0 Z p0 p1 p2 p3 h0 n0) 4 22 248 #[.val (.int p0), .val (.int p1), .val (.int p2), .val (.int p3), .val (.int c0), .val (.int c1), .val (.int c2), .val (.int ld), .val (.ref b1), .val (.ref b4), .val (.int (own_p6 ld c0 c1 c2)), .val (.int (own_p0 ld)), .val (.int (own_p2 ld c0)), .val (.int (own_p4 ld c0 c1)), .val (.int (own_p6 ld c0 c1 c2)), .val (.ref b17), .val (.ref b38), .val (.int (0 : Int32)), .unset, .unset] []
                  refine own_st (fun _ k => XS.iload X45.here hx rfl (hb hby at_248) rfl k) ?_
                  show own_Go X45 (Q0 Z p0 p1 p2 p3 h0 n0) 4 22 250 #[.val (.int p0), .val (.int p1), .val (.int p2), .val (.int p3), .val (.int c0), .val (.int c1), .val (.int c2), .val (.int ld), .val (.ref b1), .val (.ref b4), .val (.int (own_p6 ld c0 c1 c2)), .val (.int (own_p0 ld)), .val (.int (own_p2 ld c0)), .val (.int (own_p4 ld c0 c1)), .val (.int (own_p6 ld c0 c1 c2)), .val (.ref b17), .val (.ref b38), .val (.int (0 : Int32)), .unset, .unset] [(.int (0 : Int32))]
                  have c250_51 : (0 : Int32) = (0 : Int32) := (by decide)
                  refine own_st (fun _ k => XS.ifNo X45.here hx rfl (hb hby at_250) rfl ((if0 _ _).trans (teq c250_51).2) k) ?_
                  show own_Go X45 (Q0 Z p0 p1 p2 p3 h0 n0) 4 22 253 #[.val (.int p0), .val (.int p1), .val (.int p2), .val (.int p3), .val (.int c0), .val (.int c1), .val (.int c2), .val (.int ld), .val (.ref b1), .val (.ref b4), .val (.int (own_p6 ld c0 c1 c2)), .val (.int (own_p0 ld)), .val (.int (own_p2 ld c0)), .val (.int (own_p4 ld c0 c1)), .val (.int (own_p6 ld c0 c1 c2)), .val (.ref b17), .val (.ref b38), .val (.int (0 : Int32)), .unset, .unset] []
                  refine own_st (fun _ k => XS.iload X45.here hx rfl (hb hby at_253) rfl k) ?_
                  show own_Go X45 (Q0 Z p0 p1 p2 p3 h0 n0) 4 22 255 #[.val (.int p0), .val (.int p1), .val (.int p2), .val (.int p3), .val (.int c0), .val (.int c1), .val (.int c2), .val (.int ld), .val (.ref b1), .val (.ref b4), .val (.int (own_p6 ld c0 c1 c2)), .val (.int (own_p0 ld)), .val (.int (own_p2 ld c0)), .val (.int (own_p4 ld c0 c1)), .val (.int (own_p6 ld c0 c1 c2)), .val (.ref b17), .val (.ref b38), .val (.int (0 : Int32)), .unset, .unset] [(.int c0)]
                  refine own_st (fun _ k => XS.goto X45.here hx rfl (pc0 := 255) (pc' := 271) rfl (hb hby at_255) (by decide) (by decide) k) ?_
                  show own_Go X45 (Q0 Z p0 p1 p2 p3 h0 n0) 4 22 271 #[.val (.int p0), .val (.int p1), .val (.int p2), .val (.int p3), .val (.int c0), .val (.int c1), .val (.int c2), .val (.int ld), .val (.ref b1), .val (.ref b4), .val (.int (own_p6 ld c0 c1 c2)), .val (.int (own_p0 ld)), .val (.int (own_p2 ld c0)), .val (.int (own_p4 ld c0 c1)), .val (.int (own_p6 ld c0 c1 c2)), .val (.ref b17), .val (.ref b38), .val (.int (0 : Int32)), .unset, .unset] [(.int c0)]
                  refine own_st (fun _ k => XS.istore X45.here hx rfl (hb hby at_271) rfl (l' := #[.val (.int p0), .val (.int p1), .val (.int p2), .val (.int p3), .val (.int c0), .val (.int c1), .val (.int c2), .val (.int ld), .val (.ref b1), .val (.ref b4), .val (.int (own_p6 ld c0 c1 c2)), .val (.int (own_p0 ld)), .val (.int (own_p2 ld c0)), .val (.int (own_p4 ld c0 c1)), .val (.int (own_p6 ld c0 c1 c2)), .val (.ref b17), .val (.ref b38), .val (.int (0 : Int32)), .val (.int c0), .unset]) rfl k) ?_
                  show own_Go X45 (Q0 Z p0 p1 p2 p3 h0 n0) 4 22 273 #[.val (.int p0), .val (.int p1), .val (.int p2), .val (.int p3), .val (.int c0), .val (.int c1), .val (.int c2), .val (.int ld), .val (.ref b1), .val (.ref b4), .val (.int (own_p6 ld c0 c1 c2)), .val (.int (own_p0 ld)), .val (.int (own_p2 ld c0)), .val (.int (own_p4 ld c0 c1)), .val (.int (own_p6 ld c0 c1 c2)), .val (.ref b17), .val (.ref b38), .val (.int (0 : Int32)), .val (.int c0), .unset] []
                  refine own_st (fun _ k => XS.iload X45.here hx rfl (hb hby at_273) rfl k) ?_
                  show own_Go X45 (Q0 Z p0 p1 p2 p3 h0 n0) 4 22 275 #[.val (.int p0), .val (.int p1), .val (.int p2), .val (.int p3), .val (.int c0), .val (.int c1), .val (.int c2), .val (.int ld), .val (.ref b1), .val (.ref b4), .val (.int (own_p6 ld c0 c1 c2)), .val (.int (own_p0 ld)), .val (.int (own_p2 ld c0)), .val (.int (own_p4 ld c0 c1)), .val (.int (own_p6 ld c0 c1 c2)), .val (.ref b17), .val (.ref b38), .val (.int (0 : Int32)), .val (.int c0), .unset] [(.int c0)]
                  by_cases c275_52 : c0 = (0 : Int32)
                  · skip
                    refine own_st (fun _ k => XS.ifNo X45.here hx rfl (hb hby at_275) rfl ((if0 _ _).trans (teq c275_52).2) k) ?_
                    show own_Go X45 (Q0 Z p0 p1 p2 p3 h0 n0) 4 22 278 #[.val (.int p0), .val (.int p1), .val (.int p2), .val (.int p3), .val (.int c0), .val (.int c1), .val (.int c2), .val (.int ld), .val (.ref b1), .val (.ref b4), .val (.int (own_p6 ld c0 c1 c2)), .val (.int (own_p0 ld)), .val (.int (own_p2 ld c0)), .val (.int (own_p4 ld c0 c1)), .val (.int (own_p6 ld c0 c1 c2)), .val (.ref b17), .val (.ref b38), .val (.int (0 : Int32)), .val (.int c0), .unset] []
                    refine own_st (fun _ k => XS.iconst X45.here hx rfl (hb hby at_278) k) ?_
                    show own_Go X45 (Q0 Z p0 p1 p2 p3 h0 n0) 4 22 279 #[.val (.int p0), .val (.int p1), .val (.int p2), .val (.int p3), .val (.int c0), .val (.int c1), .val (.int c2), .val (.int ld), .val (.ref b1), .val (.ref b4), .val (.int (own_p6 ld c0 c1 c2)), .val (.int (own_p0 ld)), .val (.int (own_p2 ld c0)), .val (.int (own_p4 ld c0 c1)), .val (.int (own_p6 ld c0 c1 c2)), .val (.ref b17), .val (.ref b38), .val (.int (0 : Int32)), .val (.int c0), .unset] [(.int (1 : Int32))]
                    refine own_retN X45 hx Bd.returns (by simp) hlk (Eq.refl T45.heap) (hb hby at_279) (by decide) (by decide) ?_
                    exact ⟨rfl, N_46⟩
                  · skip
                    refine own_st (fun _ k => XS.ifYes X45.here hx rfl (pc0 := 275) (pc' := 280) rfl (hb hby at_275) rfl ((if0 _ _).trans (feq c275_52).2) (by decide) (by decide) k) ?_
                    show own_Go X45 (Q0 Z p0 p1 p2 p3 h0 n0) 4 22 280 #[.val (.int p0), .val (.int p1), .val (.int p2), .val (.int p3), .val (.int c0), .val (.int c1), .val (.int c2), .val (.int ld), .val (.ref b1), .val (.ref b4), .val (.int (own_p6 ld c0 c1 c2)), .val (.int (own_p0 ld)), .val (.int (own_p2 ld c0)), .val (.int (own_p4 ld c0 c1)), .val (.int (own_p6 ld c0 c1 c2)), .val (.ref b17), .val (.ref b38), .val (.int (0 : Int32)), .val (.int c0), .unset] []
                    refine own_st (fun _ k => XS.iloadN X45.here hx rfl (hb hby at_280) rfl k) ?_
                    show own_Go X45 (Q0 Z p0 p1 p2 p3 h0 n0) 4 22 281 #[.val (.int p0), .val (.int p1), .val (.int p2), .val (.int p3), .val (.int c0), .val (.int c1), .val (.int c2), .val (.int ld), .val (.ref b1), .val (.ref b4), .val (.int (own_p6 ld c0 c1 c2)), .val (.int (own_p0 ld)), .val (.int (own_p2 ld c0)), .val (.int (own_p4 ld c0 c1)), .val (.int (own_p6 ld c0 c1 c2)), .val (.ref b17), .val (.ref b38), .val (.int (0 : Int32)), .val (.int c0), .unset] [(.int p3)]
                    refine own_st (fun t k => X45.ldcInt hx hown (mvT hZ (hw _ (List.mem_of_getElem? (i := 19) rfl))) (g := (mkF m 281 #[.val (.int p0), .val (.int p1), .val (.int p2), .val (.int p3), .val (.int c0), .val (.int c1), .val (.int c2), .val (.int ld), .val (.ref b1), .val (.ref b4), .val (.int (own_p6 ld c0 c1 c2)), .val (.int (own_p0 ld)), .val (.int (own_p2 ld c0)), .val (.int (own_p4 ld c0 c1)), .val (.int (own_p6 ld c0 c1 c2)), .val (.ref b17), .val (.ref b38), .val (.int (0 : Int32)), .val (.int c0), .unset] [(.int p3)])) rfl (hb hby at_281) t k) ?_
                    show own_Go X45 (Q0 Z p0 p1 p2 p3 h0 n0) 4 22 283 #[.val (.int p0), .val (.int p1), .val (.int p2), .val (.int p3), .val (.int c0), .val (.int c1), .val (.int c2), .val (.int ld), .val (.ref b1), .val (.ref b4), .val (.int (own_p6 ld c0 c1 c2)), .val (.int (own_p0 ld)), .val (.int (own_p2 ld c0)), .val (.int (own_p4 ld c0 c1)), .val (.int (own_p6 ld c0 c1 c2)), .val (.ref b17), .val (.ref b38), .val (.int (0 : Int32)), .val (.int c0), .unset] [(.int (2147483647 : Int32)), (.int p3)]
                    refine own_st (fun _ k => XS.iand X45.here hx rfl (hb hby at_283) rfl k) ?_
                    show own_Go X45 (Q0 Z p0 p1 p2 p3 h0 n0) 4 22 284 #[.val (.int p0), .val (.int p1), .val (.int p2), .val (.int p3), .val (.int c0), .val (.int c1), .val (.int c2), .val (.int ld), .val (.ref b1), .val (.ref b4), .val (.int (own_p6 ld c0 c1 c2)), .val (.int (own_p0 ld)), .val (.int (own_p2 ld c0)), .val (.int (own_p4 ld c0 c1)), .val (.int (own_p6 ld c0 c1 c2)), .val (.ref b17), .val (.ref b38), .val (.int (0 : Int32)), .val (.int c0), .unset] [(.int (p3 &&& (2147483647 : Int32)))]
                    refine own_st (fun _ k => XS.iload X45.here hx rfl (hb hby at_284) rfl k) ?_
                    show own_Go X45 (Q0 Z p0 p1 p2 p3 h0 n0) 4 22 286 #[.val (.int p0), .val (.int p1), .val (.int p2), .val (.int p3), .val (.int c0), .val (.int c1), .val (.int c2), .val (.int ld), .val (.ref b1), .val (.ref b4), .val (.int (own_p6 ld c0 c1 c2)), .val (.int (own_p0 ld)), .val (.int (own_p2 ld c0)), .val (.int (own_p4 ld c0 c1)), .val (.int (own_p6 ld c0 c1 c2)), .val (.ref b17), .val (.ref b38), .val (.int (0 : Int32)), .val (.int c0), .unset] [(.int c0), (.int (p3 &&& (2147483647 : Int32)))]
                    refine own_st (fun _ k => iremM X45 hx rfl (hb hby at_286) rfl c275_52 k) ?_
                    show own_Go X45 (Q0 Z p0 p1 p2 p3 h0 n0) 4 22 287 #[.val (.int p0), .val (.int p1), .val (.int p2), .val (.int p3), .val (.int c0), .val (.int c1), .val (.int c2), .val (.int ld), .val (.ref b1), .val (.ref b4), .val (.int (own_p6 ld c0 c1 c2)), .val (.int (own_p0 ld)), .val (.int (own_p2 ld c0)), .val (.int (own_p4 ld c0 c1)), .val (.int (own_p6 ld c0 c1 c2)), .val (.ref b17), .val (.ref b38), .val (.int (0 : Int32)), .val (.int c0), .unset] [(.int ((p3 &&& (2147483647 : Int32)) % c0))]
                    refine own_st (fun _ k => XS.istore X45.here hx rfl (hb hby at_287) rfl (l' := #[.val (.int p0), .val (.int p1), .val (.int p2), .val (.int p3), .val (.int c0), .val (.int c1), .val (.int c2), .val (.int ld), .val (.ref b1), .val (.ref b4), .val (.int (own_p6 ld c0 c1 c2)), .val (.int (own_p0 ld)), .val (.int (own_p2 ld c0)), .val (.int (own_p4 ld c0 c1)), .val (.int (own_p6 ld c0 c1 c2)), .val (.ref b17), .val (.ref b38), .val (.int (0 : Int32)), .val (.int c0), .val (.int ((p3 &&& (2147483647 : Int32)) % c0))]) rfl k) ?_
                    show own_Go X45 (Q0 Z p0 p1 p2 p3 h0 n0) 4 22 289 #[.val (.int p0), .val (.int p1), .val (.int p2), .val (.int p3), .val (.int c0), .val (.int c1), .val (.int c2), .val (.int ld), .val (.ref b1), .val (.ref b4), .val (.int (own_p6 ld c0 c1 c2)), .val (.int (own_p0 ld)), .val (.int (own_p2 ld c0)), .val (.int (own_p4 ld c0 c1)), .val (.int (own_p6 ld c0 c1 c2)), .val (.ref b17), .val (.ref b38), .val (.int (0 : Int32)), .val (.int c0), .val (.int ((p3 &&& (2147483647 : Int32)) % c0))] []
                    generalize hii : ((p3 &&& (2147483647 : Int32)) % c0) = ii
                    show own_Go X45 (Q0 Z p0 p1 p2 p3 h0 n0) 4 22 289 #[.val (.int p0), .val (.int p1), .val (.int p2), .val (.int p3), .val (.int c0), .val (.int c1), .val (.int c2), .val (.int ld), .val (.ref b1), .val (.ref b4), .val (.int (own_p6 ld c0 c1 c2)), .val (.int (own_p0 ld)), .val (.int (own_p2 ld c0)), .val (.int (own_p4 ld c0 c1)), .val (.int (own_p6 ld c0 c1 c2)), .val (.ref b17), .val (.ref b38), .val (.int (0 : Int32)), .val (.int c0), .val (.int ii)] []
                    have hii' := own_ii hd0 c275_52 hii
                    refine own_st (fun _ k => XS.aload X45.here hx rfl (hb hby at_289) rfl rfl k) ?_
                    show own_Go X45 (Q0 Z p0 p1 p2 p3 h0 n0) 4 22 291 #[.val (.int p0), .val (.int p1), .val (.int p2), .val (.int p3), .val (.int c0), .val (.int c1), .val (.int c2), .val (.int ld), .val (.ref b1), .val (.ref b4), .val (.int (own_p6 ld c0 c1 c2)), .val (.int (own_p0 ld)), .val (.int (own_p2 ld c0)), .val (.int (own_p4 ld c0 c1)), .val (.int (own_p6 ld c0 c1 c2)), .val (.ref b17), .val (.ref b38), .val (.int (0 : Int32)), .val (.int c0), .val (.int ii)] [(.ref b38)]
                    refine own_st (fun _ k => XS.iload X45.here hx rfl (hb hby at_291) rfl k) ?_
                    show own_Go X45 (Q0 Z p0 p1 p2 p3 h0 n0) 4 22 293 #[.val (.int p0), .val (.int p1), .val (.int p2), .val (.int p3), .val (.int c0), .val (.int c1), .val (.int c2), .val (.int ld), .val (.ref b1), .val (.ref b4), .val (.int (own_p6 ld c0 c1 c2)), .val (.int (own_p0 ld)), .val (.int (own_p2 ld c0)), .val (.int (own_p4 ld c0 c1)), .val (.int (own_p6 ld c0 c1 c2)), .val (.ref b17), .val (.ref b38), .val (.int (0 : Int32)), .val (.int c0), .val (.int ii)] [(.int (0 : Int32)), (.ref b38)]
                    refine own_st (fun _ k => XS.iload X45.here hx rfl (hb hby at_293) rfl k) ?_
                    show own_Go X45 (Q0 Z p0 p1 p2 p3 h0 n0) 4 22 295 #[.val (.int p0), .val (.int p1), .val (.int p2), .val (.int p3), .val (.int c0), .val (.int c1), .val (.int c2), .val (.int ld), .val (.ref b1), .val (.ref b4), .val (.int (own_p6 ld c0 c1 c2)), .val (.int (own_p0 ld)), .val (.int (own_p2 ld c0)), .val (.int (own_p4 ld c0 c1)), .val (.int (own_p6 ld c0 c1 c2)), .val (.ref b17), .val (.ref b38), .val (.int (0 : Int32)), .val (.int c0), .val (.int ii)] [(.int ii), (.int (0 : Int32)), (.ref b38)]
                    refine own_callV (W := 0) X45 hx hZ hown (hw _ (List.mem_of_getElem? (i := 24) rfl)) (hw _ (List.mem_of_getElem? (i := 25) rfl)) (hw _ (List.mem_of_getElem? (i := 27) rfl)) (hw _ (List.mem_of_getElem? (i := 26) rfl)) (hw _ (List.mem_of_getElem? (i := 4) rfl)) (hw _ (List.mem_of_getElem? (i := 28) rfl)) (by decide) (rm4 l Z a0 hw [] b38 (0 : Int32) ii b17 b1 k17 k1 [(.int (own_p0 ld)), (.int (own_p2 ld c0)), (.int (own_p4 ld c0 c1)), (.int (own_p6 ld c0 c1 c2))] (own_v6 p0 ld c0 c1 c2) (own_p0 ld) (own_enc p0 (0 : Int32) ii) T45.heap n0 Z_50 F45_starts F45_documents f_48 f_47 ⟨by decide, by decide⟩ rfl (own_g0 hdl hd0 hd1 hd2 hii')) (by decide) (by decide) (by rw [hml]; rfl) b38 [(.int (0 : Int32)), (.int ii)] [] (lenOf pd_0_1 rfl) rfl rfl (Nat.le_of_ble_eq_true rfl) (hb hby at_295) (Eq.refl T45.heap) f_49 (by decide) (by decide) ?_
                    rintro _ T53 L53 X53 ⟨rfl, N53q, e53⟩
                    have N_54 := Fr.app N_46 N53q
                    show own_Go X53 (Q0 Z p0 p1 p2 p3 h0 n0) 4 22 298 #[.val (.int p0), .val (.int p1), .val (.int p2), .val (.int p3), .val (.int c0), .val (.int c1), .val (.int c2), .val (.int ld), .val (.ref b1), .val (.ref b4), .val (.int (own_p6 ld c0 c1 c2)), .val (.int (own_p0 ld)), .val (.int (own_p2 ld c0)), .val (.int (own_p4 ld c0 c1)), .val (.int (own_p6 ld c0 c1 c2)), .val (.ref b17), .val (.ref b38), .val (.int (0 : Int32)), .val (.int c0), .val (.int ii)] [(.int (own_enc p0 (0 : Int32) ii))]
                    refine own_st (fun _ k => XS.iloadN X53.here hx rfl (hb hby at_298) rfl k) ?_
                    show own_Go X53 (Q0 Z p0 p1 p2 p3 h0 n0) 4 22 299 #[.val (.int p0), .val (.int p1), .val (.int p2), .val (.int p3), .val (.int c0), .val (.int c1), .val (.int c2), .val (.int ld), .val (.ref b1), .val (.ref b4), .val (.int (own_p6 ld c0 c1 c2)), .val (.int (own_p0 ld)), .val (.int (own_p2 ld c0)), .val (.int (own_p4 ld c0 c1)), .val (.int (own_p6 ld c0 c1 c2)), .val (.ref b17), .val (.ref b38), .val (.int (0 : Int32)), .val (.int c0), .val (.int ii)] [(.int p0), (.int (own_enc p0 (0 : Int32) ii))]
                    refine own_st (fun _ k => XS.iload X53.here hx rfl (hb hby at_299) rfl k) ?_
                    show own_Go X53 (Q0 Z p0 p1 p2 p3 h0 n0) 4 22 301 #[.val (.int p0), .val (.int p1), .val (.int p2), .val (.int p3), .val (.int c0), .val (.int c1), .val (.int c2), .val (.int ld), .val (.ref b1), .val (.ref b4), .val (.int (own_p6 ld c0 c1 c2)), .val (.int (own_p0 ld)), .val (.int (own_p2 ld c0)), .val (.int (own_p4 ld c0 c1)), .val (.int (own_p6 ld c0 c1 c2)), .val (.ref b17), .val (.ref b38), .val (.int (0 : Int32)), .val (.int c0), .val (.int ii)] [(.int (0 : Int32)), (.int p0), (.int (own_enc p0 (0 : Int32) ii))]
                    refine own_st (fun _ k => XS.iload X53.here hx rfl (hb hby at_301) rfl k) ?_
                    show own_Go X53 (Q0 Z p0 p1 p2 p3 h0 n0) 4 22 303 #[.val (.int p0), .val (.int p1), .val (.int p2), .val (.int p3), .val (.int c0), .val (.int c1), .val (.int c2), .val (.int ld), .val (.ref b1), .val (.ref b4), .val (.int (own_p6 ld c0 c1 c2)), .val (.int (own_p0 ld)), .val (.int (own_p2 ld c0)), .val (.int (own_p4 ld c0 c1)), .val (.int (own_p6 ld c0 c1 c2)), .val (.ref b17), .val (.ref b38), .val (.int (0 : Int32)), .val (.int c0), .val (.int ii)] [(.int ii), (.int (0 : Int32)), (.int p0), (.int (own_enc p0 (0 : Int32) ii))]
                    refine own_callS (W := 1) X53 hx hZ hown (hw _ (List.mem_of_getElem? (i := 20) rfl)) (hw _ (List.mem_of_getElem? (i := 21) rfl)) (hw _ (List.mem_of_getElem? (i := 22) rfl)) (hw _ (List.mem_of_getElem? (i := 23) rfl)) (by decide) (rm3 l Z a0 hw [] p0 (0 : Int32) ii  T45.heap n0 Z_50 ) (by decide) (by decide) (by rw [hml]; rfl) [(.int p0), (.int (0 : Int32)), (.int ii)] [(.int (own_enc p0 (0 : Int32) ii))] (lenOf pd_0_2 rfl) rfl rfl (Nat.le_of_ble_eq_true rfl) (hb hby at_303) e53 (by decide) (by decide) ?_
                    rintro _ T55 L55 X55 ⟨rfl, N55q, e55⟩
                    have N_56 := Fr.app N_54 N55q
                    show own_Go X55 (Q0 Z p0 p1 p2 p3 h0 n0) 4 22 306 #[.val (.int p0), .val (.int p1), .val (.int p2), .val (.int p3), .val (.int c0), .val (.int c1), .val (.int c2), .val (.int ld), .val (.ref b1), .val (.ref b4), .val (.int (own_p6 ld c0 c1 c2)), .val (.int (own_p0 ld)), .val (.int (own_p2 ld c0)), .val (.int (own_p4 ld c0 c1)), .val (.int (own_p6 ld c0 c1 c2)), .val (.ref b17), .val (.ref b38), .val (.int (0 : Int32)), .val (.int c0), .val (.int ii)] [(.int (own_enc p0 (0 : Int32) ii)), (.int (own_enc p0 (0 : Int32) ii))]
                    have c306_57 : (own_enc p0 (0 : Int32) ii) = (own_enc p0 (0 : Int32) ii) := rfl
                    refine own_st (fun _ k => XS.icmpNo X55.here hx rfl (hb hby at_306) rfl (teq c306_57).2 k) ?_
                    show own_Go X55 (Q0 Z p0 p1 p2 p3 h0 n0) 4 22 309 #[.val (.int p0), .val (.int p1), .val (.int p2), .val (.int p3), .val (.int c0), .val (.int c1), .val (.int c2), .val (.int ld), .val (.ref b1), .val (.ref b4), .val (.int (own_p6 ld c0 c1 c2)), .val (.int (own_p0 ld)), .val (.int (own_p2 ld c0)), .val (.int (own_p4 ld c0 c1)), .val (.int (own_p6 ld c0 c1 c2)), .val (.ref b17), .val (.ref b38), .val (.int (0 : Int32)), .val (.int c0), .val (.int ii)] []
                    refine own_st (fun _ k => XS.iconst X55.here hx rfl (hb hby at_309) k) ?_
                    show own_Go X55 (Q0 Z p0 p1 p2 p3 h0 n0) 4 22 310 #[.val (.int p0), .val (.int p1), .val (.int p2), .val (.int p3), .val (.int c0), .val (.int c1), .val (.int c2), .val (.int ld), .val (.ref b1), .val (.ref b4), .val (.int (own_p6 ld c0 c1 c2)), .val (.int (own_p0 ld)), .val (.int (own_p2 ld c0)), .val (.int (own_p4 ld c0 c1)), .val (.int (own_p6 ld c0 c1 c2)), .val (.ref b17), .val (.ref b38), .val (.int (0 : Int32)), .val (.int c0), .val (.int ii)] [(.int (1 : Int32))]
                    refine own_st (fun _ k => XS.goto X55.here hx rfl (pc0 := 310) (pc' := 314) rfl (hb hby at_310) (by decide) (by decide) k) ?_
                    show own_Go X55 (Q0 Z p0 p1 p2 p3 h0 n0) 4 22 314 #[.val (.int p0), .val (.int p1), .val (.int p2), .val (.int p3), .val (.int c0), .val (.int c1), .val (.int c2), .val (.int ld), .val (.ref b1), .val (.ref b4), .val (.int (own_p6 ld c0 c1 c2)), .val (.int (own_p0 ld)), .val (.int (own_p2 ld c0)), .val (.int (own_p4 ld c0 c1)), .val (.int (own_p6 ld c0 c1 c2)), .val (.ref b17), .val (.ref b38), .val (.int (0 : Int32)), .val (.int c0), .val (.int ii)] [(.int (1 : Int32))]
                    refine own_retN X55 hx Bd.returns (by simp) hlk e55 (hb hby at_314) (by decide) (by decide) ?_
                    exact ⟨rfl, N_56⟩
                · skip
                  show own_Go X45 (Q0 Z p0 p1 p2 p3 h0 n0) 4 22 248 #[.val (.int p0), .val (.int p1), .val (.int p2), .val (.int p3), .val (.int c0), .val (.int c1), .val (.int c2), .val (.int ld), .val (.ref b1), .val (.ref b4), .val (.int (own_p6 ld c0 c1 c2)), .val (.int (own_p0 ld)), .val (.int (own_p2 ld c0)), .val (.int (own_p4 ld c0 c1)), .val (.int (own_p6 ld c0 c1 c2)), .val (.ref b17), .val (.ref b38), .val (.int (1 : Int32)), .unset, .unset] []
                  refine own_st (fun _ k => XS.iload X45.here hx rfl (hb hby at_248) rfl k) ?_
                  show own_Go X45 (Q0 Z p0 p1 p2 p3 h0 n0) 4 22 250 #[.val (.int p0), .val (.int p1), .val (.int p2), .val (.int p3), .val (.int c0), .val (.int c1), .val (.int c2), .val (.int ld), .val (.ref b1), .val (.ref b4), .val (.int (own_p6 ld c0 c1 c2)), .val (.int (own_p0 ld)), .val (.int (own_p2 ld c0)), .val (.int (own_p4 ld c0 c1)), .val (.int (own_p6 ld c0 c1 c2)), .val (.ref b17), .val (.ref b38), .val (.int (1 : Int32)), .unset, .unset] [(.int (1 : Int32))]
                  have c250_58 : ¬ ((1 : Int32) = (0 : Int32)) := (by decide)
                  refine own_st (fun _ k => XS.ifYes X45.here hx rfl (pc0 := 250) (pc' := 258) rfl (hb hby at_250) rfl ((if0 _ _).trans (feq c250_58).2) (by decide) (by decide) k) ?_
                  show own_Go X45 (Q0 Z p0 p1 p2 p3 h0 n0) 4 22 258 #[.val (.int p0), .val (.int p1), .val (.int p2), .val (.int p3), .val (.int c0), .val (.int c1), .val (.int c2), .val (.int ld), .val (.ref b1), .val (.ref b4), .val (.int (own_p6 ld c0 c1 c2)), .val (.int (own_p0 ld)), .val (.int (own_p2 ld c0)), .val (.int (own_p4 ld c0 c1)), .val (.int (own_p6 ld c0 c1 c2)), .val (.ref b17), .val (.ref b38), .val (.int (1 : Int32)), .unset, .unset] []
                  refine own_st (fun _ k => XS.iload X45.here hx rfl (hb hby at_258) rfl k) ?_
                  show own_Go X45 (Q0 Z p0 p1 p2 p3 h0 n0) 4 22 260 #[.val (.int p0), .val (.int p1), .val (.int p2), .val (.int p3), .val (.int c0), .val (.int c1), .val (.int c2), .val (.int ld), .val (.ref b1), .val (.ref b4), .val (.int (own_p6 ld c0 c1 c2)), .val (.int (own_p0 ld)), .val (.int (own_p2 ld c0)), .val (.int (own_p4 ld c0 c1)), .val (.int (own_p6 ld c0 c1 c2)), .val (.ref b17), .val (.ref b38), .val (.int (1 : Int32)), .unset, .unset] [(.int (1 : Int32))]
                  refine own_st (fun _ k => XS.iconst X45.here hx rfl (hb hby at_260) k) ?_
                  show own_Go X45 (Q0 Z p0 p1 p2 p3 h0 n0) 4 22 261 #[.val (.int p0), .val (.int p1), .val (.int p2), .val (.int p3), .val (.int c0), .val (.int c1), .val (.int c2), .val (.int ld), .val (.ref b1), .val (.ref b4), .val (.int (own_p6 ld c0 c1 c2)), .val (.int (own_p0 ld)), .val (.int (own_p2 ld c0)), .val (.int (own_p4 ld c0 c1)), .val (.int (own_p6 ld c0 c1 c2)), .val (.ref b17), .val (.ref b38), .val (.int (1 : Int32)), .unset, .unset] [(.int (1 : Int32)), (.int (1 : Int32))]
                  have c261_59 : (1 : Int32) = (1 : Int32) := (by decide)
                  refine own_st (fun _ k => XS.icmpNo X45.here hx rfl (hb hby at_261) rfl (teq c261_59).2 k) ?_
                  show own_Go X45 (Q0 Z p0 p1 p2 p3 h0 n0) 4 22 264 #[.val (.int p0), .val (.int p1), .val (.int p2), .val (.int p3), .val (.int c0), .val (.int c1), .val (.int c2), .val (.int ld), .val (.ref b1), .val (.ref b4), .val (.int (own_p6 ld c0 c1 c2)), .val (.int (own_p0 ld)), .val (.int (own_p2 ld c0)), .val (.int (own_p4 ld c0 c1)), .val (.int (own_p6 ld c0 c1 c2)), .val (.ref b17), .val (.ref b38), .val (.int (1 : Int32)), .unset, .unset] []
                  refine own_st (fun _ k => XS.iload X45.here hx rfl (hb hby at_264) rfl k) ?_
                  show own_Go X45 (Q0 Z p0 p1 p2 p3 h0 n0) 4 22 266 #[.val (.int p0), .val (.int p1), .val (.int p2), .val (.int p3), .val (.int c0), .val (.int c1), .val (.int c2), .val (.int ld), .val (.ref b1), .val (.ref b4), .val (.int (own_p6 ld c0 c1 c2)), .val (.int (own_p0 ld)), .val (.int (own_p2 ld c0)), .val (.int (own_p4 ld c0 c1)), .val (.int (own_p6 ld c0 c1 c2)), .val (.ref b17), .val (.ref b38), .val (.int (1 : Int32)), .unset, .unset] [(.int c1)]
                  refine own_st (fun _ k => XS.goto X45.here hx rfl (pc0 := 266) (pc' := 271) rfl (hb hby at_266) (by decide) (by decide) k) ?_
                  show own_Go X45 (Q0 Z p0 p1 p2 p3 h0 n0) 4 22 271 #[.val (.int p0), .val (.int p1), .val (.int p2), .val (.int p3), .val (.int c0), .val (.int c1), .val (.int c2), .val (.int ld), .val (.ref b1), .val (.ref b4), .val (.int (own_p6 ld c0 c1 c2)), .val (.int (own_p0 ld)), .val (.int (own_p2 ld c0)), .val (.int (own_p4 ld c0 c1)), .val (.int (own_p6 ld c0 c1 c2)), .val (.ref b17), .val (.ref b38), .val (.int (1 : Int32)), .unset, .unset] [(.int c1)]
                  refine own_st (fun _ k => XS.istore X45.here hx rfl (hb hby at_271) rfl (l' := #[.val (.int p0), .val (.int p1), .val (.int p2), .val (.int p3), .val (.int c0), .val (.int c1), .val (.int c2), .val (.int ld), .val (.ref b1), .val (.ref b4), .val (.int (own_p6 ld c0 c1 c2)), .val (.int (own_p0 ld)), .val (.int (own_p2 ld c0)), .val (.int (own_p4 ld c0 c1)), .val (.int (own_p6 ld c0 c1 c2)), .val (.ref b17), .val (.ref b38), .val (.int (1 : Int32)), .val (.int c1), .unset]) rfl k) ?_
                  show own_Go X45 (Q0 Z p0 p1 p2 p3 h0 n0) 4 22 273 #[.val (.int p0), .val (.int p1), .val (.int p2), .val (.int p3), .val (.int c0), .val (.int c1), .val (.int c2), .val (.int ld), .val (.ref b1), .val (.ref b4), .val (.int (own_p6 ld c0 c1 c2)), .val (.int (own_p0 ld)), .val (.int (own_p2 ld c0)), .val (.int (own_p4 ld c0 c1)), .val (.int (own_p6 ld c0 c1 c2)), .val (.ref b17), .val (.ref b38), .val (.int (1 : Int32)), .val (.int c1), .unset] []
                  refine own_st (fun _ k => XS.iload X45.here hx rfl (hb hby at_273) rfl k) ?_
                  show own_Go X45 (Q0 Z p0 p1 p2 p3 h0 n0) 4 22 275 #[.val (.int p0), .val (.int p1), .val (.int p2), .val (.int p3), .val (.int c0), .val (.int c1), .val (.int c2), .val (.int ld), .val (.ref b1), .val (.ref b4), .val (.int (own_p6 ld c0 c1 c2)), .val (.int (own_p0 ld)), .val (.int (own_p2 ld c0)), .val (.int (own_p4 ld c0 c1)), .val (.int (own_p6 ld c0 c1 c2)), .val (.ref b17), .val (.ref b38), .val (.int (1 : Int32)), .val (.int c1), .unset] [(.int c1)]
                  by_cases c275_60 : c1 = (0 : Int32)
                  · skip
                    refine own_st (fun _ k => XS.ifNo X45.here hx rfl (hb hby at_275) rfl ((if0 _ _).trans (teq c275_60).2) k) ?_
                    show own_Go X45 (Q0 Z p0 p1 p2 p3 h0 n0) 4 22 278 #[.val (.int p0), .val (.int p1), .val (.int p2), .val (.int p3), .val (.int c0), .val (.int c1), .val (.int c2), .val (.int ld), .val (.ref b1), .val (.ref b4), .val (.int (own_p6 ld c0 c1 c2)), .val (.int (own_p0 ld)), .val (.int (own_p2 ld c0)), .val (.int (own_p4 ld c0 c1)), .val (.int (own_p6 ld c0 c1 c2)), .val (.ref b17), .val (.ref b38), .val (.int (1 : Int32)), .val (.int c1), .unset] []
                    refine own_st (fun _ k => XS.iconst X45.here hx rfl (hb hby at_278) k) ?_
                    show own_Go X45 (Q0 Z p0 p1 p2 p3 h0 n0) 4 22 279 #[.val (.int p0), .val (.int p1), .val (.int p2), .val (.int p3), .val (.int c0), .val (.int c1), .val (.int c2), .val (.int ld), .val (.ref b1), .val (.ref b4), .val (.int (own_p6 ld c0 c1 c2)), .val (.int (own_p0 ld)), .val (.int (own_p2 ld c0)), .val (.int (own_p4 ld c0 c1)), .val (.int (own_p6 ld c0 c1 c2)), .val (.ref b17), .val (.ref b38), .val (.int (1 : Int32)), .val (.int c1), .unset] [(.int (1 : Int32))]
                    refine own_retN X45 hx Bd.returns (by simp) hlk (Eq.refl T45.heap) (hb hby at_279) (by decide) (by decide) ?_
                    exact ⟨rfl, N_46⟩
                  · skip
                    refine own_st (fun _ k => XS.ifYes X45.here hx rfl (pc0 := 275) (pc' := 280) rfl (hb hby at_275) rfl ((if0 _ _).trans (feq c275_60).2) (by decide) (by decide) k) ?_
                    show own_Go X45 (Q0 Z p0 p1 p2 p3 h0 n0) 4 22 280 #[.val (.int p0), .val (.int p1), .val (.int p2), .val (.int p3), .val (.int c0), .val (.int c1), .val (.int c2), .val (.int ld), .val (.ref b1), .val (.ref b4), .val (.int (own_p6 ld c0 c1 c2)), .val (.int (own_p0 ld)), .val (.int (own_p2 ld c0)), .val (.int (own_p4 ld c0 c1)), .val (.int (own_p6 ld c0 c1 c2)), .val (.ref b17), .val (.ref b38), .val (.int (1 : Int32)), .val (.int c1), .unset] []
                    refine own_st (fun _ k => XS.iloadN X45.here hx rfl (hb hby at_280) rfl k) ?_
                    show own_Go X45 (Q0 Z p0 p1 p2 p3 h0 n0) 4 22 281 #[.val (.int p0), .val (.int p1), .val (.int p2), .val (.int p3), .val (.int c0), .val (.int c1), .val (.int c2), .val (.int ld), .val (.ref b1), .val (.ref b4), .val (.int (own_p6 ld c0 c1 c2)), .val (.int (own_p0 ld)), .val (.int (own_p2 ld c0)), .val (.int (own_p4 ld c0 c1)), .val (.int (own_p6 ld c0 c1 c2)), .val (.ref b17), .val (.ref b38), .val (.int (1 : Int32)), .val (.int c1), .unset] [(.int p3)]
                    refine own_st (fun t k => X45.ldcInt hx hown (mvT hZ (hw _ (List.mem_of_getElem? (i := 19) rfl))) (g := (mkF m 281 #[.val (.int p0), .val (.int p1), .val (.int p2), .val (.int p3), .val (.int c0), .val (.int c1), .val (.int c2), .val (.int ld), .val (.ref b1), .val (.ref b4), .val (.int (own_p6 ld c0 c1 c2)), .val (.int (own_p0 ld)), .val (.int (own_p2 ld c0)), .val (.int (own_p4 ld c0 c1)), .val (.int (own_p6 ld c0 c1 c2)), .val (.ref b17), .val (.ref b38), .val (.int (1 : Int32)), .val (.int c1), .unset] [(.int p3)])) rfl (hb hby at_281) t k) ?_
                    show own_Go X45 (Q0 Z p0 p1 p2 p3 h0 n0) 4 22 283 #[.val (.int p0), .val (.int p1), .val (.int p2), .val (.int p3), .val (.int c0), .val (.int c1), .val (.int c2), .val (.int ld), .val (.ref b1), .val (.ref b4), .val (.int (own_p6 ld c0 c1 c2)), .val (.int (own_p0 ld)), .val (.int (own_p2 ld c0)), .val (.int (own_p4 ld c0 c1)), .val (.int (own_p6 ld c0 c1 c2)), .val (.ref b17), .val (.ref b38), .val (.int (1 : Int32)), .val (.int c1), .unset] [(.int (2147483647 : Int32)), (.int p3)]
                    refine own_st (fun _ k => XS.iand X45.here hx rfl (hb hby at_283) rfl k) ?_
                    show own_Go X45 (Q0 Z p0 p1 p2 p3 h0 n0) 4 22 284 #[.val (.int p0), .val (.int p1), .val (.int p2), .val (.int p3), .val (.int c0), .val (.int c1), .val (.int c2), .val (.int ld), .val (.ref b1), .val (.ref b4), .val (.int (own_p6 ld c0 c1 c2)), .val (.int (own_p0 ld)), .val (.int (own_p2 ld c0)), .val (.int (own_p4 ld c0 c1)), .val (.int (own_p6 ld c0 c1 c2)), .val (.ref b17), .val (.ref b38), .val (.int (1 : Int32)), .val (.int c1), .unset] [(.int (p3 &&& (2147483647 : Int32)))]
                    refine own_st (fun _ k => XS.iload X45.here hx rfl (hb hby at_284) rfl k) ?_
                    show own_Go X45 (Q0 Z p0 p1 p2 p3 h0 n0) 4 22 286 #[.val (.int p0), .val (.int p1), .val (.int p2), .val (.int p3), .val (.int c0), .val (.int c1), .val (.int c2), .val (.int ld), .val (.ref b1), .val (.ref b4), .val (.int (own_p6 ld c0 c1 c2)), .val (.int (own_p0 ld)), .val (.int (own_p2 ld c0)), .val (.int (own_p4 ld c0 c1)), .val (.int (own_p6 ld c0 c1 c2)), .val (.ref b17), .val (.ref b38), .val (.int (1 : Int32)), .val (.int c1), .unset] [(.int c1), (.int (p3 &&& (2147483647 : Int32)))]
                    refine own_st (fun _ k => iremM X45 hx rfl (hb hby at_286) rfl c275_60 k) ?_
                    show own_Go X45 (Q0 Z p0 p1 p2 p3 h0 n0) 4 22 287 #[.val (.int p0), .val (.int p1), .val (.int p2), .val (.int p3), .val (.int c0), .val (.int c1), .val (.int c2), .val (.int ld), .val (.ref b1), .val (.ref b4), .val (.int (own_p6 ld c0 c1 c2)), .val (.int (own_p0 ld)), .val (.int (own_p2 ld c0)), .val (.int (own_p4 ld c0 c1)), .val (.int (own_p6 ld c0 c1 c2)), .val (.ref b17), .val (.ref b38), .val (.int (1 : Int32)), .val (.int c1), .unset] [(.int ((p3 &&& (2147483647 : Int32)) % c1))]
                    refine own_st (fun _ k => XS.istore X45.here hx rfl (hb hby at_287) rfl (l' := #[.val (.int p0), .val (.int p1), .val (.int p2), .val (.int p3), .val (.int c0), .val (.int c1), .val (.int c2), .val (.int ld), .val (.ref b1), .val (.ref b4), .val (.int (own_p6 ld c0 c1 c2)), .val (.int (own_p0 ld)), .val (.int (own_p2 ld c0)), .val (.int (own_p4 ld c0 c1)), .val (.int (own_p6 ld c0 c1 c2)), .val (.ref b17), .val (.ref b38), .val (.int (1 : Int32)), .val (.int c1), .val (.int ((p3 &&& (2147483647 : Int32)) % c1))]) rfl k) ?_
                    show own_Go X45 (Q0 Z p0 p1 p2 p3 h0 n0) 4 22 289 #[.val (.int p0), .val (.int p1), .val (.int p2), .val (.int p3), .val (.int c0), .val (.int c1), .val (.int c2), .val (.int ld), .val (.ref b1), .val (.ref b4), .val (.int (own_p6 ld c0 c1 c2)), .val (.int (own_p0 ld)), .val (.int (own_p2 ld c0)), .val (.int (own_p4 ld c0 c1)), .val (.int (own_p6 ld c0 c1 c2)), .val (.ref b17), .val (.ref b38), .val (.int (1 : Int32)), .val (.int c1), .val (.int ((p3 &&& (2147483647 : Int32)) % c1))] []
                    generalize hii : ((p3 &&& (2147483647 : Int32)) % c1) = ii
                    show own_Go X45 (Q0 Z p0 p1 p2 p3 h0 n0) 4 22 289 #[.val (.int p0), .val (.int p1), .val (.int p2), .val (.int p3), .val (.int c0), .val (.int c1), .val (.int c2), .val (.int ld), .val (.ref b1), .val (.ref b4), .val (.int (own_p6 ld c0 c1 c2)), .val (.int (own_p0 ld)), .val (.int (own_p2 ld c0)), .val (.int (own_p4 ld c0 c1)), .val (.int (own_p6 ld c0 c1 c2)), .val (.ref b17), .val (.ref b38), .val (.int (1 : Int32)), .val (.int c1), .val (.int ii)] []
                    have hii' := own_ii hd1 c275_60 hii
                    refine own_st (fun _ k => XS.aload X45.here hx rfl (hb hby at_289) rfl rfl k) ?_
                    show own_Go X45 (Q0 Z p0 p1 p2 p3 h0 n0) 4 22 291 #[.val (.int p0), .val (.int p1), .val (.int p2), .val (.int p3), .val (.int c0), .val (.int c1), .val (.int c2), .val (.int ld), .val (.ref b1), .val (.ref b4), .val (.int (own_p6 ld c0 c1 c2)), .val (.int (own_p0 ld)), .val (.int (own_p2 ld c0)), .val (.int (own_p4 ld c0 c1)), .val (.int (own_p6 ld c0 c1 c2)), .val (.ref b17), .val (.ref b38), .val (.int (1 : Int32)), .val (.int c1), .val (.int ii)] [(.ref b38)]
                    refine own_st (fun _ k => XS.iload X45.here hx rfl (hb hby at_291) rfl k) ?_
                    show own_Go X45 (Q0 Z p0 p1 p2 p3 h0 n0) 4 22 293 #[.val (.int p0), .val (.int p1), .val (.int p2), .val (.int p3), .val (.int c0), .val (.int c1), .val (.int c2), .val (.int ld), .val (.ref b1), .val (.ref b4), .val (.int (own_p6 ld c0 c1 c2)), .val (.int (own_p0 ld)), .val (.int (own_p2 ld c0)), .val (.int (own_p4 ld c0 c1)), .val (.int (own_p6 ld c0 c1 c2)), .val (.ref b17), .val (.ref b38), .val (.int (1 : Int32)), .val (.int c1), .val (.int ii)] [(.int (1 : Int32)), (.ref b38)]
                    refine own_st (fun _ k => XS.iload X45.here hx rfl (hb hby at_293) rfl k) ?_
                    show own_Go X45 (Q0 Z p0 p1 p2 p3 h0 n0) 4 22 295 #[.val (.int p0), .val (.int p1), .val (.int p2), .val (.int p3), .val (.int c0), .val (.int c1), .val (.int c2), .val (.int ld), .val (.ref b1), .val (.ref b4), .val (.int (own_p6 ld c0 c1 c2)), .val (.int (own_p0 ld)), .val (.int (own_p2 ld c0)), .val (.int (own_p4 ld c0 c1)), .val (.int (own_p6 ld c0 c1 c2)), .val (.ref b17), .val (.ref b38), .val (.int (1 : Int32)), .val (.int c1), .val (.int ii)] [(.int ii), (.int (1 : Int32)), (.ref b38)]
                    refine own_callV (W := 0) X45 hx hZ hown (hw _ (List.mem_of_getElem? (i := 24) rfl)) (hw _ (List.mem_of_getElem? (i := 25) rfl)) (hw _ (List.mem_of_getElem? (i := 27) rfl)) (hw _ (List.mem_of_getElem? (i := 26) rfl)) (hw _ (List.mem_of_getElem? (i := 4) rfl)) (hw _ (List.mem_of_getElem? (i := 28) rfl)) (by decide) (rm4 l Z a0 hw [] b38 (1 : Int32) ii b17 b1 k17 k1 [(.int (own_p0 ld)), (.int (own_p2 ld c0)), (.int (own_p4 ld c0 c1)), (.int (own_p6 ld c0 c1 c2))] (own_v6 p0 ld c0 c1 c2) (own_p2 ld c0) (own_enc p0 (1 : Int32) ii) T45.heap n0 Z_50 F45_starts F45_documents f_48 f_47 ⟨by decide, by decide⟩ rfl (own_g1 hdl hd0 hd1 hd2 hii')) (by decide) (by decide) (by rw [hml]; rfl) b38 [(.int (1 : Int32)), (.int ii)] [] (lenOf pd_0_1 rfl) rfl rfl (Nat.le_of_ble_eq_true rfl) (hb hby at_295) (Eq.refl T45.heap) f_49 (by decide) (by decide) ?_
                    rintro _ T61 L61 X61 ⟨rfl, N61q, e61⟩
                    have N_62 := Fr.app N_46 N61q
                    show own_Go X61 (Q0 Z p0 p1 p2 p3 h0 n0) 4 22 298 #[.val (.int p0), .val (.int p1), .val (.int p2), .val (.int p3), .val (.int c0), .val (.int c1), .val (.int c2), .val (.int ld), .val (.ref b1), .val (.ref b4), .val (.int (own_p6 ld c0 c1 c2)), .val (.int (own_p0 ld)), .val (.int (own_p2 ld c0)), .val (.int (own_p4 ld c0 c1)), .val (.int (own_p6 ld c0 c1 c2)), .val (.ref b17), .val (.ref b38), .val (.int (1 : Int32)), .val (.int c1), .val (.int ii)] [(.int (own_enc p0 (1 : Int32) ii))]
                    refine own_st (fun _ k => XS.iloadN X61.here hx rfl (hb hby at_298) rfl k) ?_
                    show own_Go X61 (Q0 Z p0 p1 p2 p3 h0 n0) 4 22 299 #[.val (.int p0), .val (.int p1), .val (.int p2), .val (.int p3), .val (.int c0), .val (.int c1), .val (.int c2), .val (.int ld), .val (.ref b1), .val (.ref b4), .val (.int (own_p6 ld c0 c1 c2)), .val (.int (own_p0 ld)), .val (.int (own_p2 ld c0)), .val (.int (own_p4 ld c0 c1)), .val (.int (own_p6 ld c0 c1 c2)), .val (.ref b17), .val (.ref b38), .val (.int (1 : Int32)), .val (.int c1), .val (.int ii)] [(.int p0), (.int (own_enc p0 (1 : Int32) ii))]
                    refine own_st (fun _ k => XS.iload X61.here hx rfl (hb hby at_299) rfl k) ?_
                    show own_Go X61 (Q0 Z p0 p1 p2 p3 h0 n0) 4 22 301 #[.val (.int p0), .val (.int p1), .val (.int p2), .val (.int p3), .val (.int c0), .val (.int c1), .val (.int c2), .val (.int ld), .val (.ref b1), .val (.ref b4), .val (.int (own_p6 ld c0 c1 c2)), .val (.int (own_p0 ld)), .val (.int (own_p2 ld c0)), .val (.int (own_p4 ld c0 c1)), .val (.int (own_p6 ld c0 c1 c2)), .val (.ref b17), .val (.ref b38), .val (.int (1 : Int32)), .val (.int c1), .val (.int ii)] [(.int (1 : Int32)), (.int p0), (.int (own_enc p0 (1 : Int32) ii))]
                    refine own_st (fun _ k => XS.iload X61.here hx rfl (hb hby at_301) rfl k) ?_
                    show own_Go X61 (Q0 Z p0 p1 p2 p3 h0 n0) 4 22 303 #[.val (.int p0), .val (.int p1), .val (.int p2), .val (.int p3), .val (.int c0), .val (.int c1), .val (.int c2), .val (.int ld), .val (.ref b1), .val (.ref b4), .val (.int (own_p6 ld c0 c1 c2)), .val (.int (own_p0 ld)), .val (.int (own_p2 ld c0)), .val (.int (own_p4 ld c0 c1)), .val (.int (own_p6 ld c0 c1 c2)), .val (.ref b17), .val (.ref b38), .val (.int (1 : Int32)), .val (.int c1), .val (.int ii)] [(.int ii), (.int (1 : Int32)), (.int p0), (.int (own_enc p0 (1 : Int32) ii))]
                    refine own_callS (W := 1) X61 hx hZ hown (hw _ (List.mem_of_getElem? (i := 20) rfl)) (hw _ (List.mem_of_getElem? (i := 21) rfl)) (hw _ (List.mem_of_getElem? (i := 22) rfl)) (hw _ (List.mem_of_getElem? (i := 23) rfl)) (by decide) (rm3 l Z a0 hw [] p0 (1 : Int32) ii  T45.heap n0 Z_50 ) (by decide) (by decide) (by rw [hml]; rfl) [(.int p0), (.int (1 : Int32)), (.int ii)] [(.int (own_enc p0 (1 : Int32) ii))] (lenOf pd_0_2 rfl) rfl rfl (Nat.le_of_ble_eq_true rfl) (hb hby at_303) e61 (by decide) (by decide) ?_
                    rintro _ T63 L63 X63 ⟨rfl, N63q, e63⟩
                    have N_64 := Fr.app N_62 N63q
                    show own_Go X63 (Q0 Z p0 p1 p2 p3 h0 n0) 4 22 306 #[.val (.int p0), .val (.int p1), .val (.int p2), .val (.int p3), .val (.int c0), .val (.int c1), .val (.int c2), .val (.int ld), .val (.ref b1), .val (.ref b4), .val (.int (own_p6 ld c0 c1 c2)), .val (.int (own_p0 ld)), .val (.int (own_p2 ld c0)), .val (.int (own_p4 ld c0 c1)), .val (.int (own_p6 ld c0 c1 c2)), .val (.ref b17), .val (.ref b38), .val (.int (1 : Int32)), .val (.int c1), .val (.int ii)] [(.int (own_enc p0 (1 : Int32) ii)), (.int (own_enc p0 (1 : Int32) ii))]
                    have c306_65 : (own_enc p0 (1 : Int32) ii) = (own_enc p0 (1 : Int32) ii) := rfl
                    refine own_st (fun _ k => XS.icmpNo X63.here hx rfl (hb hby at_306) rfl (teq c306_65).2 k) ?_
                    show own_Go X63 (Q0 Z p0 p1 p2 p3 h0 n0) 4 22 309 #[.val (.int p0), .val (.int p1), .val (.int p2), .val (.int p3), .val (.int c0), .val (.int c1), .val (.int c2), .val (.int ld), .val (.ref b1), .val (.ref b4), .val (.int (own_p6 ld c0 c1 c2)), .val (.int (own_p0 ld)), .val (.int (own_p2 ld c0)), .val (.int (own_p4 ld c0 c1)), .val (.int (own_p6 ld c0 c1 c2)), .val (.ref b17), .val (.ref b38), .val (.int (1 : Int32)), .val (.int c1), .val (.int ii)] []
                    refine own_st (fun _ k => XS.iconst X63.here hx rfl (hb hby at_309) k) ?_
                    show own_Go X63 (Q0 Z p0 p1 p2 p3 h0 n0) 4 22 310 #[.val (.int p0), .val (.int p1), .val (.int p2), .val (.int p3), .val (.int c0), .val (.int c1), .val (.int c2), .val (.int ld), .val (.ref b1), .val (.ref b4), .val (.int (own_p6 ld c0 c1 c2)), .val (.int (own_p0 ld)), .val (.int (own_p2 ld c0)), .val (.int (own_p4 ld c0 c1)), .val (.int (own_p6 ld c0 c1 c2)), .val (.ref b17), .val (.ref b38), .val (.int (1 : Int32)), .val (.int c1), .val (.int ii)] [(.int (1 : Int32))]
                    refine own_st (fun _ k => XS.goto X63.here hx rfl (pc0 := 310) (pc' := 314) rfl (hb hby at_310) (by decide) (by decide) k) ?_
                    show own_Go X63 (Q0 Z p0 p1 p2 p3 h0 n0) 4 22 314 #[.val (.int p0), .val (.int p1), .val (.int p2), .val (.int p3), .val (.int c0), .val (.int c1), .val (.int c2), .val (.int ld), .val (.ref b1), .val (.ref b4), .val (.int (own_p6 ld c0 c1 c2)), .val (.int (own_p0 ld)), .val (.int (own_p2 ld c0)), .val (.int (own_p4 ld c0 c1)), .val (.int (own_p6 ld c0 c1 c2)), .val (.ref b17), .val (.ref b38), .val (.int (1 : Int32)), .val (.int c1), .val (.int ii)] [(.int (1 : Int32))]
                    refine own_retN X63 hx Bd.returns (by simp) hlk e63 (hb hby at_314) (by decide) (by decide) ?_
                    exact ⟨rfl, N_64⟩
                · skip
                  show own_Go X45 (Q0 Z p0 p1 p2 p3 h0 n0) 4 22 248 #[.val (.int p0), .val (.int p1), .val (.int p2), .val (.int p3), .val (.int c0), .val (.int c1), .val (.int c2), .val (.int ld), .val (.ref b1), .val (.ref b4), .val (.int (own_p6 ld c0 c1 c2)), .val (.int (own_p0 ld)), .val (.int (own_p2 ld c0)), .val (.int (own_p4 ld c0 c1)), .val (.int (own_p6 ld c0 c1 c2)), .val (.ref b17), .val (.ref b38), .val (.int (2 : Int32)), .unset, .unset] []
                  refine own_st (fun _ k => XS.iload X45.here hx rfl (hb hby at_248) rfl k) ?_
                  show own_Go X45 (Q0 Z p0 p1 p2 p3 h0 n0) 4 22 250 #[.val (.int p0), .val (.int p1), .val (.int p2), .val (.int p3), .val (.int c0), .val (.int c1), .val (.int c2), .val (.int ld), .val (.ref b1), .val (.ref b4), .val (.int (own_p6 ld c0 c1 c2)), .val (.int (own_p0 ld)), .val (.int (own_p2 ld c0)), .val (.int (own_p4 ld c0 c1)), .val (.int (own_p6 ld c0 c1 c2)), .val (.ref b17), .val (.ref b38), .val (.int (2 : Int32)), .unset, .unset] [(.int (2 : Int32))]
                  have c250_66 : ¬ ((2 : Int32) = (0 : Int32)) := (by decide)
                  refine own_st (fun _ k => XS.ifYes X45.here hx rfl (pc0 := 250) (pc' := 258) rfl (hb hby at_250) rfl ((if0 _ _).trans (feq c250_66).2) (by decide) (by decide) k) ?_
                  show own_Go X45 (Q0 Z p0 p1 p2 p3 h0 n0) 4 22 258 #[.val (.int p0), .val (.int p1), .val (.int p2), .val (.int p3), .val (.int c0), .val (.int c1), .val (.int c2), .val (.int ld), .val (.ref b1), .val (.ref b4), .val (.int (own_p6 ld c0 c1 c2)), .val (.int (own_p0 ld)), .val (.int (own_p2 ld c0)), .val (.int (own_p4 ld c0 c1)), .val (.int (own_p6 ld c0 c1 c2)), .val (.ref b17), .val (.ref b38), .val (.int (2 : Int32)), .unset, .unset] []
                  refine own_st (fun _ k => XS.iload X45.here hx rfl (hb hby at_258) rfl k) ?_
                  show own_Go X45 (Q0 Z p0 p1 p2 p3 h0 n0) 4 22 260 #[.val (.int p0), .val (.int p1), .val (.int p2), .val (.int p3), .val (.int c0), .val (.int c1), .val (.int c2), .val (.int ld), .val (.ref b1), .val (.ref b4), .val (.int (own_p6 ld c0 c1 c2)), .val (.int (own_p0 ld)), .val (.int (own_p2 ld c0)), .val (.int (own_p4 ld c0 c1)), .val (.int (own_p6 ld c0 c1 c2)), .val (.ref b17), .val (.ref b38), .val (.int (2 : Int32)), .unset, .unset] [(.int (2 : Int32))]
                  refine own_st (fun _ k => XS.iconst X45.here hx rfl (hb hby at_260) k) ?_
                  show own_Go X45 (Q0 Z p0 p1 p2 p3 h0 n0) 4 22 261 #[.val (.int p0), .val (.int p1), .val (.int p2), .val (.int p3), .val (.int c0), .val (.int c1), .val (.int c2), .val (.int ld), .val (.ref b1), .val (.ref b4), .val (.int (own_p6 ld c0 c1 c2)), .val (.int (own_p0 ld)), .val (.int (own_p2 ld c0)), .val (.int (own_p4 ld c0 c1)), .val (.int (own_p6 ld c0 c1 c2)), .val (.ref b17), .val (.ref b38), .val (.int (2 : Int32)), .unset, .unset] [(.int (1 : Int32)), (.int (2 : Int32))]
                  have c261_67 : ¬ ((2 : Int32) = (1 : Int32)) := (by decide)
                  refine own_st (fun _ k => XS.icmpYes X45.here hx rfl (pc0 := 261) (pc' := 269) rfl (hb hby at_261) rfl (feq c261_67).2 (by decide) (by decide) k) ?_
                  show own_Go X45 (Q0 Z p0 p1 p2 p3 h0 n0) 4 22 269 #[.val (.int p0), .val (.int p1), .val (.int p2), .val (.int p3), .val (.int c0), .val (.int c1), .val (.int c2), .val (.int ld), .val (.ref b1), .val (.ref b4), .val (.int (own_p6 ld c0 c1 c2)), .val (.int (own_p0 ld)), .val (.int (own_p2 ld c0)), .val (.int (own_p4 ld c0 c1)), .val (.int (own_p6 ld c0 c1 c2)), .val (.ref b17), .val (.ref b38), .val (.int (2 : Int32)), .unset, .unset] []
                  refine own_st (fun _ k => XS.iload X45.here hx rfl (hb hby at_269) rfl k) ?_
                  show own_Go X45 (Q0 Z p0 p1 p2 p3 h0 n0) 4 22 271 #[.val (.int p0), .val (.int p1), .val (.int p2), .val (.int p3), .val (.int c0), .val (.int c1), .val (.int c2), .val (.int ld), .val (.ref b1), .val (.ref b4), .val (.int (own_p6 ld c0 c1 c2)), .val (.int (own_p0 ld)), .val (.int (own_p2 ld c0)), .val (.int (own_p4 ld c0 c1)), .val (.int (own_p6 ld c0 c1 c2)), .val (.ref b17), .val (.ref b38), .val (.int (2 : Int32)), .unset, .unset] [(.int c2)]
                  refine own_st (fun _ k => XS.istore X45.here hx rfl (hb hby at_271) rfl (l' := #[.val (.int p0), .val (.int p1), .val (.int p2), .val (.int p3), .val (.int c0), .val (.int c1), .val (.int c2), .val (.int ld), .val (.ref b1), .val (.ref b4), .val (.int (own_p6 ld c0 c1 c2)), .val (.int (own_p0 ld)), .val (.int (own_p2 ld c0)), .val (.int (own_p4 ld c0 c1)), .val (.int (own_p6 ld c0 c1 c2)), .val (.ref b17), .val (.ref b38), .val (.int (2 : Int32)), .val (.int c2), .unset]) rfl k) ?_
                  show own_Go X45 (Q0 Z p0 p1 p2 p3 h0 n0) 4 22 273 #[.val (.int p0), .val (.int p1), .val (.int p2), .val (.int p3), .val (.int c0), .val (.int c1), .val (.int c2), .val (.int ld), .val (.ref b1), .val (.ref b4), .val (.int (own_p6 ld c0 c1 c2)), .val (.int (own_p0 ld)), .val (.int (own_p2 ld c0)), .val (.int (own_p4 ld c0 c1)), .val (.int (own_p6 ld c0 c1 c2)), .val (.ref b17), .val (.ref b38), .val (.int (2 : Int32)), .val (.int c2), .unset] []
                  refine own_st (fun _ k => XS.iload X45.here hx rfl (hb hby at_273) rfl k) ?_
                  show own_Go X45 (Q0 Z p0 p1 p2 p3 h0 n0) 4 22 275 #[.val (.int p0), .val (.int p1), .val (.int p2), .val (.int p3), .val (.int c0), .val (.int c1), .val (.int c2), .val (.int ld), .val (.ref b1), .val (.ref b4), .val (.int (own_p6 ld c0 c1 c2)), .val (.int (own_p0 ld)), .val (.int (own_p2 ld c0)), .val (.int (own_p4 ld c0 c1)), .val (.int (own_p6 ld c0 c1 c2)), .val (.ref b17), .val (.ref b38), .val (.int (2 : Int32)), .val (.int c2), .unset] [(.int c2)]
                  by_cases c275_68 : c2 = (0 : Int32)
                  · skip
                    refine own_st (fun _ k => XS.ifNo X45.here hx rfl (hb hby at_275) rfl ((if0 _ _).trans (teq c275_68).2) k) ?_
                    show own_Go X45 (Q0 Z p0 p1 p2 p3 h0 n0) 4 22 278 #[.val (.int p0), .val (.int p1), .val (.int p2), .val (.int p3), .val (.int c0), .val (.int c1), .val (.int c2), .val (.int ld), .val (.ref b1), .val (.ref b4), .val (.int (own_p6 ld c0 c1 c2)), .val (.int (own_p0 ld)), .val (.int (own_p2 ld c0)), .val (.int (own_p4 ld c0 c1)), .val (.int (own_p6 ld c0 c1 c2)), .val (.ref b17), .val (.ref b38), .val (.int (2 : Int32)), .val (.int c2), .unset] []
                    refine own_st (fun _ k => XS.iconst X45.here hx rfl (hb hby at_278) k) ?_
                    show own_Go X45 (Q0 Z p0 p1 p2 p3 h0 n0) 4 22 279 #[.val (.int p0), .val (.int p1), .val (.int p2), .val (.int p3), .val (.int c0), .val (.int c1), .val (.int c2), .val (.int ld), .val (.ref b1), .val (.ref b4), .val (.int (own_p6 ld c0 c1 c2)), .val (.int (own_p0 ld)), .val (.int (own_p2 ld c0)), .val (.int (own_p4 ld c0 c1)), .val (.int (own_p6 ld c0 c1 c2)), .val (.ref b17), .val (.ref b38), .val (.int (2 : Int32)), .val (.int c2), .unset] [(.int (1 : Int32))]
                    refine own_retN X45 hx Bd.returns (by simp) hlk (Eq.refl T45.heap) (hb hby at_279) (by decide) (by decide) ?_
                    exact ⟨rfl, N_46⟩
                  · skip
                    refine own_st (fun _ k => XS.ifYes X45.here hx rfl (pc0 := 275) (pc' := 280) rfl (hb hby at_275) rfl ((if0 _ _).trans (feq c275_68).2) (by decide) (by decide) k) ?_
                    show own_Go X45 (Q0 Z p0 p1 p2 p3 h0 n0) 4 22 280 #[.val (.int p0), .val (.int p1), .val (.int p2), .val (.int p3), .val (.int c0), .val (.int c1), .val (.int c2), .val (.int ld), .val (.ref b1), .val (.ref b4), .val (.int (own_p6 ld c0 c1 c2)), .val (.int (own_p0 ld)), .val (.int (own_p2 ld c0)), .val (.int (own_p4 ld c0 c1)), .val (.int (own_p6 ld c0 c1 c2)), .val (.ref b17), .val (.ref b38), .val (.int (2 : Int32)), .val (.int c2), .unset] []
                    refine own_st (fun _ k => XS.iloadN X45.here hx rfl (hb hby at_280) rfl k) ?_
                    show own_Go X45 (Q0 Z p0 p1 p2 p3 h0 n0) 4 22 281 #[.val (.int p0), .val (.int p1), .val (.int p2), .val (.int p3), .val (.int c0), .val (.int c1), .val (.int c2), .val (.int ld), .val (.ref b1), .val (.ref b4), .val (.int (own_p6 ld c0 c1 c2)), .val (.int (own_p0 ld)), .val (.int (own_p2 ld c0)), .val (.int (own_p4 ld c0 c1)), .val (.int (own_p6 ld c0 c1 c2)), .val (.ref b17), .val (.ref b38), .val (.int (2 : Int32)), .val (.int c2), .unset] [(.int p3)]
                    refine own_st (fun t k => X45.ldcInt hx hown (mvT hZ (hw _ (List.mem_of_getElem? (i := 19) rfl))) (g := (mkF m 281 #[.val (.int p0), .val (.int p1), .val (.int p2), .val (.int p3), .val (.int c0), .val (.int c1), .val (.int c2), .val (.int ld), .val (.ref b1), .val (.ref b4), .val (.int (own_p6 ld c0 c1 c2)), .val (.int (own_p0 ld)), .val (.int (own_p2 ld c0)), .val (.int (own_p4 ld c0 c1)), .val (.int (own_p6 ld c0 c1 c2)), .val (.ref b17), .val (.ref b38), .val (.int (2 : Int32)), .val (.int c2), .unset] [(.int p3)])) rfl (hb hby at_281) t k) ?_
                    show own_Go X45 (Q0 Z p0 p1 p2 p3 h0 n0) 4 22 283 #[.val (.int p0), .val (.int p1), .val (.int p2), .val (.int p3), .val (.int c0), .val (.int c1), .val (.int c2), .val (.int ld), .val (.ref b1), .val (.ref b4), .val (.int (own_p6 ld c0 c1 c2)), .val (.int (own_p0 ld)), .val (.int (own_p2 ld c0)), .val (.int (own_p4 ld c0 c1)), .val (.int (own_p6 ld c0 c1 c2)), .val (.ref b17), .val (.ref b38), .val (.int (2 : Int32)), .val (.int c2), .unset] [(.int (2147483647 : Int32)), (.int p3)]
                    refine own_st (fun _ k => XS.iand X45.here hx rfl (hb hby at_283) rfl k) ?_
                    show own_Go X45 (Q0 Z p0 p1 p2 p3 h0 n0) 4 22 284 #[.val (.int p0), .val (.int p1), .val (.int p2), .val (.int p3), .val (.int c0), .val (.int c1), .val (.int c2), .val (.int ld), .val (.ref b1), .val (.ref b4), .val (.int (own_p6 ld c0 c1 c2)), .val (.int (own_p0 ld)), .val (.int (own_p2 ld c0)), .val (.int (own_p4 ld c0 c1)), .val (.int (own_p6 ld c0 c1 c2)), .val (.ref b17), .val (.ref b38), .val (.int (2 : Int32)), .val (.int c2), .unset] [(.int (p3 &&& (2147483647 : Int32)))]
                    refine own_st (fun _ k => XS.iload X45.here hx rfl (hb hby at_284) rfl k) ?_
                    show own_Go X45 (Q0 Z p0 p1 p2 p3 h0 n0) 4 22 286 #[.val (.int p0), .val (.int p1), .val (.int p2), .val (.int p3), .val (.int c0), .val (.int c1), .val (.int c2), .val (.int ld), .val (.ref b1), .val (.ref b4), .val (.int (own_p6 ld c0 c1 c2)), .val (.int (own_p0 ld)), .val (.int (own_p2 ld c0)), .val (.int (own_p4 ld c0 c1)), .val (.int (own_p6 ld c0 c1 c2)), .val (.ref b17), .val (.ref b38), .val (.int (2 : Int32)), .val (.int c2), .unset] [(.int c2), (.int (p3 &&& (2147483647 : Int32)))]
                    refine own_st (fun _ k => iremM X45 hx rfl (hb hby at_286) rfl c275_68 k) ?_
                    show own_Go X45 (Q0 Z p0 p1 p2 p3 h0 n0) 4 22 287 #[.val (.int p0), .val (.int p1), .val (.int p2), .val (.int p3), .val (.int c0), .val (.int c1), .val (.int c2), .val (.int ld), .val (.ref b1), .val (.ref b4), .val (.int (own_p6 ld c0 c1 c2)), .val (.int (own_p0 ld)), .val (.int (own_p2 ld c0)), .val (.int (own_p4 ld c0 c1)), .val (.int (own_p6 ld c0 c1 c2)), .val (.ref b17), .val (.ref b38), .val (.int (2 : Int32)), .val (.int c2), .unset] [(.int ((p3 &&& (2147483647 : Int32)) % c2))]
                    refine own_st (fun _ k => XS.istore X45.here hx rfl (hb hby at_287) rfl (l' := #[.val (.int p0), .val (.int p1), .val (.int p2), .val (.int p3), .val (.int c0), .val (.int c1), .val (.int c2), .val (.int ld), .val (.ref b1), .val (.ref b4), .val (.int (own_p6 ld c0 c1 c2)), .val (.int (own_p0 ld)), .val (.int (own_p2 ld c0)), .val (.int (own_p4 ld c0 c1)), .val (.int (own_p6 ld c0 c1 c2)), .val (.ref b17), .val (.ref b38), .val (.int (2 : Int32)), .val (.int c2), .val (.int ((p3 &&& (2147483647 : Int32)) % c2))]) rfl k) ?_
                    show own_Go X45 (Q0 Z p0 p1 p2 p3 h0 n0) 4 22 289 #[.val (.int p0), .val (.int p1), .val (.int p2), .val (.int p3), .val (.int c0), .val (.int c1), .val (.int c2), .val (.int ld), .val (.ref b1), .val (.ref b4), .val (.int (own_p6 ld c0 c1 c2)), .val (.int (own_p0 ld)), .val (.int (own_p2 ld c0)), .val (.int (own_p4 ld c0 c1)), .val (.int (own_p6 ld c0 c1 c2)), .val (.ref b17), .val (.ref b38), .val (.int (2 : Int32)), .val (.int c2), .val (.int ((p3 &&& (2147483647 : Int32)) % c2))] []
                    generalize hii : ((p3 &&& (2147483647 : Int32)) % c2) = ii
                    show own_Go X45 (Q0 Z p0 p1 p2 p3 h0 n0) 4 22 289 #[.val (.int p0), .val (.int p1), .val (.int p2), .val (.int p3), .val (.int c0), .val (.int c1), .val (.int c2), .val (.int ld), .val (.ref b1), .val (.ref b4), .val (.int (own_p6 ld c0 c1 c2)), .val (.int (own_p0 ld)), .val (.int (own_p2 ld c0)), .val (.int (own_p4 ld c0 c1)), .val (.int (own_p6 ld c0 c1 c2)), .val (.ref b17), .val (.ref b38), .val (.int (2 : Int32)), .val (.int c2), .val (.int ii)] []
                    have hii' := own_ii hd2 c275_68 hii
                    refine own_st (fun _ k => XS.aload X45.here hx rfl (hb hby at_289) rfl rfl k) ?_
                    show own_Go X45 (Q0 Z p0 p1 p2 p3 h0 n0) 4 22 291 #[.val (.int p0), .val (.int p1), .val (.int p2), .val (.int p3), .val (.int c0), .val (.int c1), .val (.int c2), .val (.int ld), .val (.ref b1), .val (.ref b4), .val (.int (own_p6 ld c0 c1 c2)), .val (.int (own_p0 ld)), .val (.int (own_p2 ld c0)), .val (.int (own_p4 ld c0 c1)), .val (.int (own_p6 ld c0 c1 c2)), .val (.ref b17), .val (.ref b38), .val (.int (2 : Int32)), .val (.int c2), .val (.int ii)] [(.ref b38)]
                    refine own_st (fun _ k => XS.iload X45.here hx rfl (hb hby at_291) rfl k) ?_
                    show own_Go X45 (Q0 Z p0 p1 p2 p3 h0 n0) 4 22 293 #[.val (.int p0), .val (.int p1), .val (.int p2), .val (.int p3), .val (.int c0), .val (.int c1), .val (.int c2), .val (.int ld), .val (.ref b1), .val (.ref b4), .val (.int (own_p6 ld c0 c1 c2)), .val (.int (own_p0 ld)), .val (.int (own_p2 ld c0)), .val (.int (own_p4 ld c0 c1)), .val (.int (own_p6 ld c0 c1 c2)), .val (.ref b17), .val (.ref b38), .val (.int (2 : Int32)), .val (.int c2), .val (.int ii)] [(.int (2 : Int32)), (.ref b38)]
                    refine own_st (fun _ k => XS.iload X45.here hx rfl (hb hby at_293) rfl k) ?_
                    show own_Go X45 (Q0 Z p0 p1 p2 p3 h0 n0) 4 22 295 #[.val (.int p0), .val (.int p1), .val (.int p2), .val (.int p3), .val (.int c0), .val (.int c1), .val (.int c2), .val (.int ld), .val (.ref b1), .val (.ref b4), .val (.int (own_p6 ld c0 c1 c2)), .val (.int (own_p0 ld)), .val (.int (own_p2 ld c0)), .val (.int (own_p4 ld c0 c1)), .val (.int (own_p6 ld c0 c1 c2)), .val (.ref b17), .val (.ref b38), .val (.int (2 : Int32)), .val (.int c2), .val (.int ii)] [(.int ii), (.int (2 : Int32)), (.ref b38)]
                    refine own_callV (W := 0) X45 hx hZ hown (hw _ (List.mem_of_getElem? (i := 24) rfl)) (hw _ (List.mem_of_getElem? (i := 25) rfl)) (hw _ (List.mem_of_getElem? (i := 27) rfl)) (hw _ (List.mem_of_getElem? (i := 26) rfl)) (hw _ (List.mem_of_getElem? (i := 4) rfl)) (hw _ (List.mem_of_getElem? (i := 28) rfl)) (by decide) (rm4 l Z a0 hw [] b38 (2 : Int32) ii b17 b1 k17 k1 [(.int (own_p0 ld)), (.int (own_p2 ld c0)), (.int (own_p4 ld c0 c1)), (.int (own_p6 ld c0 c1 c2))] (own_v6 p0 ld c0 c1 c2) (own_p4 ld c0 c1) (own_enc p0 (2 : Int32) ii) T45.heap n0 Z_50 F45_starts F45_documents f_48 f_47 ⟨by decide, by decide⟩ rfl (own_g2 hdl hd0 hd1 hd2 hii')) (by decide) (by decide) (by rw [hml]; rfl) b38 [(.int (2 : Int32)), (.int ii)] [] (lenOf pd_0_1 rfl) rfl rfl (Nat.le_of_ble_eq_true rfl) (hb hby at_295) (Eq.refl T45.heap) f_49 (by decide) (by decide) ?_
                    rintro _ T69 L69 X69 ⟨rfl, N69q, e69⟩
                    have N_70 := Fr.app N_46 N69q
                    show own_Go X69 (Q0 Z p0 p1 p2 p3 h0 n0) 4 22 298 #[.val (.int p0), .val (.int p1), .val (.int p2), .val (.int p3), .val (.int c0), .val (.int c1), .val (.int c2), .val (.int ld), .val (.ref b1), .val (.ref b4), .val (.int (own_p6 ld c0 c1 c2)), .val (.int (own_p0 ld)), .val (.int (own_p2 ld c0)), .val (.int (own_p4 ld c0 c1)), .val (.int (own_p6 ld c0 c1 c2)), .val (.ref b17), .val (.ref b38), .val (.int (2 : Int32)), .val (.int c2), .val (.int ii)] [(.int (own_enc p0 (2 : Int32) ii))]
                    refine own_st (fun _ k => XS.iloadN X69.here hx rfl (hb hby at_298) rfl k) ?_
                    show own_Go X69 (Q0 Z p0 p1 p2 p3 h0 n0) 4 22 299 #[.val (.int p0), .val (.int p1), .val (.int p2), .val (.int p3), .val (.int c0), .val (.int c1), .val (.int c2), .val (.int ld), .val (.ref b1), .val (.ref b4), .val (.int (own_p6 ld c0 c1 c2)), .val (.int (own_p0 ld)), .val (.int (own_p2 ld c0)), .val (.int (own_p4 ld c0 c1)), .val (.int (own_p6 ld c0 c1 c2)), .val (.ref b17), .val (.ref b38), .val (.int (2 : Int32)), .val (.int c2), .val (.int ii)] [(.int p0), (.int (own_enc p0 (2 : Int32) ii))]
                    refine own_st (fun _ k => XS.iload X69.here hx rfl (hb hby at_299) rfl k) ?_
                    show own_Go X69 (Q0 Z p0 p1 p2 p3 h0 n0) 4 22 301 #[.val (.int p0), .val (.int p1), .val (.int p2), .val (.int p3), .val (.int c0), .val (.int c1), .val (.int c2), .val (.int ld), .val (.ref b1), .val (.ref b4), .val (.int (own_p6 ld c0 c1 c2)), .val (.int (own_p0 ld)), .val (.int (own_p2 ld c0)), .val (.int (own_p4 ld c0 c1)), .val (.int (own_p6 ld c0 c1 c2)), .val (.ref b17), .val (.ref b38), .val (.int (2 : Int32)), .val (.int c2), .val (.int ii)] [(.int (2 : Int32)), (.int p0), (.int (own_enc p0 (2 : Int32) ii))]
                    refine own_st (fun _ k => XS.iload X69.here hx rfl (hb hby at_301) rfl k) ?_
                    show own_Go X69 (Q0 Z p0 p1 p2 p3 h0 n0) 4 22 303 #[.val (.int p0), .val (.int p1), .val (.int p2), .val (.int p3), .val (.int c0), .val (.int c1), .val (.int c2), .val (.int ld), .val (.ref b1), .val (.ref b4), .val (.int (own_p6 ld c0 c1 c2)), .val (.int (own_p0 ld)), .val (.int (own_p2 ld c0)), .val (.int (own_p4 ld c0 c1)), .val (.int (own_p6 ld c0 c1 c2)), .val (.ref b17), .val (.ref b38), .val (.int (2 : Int32)), .val (.int c2), .val (.int ii)] [(.int ii), (.int (2 : Int32)), (.int p0), (.int (own_enc p0 (2 : Int32) ii))]
                    refine own_callS (W := 1) X69 hx hZ hown (hw _ (List.mem_of_getElem? (i := 20) rfl)) (hw _ (List.mem_of_getElem? (i := 21) rfl)) (hw _ (List.mem_of_getElem? (i := 22) rfl)) (hw _ (List.mem_of_getElem? (i := 23) rfl)) (by decide) (rm3 l Z a0 hw [] p0 (2 : Int32) ii  T45.heap n0 Z_50 ) (by decide) (by decide) (by rw [hml]; rfl) [(.int p0), (.int (2 : Int32)), (.int ii)] [(.int (own_enc p0 (2 : Int32) ii))] (lenOf pd_0_2 rfl) rfl rfl (Nat.le_of_ble_eq_true rfl) (hb hby at_303) e69 (by decide) (by decide) ?_
                    rintro _ T71 L71 X71 ⟨rfl, N71q, e71⟩
                    have N_72 := Fr.app N_70 N71q
                    show own_Go X71 (Q0 Z p0 p1 p2 p3 h0 n0) 4 22 306 #[.val (.int p0), .val (.int p1), .val (.int p2), .val (.int p3), .val (.int c0), .val (.int c1), .val (.int c2), .val (.int ld), .val (.ref b1), .val (.ref b4), .val (.int (own_p6 ld c0 c1 c2)), .val (.int (own_p0 ld)), .val (.int (own_p2 ld c0)), .val (.int (own_p4 ld c0 c1)), .val (.int (own_p6 ld c0 c1 c2)), .val (.ref b17), .val (.ref b38), .val (.int (2 : Int32)), .val (.int c2), .val (.int ii)] [(.int (own_enc p0 (2 : Int32) ii)), (.int (own_enc p0 (2 : Int32) ii))]
                    have c306_73 : (own_enc p0 (2 : Int32) ii) = (own_enc p0 (2 : Int32) ii) := rfl
                    refine own_st (fun _ k => XS.icmpNo X71.here hx rfl (hb hby at_306) rfl (teq c306_73).2 k) ?_
                    show own_Go X71 (Q0 Z p0 p1 p2 p3 h0 n0) 4 22 309 #[.val (.int p0), .val (.int p1), .val (.int p2), .val (.int p3), .val (.int c0), .val (.int c1), .val (.int c2), .val (.int ld), .val (.ref b1), .val (.ref b4), .val (.int (own_p6 ld c0 c1 c2)), .val (.int (own_p0 ld)), .val (.int (own_p2 ld c0)), .val (.int (own_p4 ld c0 c1)), .val (.int (own_p6 ld c0 c1 c2)), .val (.ref b17), .val (.ref b38), .val (.int (2 : Int32)), .val (.int c2), .val (.int ii)] []
                    refine own_st (fun _ k => XS.iconst X71.here hx rfl (hb hby at_309) k) ?_
                    show own_Go X71 (Q0 Z p0 p1 p2 p3 h0 n0) 4 22 310 #[.val (.int p0), .val (.int p1), .val (.int p2), .val (.int p3), .val (.int c0), .val (.int c1), .val (.int c2), .val (.int ld), .val (.ref b1), .val (.ref b4), .val (.int (own_p6 ld c0 c1 c2)), .val (.int (own_p0 ld)), .val (.int (own_p2 ld c0)), .val (.int (own_p4 ld c0 c1)), .val (.int (own_p6 ld c0 c1 c2)), .val (.ref b17), .val (.ref b38), .val (.int (2 : Int32)), .val (.int c2), .val (.int ii)] [(.int (1 : Int32))]
                    refine own_st (fun _ k => XS.goto X71.here hx rfl (pc0 := 310) (pc' := 314) rfl (hb hby at_310) (by decide) (by decide) k) ?_
                    show own_Go X71 (Q0 Z p0 p1 p2 p3 h0 n0) 4 22 314 #[.val (.int p0), .val (.int p1), .val (.int p2), .val (.int p3), .val (.int c0), .val (.int c1), .val (.int c2), .val (.int ld), .val (.ref b1), .val (.ref b4), .val (.int (own_p6 ld c0 c1 c2)), .val (.int (own_p0 ld)), .val (.int (own_p2 ld c0)), .val (.int (own_p4 ld c0 c1)), .val (.int (own_p6 ld c0 c1 c2)), .val (.ref b17), .val (.ref b38), .val (.int (2 : Int32)), .val (.int c2), .val (.int ii)] [(.int (1 : Int32))]
                    refine own_retN X71 hx Bd.returns (by simp) hlk e71 (hb hby at_314) (by decide) (by decide) ?_
                    exact ⟨rfl, N_72⟩
              refine own_st (fun _ k => XS.iload X15.here hx rfl (hb hby at_175) rfl k) ?_
              show own_Go X15 (Q0 Z p0 p1 p2 p3 h0 n0) 4 22 177 #[.val (.int p0), .val (.int p1), .val (.int p2), .val (.int p3), .val (.int c0), .val (.int c1), .val (.int c2), .val (.int ld), .val (.ref b1), .val (.ref b4), .val (.int (own_p5 ld c0 c1 c2)), .val (.int (own_p0 ld)), .val (.int (own_p2 ld c0)), .val (.int (own_p4 ld c0 c1)), .unset, .unset, .unset, .unset, .unset, .unset] [(.int c2)]
              refine own_st (fun _ k => XS.iconst X15.here hx rfl (hb hby at_177) k) ?_
              show own_Go X15 (Q0 Z p0 p1 p2 p3 h0 n0) 4 22 178 #[.val (.int p0), .val (.int p1), .val (.int p2), .val (.int p3), .val (.int c0), .val (.int c1), .val (.int c2), .val (.int ld), .val (.ref b1), .val (.ref b4), .val (.int (own_p5 ld c0 c1 c2)), .val (.int (own_p0 ld)), .val (.int (own_p2 ld c0)), .val (.int (own_p4 ld c0 c1)), .unset, .unset, .unset, .unset, .unset, .unset] [(.int (1 : Int32)), (.int c2)]
              by_cases c178_74 : (1 : Int32) < c2
              · skip
                refine own_st (fun _ k => XS.icmpNo X15.here hx rfl (hb hby at_178) rfl (tlt c178_74).2.2.2 k) ?_
                show own_Go X15 (Q0 Z p0 p1 p2 p3 h0 n0) 4 22 181 #[.val (.int p0), .val (.int p1), .val (.int p2), .val (.int p3), .val (.int c0), .val (.int c1), .val (.int c2), .val (.int ld), .val (.ref b1), .val (.ref b4), .val (.int (own_p5 ld c0 c1 c2)), .val (.int (own_p0 ld)), .val (.int (own_p2 ld c0)), .val (.int (own_p4 ld c0 c1)), .unset, .unset, .unset, .unset, .unset, .unset] []
                refine own_st (fun _ k => XS.aload X15.here hx rfl (hb hby at_181) rfl rfl k) ?_
                show own_Go X15 (Q0 Z p0 p1 p2 p3 h0 n0) 4 22 183 #[.val (.int p0), .val (.int p1), .val (.int p2), .val (.int p3), .val (.int c0), .val (.int c1), .val (.int c2), .val (.int ld), .val (.ref b1), .val (.ref b4), .val (.int (own_p5 ld c0 c1 c2)), .val (.int (own_p0 ld)), .val (.int (own_p2 ld c0)), .val (.int (own_p4 ld c0 c1)), .unset, .unset, .unset, .unset, .unset, .unset] [(.ref b1)]
                refine own_st (fun _ k => XS.iload X15.here hx rfl (hb hby at_183) rfl k) ?_
                show own_Go X15 (Q0 Z p0 p1 p2 p3 h0 n0) 4 22 185 #[.val (.int p0), .val (.int p1), .val (.int p2), .val (.int p3), .val (.int c0), .val (.int c1), .val (.int c2), .val (.int ld), .val (.ref b1), .val (.ref b4), .val (.int (own_p5 ld c0 c1 c2)), .val (.int (own_p0 ld)), .val (.int (own_p2 ld c0)), .val (.int (own_p4 ld c0 c1)), .unset, .unset, .unset, .unset, .unset, .unset] [(.int (own_p5 ld c0 c1 c2)), (.ref b1)]
                refine own_st (fun _ k => XS.iloadN X15.here hx rfl (hb hby at_185) rfl k) ?_
                show own_Go X15 (Q0 Z p0 p1 p2 p3 h0 n0) 4 22 186 #[.val (.int p0), .val (.int p1), .val (.int p2), .val (.int p3), .val (.int c0), .val (.int c1), .val (.int c2), .val (.int ld), .val (.ref b1), .val (.ref b4), .val (.int (own_p5 ld c0 c1 c2)), .val (.int (own_p0 ld)), .val (.int (own_p2 ld c0)), .val (.int (own_p4 ld c0 c1)), .unset, .unset, .unset, .unset, .unset, .unset] [(.int p0), (.int (own_p5 ld c0 c1 c2)), (.ref b1)]
                refine own_st (fun _ k => XS.iconst X15.here hx rfl (hb hby at_186) k) ?_
                show own_Go X15 (Q0 Z p0 p1 p2 p3 h0 n0) 4 22 187 #[.val (.int p0), .val (.int p1), .val (.int p2), .val (.int p3), .val (.int c0), .val (.int c1), .val (.int c2), .val (.int ld), .val (.ref b1), .val (.ref b4), .val (.int (own_p5 ld c0 c1 c2)), .val (.int (own_p0 ld)), .val (.int (own_p2 ld c0)), .val (.int (own_p4 ld c0 c1)), .unset, .unset, .unset, .unset, .unset, .unset] [(.int (2 : Int32)), (.int p0), (.int (own_p5 ld c0 c1 c2)), (.ref b1)]
                refine own_st (fun _ k => XS.iconst X15.here hx rfl (hb hby at_187) k) ?_
                show own_Go X15 (Q0 Z p0 p1 p2 p3 h0 n0) 4 22 188 #[.val (.int p0), .val (.int p1), .val (.int p2), .val (.int p3), .val (.int c0), .val (.int c1), .val (.int c2), .val (.int ld), .val (.ref b1), .val (.ref b4), .val (.int (own_p5 ld c0 c1 c2)), .val (.int (own_p0 ld)), .val (.int (own_p2 ld c0)), .val (.int (own_p4 ld c0 c1)), .unset, .unset, .unset, .unset, .unset, .unset] [(.int (1 : Int32)), (.int (2 : Int32)), (.int p0), (.int (own_p5 ld c0 c1 c2)), (.ref b1)]
                refine own_callS (W := 2) X15 hx hZ hown (hw _ (List.mem_of_getElem? (i := 20) rfl)) (hw _ (List.mem_of_getElem? (i := 21) rfl)) (hw _ (List.mem_of_getElem? (i := 22) rfl)) (hw _ (List.mem_of_getElem? (i := 23) rfl)) (by decide) (rm3 l Z a0 hw [] p0 (2 : Int32) (1 : Int32)  h15 n0 Z15 ) (by decide) (by decide) (by rw [hml]; rfl) [(.int p0), (.int (2 : Int32)), (.int (1 : Int32))] [(.int (own_p5 ld c0 c1 c2)), (.ref b1)] (lenOf pd_0_2 rfl) rfl rfl (Nat.le_of_ble_eq_true rfl) (hb hby at_188) e15 (by decide) (by decide) ?_
                rintro _ T75 L75 X75 ⟨rfl, N75q, e75⟩
                have N_76 := Fr.app N15 N75q
                show own_Go X75 (Q0 Z p0 p1 p2 p3 h0 n0) 4 22 191 #[.val (.int p0), .val (.int p1), .val (.int p2), .val (.int p3), .val (.int c0), .val (.int c1), .val (.int c2), .val (.int ld), .val (.ref b1), .val (.ref b4), .val (.int (own_p5 ld c0 c1 c2)), .val (.int (own_p0 ld)), .val (.int (own_p2 ld c0)), .val (.int (own_p4 ld c0 c1)), .unset, .unset, .unset, .unset, .unset, .unset] [(.int (own_enc p0 (2 : Int32) (1 : Int32))), (.int (own_p5 ld c0 c1 c2)), (.ref b1)]
                obtain ⟨T77, h77, X77, e77, W77, V77, st77⟩ := own_stI X75 hx hZ e75 f15_0 (j := (own_p5 ld c0 c1 c2)) (own_b5 hdl hd0 hd1 hd2) (own_in (own_b5 hdl hd0 hd1 hd2) (own_l5 _ _ _ _ _)) (g := (mkF m 191 #[.val (.int p0), .val (.int p1), .val (.int p2), .val (.int p3), .val (.int c0), .val (.int c1), .val (.int c2), .val (.int ld), .val (.ref b1), .val (.ref b4), .val (.int (own_p5 ld c0 c1 c2)), .val (.int (own_p0 ld)), .val (.int (own_p2 ld c0)), .val (.int (own_p4 ld c0 c1)), .unset, .unset, .unset, .unset, .unset, .unset] [(.int (own_enc p0 (2 : Int32) (1 : Int32))), (.int (own_p5 ld c0 c1 c2)), (.ref b1)])) rfl rfl (hb hby at_191)
                refine own_st st77 ?_
                have Z_78 := Nat.le_trans Z15 (Nat.le_of_eq W77.size.symm)
                have N_79 := Fr.snoc X77 N_76 G_2
                show own_Go X77 (Q0 Z p0 p1 p2 p3 h0 n0) 4 22 192 #[.val (.int p0), .val (.int p1), .val (.int p2), .val (.int p3), .val (.int c0), .val (.int c1), .val (.int c2), .val (.int ld), .val (.ref b1), .val (.ref b4), .val (.int (own_p5 ld c0 c1 c2)), .val (.int (own_p0 ld)), .val (.int (own_p2 ld c0)), .val (.int (own_p4 ld c0 c1)), .unset, .unset, .unset, .unset, .unset, .unset] []
                refine own_st (fun _ k => XS.iinc X77.here hx rfl (hb hby at_192) rfl (l' := #[.val (.int p0), .val (.int p1), .val (.int p2), .val (.int p3), .val (.int c0), .val (.int c1), .val (.int c2), .val (.int ld), .val (.ref b1), .val (.ref b4), .val (.int ((own_p5 ld c0 c1 c2) + (1 : Int32))), .val (.int (own_p0 ld)), .val (.int (own_p2 ld c0)), .val (.int (own_p4 ld c0 c1)), .unset, .unset, .unset, .unset, .unset, .unset]) rfl k) ?_
                show own_Go X77 (Q0 Z p0 p1 p2 p3 h0 n0) 4 22 195 #[.val (.int p0), .val (.int p1), .val (.int p2), .val (.int p3), .val (.int c0), .val (.int c1), .val (.int c2), .val (.int ld), .val (.ref b1), .val (.ref b4), .val (.int ((own_p5 ld c0 c1 c2) + (1 : Int32))), .val (.int (own_p0 ld)), .val (.int (own_p2 ld c0)), .val (.int (own_p4 ld c0 c1)), .unset, .unset, .unset, .unset, .unset, .unset] []
                exact J195 _ (by unfold own_p6; rw [if_pos c178_74]) _ (by unfold own_v6; rw [if_pos c178_74]) X77 e77 N_79 Z_78 V77
              · skip
                refine own_st (fun _ k => XS.icmpYes X15.here hx rfl (pc0 := 178) (pc' := 195) rfl (hb hby at_178) rfl (flt c178_74).2.2.2 (by decide) (by decide) k) ?_
                show own_Go X15 (Q0 Z p0 p1 p2 p3 h0 n0) 4 22 195 #[.val (.int p0), .val (.int p1), .val (.int p2), .val (.int p3), .val (.int c0), .val (.int c1), .val (.int c2), .val (.int ld), .val (.ref b1), .val (.ref b4), .val (.int (own_p5 ld c0 c1 c2)), .val (.int (own_p0 ld)), .val (.int (own_p2 ld c0)), .val (.int (own_p4 ld c0 c1)), .unset, .unset, .unset, .unset, .unset, .unset] []
                exact J195 _ (by unfold own_p6; rw [if_neg c178_74]) _ (by unfold own_v6; rw [if_neg c178_74]) X15 e15 N15 Z15 f15_0
            refine own_st (fun _ k => XS.iload X14.here hx rfl (hb hby at_156) rfl k) ?_
            show own_Go X14 (Q0 Z p0 p1 p2 p3 h0 n0) 4 22 158 #[.val (.int p0), .val (.int p1), .val (.int p2), .val (.int p3), .val (.int c0), .val (.int c1), .val (.int c2), .val (.int ld), .val (.ref b1), .val (.ref b4), .val (.int (own_p4 ld c0 c1)), .val (.int (own_p0 ld)), .val (.int (own_p2 ld c0)), .val (.int (own_p4 ld c0 c1)), .unset, .unset, .unset, .unset, .unset, .unset] [(.int c2)]
            by_cases c158_80 : (0 : Int32) < c2
            · skip
              refine own_st (fun _ k => XS.ifNo X14.here hx rfl (hb hby at_158) rfl ((if0 _ _).trans (tlt c158_80).2.2.2) k) ?_
              show own_Go X14 (Q0 Z p0 p1 p2 p3 h0 n0) 4 22 161 #[.val (.int p0), .val (.int p1), .val (.int p2), .val (.int p3), .val (.int c0), .val (.int c1), .val (.int c2), .val (.int ld), .val (.ref b1), .val (.ref b4), .val (.int (own_p4 ld c0 c1)), .val (.int (own_p0 ld)), .val (.int (own_p2 ld c0)), .val (.int (own_p4 ld c0 c1)), .unset, .unset, .unset, .unset, .unset, .unset] []
              refine own_st (fun _ k => XS.aload X14.here hx rfl (hb hby at_161) rfl rfl k) ?_
              show own_Go X14 (Q0 Z p0 p1 p2 p3 h0 n0) 4 22 163 #[.val (.int p0), .val (.int p1), .val (.int p2), .val (.int p3), .val (.int c0), .val (.int c1), .val (.int c2), .val (.int ld), .val (.ref b1), .val (.ref b4), .val (.int (own_p4 ld c0 c1)), .val (.int (own_p0 ld)), .val (.int (own_p2 ld c0)), .val (.int (own_p4 ld c0 c1)), .unset, .unset, .unset, .unset, .unset, .unset] [(.ref b1)]
              refine own_st (fun _ k => XS.iload X14.here hx rfl (hb hby at_163) rfl k) ?_
              show own_Go X14 (Q0 Z p0 p1 p2 p3 h0 n0) 4 22 165 #[.val (.int p0), .val (.int p1), .val (.int p2), .val (.int p3), .val (.int c0), .val (.int c1), .val (.int c2), .val (.int ld), .val (.ref b1), .val (.ref b4), .val (.int (own_p4 ld c0 c1)), .val (.int (own_p0 ld)), .val (.int (own_p2 ld c0)), .val (.int (own_p4 ld c0 c1)), .unset, .unset, .unset, .unset, .unset, .unset] [(.int (own_p4 ld c0 c1)), (.ref b1)]
              refine own_st (fun _ k => XS.iloadN X14.here hx rfl (hb hby at_165) rfl k) ?_
              show own_Go X14 (Q0 Z p0 p1 p2 p3 h0 n0) 4 22 166 #[.val (.int p0), .val (.int p1), .val (.int p2), .val (.int p3), .val (.int c0), .val (.int c1), .val (.int c2), .val (.int ld), .val (.ref b1), .val (.ref b4), .val (.int (own_p4 ld c0 c1)), .val (.int (own_p0 ld)), .val (.int (own_p2 ld c0)), .val (.int (own_p4 ld c0 c1)), .unset, .unset, .unset, .unset, .unset, .unset] [(.int p0), (.int (own_p4 ld c0 c1)), (.ref b1)]
              refine own_st (fun _ k => XS.iconst X14.here hx rfl (hb hby at_166) k) ?_
              show own_Go X14 (Q0 Z p0 p1 p2 p3 h0 n0) 4 22 167 #[.val (.int p0), .val (.int p1), .val (.int p2), .val (.int p3), .val (.int c0), .val (.int c1), .val (.int c2), .val (.int ld), .val (.ref b1), .val (.ref b4), .val (.int (own_p4 ld c0 c1)), .val (.int (own_p0 ld)), .val (.int (own_p2 ld c0)), .val (.int (own_p4 ld c0 c1)), .unset, .unset, .unset, .unset, .unset, .unset] [(.int (2 : Int32)), (.int p0), (.int (own_p4 ld c0 c1)), (.ref b1)]
              refine own_st (fun _ k => XS.iconst X14.here hx rfl (hb hby at_167) k) ?_
              show own_Go X14 (Q0 Z p0 p1 p2 p3 h0 n0) 4 22 168 #[.val (.int p0), .val (.int p1), .val (.int p2), .val (.int p3), .val (.int c0), .val (.int c1), .val (.int c2), .val (.int ld), .val (.ref b1), .val (.ref b4), .val (.int (own_p4 ld c0 c1)), .val (.int (own_p0 ld)), .val (.int (own_p2 ld c0)), .val (.int (own_p4 ld c0 c1)), .unset, .unset, .unset, .unset, .unset, .unset] [(.int (0 : Int32)), (.int (2 : Int32)), (.int p0), (.int (own_p4 ld c0 c1)), (.ref b1)]
              refine own_callS (W := 2) X14 hx hZ hown (hw _ (List.mem_of_getElem? (i := 20) rfl)) (hw _ (List.mem_of_getElem? (i := 21) rfl)) (hw _ (List.mem_of_getElem? (i := 22) rfl)) (hw _ (List.mem_of_getElem? (i := 23) rfl)) (by decide) (rm3 l Z a0 hw [] p0 (2 : Int32) (0 : Int32)  h14 n0 Z14 ) (by decide) (by decide) (by rw [hml]; rfl) [(.int p0), (.int (2 : Int32)), (.int (0 : Int32))] [(.int (own_p4 ld c0 c1)), (.ref b1)] (lenOf pd_0_2 rfl) rfl rfl (Nat.le_of_ble_eq_true rfl) (hb hby at_168) e14 (by decide) (by decide) ?_
              rintro _ T81 L81 X81 ⟨rfl, N81q, e81⟩
              have N_82 := Fr.app N14 N81q
              show own_Go X81 (Q0 Z p0 p1 p2 p3 h0 n0) 4 22 171 #[.val (.int p0), .val (.int p1), .val (.int p2), .val (.int p3), .val (.int c0), .val (.int c1), .val (.int c2), .val (.int ld), .val (.ref b1), .val (.ref b4), .val (.int (own_p4 ld c0 c1)), .val (.int (own_p0 ld)), .val (.int (own_p2 ld c0)), .val (.int (own_p4 ld c0 c1)), .unset, .unset, .unset, .unset, .unset, .unset] [(.int (own_enc p0 (2 : Int32) (0 : Int32))), (.int (own_p4 ld c0 c1)), (.ref b1)]
              obtain ⟨T83, h83, X83, e83, W83, V83, st83⟩ := own_stI X81 hx hZ e81 f14_0 (j := (own_p4 ld c0 c1)) (own_b4 hdl hd0 hd1) (own_in (own_b4 hdl hd0 hd1) (own_l4 _ _ _ _)) (g := (mkF m 171 #[.val (.int p0), .val (.int p1), .val (.int p2), .val (.int p3), .val (.int c0), .val (.int c1), .val (.int c2), .val (.int ld), .val (.ref b1), .val (.ref b4), .val (.int (own_p4 ld c0 c1)), .val (.int (own_p0 ld)), .val (.int (own_p2 ld c0)), .val (.int (own_p4 ld c0 c1)), .unset, .unset, .unset, .unset, .unset, .unset] [(.int (own_enc p0 (2 : Int32) (0 : Int32))), (.int (own_p4 ld c0 c1)), (.ref b1)])) rfl rfl (hb hby at_171)
              refine own_st st83 ?_
              have Z_84 := Nat.le_trans Z14 (Nat.le_of_eq W83.size.symm)
              have N_85 := Fr.snoc X83 N_82 G_2
              show own_Go X83 (Q0 Z p0 p1 p2 p3 h0 n0) 4 22 172 #[.val (.int p0), .val (.int p1), .val (.int p2), .val (.int p3), .val (.int c0), .val (.int c1), .val (.int c2), .val (.int ld), .val (.ref b1), .val (.ref b4), .val (.int (own_p4 ld c0 c1)), .val (.int (own_p0 ld)), .val (.int (own_p2 ld c0)), .val (.int (own_p4 ld c0 c1)), .unset, .unset, .unset, .unset, .unset, .unset] []
              refine own_st (fun _ k => XS.iinc X83.here hx rfl (hb hby at_172) rfl (l' := #[.val (.int p0), .val (.int p1), .val (.int p2), .val (.int p3), .val (.int c0), .val (.int c1), .val (.int c2), .val (.int ld), .val (.ref b1), .val (.ref b4), .val (.int ((own_p4 ld c0 c1) + (1 : Int32))), .val (.int (own_p0 ld)), .val (.int (own_p2 ld c0)), .val (.int (own_p4 ld c0 c1)), .unset, .unset, .unset, .unset, .unset, .unset]) rfl k) ?_
              show own_Go X83 (Q0 Z p0 p1 p2 p3 h0 n0) 4 22 175 #[.val (.int p0), .val (.int p1), .val (.int p2), .val (.int p3), .val (.int c0), .val (.int c1), .val (.int c2), .val (.int ld), .val (.ref b1), .val (.ref b4), .val (.int ((own_p4 ld c0 c1) + (1 : Int32))), .val (.int (own_p0 ld)), .val (.int (own_p2 ld c0)), .val (.int (own_p4 ld c0 c1)), .unset, .unset, .unset, .unset, .unset, .unset] []
              exact J175 _ (by unfold own_p5; rw [if_pos c158_80]) _ (by unfold own_v5; rw [if_pos c158_80]) X83 e83 N_85 Z_84 V83
            · skip
              refine own_st (fun _ k => XS.ifYes X14.here hx rfl (pc0 := 158) (pc' := 175) rfl (hb hby at_158) rfl ((if0 _ _).trans (flt c158_80).2.2.2) (by decide) (by decide) k) ?_
              show own_Go X14 (Q0 Z p0 p1 p2 p3 h0 n0) 4 22 175 #[.val (.int p0), .val (.int p1), .val (.int p2), .val (.int p3), .val (.int c0), .val (.int c1), .val (.int c2), .val (.int ld), .val (.ref b1), .val (.ref b4), .val (.int (own_p4 ld c0 c1)), .val (.int (own_p0 ld)), .val (.int (own_p2 ld c0)), .val (.int (own_p4 ld c0 c1)), .unset, .unset, .unset, .unset, .unset, .unset] []
              exact J175 _ (by unfold own_p5; rw [if_neg c158_80]) _ (by unfold own_v5; rw [if_neg c158_80]) X14 e14 N14 Z14 f14_0
          refine own_st (fun _ k => XS.iload X13.here hx rfl (hb hby at_132) rfl k) ?_
          show own_Go X13 (Q0 Z p0 p1 p2 p3 h0 n0) 4 22 134 #[.val (.int p0), .val (.int p1), .val (.int p2), .val (.int p3), .val (.int c0), .val (.int c1), .val (.int c2), .val (.int ld), .val (.ref b1), .val (.ref b4), .val (.int (own_p3 ld c0 c1)), .val (.int (own_p0 ld)), .val (.int (own_p2 ld c0)), .unset, .unset, .unset, .unset, .unset, .unset, .unset] [(.int c1)]
          refine own_st (fun _ k => XS.iconst X13.here hx rfl (hb hby at_134) k) ?_
          show own_Go X13 (Q0 Z p0 p1 p2 p3 h0 n0) 4 22 135 #[.val (.int p0), .val (.int p1), .val (.int p2), .val (.int p3), .val (.int c0), .val (.int c1), .val (.int c2), .val (.int ld), .val (.ref b1), .val (.ref b4), .val (.int (own_p3 ld c0 c1)), .val (.int (own_p0 ld)), .val (.int (own_p2 ld c0)), .unset, .unset, .unset, .unset, .unset, .unset, .unset] [(.int (1 : Int32)), (.int c1)]
          by_cases c135_86 : (1 : Int32) < c1
          · skip
            refine own_st (fun _ k => XS.icmpNo X13.here hx rfl (hb hby at_135) rfl (tlt c135_86).2.2.2 k) ?_
            show own_Go X13 (Q0 Z p0 p1 p2 p3 h0 n0) 4 22 138 #[.val (.int p0), .val (.int p1), .val (.int p2), .val (.int p3), .val (.int c0), .val (.int c1), .val (.int c2), .val (.int ld), .val (.ref b1), .val (.ref b4), .val (.int (own_p3 ld c0 c1)), .val (.int (own_p0 ld)), .val (.int (own_p2 ld c0)), .unset, .unset, .unset, .unset, .unset, .unset, .unset] []
            refine own_st (fun _ k => XS.aload X13.here hx rfl (hb hby at_138) rfl rfl k) ?_
            show own_Go X13 (Q0 Z p0 p1 p2 p3 h0 n0) 4 22 140 #[.val (.int p0), .val (.int p1), .val (.int p2), .val (.int p3), .val (.int c0), .val (.int c1), .val (.int c2), .val (.int ld), .val (.ref b1), .val (.ref b4), .val (.int (own_p3 ld c0 c1)), .val (.int (own_p0 ld)), .val (.int (own_p2 ld c0)), .unset, .unset, .unset, .unset, .unset, .unset, .unset] [(.ref b1)]
            refine own_st (fun _ k => XS.iload X13.here hx rfl (hb hby at_140) rfl k) ?_
            show own_Go X13 (Q0 Z p0 p1 p2 p3 h0 n0) 4 22 142 #[.val (.int p0), .val (.int p1), .val (.int p2), .val (.int p3), .val (.int c0), .val (.int c1), .val (.int c2), .val (.int ld), .val (.ref b1), .val (.ref b4), .val (.int (own_p3 ld c0 c1)), .val (.int (own_p0 ld)), .val (.int (own_p2 ld c0)), .unset, .unset, .unset, .unset, .unset, .unset, .unset] [(.int (own_p3 ld c0 c1)), (.ref b1)]
            refine own_st (fun _ k => XS.iloadN X13.here hx rfl (hb hby at_142) rfl k) ?_
            show own_Go X13 (Q0 Z p0 p1 p2 p3 h0 n0) 4 22 143 #[.val (.int p0), .val (.int p1), .val (.int p2), .val (.int p3), .val (.int c0), .val (.int c1), .val (.int c2), .val (.int ld), .val (.ref b1), .val (.ref b4), .val (.int (own_p3 ld c0 c1)), .val (.int (own_p0 ld)), .val (.int (own_p2 ld c0)), .unset, .unset, .unset, .unset, .unset, .unset, .unset] [(.int p0), (.int (own_p3 ld c0 c1)), (.ref b1)]
            refine own_st (fun _ k => XS.iconst X13.here hx rfl (hb hby at_143) k) ?_
            show own_Go X13 (Q0 Z p0 p1 p2 p3 h0 n0) 4 22 144 #[.val (.int p0), .val (.int p1), .val (.int p2), .val (.int p3), .val (.int c0), .val (.int c1), .val (.int c2), .val (.int ld), .val (.ref b1), .val (.ref b4), .val (.int (own_p3 ld c0 c1)), .val (.int (own_p0 ld)), .val (.int (own_p2 ld c0)), .unset, .unset, .unset, .unset, .unset, .unset, .unset] [(.int (1 : Int32)), (.int p0), (.int (own_p3 ld c0 c1)), (.ref b1)]
            refine own_st (fun _ k => XS.iconst X13.here hx rfl (hb hby at_144) k) ?_
            show own_Go X13 (Q0 Z p0 p1 p2 p3 h0 n0) 4 22 145 #[.val (.int p0), .val (.int p1), .val (.int p2), .val (.int p3), .val (.int c0), .val (.int c1), .val (.int c2), .val (.int ld), .val (.ref b1), .val (.ref b4), .val (.int (own_p3 ld c0 c1)), .val (.int (own_p0 ld)), .val (.int (own_p2 ld c0)), .unset, .unset, .unset, .unset, .unset, .unset, .unset] [(.int (1 : Int32)), (.int (1 : Int32)), (.int p0), (.int (own_p3 ld c0 c1)), (.ref b1)]
            refine own_callS (W := 2) X13 hx hZ hown (hw _ (List.mem_of_getElem? (i := 20) rfl)) (hw _ (List.mem_of_getElem? (i := 21) rfl)) (hw _ (List.mem_of_getElem? (i := 22) rfl)) (hw _ (List.mem_of_getElem? (i := 23) rfl)) (by decide) (rm3 l Z a0 hw [] p0 (1 : Int32) (1 : Int32)  h13 n0 Z13 ) (by decide) (by decide) (by rw [hml]; rfl) [(.int p0), (.int (1 : Int32)), (.int (1 : Int32))] [(.int (own_p3 ld c0 c1)), (.ref b1)] (lenOf pd_0_2 rfl) rfl rfl (Nat.le_of_ble_eq_true rfl) (hb hby at_145) e13 (by decide) (by decide) ?_
            rintro _ T87 L87 X87 ⟨rfl, N87q, e87⟩
            have N_88 := Fr.app N13 N87q
            show own_Go X87 (Q0 Z p0 p1 p2 p3 h0 n0) 4 22 148 #[.val (.int p0), .val (.int p1), .val (.int p2), .val (.int p3), .val (.int c0), .val (.int c1), .val (.int c2), .val (.int ld), .val (.ref b1), .val (.ref b4), .val (.int (own_p3 ld c0 c1)), .val (.int (own_p0 ld)), .val (.int (own_p2 ld c0)), .unset, .unset, .unset, .unset, .unset, .unset, .unset] [(.int (own_enc p0 (1 : Int32) (1 : Int32))), (.int (own_p3 ld c0 c1)), (.ref b1)]
            obtain ⟨T89, h89, X89, e89, W89, V89, st89⟩ := own_stI X87 hx hZ e87 f13_0 (j := (own_p3 ld c0 c1)) (own_b3 hdl hd0 hd1) (own_in (own_b3 hdl hd0 hd1) (own_l3 _ _ _ _)) (g := (mkF m 148 #[.val (.int p0), .val (.int p1), .val (.int p2), .val (.int p3), .val (.int c0), .val (.int c1), .val (.int c2), .val (.int ld), .val (.ref b1), .val (.ref b4), .val (.int (own_p3 ld c0 c1)), .val (.int (own_p0 ld)), .val (.int (own_p2 ld c0)), .unset, .unset, .unset, .unset, .unset, .unset, .unset] [(.int (own_enc p0 (1 : Int32) (1 : Int32))), (.int (own_p3 ld c0 c1)), (.ref b1)])) rfl rfl (hb hby at_148)
            refine own_st st89 ?_
            have Z_90 := Nat.le_trans Z13 (Nat.le_of_eq W89.size.symm)
            have N_91 := Fr.snoc X89 N_88 G_2
            show own_Go X89 (Q0 Z p0 p1 p2 p3 h0 n0) 4 22 149 #[.val (.int p0), .val (.int p1), .val (.int p2), .val (.int p3), .val (.int c0), .val (.int c1), .val (.int c2), .val (.int ld), .val (.ref b1), .val (.ref b4), .val (.int (own_p3 ld c0 c1)), .val (.int (own_p0 ld)), .val (.int (own_p2 ld c0)), .unset, .unset, .unset, .unset, .unset, .unset, .unset] []
            refine own_st (fun _ k => XS.iinc X89.here hx rfl (hb hby at_149) rfl (l' := #[.val (.int p0), .val (.int p1), .val (.int p2), .val (.int p3), .val (.int c0), .val (.int c1), .val (.int c2), .val (.int ld), .val (.ref b1), .val (.ref b4), .val (.int ((own_p3 ld c0 c1) + (1 : Int32))), .val (.int (own_p0 ld)), .val (.int (own_p2 ld c0)), .unset, .unset, .unset, .unset, .unset, .unset, .unset]) rfl k) ?_
            show own_Go X89 (Q0 Z p0 p1 p2 p3 h0 n0) 4 22 152 #[.val (.int p0), .val (.int p1), .val (.int p2), .val (.int p3), .val (.int c0), .val (.int c1), .val (.int c2), .val (.int ld), .val (.ref b1), .val (.ref b4), .val (.int ((own_p3 ld c0 c1) + (1 : Int32))), .val (.int (own_p0 ld)), .val (.int (own_p2 ld c0)), .unset, .unset, .unset, .unset, .unset, .unset, .unset] []
            exact J152 _ (by unfold own_p4; rw [if_pos c135_86]) _ (by unfold own_v4; rw [if_pos c135_86]) X89 e89 N_91 Z_90 V89
          · skip
            refine own_st (fun _ k => XS.icmpYes X13.here hx rfl (pc0 := 135) (pc' := 152) rfl (hb hby at_135) rfl (flt c135_86).2.2.2 (by decide) (by decide) k) ?_
            show own_Go X13 (Q0 Z p0 p1 p2 p3 h0 n0) 4 22 152 #[.val (.int p0), .val (.int p1), .val (.int p2), .val (.int p3), .val (.int c0), .val (.int c1), .val (.int c2), .val (.int ld), .val (.ref b1), .val (.ref b4), .val (.int (own_p3 ld c0 c1)), .val (.int (own_p0 ld)), .val (.int (own_p2 ld c0)), .unset, .unset, .unset, .unset, .unset, .unset, .unset] []
            exact J152 _ (by unfold own_p4; rw [if_neg c135_86]) _ (by unfold own_v4; rw [if_neg c135_86]) X13 e13 N13 Z13 f13_0
        refine own_st (fun _ k => XS.iload X12.here hx rfl (hb hby at_113) rfl k) ?_
        show own_Go X12 (Q0 Z p0 p1 p2 p3 h0 n0) 4 22 115 #[.val (.int p0), .val (.int p1), .val (.int p2), .val (.int p3), .val (.int c0), .val (.int c1), .val (.int c2), .val (.int ld), .val (.ref b1), .val (.ref b4), .val (.int (own_p2 ld c0)), .val (.int (own_p0 ld)), .val (.int (own_p2 ld c0)), .unset, .unset, .unset, .unset, .unset, .unset, .unset] [(.int c1)]
        by_cases c115_92 : (0 : Int32) < c1
        · skip
          refine own_st (fun _ k => XS.ifNo X12.here hx rfl (hb hby at_115) rfl ((if0 _ _).trans (tlt c115_92).2.2.2) k) ?_
          show own_Go X12 (Q0 Z p0 p1 p2 p3 h0 n0) 4 22 118 #[.val (.int p0), .val (.int p1), .val (.int p2), .val (.int p3), .val (.int c0), .val (.int c1), .val (.int c2), .val (.int ld), .val (.ref b1), .val (.ref b4), .val (.int (own_p2 ld c0)), .val (.int (own_p0 ld)), .val (.int (own_p2 ld c0)), .unset, .unset, .unset, .unset, .unset, .unset, .unset] []
          refine own_st (fun _ k => XS.aload X12.here hx rfl (hb hby at_118) rfl rfl k) ?_
          show own_Go X12 (Q0 Z p0 p1 p2 p3 h0 n0) 4 22 120 #[.val (.int p0), .val (.int p1), .val (.int p2), .val (.int p3), .val (.int c0), .val (.int c1), .val (.int c2), .val (.int ld), .val (.ref b1), .val (.ref b4), .val (.int (own_p2 ld c0)), .val (.int (own_p0 ld)), .val (.int (own_p2 ld c0)), .unset, .unset, .unset, .unset, .unset, .unset, .unset] [(.ref b1)]
          refine own_st (fun _ k => XS.iload X12.here hx rfl (hb hby at_120) rfl k) ?_
          show own_Go X12 (Q0 Z p0 p1 p2 p3 h0 n0) 4 22 122 #[.val (.int p0), .val (.int p1), .val (.int p2), .val (.int p3), .val (.int c0), .val (.int c1), .val (.int c2), .val (.int ld), .val (.ref b1), .val (.ref b4), .val (.int (own_p2 ld c0)), .val (.int (own_p0 ld)), .val (.int (own_p2 ld c0)), .unset, .unset, .unset, .unset, .unset, .unset, .unset] [(.int (own_p2 ld c0)), (.ref b1)]
          refine own_st (fun _ k => XS.iloadN X12.here hx rfl (hb hby at_122) rfl k) ?_
          show own_Go X12 (Q0 Z p0 p1 p2 p3 h0 n0) 4 22 123 #[.val (.int p0), .val (.int p1), .val (.int p2), .val (.int p3), .val (.int c0), .val (.int c1), .val (.int c2), .val (.int ld), .val (.ref b1), .val (.ref b4), .val (.int (own_p2 ld c0)), .val (.int (own_p0 ld)), .val (.int (own_p2 ld c0)), .unset, .unset, .unset, .unset, .unset, .unset, .unset] [(.int p0), (.int (own_p2 ld c0)), (.ref b1)]
          refine own_st (fun _ k => XS.iconst X12.here hx rfl (hb hby at_123) k) ?_
          show own_Go X12 (Q0 Z p0 p1 p2 p3 h0 n0) 4 22 124 #[.val (.int p0), .val (.int p1), .val (.int p2), .val (.int p3), .val (.int c0), .val (.int c1), .val (.int c2), .val (.int ld), .val (.ref b1), .val (.ref b4), .val (.int (own_p2 ld c0)), .val (.int (own_p0 ld)), .val (.int (own_p2 ld c0)), .unset, .unset, .unset, .unset, .unset, .unset, .unset] [(.int (1 : Int32)), (.int p0), (.int (own_p2 ld c0)), (.ref b1)]
          refine own_st (fun _ k => XS.iconst X12.here hx rfl (hb hby at_124) k) ?_
          show own_Go X12 (Q0 Z p0 p1 p2 p3 h0 n0) 4 22 125 #[.val (.int p0), .val (.int p1), .val (.int p2), .val (.int p3), .val (.int c0), .val (.int c1), .val (.int c2), .val (.int ld), .val (.ref b1), .val (.ref b4), .val (.int (own_p2 ld c0)), .val (.int (own_p0 ld)), .val (.int (own_p2 ld c0)), .unset, .unset, .unset, .unset, .unset, .unset, .unset] [(.int (0 : Int32)), (.int (1 : Int32)), (.int p0), (.int (own_p2 ld c0)), (.ref b1)]
          refine own_callS (W := 2) X12 hx hZ hown (hw _ (List.mem_of_getElem? (i := 20) rfl)) (hw _ (List.mem_of_getElem? (i := 21) rfl)) (hw _ (List.mem_of_getElem? (i := 22) rfl)) (hw _ (List.mem_of_getElem? (i := 23) rfl)) (by decide) (rm3 l Z a0 hw [] p0 (1 : Int32) (0 : Int32)  h12 n0 Z12 ) (by decide) (by decide) (by rw [hml]; rfl) [(.int p0), (.int (1 : Int32)), (.int (0 : Int32))] [(.int (own_p2 ld c0)), (.ref b1)] (lenOf pd_0_2 rfl) rfl rfl (Nat.le_of_ble_eq_true rfl) (hb hby at_125) e12 (by decide) (by decide) ?_
          rintro _ T93 L93 X93 ⟨rfl, N93q, e93⟩
          have N_94 := Fr.app N12 N93q
          show own_Go X93 (Q0 Z p0 p1 p2 p3 h0 n0) 4 22 128 #[.val (.int p0), .val (.int p1), .val (.int p2), .val (.int p3), .val (.int c0), .val (.int c1), .val (.int c2), .val (.int ld), .val (.ref b1), .val (.ref b4), .val (.int (own_p2 ld c0)), .val (.int (own_p0 ld)), .val (.int (own_p2 ld c0)), .unset, .unset, .unset, .unset, .unset, .unset, .unset] [(.int (own_enc p0 (1 : Int32) (0 : Int32))), (.int (own_p2 ld c0)), (.ref b1)]
          obtain ⟨T95, h95, X95, e95, W95, V95, st95⟩ := own_stI X93 hx hZ e93 f12_0 (j := (own_p2 ld c0)) (own_b2 hdl hd0) (own_in (own_b2 hdl hd0) (own_l2 _ _ _)) (g := (mkF m 128 #[.val (.int p0), .val (.int p1), .val (.int p2), .val (.int p3), .val (.int c0), .val (.int c1), .val (.int c2), .val (.int ld), .val (.ref b1), .val (.ref b4), .val (.int (own_p2 ld c0)), .val (.int (own_p0 ld)), .val (.int (own_p2 ld c0)), .unset, .unset, .unset, .unset, .unset, .unset, .unset] [(.int (own_enc p0 (1 : Int32) (0 : Int32))), (.int (own_p2 ld c0)), (.ref b1)])) rfl rfl (hb hby at_128)
          refine own_st st95 ?_
          have Z_96 := Nat.le_trans Z12 (Nat.le_of_eq W95.size.symm)
          have N_97 := Fr.snoc X95 N_94 G_2
          show own_Go X95 (Q0 Z p0 p1 p2 p3 h0 n0) 4 22 129 #[.val (.int p0), .val (.int p1), .val (.int p2), .val (.int p3), .val (.int c0), .val (.int c1), .val (.int c2), .val (.int ld), .val (.ref b1), .val (.ref b4), .val (.int (own_p2 ld c0)), .val (.int (own_p0 ld)), .val (.int (own_p2 ld c0)), .unset, .unset, .unset, .unset, .unset, .unset, .unset] []
          refine own_st (fun _ k => XS.iinc X95.here hx rfl (hb hby at_129) rfl (l' := #[.val (.int p0), .val (.int p1), .val (.int p2), .val (.int p3), .val (.int c0), .val (.int c1), .val (.int c2), .val (.int ld), .val (.ref b1), .val (.ref b4), .val (.int ((own_p2 ld c0) + (1 : Int32))), .val (.int (own_p0 ld)), .val (.int (own_p2 ld c0)), .unset, .unset, .unset, .unset, .unset, .unset, .unset]) rfl k) ?_
          show own_Go X95 (Q0 Z p0 p1 p2 p3 h0 n0) 4 22 132 #[.val (.int p0), .val (.int p1), .val (.int p2), .val (.int p3), .val (.int c0), .val (.int c1), .val (.int c2), .val (.int ld), .val (.ref b1), .val (.ref b4), .val (.int ((own_p2 ld c0) + (1 : Int32))), .val (.int (own_p0 ld)), .val (.int (own_p2 ld c0)), .unset, .unset, .unset, .unset, .unset, .unset, .unset] []
          exact J132 _ (by unfold own_p3; rw [if_pos c115_92]) _ (by unfold own_v3; rw [if_pos c115_92]) X95 e95 N_97 Z_96 V95
        · skip
          refine own_st (fun _ k => XS.ifYes X12.here hx rfl (pc0 := 115) (pc' := 132) rfl (hb hby at_115) rfl ((if0 _ _).trans (flt c115_92).2.2.2) (by decide) (by decide) k) ?_
          show own_Go X12 (Q0 Z p0 p1 p2 p3 h0 n0) 4 22 132 #[.val (.int p0), .val (.int p1), .val (.int p2), .val (.int p3), .val (.int c0), .val (.int c1), .val (.int c2), .val (.int ld), .val (.ref b1), .val (.ref b4), .val (.int (own_p2 ld c0)), .val (.int (own_p0 ld)), .val (.int (own_p2 ld c0)), .unset, .unset, .unset, .unset, .unset, .unset, .unset] []
          exact J132 _ (by unfold own_p3; rw [if_neg c115_92]) _ (by unfold own_v3; rw [if_neg c115_92]) X12 e12 N12 Z12 f12_0
      refine own_st (fun _ k => XS.iload X11.here hx rfl (hb hby at_89) rfl k) ?_
      show own_Go X11 (Q0 Z p0 p1 p2 p3 h0 n0) 4 22 91 #[.val (.int p0), .val (.int p1), .val (.int p2), .val (.int p3), .val (.int c0), .val (.int c1), .val (.int c2), .val (.int ld), .val (.ref b1), .val (.ref b4), .val (.int (own_p1 ld c0)), .val (.int (own_p0 ld)), .unset, .unset, .unset, .unset, .unset, .unset, .unset, .unset] [(.int c0)]
      refine own_st (fun _ k => XS.iconst X11.here hx rfl (hb hby at_91) k) ?_
      show own_Go X11 (Q0 Z p0 p1 p2 p3 h0 n0) 4 22 92 #[.val (.int p0), .val (.int p1), .val (.int p2), .val (.int p3), .val (.int c0), .val (.int c1), .val (.int c2), .val (.int ld), .val (.ref b1), .val (.ref b4), .val (.int (own_p1 ld c0)), .val (.int (own_p0 ld)), .unset, .unset, .unset, .unset, .unset, .unset, .unset, .unset] [(.int (1 : Int32)), (.int c0)]
      by_cases c92_98 : (1 : Int32) < c0
      · skip
        refine own_st (fun _ k => XS.icmpNo X11.here hx rfl (hb hby at_92) rfl (tlt c92_98).2.2.2 k) ?_
        show own_Go X11 (Q0 Z p0 p1 p2 p3 h0 n0) 4 22 95 #[.val (.int p0), .val (.int p1), .val (.int p2), .val (.int p3), .val (.int c0), .val (.int c1), .val (.int c2), .val (.int ld), .val (.ref b1), .val (.ref b4), .val (.int (own_p1 ld c0)), .val (.int (own_p0 ld)), .unset, .unset, .unset, .unset, .unset, .unset, .unset, .unset] []
        refine own_st (fun _ k => XS.aload X11.here hx rfl (hb hby at_95) rfl rfl k) ?_
        show own_Go X11 (Q0 Z p0 p1 p2 p3 h0 n0) 4 22 97 #[.val (.int p0), .val (.int p1), .val (.int p2), .val (.int p3), .val (.int c0), .val (.int c1), .val (.int c2), .val (.int ld), .val (.ref b1), .val (.ref b4), .val (.int (own_p1 ld c0)), .val (.int (own_p0 ld)), .unset, .unset, .unset, .unset, .unset, .unset, .unset, .unset] [(.ref b1)]
        refine own_st (fun _ k => XS.iload X11.here hx rfl (hb hby at_97) rfl k) ?_
        show own_Go X11 (Q0 Z p0 p1 p2 p3 h0 n0) 4 22 99 #[.val (.int p0), .val (.int p1), .val (.int p2), .val (.int p3), .val (.int c0), .val (.int c1), .val (.int c2), .val (.int ld), .val (.ref b1), .val (.ref b4), .val (.int (own_p1 ld c0)), .val (.int (own_p0 ld)), .unset, .unset, .unset, .unset, .unset, .unset, .unset, .unset] [(.int (own_p1 ld c0)), (.ref b1)]
        refine own_st (fun _ k => XS.iloadN X11.here hx rfl (hb hby at_99) rfl k) ?_
        show own_Go X11 (Q0 Z p0 p1 p2 p3 h0 n0) 4 22 100 #[.val (.int p0), .val (.int p1), .val (.int p2), .val (.int p3), .val (.int c0), .val (.int c1), .val (.int c2), .val (.int ld), .val (.ref b1), .val (.ref b4), .val (.int (own_p1 ld c0)), .val (.int (own_p0 ld)), .unset, .unset, .unset, .unset, .unset, .unset, .unset, .unset] [(.int p0), (.int (own_p1 ld c0)), (.ref b1)]
        refine own_st (fun _ k => XS.iconst X11.here hx rfl (hb hby at_100) k) ?_
        show own_Go X11 (Q0 Z p0 p1 p2 p3 h0 n0) 4 22 101 #[.val (.int p0), .val (.int p1), .val (.int p2), .val (.int p3), .val (.int c0), .val (.int c1), .val (.int c2), .val (.int ld), .val (.ref b1), .val (.ref b4), .val (.int (own_p1 ld c0)), .val (.int (own_p0 ld)), .unset, .unset, .unset, .unset, .unset, .unset, .unset, .unset] [(.int (0 : Int32)), (.int p0), (.int (own_p1 ld c0)), (.ref b1)]
        refine own_st (fun _ k => XS.iconst X11.here hx rfl (hb hby at_101) k) ?_
        show own_Go X11 (Q0 Z p0 p1 p2 p3 h0 n0) 4 22 102 #[.val (.int p0), .val (.int p1), .val (.int p2), .val (.int p3), .val (.int c0), .val (.int c1), .val (.int c2), .val (.int ld), .val (.ref b1), .val (.ref b4), .val (.int (own_p1 ld c0)), .val (.int (own_p0 ld)), .unset, .unset, .unset, .unset, .unset, .unset, .unset, .unset] [(.int (1 : Int32)), (.int (0 : Int32)), (.int p0), (.int (own_p1 ld c0)), (.ref b1)]
        refine own_callS (W := 2) X11 hx hZ hown (hw _ (List.mem_of_getElem? (i := 20) rfl)) (hw _ (List.mem_of_getElem? (i := 21) rfl)) (hw _ (List.mem_of_getElem? (i := 22) rfl)) (hw _ (List.mem_of_getElem? (i := 23) rfl)) (by decide) (rm3 l Z a0 hw [] p0 (0 : Int32) (1 : Int32)  h11 n0 Z11 ) (by decide) (by decide) (by rw [hml]; rfl) [(.int p0), (.int (0 : Int32)), (.int (1 : Int32))] [(.int (own_p1 ld c0)), (.ref b1)] (lenOf pd_0_2 rfl) rfl rfl (Nat.le_of_ble_eq_true rfl) (hb hby at_102) e11 (by decide) (by decide) ?_
        rintro _ T99 L99 X99 ⟨rfl, N99q, e99⟩
        have N_100 := Fr.app N11 N99q
        show own_Go X99 (Q0 Z p0 p1 p2 p3 h0 n0) 4 22 105 #[.val (.int p0), .val (.int p1), .val (.int p2), .val (.int p3), .val (.int c0), .val (.int c1), .val (.int c2), .val (.int ld), .val (.ref b1), .val (.ref b4), .val (.int (own_p1 ld c0)), .val (.int (own_p0 ld)), .unset, .unset, .unset, .unset, .unset, .unset, .unset, .unset] [(.int (own_enc p0 (0 : Int32) (1 : Int32))), (.int (own_p1 ld c0)), (.ref b1)]
        obtain ⟨T101, h101, X101, e101, W101, V101, st101⟩ := own_stI X99 hx hZ e99 f11_0 (j := (own_p1 ld c0)) (own_b1 hdl hd0) (own_in (own_b1 hdl hd0) (own_l1 _ _ _)) (g := (mkF m 105 #[.val (.int p0), .val (.int p1), .val (.int p2), .val (.int p3), .val (.int c0), .val (.int c1), .val (.int c2), .val (.int ld), .val (.ref b1), .val (.ref b4), .val (.int (own_p1 ld c0)), .val (.int (own_p0 ld)), .unset, .unset, .unset, .unset, .unset, .unset, .unset, .unset] [(.int (own_enc p0 (0 : Int32) (1 : Int32))), (.int (own_p1 ld c0)), (.ref b1)])) rfl rfl (hb hby at_105)
        refine own_st st101 ?_
        have Z_102 := Nat.le_trans Z11 (Nat.le_of_eq W101.size.symm)
        have N_103 := Fr.snoc X101 N_100 G_2
        show own_Go X101 (Q0 Z p0 p1 p2 p3 h0 n0) 4 22 106 #[.val (.int p0), .val (.int p1), .val (.int p2), .val (.int p3), .val (.int c0), .val (.int c1), .val (.int c2), .val (.int ld), .val (.ref b1), .val (.ref b4), .val (.int (own_p1 ld c0)), .val (.int (own_p0 ld)), .unset, .unset, .unset, .unset, .unset, .unset, .unset, .unset] []
        refine own_st (fun _ k => XS.iinc X101.here hx rfl (hb hby at_106) rfl (l' := #[.val (.int p0), .val (.int p1), .val (.int p2), .val (.int p3), .val (.int c0), .val (.int c1), .val (.int c2), .val (.int ld), .val (.ref b1), .val (.ref b4), .val (.int ((own_p1 ld c0) + (1 : Int32))), .val (.int (own_p0 ld)), .unset, .unset, .unset, .unset, .unset, .unset, .unset, .unset]) rfl k) ?_
        show own_Go X101 (Q0 Z p0 p1 p2 p3 h0 n0) 4 22 109 #[.val (.int p0), .val (.int p1), .val (.int p2), .val (.int p3), .val (.int c0), .val (.int c1), .val (.int c2), .val (.int ld), .val (.ref b1), .val (.ref b4), .val (.int ((own_p1 ld c0) + (1 : Int32))), .val (.int (own_p0 ld)), .unset, .unset, .unset, .unset, .unset, .unset, .unset, .unset] []
        exact J109 _ (by unfold own_p2; rw [if_pos c92_98]) _ (by unfold own_v2; rw [if_pos c92_98]) X101 e101 N_103 Z_102 V101
      · skip
        refine own_st (fun _ k => XS.icmpYes X11.here hx rfl (pc0 := 92) (pc' := 109) rfl (hb hby at_92) rfl (flt c92_98).2.2.2 (by decide) (by decide) k) ?_
        show own_Go X11 (Q0 Z p0 p1 p2 p3 h0 n0) 4 22 109 #[.val (.int p0), .val (.int p1), .val (.int p2), .val (.int p3), .val (.int c0), .val (.int c1), .val (.int c2), .val (.int ld), .val (.ref b1), .val (.ref b4), .val (.int (own_p1 ld c0)), .val (.int (own_p0 ld)), .unset, .unset, .unset, .unset, .unset, .unset, .unset, .unset] []
        exact J109 _ (by unfold own_p2; rw [if_neg c92_98]) _ (by unfold own_v2; rw [if_neg c92_98]) X11 e11 N11 Z11 f11_0
    refine own_st (fun _ k => XS.iload X10.here hx rfl (hb hby at_70) rfl k) ?_
    show own_Go X10 (Q0 Z p0 p1 p2 p3 h0 n0) 4 22 72 #[.val (.int p0), .val (.int p1), .val (.int p2), .val (.int p3), .val (.int c0), .val (.int c1), .val (.int c2), .val (.int ld), .val (.ref b1), .val (.ref b4), .val (.int (own_p0 ld)), .val (.int (own_p0 ld)), .unset, .unset, .unset, .unset, .unset, .unset, .unset, .unset] [(.int c0)]
    by_cases c72_104 : (0 : Int32) < c0
    · skip
      refine own_st (fun _ k => XS.ifNo X10.here hx rfl (hb hby at_72) rfl ((if0 _ _).trans (tlt c72_104).2.2.2) k) ?_
      show own_Go X10 (Q0 Z p0 p1 p2 p3 h0 n0) 4 22 75 #[.val (.int p0), .val (.int p1), .val (.int p2), .val (.int p3), .val (.int c0), .val (.int c1), .val (.int c2), .val (.int ld), .val (.ref b1), .val (.ref b4), .val (.int (own_p0 ld)), .val (.int (own_p0 ld)), .unset, .unset, .unset, .unset, .unset, .unset, .unset, .unset] []
      refine own_st (fun _ k => XS.aload X10.here hx rfl (hb hby at_75) rfl rfl k) ?_
      show own_Go X10 (Q0 Z p0 p1 p2 p3 h0 n0) 4 22 77 #[.val (.int p0), .val (.int p1), .val (.int p2), .val (.int p3), .val (.int c0), .val (.int c1), .val (.int c2), .val (.int ld), .val (.ref b1), .val (.ref b4), .val (.int (own_p0 ld)), .val (.int (own_p0 ld)), .unset, .unset, .unset, .unset, .unset, .unset, .unset, .unset] [(.ref b1)]
      refine own_st (fun _ k => XS.iload X10.here hx rfl (hb hby at_77) rfl k) ?_
      show own_Go X10 (Q0 Z p0 p1 p2 p3 h0 n0) 4 22 79 #[.val (.int p0), .val (.int p1), .val (.int p2), .val (.int p3), .val (.int c0), .val (.int c1), .val (.int c2), .val (.int ld), .val (.ref b1), .val (.ref b4), .val (.int (own_p0 ld)), .val (.int (own_p0 ld)), .unset, .unset, .unset, .unset, .unset, .unset, .unset, .unset] [(.int (own_p0 ld)), (.ref b1)]
      refine own_st (fun _ k => XS.iloadN X10.here hx rfl (hb hby at_79) rfl k) ?_
      show own_Go X10 (Q0 Z p0 p1 p2 p3 h0 n0) 4 22 80 #[.val (.int p0), .val (.int p1), .val (.int p2), .val (.int p3), .val (.int c0), .val (.int c1), .val (.int c2), .val (.int ld), .val (.ref b1), .val (.ref b4), .val (.int (own_p0 ld)), .val (.int (own_p0 ld)), .unset, .unset, .unset, .unset, .unset, .unset, .unset, .unset] [(.int p0), (.int (own_p0 ld)), (.ref b1)]
      refine own_st (fun _ k => XS.iconst X10.here hx rfl (hb hby at_80) k) ?_
      show own_Go X10 (Q0 Z p0 p1 p2 p3 h0 n0) 4 22 81 #[.val (.int p0), .val (.int p1), .val (.int p2), .val (.int p3), .val (.int c0), .val (.int c1), .val (.int c2), .val (.int ld), .val (.ref b1), .val (.ref b4), .val (.int (own_p0 ld)), .val (.int (own_p0 ld)), .unset, .unset, .unset, .unset, .unset, .unset, .unset, .unset] [(.int (0 : Int32)), (.int p0), (.int (own_p0 ld)), (.ref b1)]
      refine own_st (fun _ k => XS.iconst X10.here hx rfl (hb hby at_81) k) ?_
      show own_Go X10 (Q0 Z p0 p1 p2 p3 h0 n0) 4 22 82 #[.val (.int p0), .val (.int p1), .val (.int p2), .val (.int p3), .val (.int c0), .val (.int c1), .val (.int c2), .val (.int ld), .val (.ref b1), .val (.ref b4), .val (.int (own_p0 ld)), .val (.int (own_p0 ld)), .unset, .unset, .unset, .unset, .unset, .unset, .unset, .unset] [(.int (0 : Int32)), (.int (0 : Int32)), (.int p0), (.int (own_p0 ld)), (.ref b1)]
      refine own_callS (W := 2) X10 hx hZ hown (hw _ (List.mem_of_getElem? (i := 20) rfl)) (hw _ (List.mem_of_getElem? (i := 21) rfl)) (hw _ (List.mem_of_getElem? (i := 22) rfl)) (hw _ (List.mem_of_getElem? (i := 23) rfl)) (by decide) (rm3 l Z a0 hw [] p0 (0 : Int32) (0 : Int32)  h10 n0 Z10 ) (by decide) (by decide) (by rw [hml]; rfl) [(.int p0), (.int (0 : Int32)), (.int (0 : Int32))] [(.int (own_p0 ld)), (.ref b1)] (lenOf pd_0_2 rfl) rfl rfl (Nat.le_of_ble_eq_true rfl) (hb hby at_82) e10 (by decide) (by decide) ?_
      rintro _ T105 L105 X105 ⟨rfl, N105q, e105⟩
      have N_106 := Fr.app N10 N105q
      show own_Go X105 (Q0 Z p0 p1 p2 p3 h0 n0) 4 22 85 #[.val (.int p0), .val (.int p1), .val (.int p2), .val (.int p3), .val (.int c0), .val (.int c1), .val (.int c2), .val (.int ld), .val (.ref b1), .val (.ref b4), .val (.int (own_p0 ld)), .val (.int (own_p0 ld)), .unset, .unset, .unset, .unset, .unset, .unset, .unset, .unset] [(.int (own_enc p0 (0 : Int32) (0 : Int32))), (.int (own_p0 ld)), (.ref b1)]
      obtain ⟨T107, h107, X107, e107, W107, V107, st107⟩ := own_stI X105 hx hZ e105 f10_0 (j := (own_p0 ld)) (own_b0 hdl) (own_in (own_b0 hdl) (own_l0 _ _)) (g := (mkF m 85 #[.val (.int p0), .val (.int p1), .val (.int p2), .val (.int p3), .val (.int c0), .val (.int c1), .val (.int c2), .val (.int ld), .val (.ref b1), .val (.ref b4), .val (.int (own_p0 ld)), .val (.int (own_p0 ld)), .unset, .unset, .unset, .unset, .unset, .unset, .unset, .unset] [(.int (own_enc p0 (0 : Int32) (0 : Int32))), (.int (own_p0 ld)), (.ref b1)])) rfl rfl (hb hby at_85)
      refine own_st st107 ?_
      have Z_108 := Nat.le_trans Z10 (Nat.le_of_eq W107.size.symm)
      have N_109 := Fr.snoc X107 N_106 G_2
      show own_Go X107 (Q0 Z p0 p1 p2 p3 h0 n0) 4 22 86 #[.val (.int p0), .val (.int p1), .val (.int p2), .val (.int p3), .val (.int c0), .val (.int c1), .val (.int c2), .val (.int ld), .val (.ref b1), .val (.ref b4), .val (.int (own_p0 ld)), .val (.int (own_p0 ld)), .unset, .unset, .unset, .unset, .unset, .unset, .unset, .unset] []
      refine own_st (fun _ k => XS.iinc X107.here hx rfl (hb hby at_86) rfl (l' := #[.val (.int p0), .val (.int p1), .val (.int p2), .val (.int p3), .val (.int c0), .val (.int c1), .val (.int c2), .val (.int ld), .val (.ref b1), .val (.ref b4), .val (.int ((own_p0 ld) + (1 : Int32))), .val (.int (own_p0 ld)), .unset, .unset, .unset, .unset, .unset, .unset, .unset, .unset]) rfl k) ?_
      show own_Go X107 (Q0 Z p0 p1 p2 p3 h0 n0) 4 22 89 #[.val (.int p0), .val (.int p1), .val (.int p2), .val (.int p3), .val (.int c0), .val (.int c1), .val (.int c2), .val (.int ld), .val (.ref b1), .val (.ref b4), .val (.int ((own_p0 ld) + (1 : Int32))), .val (.int (own_p0 ld)), .unset, .unset, .unset, .unset, .unset, .unset, .unset, .unset] []
      exact J89 _ (by unfold own_p1; rw [if_pos c72_104]) _ (by unfold own_v1; rw [if_pos c72_104]) X107 e107 N_109 Z_108 V107
    · skip
      refine own_st (fun _ k => XS.ifYes X10.here hx rfl (pc0 := 72) (pc' := 89) rfl (hb hby at_72) rfl ((if0 _ _).trans (flt c72_104).2.2.2) (by decide) (by decide) k) ?_
      show own_Go X10 (Q0 Z p0 p1 p2 p3 h0 n0) 4 22 89 #[.val (.int p0), .val (.int p1), .val (.int p2), .val (.int p3), .val (.int c0), .val (.int c1), .val (.int c2), .val (.int ld), .val (.ref b1), .val (.ref b4), .val (.int (own_p0 ld)), .val (.int (own_p0 ld)), .unset, .unset, .unset, .unset, .unset, .unset, .unset, .unset] []
      exact J89 _ (by unfold own_p1; rw [if_neg c72_104]) _ (by unfold own_v1; rw [if_neg c72_104]) X10 e10 N10 Z10 f10_0
  refine own_st (fun _ k => XS.iload X4.here hx rfl (hb hby at_48) rfl k) ?_
  show own_Go X4 (Q0 Z p0 p1 p2 p3 h0 n0) 4 22 50 #[.val (.int p0), .val (.int p1), .val (.int p2), .val (.int p3), .val (.int c0), .val (.int c1), .val (.int c2), .val (.int ld), .val (.ref b1), .val (.ref b4), .val (.int (0 : Int32)), .unset, .unset, .unset, .unset, .unset, .unset, .unset, .unset, .unset] [(.int ld)]
  refine own_st (fun _ k => XS.iconst X4.here hx rfl (hb hby at_50) k) ?_
  show own_Go X4 (Q0 Z p0 p1 p2 p3 h0 n0) 4 22 51 #[.val (.int p0), .val (.int p1), .val (.int p2), .val (.int p3), .val (.int c0), .val (.int c1), .val (.int c2), .val (.int ld), .val (.ref b1), .val (.ref b4), .val (.int (0 : Int32)), .unset, .unset, .unset, .unset, .unset, .unset, .unset, .unset, .unset] [(.int (1 : Int32)), (.int ld)]
  by_cases c51_110 : ld = (1 : Int32)
  · skip
    refine own_st (fun _ k => XS.icmpNo X4.here hx rfl (hb hby at_51) rfl (teq c51_110).2 k) ?_
    show own_Go X4 (Q0 Z p0 p1 p2 p3 h0 n0) 4 22 54 #[.val (.int p0), .val (.int p1), .val (.int p2), .val (.int p3), .val (.int c0), .val (.int c1), .val (.int c2), .val (.int ld), .val (.ref b1), .val (.ref b4), .val (.int (0 : Int32)), .unset, .unset, .unset, .unset, .unset, .unset, .unset, .unset, .unset] []
    refine own_st (fun _ k => XS.aload X4.here hx rfl (hb hby at_54) rfl rfl k) ?_
    show own_Go X4 (Q0 Z p0 p1 p2 p3 h0 n0) 4 22 56 #[.val (.int p0), .val (.int p1), .val (.int p2), .val (.int p3), .val (.int c0), .val (.int c1), .val (.int c2), .val (.int ld), .val (.ref b1), .val (.ref b4), .val (.int (0 : Int32)), .unset, .unset, .unset, .unset, .unset, .unset, .unset, .unset, .unset] [(.ref b1)]
    refine own_st (fun _ k => XS.iload X4.here hx rfl (hb hby at_56) rfl k) ?_
    show own_Go X4 (Q0 Z p0 p1 p2 p3 h0 n0) 4 22 58 #[.val (.int p0), .val (.int p1), .val (.int p2), .val (.int p3), .val (.int c0), .val (.int c1), .val (.int c2), .val (.int ld), .val (.ref b1), .val (.ref b4), .val (.int (0 : Int32)), .unset, .unset, .unset, .unset, .unset, .unset, .unset, .unset, .unset] [(.int (0 : Int32)), (.ref b1)]
    refine own_st (fun _ k => XS.iloadN X4.here hx rfl (hb hby at_58) rfl k) ?_
    show own_Go X4 (Q0 Z p0 p1 p2 p3 h0 n0) 4 22 59 #[.val (.int p0), .val (.int p1), .val (.int p2), .val (.int p3), .val (.int c0), .val (.int c1), .val (.int c2), .val (.int ld), .val (.ref b1), .val (.ref b4), .val (.int (0 : Int32)), .unset, .unset, .unset, .unset, .unset, .unset, .unset, .unset, .unset] [(.int p0), (.int (0 : Int32)), (.ref b1)]
    refine own_st (fun _ k => XS.bipush X4.here hx rfl (hb hby at_59) k) ?_
    show own_Go X4 (Q0 Z p0 p1 p2 p3 h0 n0) 4 22 61 #[.val (.int p0), .val (.int p1), .val (.int p2), .val (.int p3), .val (.int c0), .val (.int c1), .val (.int c2), .val (.int ld), .val (.ref b1), .val (.ref b4), .val (.int (0 : Int32)), .unset, .unset, .unset, .unset, .unset, .unset, .unset, .unset, .unset] [(.int (100 : Int32)), (.int p0), (.int (0 : Int32)), (.ref b1)]
    refine own_st (fun _ k => XS.iadd X4.here hx rfl (hb hby at_61) rfl k) ?_
    show own_Go X4 (Q0 Z p0 p1 p2 p3 h0 n0) 4 22 62 #[.val (.int p0), .val (.int p1), .val (.int p2), .val (.int p3), .val (.int c0), .val (.int c1), .val (.int c2), .val (.int ld), .val (.ref b1), .val (.ref b4), .val (.int (0 : Int32)), .unset, .unset, .unset, .unset, .unset, .unset, .unset, .unset, .unset] [(.int (p0 + (100 : Int32))), (.int (0 : Int32)), (.ref b1)]
    obtain ⟨T111, h111, X111, e111, W111, V111, st111⟩ := own_stI X4 hx hZ e4 f_7 (j := (0 : Int32)) ⟨by decide, by decide⟩ (Nat.le_of_ble_eq_true rfl) (g := (mkF m 62 #[.val (.int p0), .val (.int p1), .val (.int p2), .val (.int p3), .val (.int c0), .val (.int c1), .val (.int c2), .val (.int ld), .val (.ref b1), .val (.ref b4), .val (.int (0 : Int32)), .unset, .unset, .unset, .unset, .unset, .unset, .unset, .unset, .unset] [(.int (p0 + (100 : Int32))), (.int (0 : Int32)), (.ref b1)])) rfl rfl (hb hby at_62)
    refine own_st st111 ?_
    have f_112 := V_9.other W111 (Ne.symm ne_5)
    have Z_113 := Nat.le_trans Z_8 (Nat.le_of_eq W111.size.symm)
    have U111 : Arv Z h111 b1 k1 .int (7 : Int32) [(.int (p0 + (100 : Int32))), (.int (0 : Int32)), (.int (0 : Int32)), (.int (0 : Int32)), (.int (0 : Int32)), (.int (0 : Int32)), (.int (0 : Int32))] (.int (0 : Int32)) := V111
    have N_114 := Fr.snoc X111 N0 G_2
    show own_Go X111 (Q0 Z p0 p1 p2 p3 h0 n0) 4 22 63 #[.val (.int p0), .val (.int p1), .val (.int p2), .val (.int p3), .val (.int c0), .val (.int c1), .val (.int c2), .val (.int ld), .val (.ref b1), .val (.ref b4), .val (.int (0 : Int32)), .unset, .unset, .unset, .unset, .unset, .unset, .unset, .unset, .unset] []
    refine own_st (fun _ k => XS.iinc X111.here hx rfl (hb hby at_63) rfl (l' := #[.val (.int p0), .val (.int p1), .val (.int p2), .val (.int p3), .val (.int c0), .val (.int c1), .val (.int c2), .val (.int ld), .val (.ref b1), .val (.ref b4), .val (.int (1 : Int32)), .unset, .unset, .unset, .unset, .unset, .unset, .unset, .unset, .unset]) rfl k) ?_
    show own_Go X111 (Q0 Z p0 p1 p2 p3 h0 n0) 4 22 66 #[.val (.int p0), .val (.int p1), .val (.int p2), .val (.int p3), .val (.int c0), .val (.int c1), .val (.int c2), .val (.int ld), .val (.ref b1), .val (.ref b4), .val (.int (1 : Int32)), .unset, .unset, .unset, .unset, .unset, .unset, .unset, .unset, .unset] []
    exact J66 _ (by unfold own_p0; rw [if_pos c51_110]) _ (by unfold own_v0; rw [if_pos c51_110]) X111 e111 N_114 Z_113 U111
  · skip
    refine own_st (fun _ k => XS.icmpYes X4.here hx rfl (pc0 := 51) (pc' := 66) rfl (hb hby at_51) rfl (feq c51_110).2 (by decide) (by decide) k) ?_
    show own_Go X4 (Q0 Z p0 p1 p2 p3 h0 n0) 4 22 66 #[.val (.int p0), .val (.int p1), .val (.int p2), .val (.int p3), .val (.int c0), .val (.int c1), .val (.int c2), .val (.int ld), .val (.ref b1), .val (.ref b4), .val (.int (0 : Int32)), .unset, .unset, .unset, .unset, .unset, .unset, .unset, .unset, .unset] []
    exact J66 _ (by unfold own_p0; rw [if_neg c51_110]) _ (by unfold own_v0; rw [if_neg c51_110]) X4 e4 N0 Z_8 f_7
set_option maxRecDepth 65536 in
set_option maxHeartbeats 40000000 in
theorem comes_1 {Post : Tables → Env → Array Value → State → Outcome → State → Prop} (hpost : ∀ tb e args s v u, (limb_1_1.after args s (.returned v) u = true ∧ limb_1_2.after args s (.returned v) u = true ∧ True) → FrameEnd s (.returned v) u (Jvm.fieldLocs frame_1_writes args s ++ Jvm.arrayLocs frame_1_arrays args s ++ Jvm.staticLocs frame_1_statics s) 16 128 → Post tb e args s (.returned v) u) :
    ArmFor flags0 classFile x code maxLocals ret World_1 tables_1 room_1 Calls_1 rest_1 Pre_1 Post := by
  intro l hfl _ _ p e ha hc hk s m args below hf hA hF happ hP
  obtain ⟨hcalls, hrest, hpre⟩ := hP
  obtain ⟨-, -, -, hnamed, -, -, -, hat⟩ := (Spec.applies_iff hf).mp happ
  obtain ⟨hg, hn⟩ := and_e (Cond.before_iff.mp (show (Jvm.Cond.and given_1 narrow_1).before args s = true from hpre))
  obtain ⟨g1, g2⟩ := and_e hg
  obtain ⟨g3, g4⟩ := and_e g2
  obtain ⟨g5, g6⟩ := and_e g4
  obtain ⟨g7, g8⟩ := and_e g6
  obtain ⟨w0, w1, w2, w3, rfl⟩ : ∃ w0 w1 w2 w3 : Value, args = #[w0, w1, w2, w3] := by
    have hs : args.size = 4 := by simpa [Cond.value, given_1] using g1
    obtain ⟨L⟩ := args
    match L, hs with
    | [w0, w1, w2, w3], _ => exact ⟨w0, w1, w2, w3, rfl⟩
  have hw := fun d (hd : d ∈ tables_1) => atoms_spec (ws := Jvm.Cond.code x code maxLocals ret :: tables_1) hat d (List.mem_cons_of_mem _ hd)
  obtain ⟨i0, ei0⟩ := is_v g3
  obtain rfl : w0 = (.int i0) := Option.some.inj ei0
  obtain ⟨i1, ei1⟩ := is_v g5
  obtain rfl : w1 = (.int i1) := Option.some.inj ei1
  obtain ⟨i2, ei2⟩ := is_v g7
  obtain rfl : w2 = (.int i2) := Option.some.inj ei2
  obtain ⟨i3, ei3⟩ := is_v g8
  obtain rfl : w3 = (.int i3) := Option.some.inj ei3
  obtain ⟨n, o, h1, h2, h3, _, L, rfl, ⟨rfl, N⟩, hq⟩ := rm0 l s _ hw tables_1 i0 i1 i2 i3 s.heap s.heap.size (Nat.le_refl _) p e ha hc hk s m _ below hf ((Spec.applies_iff_loose hf).mp happ).1 ⟨rfl, State.Warmed39.refl s, rfl⟩ trivial
  refine ⟨n, _, h1, h2, h3, hpost _ _ _ _ _ _ ⟨Cond.after_iff.mpr rfl, Cond.after_iff.mpr (eq_i res_at (Term.int_eval (1)) rfl), trivial⟩ ⟨hq.1, hq.2.1, (hq.2.2.sift fun y hy => Or.inr (N y hy)).mono (by decide) (by decide)⟩⟩
theorem main_1_1 : Claimed_1_1 := comes_1 fun _ _ _ _ _ _ h hF => ⟨h.1, hF⟩
theorem main_1_2 : Claimed_1_2 := comes_1 fun _ _ _ _ _ _ h hF => ⟨h.2.1, hF⟩
end Jvm.Pilot.@@N@@
namespace Jvm.Pilot.@@N@@
open Jvm Jvm.ClassFile Sem Op Lib Jvm.Free Jvm.Stand Jvm.Pilot.@@N@@.Jvm.D
/-! MADE BY PROGRAM (witnessworld.py) out of the Statement's table words and the real class files: 9 classes; the members and pool entries that the words name. The judged class is class 1, her method 2. -/
namespace start1
open Jvm.ClassFile
def u (s : String) : CpInfo := .utf8 (stringToUtf16 s)
/-- a pool by its gaps: so many unusable entries, then the entry; so many at the end -/
def gap : Nat → List CpInfo → List CpInfo
  | 0, r => r
  | n + 1, r => .unusable :: gap n r
def poolList (es : List (Nat × CpInfo)) (last : Nat) : List CpInfo := es.foldr (fun e r => gap e.1 (e.2 :: r)) (gap last [])
def pool (es : List (Nat × CpInfo)) (last : Nat) : Array CpInfo := ⟨poolList es last⟩
def fileOf (pool : Array CpInfo) (this : Nat) (attrs : Array Attribute := #[]) (ms : Array MethodInfo := #[]) (fl : Nat := 33) (sup : Nat := 0) (ifs : Array Nat := #[]) (fds : Array FieldInfo := #[]) : ClassFile where
  minorVersion := 0
  majorVersion := 65
  constantPool := pool
  accessFlags := fl
  thisClass := this
  superClass := sup
  interfaces := ifs
  fields := fds
  methods := ms
  attributes := attrs
def plain (name : String) (sup : Option ClassId) : Class where
  name := name
  kind := .ordinary
  loader := none
  accessFlags := 33
  super := sup
  interfaces := #[]
  cf := none
  fields := #[]
  methods := #[]
  instanceTypes := #[]
  staticTypes := #[]
  resolved := #[]
  callSites := []
  init := .initialized
  statics := none
  mirror := none

def pool0 : Array CpInfo := pool [(5, u "<init>"), (0, u "()V"), (1, .class_ 10), (1, u "java/lang/Object")] 113

def k0c0 : Code := { maxStack := 0, maxLocals := 1, code := object_method_1_code, exceptionTable := #[], attributes := #[] }
def k0m0 : Method := { name := "<init>", desc := "()V", sig := { parameters := [], returnType := none }, accessFlags := 1, code := some k0c0 }
/-- java/lang/Object -/
def k0 : Class := { plain "java/lang/Object" none with
  accessFlags := 33
  interfaces := #[]
  cf := some (fileOf pool0 8 #[] #[{ accessFlags := 1, nameIndex := 5, descriptorIndex := 6, attributes := #[] }] 33 0 #[] #[])
  fields := #[]
  methods := #[k0m0]
  instanceTypes := #[]
  staticTypes := #[]
  resolved := Array.replicate 124 none
  statics := none }

def pool1 : Array CpInfo := pool [(2, .class_ 4), (1, u "java/lang/Object"), (0, u "<init>"), (0, u "()V"), (0, .methodref 8 9), (0, .class_ 10), (0, .nameAndType 11 12), (0, u "com/example/bulk_retrieval/bulkretrieval/index/NeighboursDocumentPinLaw"), (0, u "enc"), (0, u "(III)I"), (0, .class_ 14), (0, u "com/example/bulk_retrieval/bulkretrieval/index/Neighbours"), (0, .methodref 13 16), (0, .nameAndType 5 17), (0, u "(I[I[I[D)V"), (0, .integer 2147483647), (0, .methodref 13 20), (0, .nameAndType 21 22), (0, u "document"), (0, u "(II)I"), (2, u "law"), (0, u "(IIII)Z")] 7

def k1m0 : Method := { name := "<init>", desc := "()V", sig := { parameters := [], returnType := none }, accessFlags := 1, code := none }
def k1c1 : Code := { maxStack := 3, maxLocals := 3, code := method_2_code, exceptionTable := #[], attributes := #[] }
def k1m1 : Method := { name := "enc", desc := "(III)I", sig := { parameters := [.int, .int, .int], returnType := some .int }, accessFlags := 10, code := some k1c1 }
def k1c2 : Code := { maxStack := 6, maxLocals := 20, code := code, exceptionTable := #[], attributes := #[] }
def k1m2 : Method := { name := "law", desc := "(IIII)Z", sig := { parameters := [.int, .int, .int, .int], returnType := some .boolean }, accessFlags := 9, code := some k1c2 }
/-- com/example/bulk_retrieval/bulkretrieval/index/NeighboursDocumentPinLaw -/
def k1 : Class := { plain "com/example/bulk_retrieval/bulkretrieval/index/NeighboursDocumentPinLaw" (some 0) with
  accessFlags := 49
  interfaces := #[]
  cf := some (fileOf pool1 8 #[] #[{ accessFlags := 1, nameIndex := 5, descriptorIndex := 6, attributes := #[] }, { accessFlags := 10, nameIndex := 11, descriptorIndex := 12, attributes := #[] }, { accessFlags := 9, nameIndex := 25, descriptorIndex := 26, attributes := #[] }] 49 2 #[] #[])
  fields := #[]
  methods := #[k1m0, k1m1, k1m2]
  instanceTypes := #[]
  staticTypes := #[]
  resolved := Array.replicate 34 none
  statics := none }

def pool2 : Array CpInfo := pool [(1, .methodref 2 3), (0, .class_ 4), (0, .nameAndType 5 6), (0, u "java/lang/Object"), (0, u "<init>"), (0, u "()V"), (0, .fieldref 8 9), (0, .class_ 10), (0, .nameAndType 11 12), (0, u "com/example/bulk_retrieval/bulkretrieval/index/Neighbours"), (0, u "limit"), (0, u "I"), (0, .fieldref 8 14), (0, .nameAndType 15 16), (0, u "starts"), (0, u "[I"), (0, .fieldref 8 18), (0, .nameAndType 19 16), (0, u "documents"), (0, .fieldref 8 21), (0, .nameAndType 22 23), (0, u "similarities"), (0, u "[D"), (0, u "MOST"), (2, u "POSTINGS_BUDGET"), (1, u "(I[I[I[D)V"), (5, u "document"), (0, u "(II)I")] 4

def k2c0 : Code := { maxStack := 2, maxLocals := 5, code := prog_40_method_1_code, exceptionTable := #[], attributes := #[] }
def k2m0 : Method := { name := "<init>", desc := "(I[I[I[D)V", sig := { parameters := [.int, (.array .int), (.array .int), (.array .double)], returnType := none }, accessFlags := 0, code := some k2c0 }
def k2c1 : Code := { maxStack := 3, maxLocals := 3, code := prog_40_method_4_code, exceptionTable := #[], attributes := #[] }
def k2m1 : Method := { name := "document", desc := "(II)I", sig := { parameters := [.int, .int], returnType := some .int }, accessFlags := 1, code := some k2c1 }
/-- com/example/bulk_retrieval/bulkretrieval/index/Neighbours -/
def k2 : Class := { plain "com/example/bulk_retrieval/bulkretrieval/index/Neighbours" (some 0) with
  accessFlags := 33
  interfaces := #[]
  cf := some (fileOf pool2 8 #[] #[{ accessFlags := 0, nameIndex := 5, descriptorIndex := 29, attributes := #[] }, { accessFlags := 1, nameIndex := 35, descriptorIndex := 36, attributes := #[] }] 33 2 #[] #[{ accessFlags := 25, nameIndex := 24, descriptorIndex := 12, attributes := #[] }, { accessFlags := 25, nameIndex := 27, descriptorIndex := 12, attributes := #[] }, { accessFlags := 18, nameIndex := 11, descriptorIndex := 12, attributes := #[] }, { accessFlags := 18, nameIndex := 15, descriptorIndex := 16, attributes := #[] }, { accessFlags := 18, nameIndex := 19, descriptorIndex := 16, attributes := #[] }, { accessFlags := 18, nameIndex := 22, descriptorIndex := 23, attributes := #[] }])
  fields := #[{ name := "MOST", type := .int, accessFlags := 25, slot := 0, constantValue := 0 }, { name := "POSTINGS_BUDGET", type := .int, accessFlags := 25, slot := 1, constantValue := 0 }, { name := "limit", type := .int, accessFlags := 18, slot := 0, constantValue := 0 }, { name := "starts", type := (.array .int), accessFlags := 18, slot := 1, constantValue := 0 }, { name := "documents", type := (.array .int), accessFlags := 18, slot := 2, constantValue := 0 }, { name := "similarities", type := (.array .double), accessFlags := 18, slot := 3, constantValue := 0 }]
  methods := #[k2m0, k2m1]
  instanceTypes := #[.int, (.array .int), (.array .int), (.array .double)]
  staticTypes := #[.int, .int]
  resolved := Array.replicate 41 none
  statics := none }

def pool3 : Array CpInfo := pool [(1, u "java/lang/Cloneable"), (0, .class_ 1), (0, u "java/lang/Object"), (0, .class_ 3)] 3

/-- java/lang/Cloneable -/
def k3 : Class := { plain "java/lang/Cloneable" (some 0) with
  accessFlags := 1537
  interfaces := #[]
  cf := some (fileOf pool3 2 #[] #[] 1537 4 #[] #[])
  fields := #[]
  methods := #[]
  instanceTypes := #[]
  staticTypes := #[]
  resolved := Array.replicate 8 none
  statics := none }

def pool4 : Array CpInfo := pool [(1, u "java/io/Serializable"), (0, .class_ 1), (0, u "java/lang/Object"), (0, .class_ 3)] 3

/-- java/io/Serializable -/
def k4 : Class := { plain "java/io/Serializable" (some 0) with
  accessFlags := 1537
  interfaces := #[]
  cf := some (fileOf pool4 2 #[] #[] 1537 4 #[] #[])
  fields := #[]
  methods := #[]
  instanceTypes := #[]
  staticTypes := #[]
  resolved := Array.replicate 8 none
  statics := none }

/-- the primitive byte -/
def k5 : Class := { plain "byte" none with kind := .primitive 'B', accessFlags := 0x411 }
/-- [B -/
def k6 : Class := { plain "[B" (some 0) with kind := .array 5 .byte, interfaces := #[3, 4], accessFlags := 1041 }

/-- the primitive int -/
def k7 : Class := { plain "int" none with kind := .primitive 'I', accessFlags := 0x411 }
/-- [I -/
def k8 : Class := { plain "[I" (some 0) with kind := .array 7 .int, interfaces := #[3, 4], accessFlags := 1041 }

/-- the primitive double -/
def k9 : Class := { plain "double" none with kind := .primitive 'D', accessFlags := 0x411 }
/-- [D -/
def k10 : Class := { plain "[D" (some 0) with kind := .array 9 .double, interfaces := #[3, 4], accessFlags := 1041 }

def heap : Heap := #[]
def classes : Array Class := #[k0, k1, k2, k3, k4, k5, k6, k7, k8, k9, k10]
def interned : List (Array UInt16 × Addr) := []
def slotsUsed : Nat := 0
def theMethod : MethodId := ⟨1, 2⟩
def args0 : Array Value := #[.int 5, .int 7, .int 9, .int 11]
def aboutOver (below : List Frame) : State where
  vm := { classes := classes, interned := interned.toArray }
  heap := heap
  slotsUsed := slotsUsed
  threads := #[{ frames := .invoking theMethod args0 :: below }]
def below0 : List Frame := [.native { method := ⟨0, 0⟩, args := #[] }]
def about1 : State := aboutOver below0
def p0 : Program := .bare "" "" ""
def e0 : Env := launch0.env 0 0 0
theorem w_frames : about1.frames = Frame.invoking theMethod args0 :: below0 := rfl
set_option maxRecDepth 65536 in
theorem w_args : argsFit about1.vm theMethod args0 = true := by decide +kernel
set_option maxRecDepth 65536 in
theorem w_heap : heapFits about1 = true := by decide +kernel
set_option maxRecDepth 65536 in
theorem w_runnable : about1.curStatus? = some .runnable := by decide +kernel
set_option maxRecDepth 65536 in
theorem w_alone : about1.alone = true := by decide +kernel
set_option maxRecDepth 65536 in
theorem w_named : about1.methodNamed? x = some theMethod := by decide +kernel
set_option maxRecDepth 65536 in
theorem w_hears : about1.hears theMethod below0 = true := by decide +kernel
set_option maxRecDepth 65536 in
theorem w_ripe : about1.ripe theMethod args0 below0 = true := by decide +kernel
theorem w_running : about1.status = .running := rfl
set_option maxRecDepth 65536 in
theorem w_room : about1.hasRoom e0.platform room_1 = true :=
  launch0.hasRoom_least _ room_1 (by decide +kernel) (by decide +kernel) (by decide +kernel) (by decide +kernel) (by decide +kernel) (by decide +kernel)
theorem allAtoms_all (ts : List Jvm.Cond) (a : Array Jvm.Value) (st : Jvm.State) : (allAtoms ts).before a st = ts.all (fun c => c.before a st) := by
  induction ts with
  | nil => rfl
  | cons c t ih =>
    show (Jvm.Cond.and c (allAtoms t)).before a st = _
    rw [Jvm.Cond.before_and, ih, List.all_cons]
def words1 : List Jvm.Cond := Jvm.Cond.code x code maxLocals ret :: tables_1
/-- a 'code' word, met by the world's own term for the bytes: nothing is compared byte by byte -/
theorem code_word {y : MethodName} {bytes : ByteArray} {mx : Nat} {rt : Option FieldType} {a : Array Value} {s : State} {m : MethodId} {meth : Method} {c : Code} (h1 : s.methodNamed? y = some m) (h2 : s.vm.method? m = some meth) (h3 : meth.code = some c) (h4 : c.code = bytes)
    (h5 : (c.maxLocals == mx && c.exceptionTable.isEmpty && decide (c.maxStack ≤ mostOperands) && decide (meth.sig.returnType = rt) && !meth.locks && decide (parseMethodDescriptor y.desc = some meth.sig)) = true) : (Jvm.Cond.code y bytes mx rt).before a s = true := by
  simp only [Bool.and_eq_true, beq_iff_eq, Bool.not_eq_true', decide_eq_true_eq] at h5
  obtain ⟨⟨⟨⟨⟨g1, g2⟩, g3⟩, g4⟩, g5⟩, g6⟩ := h5
  simp [Cond.before, Cond.holds, Cond.value, h1, h2, h3, h4, g1, g2, g3, g4, g5, g6]
def isCode : Jvm.Cond → Bool
  | .code _ _ _ _ => true
  | _ => false
theorem all_split {L : List Jvm.Cond} {P : Jvm.Cond → Bool} (h1 : L.all (fun c => isCode c || P c) = true) (h2 : ∀ c ∈ L.filter isCode, P c = true) : L.all P = true := by
  refine List.all_eq_true.mpr fun c hc => ?_
  have h := List.all_eq_true.mp h1 c hc
  rcases Bool.eq_false_or_eq_true (isCode c) with hi | hi
  · exact h2 c (List.mem_filter.mpr ⟨hc, hi⟩)
  · simpa [hi] using h
set_option maxRecDepth 65536 in
theorem w_c0 : (Jvm.Cond.code x code maxLocals ret).before args0 about1 = true := code_word (m := ⟨1, 2⟩) (meth := k1m2) (c := k1c2) (by decide +kernel) rfl rfl rfl (by decide +kernel)
set_option maxRecDepth 65536 in
theorem w_c1 : (Jvm.Cond.code ({ cls := "com/example/bulk_retrieval/bulkretrieval/index/Neighbours", name := "<init>", desc := "(I[I[I[D)V" } : Jvm.MethodName) prog_40_method_1_code (5 : Nat) (Option.none : Option Jvm.ClassFile.FieldType)).before args0 about1 = true := code_word (m := ⟨2, 0⟩) (meth := k2m0) (c := k2c0) (by decide +kernel) rfl rfl rfl (by decide +kernel)
set_option maxRecDepth 65536 in
theorem w_c2 : (Jvm.Cond.code ({ cls := "java/lang/Object", name := "<init>", desc := "()V" } : Jvm.MethodName) object_method_1_code (1 : Nat) (Option.none : Option Jvm.ClassFile.FieldType)).before args0 about1 = true := code_word (m := ⟨0, 0⟩) (meth := k0m0) (c := k0c0) (by decide +kernel) rfl rfl rfl (by decide +kernel)
set_option maxRecDepth 65536 in
theorem w_c3 : (Jvm.Cond.code ({ cls := "com/example/bulk_retrieval/bulkretrieval/index/NeighboursDocumentPinLaw", name := "enc", desc := "(III)I" } : Jvm.MethodName) method_2_code (3 : Nat) (Option.some Jvm.ClassFile.FieldType.int)).before args0 about1 = true := code_word (m := ⟨1, 1⟩) (meth := k1m1) (c := k1c1) (by decide +kernel) rfl rfl rfl (by decide +kernel)
set_option maxRecDepth 65536 in
theorem w_c4 : (Jvm.Cond.code ({ cls := "com/example/bulk_retrieval/bulkretrieval/index/Neighbours", name := "document", desc := "(II)I" } : Jvm.MethodName) prog_40_method_4_code (3 : Nat) (Option.some Jvm.ClassFile.FieldType.int)).before args0 about1 = true := code_word (m := ⟨2, 1⟩) (meth := k2m1) (c := k2c1) (by decide +kernel) rfl rfl rfl (by decide +kernel)
def codes1 : List Jvm.Cond := [Jvm.Cond.code x code maxLocals ret, Jvm.Cond.code ({ cls := "com/example/bulk_retrieval/bulkretrieval/index/Neighbours", name := "<init>", desc := "(I[I[I[D)V" } : Jvm.MethodName) prog_40_method_1_code (5 : Nat) (Option.none : Option Jvm.ClassFile.FieldType), Jvm.Cond.code ({ cls := "java/lang/Object", name := "<init>", desc := "()V" } : Jvm.MethodName) object_method_1_code (1 : Nat) (Option.none : Option Jvm.ClassFile.FieldType), Jvm.Cond.code ({ cls := "com/example/bulk_retrieval/bulkretrieval/index/NeighboursDocumentPinLaw", name := "enc", desc := "(III)I" } : Jvm.MethodName) method_2_code (3 : Nat) (Option.some Jvm.ClassFile.FieldType.int), Jvm.Cond.code ({ cls := "com/example/bulk_retrieval/bulkretrieval/index/Neighbours", name := "document", desc := "(II)I" } : Jvm.MethodName) prog_40_method_4_code (3 : Nat) (Option.some Jvm.ClassFile.FieldType.int)]
set_option maxRecDepth 65536 in
theorem codes_eq : words1.filter isCode = codes1 := rfl
theorem w_codes : ∀ c ∈ words1.filter isCode, c.before args0 about1 = true := by
  rw [codes_eq]
  intro c hc
  simp only [codes1, List.mem_cons, List.not_mem_nil, or_false] at hc
  rcases hc with rfl | rfl | rfl | rfl | rfl
  · exact w_c0
  · exact w_c1
  · exact w_c2
  · exact w_c3
  · exact w_c4
set_option maxRecDepth 65536 in
theorem w_t1 : (words1.take 24).all (fun c => isCode c || c.before args0 about1) = true := by decide +kernel
set_option maxRecDepth 65536 in
theorem w_t2 : (words1.drop 24).all (fun c => isCode c || c.before args0 about1) = true := by decide +kernel
theorem w_tables : (allAtoms (Jvm.Cond.code x code maxLocals ret :: tables_1)).before args0 about1 = true := by
  rw [allAtoms_all]
  show words1.all (fun c => c.before args0 about1) = true
  refine all_split ?_ w_codes
  rw [← List.take_append_drop 24 words1, List.all_append, w_t1, w_t2]
  rfl
set_option maxRecDepth 65536 in
theorem w_case : (Jvm.Cond.and given_1 narrow_1).before args0 about1 = true := by decide +kernel
theorem w_applies : (headSpec (Jvm.Cond.code x code maxLocals ret :: tables_1) room_1).applies x e0.platform about1 = true :=
  (Spec.applies_iff w_frames).mpr ⟨w_running, w_runnable, w_alone, w_named, w_hears, w_ripe, w_room, w_tables⟩
theorem atStart : AtStart classFile x code maxLocals ret World_1 tables_1 room_1 Calls_1 rest_1 Pre_1 launch0 p0 e0 about1 theMethod args0 below0 :=
  ⟨lists_1, trivial, launch0.admits_env _ _ _, launch0.least_env, fairChoices_fair.cas, fairChoices_fair.clock, w_frames, w_args, w_heap, w_applies, trivial, trivial, w_case⟩
end start1
theorem witness_1 : WitnessClaimed_1 := ⟨start1.p0, start1.e0, start1.about1, start1.theMethod, start1.args0, start1.below0, start1.atStart⟩
end Jvm.Pilot.@@N@@
