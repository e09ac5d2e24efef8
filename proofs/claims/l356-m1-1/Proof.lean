import JvmDerived
import JvmDerived.Pilot.@@N@@Statement
import JvmDerived.Pilot.@@N@@Code
set_option linter.unusedVariables false
set_option linter.unusedSimpArgs false
namespace Jvm.Pilot.@@N@@
open Jvm Jvm.ClassFile Sem Op Lib Jvm.Free Jvm.Stand Jvm.LawKit Jvm.RoadKit Bundle Jvm.Pilot.@@N@@.Jvm.D
abbrev oU : Slot := .unset
abbrev oS : Slot := .second
abbrev oN : Slot := .val .null
abbrev oI (x : Int32) : Slot := .val (.int x)
abbrev oJ (x : Int64) : Slot := .val (.long x)
abbrev oR (a : Addr) : Slot := .val (.ref a)
section Own
variable {p : Program} {l : Launch} {e : Env} {R : Room} {s : State} {m : MethodId} {args : Array Value} {below : List Frame} {meth : Method} {c : Code} {T : State} {locs : List Loc} {cells slots : Nat} {Q : Option Value → Heap → List Loc → Prop} {kc ks : Nat} {Z : State} {a0 : Array Value} {h : Heap}
/-- from the state st the body comes to its end, and Q holds there -/
def own_Fin (p : Program) (e : Env) (below : List Frame) (s : State) (Q : Option Value → Heap → List Loc → Prop) (kc ks : Nat) (st : State) : Prop :=
  ∃ s₂ o, Steps p.tables e below st s₂ ∧ s₂.status = .running ∧ Ended s₂ below o ∧ ∃ v L, o = .returned v ∧ Q v s₂.heap L ∧ FrameEnd s o s₂ L kc ks
abbrev own_Go (X : Stand p l e R s m args below meth c T locs cells slots) (Q : Option Value → Heap → List Loc → Prop) (kc ks : Nat) (pc : Nat) (Ls : Array Slot) (S : List Value) : Prop := own_Fin p e below s Q kc ks (T.setTop (mkF m pc Ls S))
theorem own_st {a b : State} (hst : ∀ t, Steps p.tables e below b t → Steps p.tables e below a t) (k : own_Fin p e below s Q kc ks b) : own_Fin p e below s Q kc ks a := by
  obtain ⟨s₂, o, h1, r⟩ := k
  exact ⟨s₂, o, hst _ h1, r⟩
theorem own_cast {g g' : JFrame} (q : g = g') (k : own_Fin p e below s Q kc ks (T.setTop g')) : own_Fin p e below s Q kc ks (T.setTop g) := q ▸ k
theorem own_end (X : Stand p l e R s m args below meth c T locs cells slots) {v : Option Value} {a : State} (hv : meth.sig.returnType = none → v = none) (hlocks : meth.locks = false) (eT : T.heap = h)
    (hs : ∀ fs, (∀ (f : JFrame) (acts : List Action), f.method = m → f.locked = none → f.entered = [] → (doReturn e (T.setTop f) acts v).1 = T.setFrames fs) → Steps p.tables e below a (T.setFrames fs))
    (hc : cells ≤ kc) (hl : slots ≤ ks) (hq : Q v h locs) : own_Fin p e below s Q kc ks a := by
  obtain ⟨fs, hr, hrun, hended, hW, hsame⟩ := X.leave hv hlocks
  exact ⟨_, _, hs fs hr, hrun, hended, _, _, rfl, by show Q v T.heap locs; rw [eT]; exact hq, ⟨_, rfl⟩, hW, hsame.mono hc hl⟩
theorem own_retV (X : Stand p l e R s m args below meth c T locs cells slots) (hx : p.tables.exec = Jvm.exec) (hret : meth.sig.returnType = none) (hlocks : meth.locks = false) (eT : T.heap = h) {pc : Nat} {Ls : Array Slot} (hd : decode c.code pc = .ok (.return_, 1)) (hc : cells ≤ kc) (hl : slots ≤ ks) (hq : Q none h locs) :
    own_Fin p e below s Q kc ks (T.setTop (mkF m pc Ls [])) := own_end X (fun _ => rfl) hlocks eT (fun _ hr => X.returnOut hx hret hd hr) hc hl hq
theorem own_retN (X : Stand p l e R s m args below meth c T locs cells slots) (hx : p.tables.exec = Jvm.exec) {t : FieldType} (hret : meth.sig.returnType = some t) (ht : t = .boolean ∨ t = .byte ∨ t = .char ∨ t = .short) (hlocks : meth.locks = false) (eT : T.heap = h) {pc : Nat} {Ls : Array Slot} {z : Int32} {rest : List Value} (hd : decode c.code pc = .ok (.ireturn, 1)) (hc : cells ≤ kc) (hl : slots ≤ ks) (hq : Q (some (.int (nar t z))) h locs) :
    own_Fin p e below s Q kc ks (T.setTop (mkF m pc Ls (.int z :: rest))) := own_end X (fun h => by rw [hret] at h; cases h) hlocks eT (fun _ hr => retN X hx hret ht hd hr) hc hl hq
theorem own_retI (X : Stand p l e R s m args below meth c T locs cells slots) (hx : p.tables.exec = Jvm.exec) (hret : meth.sig.returnType = some .int) (hlocks : meth.locks = false) (eT : T.heap = h) {pc : Nat} {Ls : Array Slot} {z : Int32} {rest : List Value} (hd : decode c.code pc = .ok (.ireturn, 1)) (hc : cells ≤ kc) (hl : slots ≤ ks) (hq : Q (some (.int z)) h locs) :
    own_Fin p e below s Q kc ks (T.setTop (mkF m pc Ls (.int z :: rest))) := own_end X (fun h => by rw [hret] at h; cases h) hlocks eT (fun _ hr => retOut X hx hret rfl (Or.inl ⟨rfl, Or.inl rfl, _, rfl⟩) hd hr) hc hl hq
theorem own_retJ (X : Stand p l e R s m args below meth c T locs cells slots) (hx : p.tables.exec = Jvm.exec) (hret : meth.sig.returnType = some .long) (hlocks : meth.locks = false) (eT : T.heap = h) {pc : Nat} {Ls : Array Slot} {z : Int64} {rest : List Value} (hd : decode c.code pc = .ok (.lreturn, 1)) (hc : cells ≤ kc) (hl : slots ≤ ks) (hq : Q (some (.long z)) h locs) :
    own_Fin p e below s Q kc ks (T.setTop (mkF m pc Ls (.long z :: rest))) := own_end X (fun h => by rw [hret] at h; cases h) hlocks eT (fun _ hr => retOut X hx hret rfl (Or.inr (Or.inl ⟨rfl, rfl, _, rfl⟩)) hd hr) hc hl hq
theorem own_retA (X : Stand p l e R s m args below meth c T locs cells slots) (hx : p.tables.exec = Jvm.exec) {t : FieldType} (hret : meth.sig.returnType = some t) (ht : t.isReference = true) (hlocks : meth.locks = false) (eT : T.heap = h) {pc : Nat} {Ls : Array Slot} {a : Addr} {rest : List Value} (hd : decode c.code pc = .ok (.areturn, 1)) (hc : cells ≤ kc) (hl : slots ≤ ks) (hq : Q (some (.ref a)) h locs) :
    own_Fin p e below s Q kc ks (T.setTop (mkF m pc Ls (.ref a :: rest))) := own_end X (fun h => by rw [hret] at h; cases h) hlocks eT (fun _ hr => retOut X hx hret (by cases t <;> first | rfl | cases ht) (Or.inr (Or.inr (Or.inr (Or.inr ⟨rfl, ht, rfl⟩)))) hd hr) hc hl hq
theorem own_nar1 : nar .boolean 1 = 1 := by decide
theorem own_nar0 : nar .boolean 0 = 0 := by decide
theorem own_lrem {g : JFrame} {target : State} (X : Stand p l e R s m args below meth c T locs cells slots) (hx : p.tables.exec = Jvm.exec) (hg : g.method = m) {x y : Int64} {rest : List Value} (hd : decode c.code g.pc = .ok (.lrem, 1)) (hs : g.stack = .long y :: .long x :: rest) (hy : y ≠ 0)
    (hr : Steps p.tables e below (T.setTop { g with pc := g.pc + 1, stack := .long (x % y) :: rest }) target) : Steps p.tables e below (T.setTop g) target := by
  have q : x - x / y * y = x % y := lrem_mod x y
  exact XS.lrem X.here hx hg hd hs hy (by rw [q]; exact hr)
/-! the calls -/
variable {y z : MethodName} {bytes : ByteArray} {maxL : Nat} {ret : Option FieldType} {rm : Room} {W : Nat} {as' : Array Value} {Qc : Option Value → Heap → List Loc → Prop} {own C : String} {index : Nat}
theorem own_callS (X : Stand p l e R s m args below meth c T locs cells slots) (hx : p.tables.exec = Jvm.exec) (hZ : Z.Warmed39 s.vm) (hown : s.vm.findClass own = some m.cls)
    (wl : (Cond.methodLink own index y).before a0 Z = true) (ws : (Cond.static y).before a0 Z = true) (wz : (Cond.initialized y.cls).before a0 Z = true) (wc : (Cond.code y bytes maxL ret).before a0 Z = true)
    (hy : y.cls ≠ "java/lang/invoke/MethodHandle" ∧ y.cls ≠ "java/lang/invoke/VarHandle")
    (hM : MetFree l y (head1 [Cond.code y bytes maxL ret] rm) (fun a U => a = as' ∧ Z.Warmed39 U.vm ∧ U.heap = h) (fun _ _ _ _ _ => True) (fun _ U o U' => ∃ v L, o = .returned v ∧ Qc v U'.heap L ∧ FrameEnd U o U' L rm.cells rm.slots))
    (hf : rm.frames + 1 ≤ R.frames) (hl : W + (maxL + 11) + rm.locals ≤ R.locals) {pc : Nat} {Ls : Array Slot} {S : List Value} (hsize : Ls.size = c.maxLocals) (argsL rest : List Value)
    (hlen : ∀ sig, parseMethodDescriptor y.desc = some sig → argsL.length = sig.parameters.length) (hS : S = argsL.reverse ++ rest) (ha : argsL.toArray = as') (hW : (rest.map fun v => v.category).sum ≤ W)
    (hd : decode c.code pc = .ok (.invokestatic index, 3)) (eT : T.heap = h) (hcl : cells + rm.cells ≤ R.cells) (hsl : slots + rm.slots ≤ R.slots)
    (k : ∀ (v : Option Value) (T' : State) (L' : List Loc) (X' : Stand p l e R s m args below meth c T' (locs ++ L') (cells + rm.cells) (slots + rm.slots)), Qc v T'.heap L' → own_Fin p e below s Q kc ks (T'.setTop (mkF m (pc + 3) Ls (v.toList ++ rest)))) :
    own_Fin p e below s Q kc ks (T.setTop (mkF m pc Ls S)) := by
  subst hS
  obtain ⟨v, _, ⟨T', L1, k1, n1⟩, -, X', ⟨L', hQ, l1, y1, z1⟩, st⟩ := Jvm.LawKit.callS X hx (y := y) hown (mvT hZ wl) (mvT hZ ws) (mvT hZ wz) (mvT hZ wc) hy (backOf (W := W) hM hZ wc wz hf hl) (g := mkF m pc Ls (argsL.reverse ++ rest)) rfl hsize (argsL := argsL) (rest := rest) hlen rfl (by show 2 * 0 + _ ≤ _; omega) hd (fun _ _ => ⟨ha, eT, hcl, hsl⟩)
  dsimp only [Pt.U, Pt.locs, Pt.cells, Pt.slots] at X' l1 y1 z1 st hQ
  subst l1 y1 z1
  exact own_st (fun t => st t) (k v T' L' X' hQ)
theorem own_callI (X : Stand p l e R s m args below meth c T locs cells slots) (hx : p.tables.exec = Jvm.exec) (hZ : Z.Warmed39 s.vm) (hown : s.vm.findClass own = some m.cls)
    (wl : (Cond.methodLink own index y).before a0 Z = true) (ws : (Cond.instanceMethod y).before a0 Z = true) (wz : (Cond.initialized y.cls).before a0 Z = true) (wc : (Cond.code y bytes maxL none).before a0 Z = true)
    (hn : y.name = "<init>") (hy : y.cls ≠ "java/lang/invoke/MethodHandle" ∧ y.cls ≠ "java/lang/invoke/VarHandle")
    (hM : MetFree l y (head1 [Cond.code y bytes maxL none] rm) (fun a U => a = as' ∧ Z.Warmed39 U.vm ∧ U.heap = h) (fun _ _ _ _ _ => True) (fun _ U o U' => ∃ v L, o = .returned v ∧ Qc v U'.heap L ∧ FrameEnd U o U' L rm.cells rm.slots))
    (hf : rm.frames + 1 ≤ R.frames) (hl : W + (maxL + 11) + rm.locals ≤ R.locals) {pc : Nat} {Ls : Array Slot} {S : List Value} (hsize : Ls.size = c.maxLocals) (a : Addr) (argsL rest : List Value)
    (hlen : ∀ sig, parseMethodDescriptor y.desc = some sig → argsL.length = sig.parameters.length) (hS : S = argsL.reverse ++ .ref a :: rest) (ha : (Value.ref a :: argsL).toArray = as') (hW : (rest.map fun v => v.category).sum ≤ W)
    (hd : decode c.code pc = .ok (.invokespecial index, 3)) (eT : T.heap = h) (hcl : cells + rm.cells ≤ R.cells) (hsl : slots + rm.slots ≤ R.slots)
    (k : ∀ (v : Option Value) (T' : State) (L' : List Loc) (X' : Stand p l e R s m args below meth c T' (locs ++ L') (cells + rm.cells) (slots + rm.slots)), Qc v T'.heap L' → own_Fin p e below s Q kc ks (T'.setTop (mkF m (pc + 3) Ls (v.toList ++ rest)))) :
    own_Fin p e below s Q kc ks (T.setTop (mkF m pc Ls S)) := by
  subst hS
  obtain ⟨v, _, ⟨T', L1, k1, n1⟩, -, X', ⟨L', hQ, l1, y1, z1⟩, st⟩ := X.specialBack hx (y := y) hn hown (mvT hZ wl) (mvT hZ ws) (mvT hZ wc) hy (backOf (W := W) hM hZ wc wz hf hl) (g := mkF m pc Ls (argsL.reverse ++ .ref a :: rest)) rfl hsize (Steps.refl _) (a := a) (argsL := argsL) (rest := rest) hlen rfl (by show 2 * 0 + _ ≤ _; omega) hd (fun _ _ => ⟨ha, eT, hcl, hsl⟩)
  dsimp only [Pt.U, Pt.locs, Pt.cells, Pt.slots] at X' l1 y1 z1 st hQ
  subst l1 y1 z1
  exact own_st (fun t => st.trans) (k v T' L' X' hQ)
theorem own_callV (X : Stand p l e R s m args below meth c T locs cells slots) (hx : p.tables.exec = Jvm.exec) (hZ : Z.Warmed39 s.vm) (hown : s.vm.findClass own = some m.cls)
    (wl : (Cond.methodLink own index y).before a0 Z = true) (wd : (Cond.declares y).before a0 Z = true) (wsel : (Cond.selects C y y).before a0 Z = true) (ws : (Cond.instanceMethod y).before a0 Z = true) (wz : (Cond.initialized y.cls).before a0 Z = true) (wc : (Cond.code y bytes maxL ret).before a0 Z = true)
    (hy : y.cls ≠ "java/lang/invoke/MethodHandle" ∧ y.cls ≠ "java/lang/invoke/VarHandle")
    (hM : MetFree l y (head1 [Cond.code y bytes maxL ret] rm) (fun a U => a = as' ∧ Z.Warmed39 U.vm ∧ U.heap = h) (fun _ _ _ _ _ => True) (fun _ U o U' => ∃ v L, o = .returned v ∧ Qc v U'.heap L ∧ FrameEnd U o U' L rm.cells rm.slots))
    (hf : rm.frames + 1 ≤ R.frames) (hl : W + (maxL + 11) + rm.locals ≤ R.locals) {pc : Nat} {Ls : Array Slot} {S : List Value} (hsize : Ls.size = c.maxLocals) (a : Addr) (argsL rest : List Value)
    (hlen : ∀ sig, parseMethodDescriptor y.desc = some sig → argsL.length = sig.parameters.length) (hS : S = argsL.reverse ++ .ref a :: rest) (ha : (Value.ref a :: argsL).toArray = as') (hW : (rest.map fun v => v.category).sum ≤ W)
    (hd : decode c.code pc = .ok (.invokevirtual index, 3)) (eT : T.heap = h) (EA : Exa Z h a C) (hcl : cells + rm.cells ≤ R.cells) (hsl : slots + rm.slots ≤ R.slots)
    (k : ∀ (v : Option Value) (T' : State) (L' : List Loc) (X' : Stand p l e R s m args below meth c T' (locs ++ L') (cells + rm.cells) (slots + rm.slots)), Qc v T'.heap L' → own_Fin p e below s Q kc ks (T'.setTop (mkF m (pc + 3) Ls (v.toList ++ rest)))) :
    own_Fin p e below s Q kc ks (T.setTop (mkF m pc Ls S)) := by
  subst hS
  obtain ⟨cq, kq, q1, q2, q3⟩ := isOf hZ eT EA
  obtain ⟨v, _, ⟨T', L1, k1, n1⟩, -, X', ⟨L', hQ, l1, y1, z1⟩, st⟩ := X.virtualBack hx (y := y) (z := y) hown (mvT hZ wl) (mvT hZ wd) (notFace_of_selects (args := #[]) (mvT hZ wsel)) (mvT hZ wsel) (mvT hZ ws) hy (backOf (W := W) hM hZ wc wz hf hl) q1 q3 (g := mkF m pc Ls (argsL.reverse ++ .ref a :: rest)) rfl hsize (Steps.refl _) (argsL := argsL) (rest := rest) hlen rfl (by show 2 * 0 + _ ≤ _; omega) hd (fun _ _ => ⟨ha, eT, hcl, hsl⟩)
  dsimp only [Pt.U, Pt.locs, Pt.cells, Pt.slots] at X' l1 y1 z1 st hQ
  subst l1 y1 z1
  exact own_st (fun t => st.trans) (k v T' L' X' hQ)
/-! arrays -/
variable {a : Addr} {kA : ClassId} {n j x : Int32} {vs : List Value} {dv : Value}
theorem own_stI (X : Stand p l e R s m args below meth c T locs cells slots) (hx : p.tables.exec = Jvm.exec) (hZ : Z.Warmed39 s.vm) (eT : T.heap = h) (V : Arv Z h a kA .int n vs dv) (q : ¬ j < 0 ∧ j < n) (hi : j.toNatClampNeg < vs.length) {g : JFrame} (hg : g.method = m) {rest : List Value} (hs : g.stack = .int x :: .int j :: .ref a :: rest) (hd : decode c.code g.pc = .ok (.iastore, 1)) :
    ∃ T' h', Stand p l e R s m args below meth c T' (locs ++ [⟨a, j.toNatClampNeg⟩]) cells slots ∧ T'.heap = h' ∧ Wr h h' a j.toNatClampNeg (.int x) ∧ Arv Z h' a kA .int n (vs.set j.toNatClampNeg (.int x)) dv ∧ ∀ target, Steps p.tables e below (T'.setTop { g with pc := g.pc + 1, stack := rest }) target → Steps p.tables e below (T.setTop g) target := by
  obtain ⟨cl, Ar, q1, S1, N1, H1, G1⟩ := V
  obtain ⟨T', h', X', e', W', st⟩ := stI X hx hZ eT Ar (inb_of S1 q) hg hs hd
  exact ⟨T', h', X', e', W', Arv.set Ar q1 S1 N1 H1 G1 rfl W' _ rfl hi, st⟩
theorem own_stB (X : Stand p l e R s m args below meth c T locs cells slots) (hx : p.tables.exec = Jvm.exec) (hZ : Z.Warmed39 s.vm) (eT : T.heap = h) (V : Arv Z h a kA .byte n vs dv) (q : ¬ j < 0 ∧ j < n) (hi : j.toNatClampNeg < vs.length) {g : JFrame} (hg : g.method = m) {rest : List Value} (hs : g.stack = .int x :: .int j :: .ref a :: rest) (hd : decode c.code g.pc = .ok (.bastore, 1)) :
    ∃ T' h', Stand p l e R s m args below meth c T' (locs ++ [⟨a, j.toNatClampNeg⟩]) cells slots ∧ T'.heap = h' ∧ Wr h h' a j.toNatClampNeg (.int (nar .byte x)) ∧ Arv Z h' a kA .byte n (vs.set j.toNatClampNeg (.int x.toInt8.toInt32)) dv ∧ ∀ target, Steps p.tables e below (T'.setTop { g with pc := g.pc + 1, stack := rest }) target → Steps p.tables e below (T.setTop g) target := by
  obtain ⟨cl, Ar, q1, S1, N1, H1, G1⟩ := V
  obtain ⟨T', h', X', e', W', st⟩ := stB X hx hZ eT Ar (inb_of S1 q) hg hs hd
  exact ⟨T', h', X', e', W', Arv.set Ar q1 S1 N1 H1 G1 (fits_nar_byte x) W' _ rfl hi, st⟩
theorem own_stJ {x : Int64} (X : Stand p l e R s m args below meth c T locs cells slots) (hx : p.tables.exec = Jvm.exec) (hZ : Z.Warmed39 s.vm) (eT : T.heap = h) (V : Arv Z h a kA .long n vs dv) (q : ¬ j < 0 ∧ j < n) (hi : j.toNatClampNeg < vs.length) {g : JFrame} (hg : g.method = m) {rest : List Value} (hs : g.stack = .long x :: .int j :: .ref a :: rest) (hd : decode c.code g.pc = .ok (.lastore, 1)) :
    ∃ T' h', Stand p l e R s m args below meth c T' (locs ++ [⟨a, j.toNatClampNeg⟩]) cells slots ∧ T'.heap = h' ∧ Wr h h' a j.toNatClampNeg (.long x) ∧ Arv Z h' a kA .long n (vs.set j.toNatClampNeg (.long x)) dv ∧ ∀ target, Steps p.tables e below (T'.setTop { g with pc := g.pc + 1, stack := rest }) target → Steps p.tables e below (T.setTop g) target := by
  obtain ⟨cl, Ar, q1, S1, N1, H1, G1⟩ := V
  obtain ⟨T', h', X', e', W', st⟩ := stJ X hx hZ eT Ar (inb_of S1 q) hg hs hd
  exact ⟨T', h', X', e', W', Arv.set Ar q1 S1 N1 H1 G1 rfl W' _ rfl hi, st⟩
theorem own_ldI (X : Stand p l e R s m args below meth c T locs cells slots) (hx : p.tables.exec = Jvm.exec) (hZ : Z.Warmed39 s.vm) (eT : T.heap = h) (V : Arv Z h a kA .int n vs dv) (q : ¬ j < 0 ∧ j < n) {v : Value} (hv : vs.getD j.toNatClampNeg dv = v) {g : JFrame} (hg : g.method = m) {rest : List Value} (hs : g.stack = .int j :: .ref a :: rest) (hd : decode c.code g.pc = .ok (.iaload, 1)) :
    ∀ target, Steps p.tables e below (T.setTop { g with pc := g.pc + 1, stack := v :: rest }) target → Steps p.tables e below (T.setTop g) target := by
  obtain ⟨cl, Ar, q1, S1, N1, H1, G1⟩ := V
  exact X.iaload hx (by rw [eT]; exact Ar.1) (State.isArrayOf_alike hZ.alike Ar.2.1) Ar.2.2 (inb_of S1 q) (H1.at (inb_of S1 q) hv) hg hs hd
theorem own_ldB (X : Stand p l e R s m args below meth c T locs cells slots) (hx : p.tables.exec = Jvm.exec) (hZ : Z.Warmed39 s.vm) (eT : T.heap = h) (V : Arv Z h a kA .byte n vs dv) (q : ¬ j < 0 ∧ j < n) {v : Value} (hv : vs.getD j.toNatClampNeg dv = v) {g : JFrame} (hg : g.method = m) {rest : List Value} (hs : g.stack = .int j :: .ref a :: rest) (hd : decode c.code g.pc = .ok (.baload, 1)) :
    ∀ target, Steps p.tables e below (T.setTop { g with pc := g.pc + 1, stack := v :: rest }) target → Steps p.tables e below (T.setTop g) target := by
  obtain ⟨cl, Ar, q1, S1, N1, H1, G1⟩ := V
  exact X.baloadBytes hx (by rw [eT]; exact Ar.1) (State.isArrayOf_alike hZ.alike Ar.2.1) Ar.2.2 (inb_of S1 q) (H1.at (inb_of S1 q) hv) hg hs hd
theorem own_ldJ (X : Stand p l e R s m args below meth c T locs cells slots) (hx : p.tables.exec = Jvm.exec) (hZ : Z.Warmed39 s.vm) (eT : T.heap = h) (V : Arv Z h a kA .long n vs dv) (q : ¬ j < 0 ∧ j < n) {v : Value} (hv : vs.getD j.toNatClampNeg dv = v) {g : JFrame} (hg : g.method = m) {rest : List Value} (hs : g.stack = .int j :: .ref a :: rest) (hd : decode c.code g.pc = .ok (.laload, 1)) :
    ∀ target, Steps p.tables e below (T.setTop { g with pc := g.pc + 1, stack := v :: rest }) target → Steps p.tables e below (T.setTop g) target := by
  obtain ⟨cl, Ar, q1, S1, N1, H1, G1⟩ := V
  exact X.laload hx (by rw [eT]; exact Ar.1) (State.isArrayOf_alike hZ.alike Ar.2.1) Ar.2.2 (inb_of S1 q) (H1.at (inb_of S1 q) hv) hg hs hd
theorem own_len {ty : FieldType} (X : Stand p l e R s m args below meth c T locs cells slots) (hx : p.tables.exec = Jvm.exec) (hZ : Z.Warmed39 s.vm) (eT : T.heap = h) (V : Arv Z h a kA ty n vs dv) {g : JFrame} (hg : g.method = m) {rest : List Value} (hs : g.stack = .ref a :: rest) (hd : decode c.code g.pc = .ok (.arraylength, 1)) :
    ∀ target, Steps p.tables e below (T.setTop { g with pc := g.pc + 1, stack := .int n :: rest }) target → Steps p.tables e below (T.setTop g) target := by
  obtain ⟨cl, Ar, q1, S1, N1, H1, G1⟩ := V
  intro t k
  refine X.arraylength hx (by rw [eT]; exact Ar.1) (State.isArrayOf_alike hZ.alike Ar.2.1) hg hs hd t ?_
  rw [len_of S1 N1]; exact k
end Own

def own_pw1 (g : Int32) : Int64 := ((1 : Int64) * g.toInt64)
def own_pw2 (g : Int32) : Int64 := (own_pw1 g * g.toInt64)
def own_pw3 (g : Int32) : Int64 := (own_pw2 g * g.toInt64)
def own_pw4 (g : Int32) : Int64 := (own_pw3 g * g.toInt64)
theorem own_p1 (g : Int32) : (own_pw1 g).toInt = g.toInt := by
  have h := c_lmul 1 g.toInt64
  have h1 := c_i2l g
  have h2 := rng32 g
  have h3 := rng64 ((1 : Int64) * g.toInt64)
  have e : (1 : Int64).toInt = 1 := by decide
  rw [e, h1] at h
  unfold own_pw1
  omega
theorem own_mulx {x : Int64} {g : Int32} {a : Int} (hx : x.toInt = a) (h0 : 0 ≤ a * g.toInt) (h1 : a * g.toInt < 9223372036854775808) : (x * g.toInt64).toInt = a * g.toInt := by
  have h := c_lmul x g.toInt64
  have h2 := c_i2l g
  have h3 := rng64 (x * g.toInt64)
  rw [h2, hx] at h
  generalize a * g.toInt = p at *
  omega
theorem own_le64 {x : Int64} {a : Int} (hx : x.toInt = a) (h : a ≤ 2147483639) : ¬ (2147483639 : Int64) < x := by
  rw [Int64.lt_iff_toInt_lt, hx]
  have e : (2147483639 : Int64).toInt = 2147483639 := by decide
  omega
theorem own_nn32 {x : Int64} {a : Int} (hx : x.toInt = a) (h0 : 0 ≤ a) (h : a ≤ 2147483639) : ¬ x.toInt32 < (0 : Int32) := by
  rw [Int32.lt_iff_toInt_lt, Int64.toInt_toInt32, hx]
  have e : (0 : Int32).toInt = 0 := by decide
  rw [Int.bmod_eq_of_le (by omega) (by omega)]
  omega
theorem own_pos2 {a b : Int} (ha : 0 ≤ a) (hb : 0 ≤ b) : 0 ≤ a * b := Int.mul_nonneg ha hb
theorem own_ub2 {a b A B : Int} (ha : 0 ≤ a) (hb : 0 ≤ b) (hA : a ≤ A) (hB : b ≤ B) : a * b ≤ A * B := Int.mul_le_mul hA hB hb (by omega)

def own_at4 (x0 x1 x2 x3 i : Int32) : Int32 := if i = 0 then x0 else if i = 1 then x1 else if i = 2 then x2 else x3
theorem own_cases4 {i : Int32} (h : ¬ i < 0 ∧ i < 4) : i = 0 ∨ i = 1 ∨ i = 2 ∨ i = 3 := by
  obtain ⟨h, h'⟩ := h
  rw [Int32.lt_iff_toInt_lt] at h h'
  have e0 : (0 : Int32).toInt = 0 := by decide
  have e1 : (1 : Int32).toInt = 1 := by decide
  have e2 : (2 : Int32).toInt = 2 := by decide
  have e3 : (3 : Int32).toInt = 3 := by decide
  have e4 : (4 : Int32).toInt = 4 := by decide
  simp only [← Int32.toInt_inj, e0, e1, e2, e3]
  omega
theorem own_getD4 {x0 x1 x2 x3 i : Int32} (h : ¬ i < 0 ∧ i < 4) : [Value.int x0, Value.int x1, Value.int x2, Value.int x3].getD i.toNatClampNeg (.int (0 : Int32)) = .int (own_at4 x0 x1 x2 x3 i) := by
  rcases own_cases4 h with rfl | rfl | rfl | rfl <;> rfl
def own_tup1 (g a : Int32) : Int32 := (((0 : Int32) * g) + a)
def own_tup2 (g a b : Int32) : Int32 := (((own_tup1 g a) * g) + b)
def own_tup3 (g a b c : Int32) : Int32 := (((own_tup2 g a b) * g) + c)
theorem own_tt {a l : Int32} (h : ((((a.toUInt32 >>> ((8 : Int32) &&& 31).toUInt32).toInt32) % (3 : Int32)) + (1 : Int32)) = l) : l = 1 ∨ l = 2 ∨ l = 3 := by
  subst h
  have h1 := c_iushr a 8 8 (by decide) (by decide)
  have h2 := (c_irem ((a.toUInt32 >>> ((8 : Int32) &&& 31).toUInt32).toInt32) 3 3 (by decide)).1 (by rw [h1]; omega)
  have h3 := c_iadd (((a.toUInt32 >>> ((8 : Int32) &&& 31).toUInt32).toInt32) % (3 : Int32)) 1
  have h4 := rng32 ((((a.toUInt32 >>> ((8 : Int32) &&& 31).toUInt32).toInt32) % (3 : Int32)) + 1)
  have e1 : (1 : Int32).toInt = 1 := by decide
  have e2 : (2 : Int32).toInt = 2 := by decide
  have e3 : (3 : Int32).toInt = 3 := by decide
  simp only [← Int32.toInt_inj, e1, e2, e3]
  rw [e1] at h3
  omega
theorem own_gb {a m g : Int32} (k : Nat) (hk : k ≤ 30) (hm : m.toBitVec.toNat = 2 ^ k - 1) (h : (2 : Int32) + (a &&& m) = g) : 2 ≤ g.toInt ∧ g.toInt ≤ 2 ^ k + 1 := by
  subst h
  have h1 := c_mask a m k (by omega) hm
  have h2 := c_iadd 2 (a &&& m)
  have h3 := rng32 (2 + (a &&& m))
  have e2 : (2 : Int32).toInt = 2 := by decide
  have h4 : 2 ^ k ≤ 2 ^ 30 := Nat.pow_le_pow_right (by decide) hk
  have h5 : 0 < 2 ^ k := Nat.pow_pos (by decide)
  rw [e2] at h2
  have h6 := Int.emod_nonneg a.toInt (show ((2 ^ k : Nat) : Int) ≠ 0 by omega)
  have h7 := Int.emod_lt_of_pos a.toInt (show 0 < ((2 ^ k : Nat) : Int) by omega)
  have h8 : ((2 : Int) ^ k) = ((2 ^ k : Nat) : Int) := by simp
  rw [h8]
  omega
theorem own_gnz {g : Int32} (h : 2 ≤ g.toInt) : g ≠ 0 := fun q => by
  rw [q] at h; exact absurd h (by decide)
theorem own_g2 {g : Int32} (h : 2 ≤ g.toInt) : ¬ g < (2 : Int32) := by
  rw [Int32.lt_iff_toInt_lt]
  have e2 : (2 : Int32).toInt = 2 := by decide
  omega
theorem own_rb {r g : Int32} (h : 2 ≤ g.toInt) : 0 ≤ ((r &&& (2147483647 : Int32)) % g).toInt ∧ ((r &&& (2147483647 : Int32)) % g).toInt < g.toInt := by
  have h0 : 0 ≤ (r &&& (2147483647 : Int32)).toInt := by rw [c_mask r 2147483647 31 (by decide) (by decide)]; omega
  have h1 := (c_iremV (r &&& (2147483647 : Int32)) g).1 h0 (by omega)
  exact ⟨h1.1, h1.2.1⟩
theorem own_ab {x0 x1 x2 x3 : Int32} {P : Int32 → Prop} (h0 : P x0) (h1 : P x1) (h2 : P x2) (h3 : P x3) (i : Int32) : P (own_at4 x0 x1 x2 x3 i) := by
  unfold own_at4
  repeat' split
  all_goals assumption
theorem own_c3 {a c : Int32} (h : (a &&& (3 : Int32)) = c) : ¬ c < 0 ∧ c < 4 := by
  subst h
  have h1 := c_mask a 3 2 (by decide) (by decide)
  have e0 : (0 : Int32).toInt = 0 := by decide
  have e4 : (4 : Int32).toInt = 4 := by decide
  simp only [Int32.lt_iff_toInt_lt, e0, e4]
  omega
theorem own_t1 (g a : Int32) : (own_tup1 g a) = a := by
  unfold own_tup1; rw [Int32.zero_mul, Int32.zero_add]
theorem own_mi {x g : Int32} {A G : Int} (h0 : 0 ≤ x.toInt) (hA : x.toInt ≤ A) (hg : 0 ≤ g.toInt) (hG : g.toInt ≤ G) (hb : A * G < 2147483648) : (x * g).toInt = x.toInt * g.toInt ∧ 0 ≤ x.toInt * g.toInt ∧ x.toInt * g.toInt ≤ A * G := by
  have h := c_imul x g
  have h1 := rng32 (x * g)
  have h2 := own_pos2 h0 hg
  have h3 := own_ub2 h0 hg hA hG
  generalize x.toInt * g.toInt = p at *
  omega
theorem own_ml {x g : Int32} {A G : Int} {u : Int64} (hu : u.toInt = x.toInt) (h0 : 0 ≤ x.toInt) (hA : x.toInt ≤ A) (hg : 0 ≤ g.toInt) (hG : g.toInt ≤ G) (hb : A * G < 2147483648) : (u * g.toInt64).toInt = x.toInt * g.toInt := by
  have h3 := own_ub2 h0 hg hA hG
  have h2 := own_pos2 h0 hg
  exact own_mulx hu h2 (by omega)

theorem own_e1 {g a : Int32} (hG : 2 ≤ g.toInt ∧ g.toInt ≤ 1073741825) (ha : 0 ≤ a.toInt ∧ a.toInt < g.toInt) : (own_tup1 g a).toInt64 = a.toInt64 := by rw [own_t1]
theorem own_e2 {g a b : Int32} (hG : 2 ≤ g.toInt ∧ g.toInt ≤ 32769) (ha : 0 ≤ a.toInt ∧ a.toInt < g.toInt) (hb : 0 ≤ b.toInt ∧ b.toInt < g.toInt) : (own_tup2 g a b).toInt64 = ((a.toInt64 * g.toInt64) + b.toInt64) := by
  unfold own_tup2
  rw [own_t1]
  obtain ⟨m1, m2, m3⟩ := own_mi (x := a) (g := g) (A := 32768) (G := 32769) ha.1 (by omega) (by omega) hG.2 (by omega)
  have l1 := own_ml (u := a.toInt64) (c_i2l a) ha.1 (show a.toInt ≤ 32768 by omega) (by omega) hG.2 (by omega)
  apply Int64.toInt_inj.mp
  have s1 := c_iadd (a * g) b
  have s2 := rng32 (a * g + b)
  have s3 := c_ladd (a.toInt64 * g.toInt64) b.toInt64
  have s4 := rng64 (a.toInt64 * g.toInt64 + b.toInt64)
  rw [c_i2l] at s3 ⊢
  omega
theorem own_e3 {g a b c : Int32} (hG : 2 ≤ g.toInt ∧ g.toInt ≤ 1025) (ha : 0 ≤ a.toInt ∧ a.toInt < g.toInt) (hb : 0 ≤ b.toInt ∧ b.toInt < g.toInt) (hc : 0 ≤ c.toInt ∧ c.toInt < g.toInt) : (own_tup3 g a b c).toInt64 = ((((a.toInt64 * g.toInt64) * g.toInt64) + (b.toInt64 * g.toInt64)) + c.toInt64) := by
  unfold own_tup3 own_tup2
  rw [own_t1]
  obtain ⟨m1, m2, m3⟩ := own_mi (x := a) (g := g) (A := 1024) (G := 1025) ha.1 (by omega) (by omega) hG.2 (by omega)
  have l1 := own_ml (u := a.toInt64) (c_i2l a) ha.1 (show a.toInt ≤ 1024 by omega) (by omega) hG.2 (by omega)
  have l3 := own_ml (u := b.toInt64) (c_i2l b) hb.1 (show b.toInt ≤ 1024 by omega) (by omega) hG.2 (by omega)
  have n3 := own_pos2 hb.1 (show 0 ≤ g.toInt by omega)
  have n4 := own_ub2 hb.1 (show 0 ≤ g.toInt by omega) (show b.toInt ≤ 1024 by omega) hG.2
  have k1 := c_iadd (a * g) b
  have k2 := rng32 (a * g + b)
  have k3 : (a * g + b).toInt = a.toInt * g.toInt + b.toInt := by omega
  obtain ⟨m4, m5, m6⟩ := own_mi (x := a * g + b) (g := g) (A := 1050624) (G := 1025) (by omega) (by omega) (by omega) hG.2 (by omega)
  have l2 := own_ml (x := a * g) (u := a.toInt64 * g.toInt64) (by rw [l1, m1]) (by omega) (show (a * g).toInt ≤ 1049600 by omega) (by omega) hG.2 (by omega)
  have e : (a * g + b).toInt * g.toInt = (a * g).toInt * g.toInt + b.toInt * g.toInt := by rw [k3, ← m1, Int.add_mul]
  rw [e] at m4 m5 m6
  have o1 := own_pos2 (show 0 ≤ (a * g).toInt by omega) (show 0 ≤ g.toInt by omega)
  apply Int64.toInt_inj.mp
  have s1 := c_iadd ((a * g + b) * g) c
  have s2 := rng32 ((a * g + b) * g + c)
  have s3 := c_ladd (a.toInt64 * g.toInt64 * g.toInt64) (b.toInt64 * g.toInt64)
  have s4 := rng64 (a.toInt64 * g.toInt64 * g.toInt64 + b.toInt64 * g.toInt64)
  have s5 := c_ladd (a.toInt64 * g.toInt64 * g.toInt64 + b.toInt64 * g.toInt64) c.toInt64
  have s6 := rng64 (a.toInt64 * g.toInt64 * g.toInt64 + b.toInt64 * g.toInt64 + c.toInt64)
  rw [c_i2l] at s5 ⊢
  omega
theorem d2_0 : decode jdk_30_method_1_code 0 = .ok (.aload_n 0, 1) := by decide +kernel
theorem d2_1 : decode jdk_30_method_1_code 1 = .ok (.invokespecial 1, 3) := by decide +kernel
theorem d2_4 : decode jdk_30_method_1_code 4 = .ok (.return_, 1) := by decide +kernel
theorem pn_2 : plainName "java/lang/Record" = true := by first | (simp [plainName, overriddenIn]; done) | decide +kernel
theorem ef_2 (m : MethodId) (r0 : Addr) : entryFrame m #[(.ref r0)] 1 = mkF m 0 #[.val (.ref r0)] [] := by first | (simp [entryFrame, mkF, argsToLocals, Value.category]; done) | rfl
def Q2 (Z : State) (r0 : Addr)  (h0 : Heap) (n0 : Nat) (v : Option Value) (h : Heap) (L : List Loc) : Prop := v = none ∧ Fr n0 L ∧ h = h0
set_option maxRecDepth 65536 in
set_option maxHeartbeats 40000000 in
theorem rm2 (l : Launch) (Z : State) (a0 : Array Value) (hw : ∀ d ∈ tables_1, d.before a0 Z = true) (ws : List Jvm.Cond) (r0 : Addr)  (h0 : Heap) (n0 : Nat) (Z0 : n0 ≤ h0.size)  :
    MetFree l (⟨"java/lang/Record", "<init>", "()V"⟩ : MethodName) (head1 (Jvm.Cond.code (⟨"java/lang/Record", "<init>", "()V"⟩ : MethodName) jdk_30_method_1_code 1 none :: ws) ({ frames := 1, cells := 0, slots := 0, locals := 12 } : Room)) (fun a U => a = #[(.ref r0)] ∧ Z.Warmed39 U.vm ∧ U.heap = h0) (fun _ _ _ _ _ => True) (fun _ U o U' => ∃ v L, o = .returned v ∧ Q2 Z r0 h0 n0 v U'.heap L ∧ FrameEnd U o U' L ({ frames := 1, cells := 0, slots := 0, locals := 12 } : Room).cells ({ frames := 1, cells := 0, slots := 0, locals := 12 } : Room).slots) := by
  refine MetFree.of_bodySF (plainFor_of_name pn_2) hisR ?_
  intro p e s m args below meth c s₁ Bd hml0 hP hK
  obtain ⟨rfl, hZ, hh⟩ := hP
  have hx := Bd.exec
  have hby := Bd.bytes
  have hml : c.maxLocals = 1 := hml0
  have hown : s.vm.findClass "java/lang/Record" = some m.cls := findClass_of_methodNamed Bd.named
  have hnm := (name_of_methodNamed Bd.named Bd.method).1
  have hlk : meth.locks = false := Bd.notSynchronized
  have X0 : Stand p l e ({ frames := 1, cells := 0, slots := 0, locals := 12 } : Room) s m #[(.ref r0)] below meth c s₁ [] 0 0 := Stand.of_body Bd
  have e0 : s₁.heap = h0 := by rw [← hh, Bd.state]; rfl
  have N0 := Fr.nil n0
  refine own_cast (Q := Q2 Z r0 h0 n0) (kc := 0) (ks := 0) (ef_2 m r0) ?_
  refine own_st (fun _ k => XS.aloadN X0.here hx rfl (hb hby d2_0) rfl rfl k) ?_
  show own_Go X0 (Q2 Z r0 h0 n0) 0 0 1 #[.val (.ref r0)] [(.ref r0)]
  obtain ⟨T1, X1, e1, st1⟩ := initO X0 hx hZ hown (hw _ (List.mem_of_getElem? (i := 14) rfl)) (hw _ (List.mem_of_getElem? (i := 15) rfl)) (hw _ (List.mem_of_getElem? (i := 16) rfl)) e0 (g := (mkF m 1 #[.val (.ref r0)] [(.ref r0)])) rfl (by rw [hml]; rfl) rfl (hb hby d2_1) (by decide) (W := 0) (by show 2 * 0 + _ ≤ _; exact Nat.le_of_eq rfl) (by decide)
  refine own_st st1 ?_
  show own_Go X1 (Q2 Z r0 h0 n0) 0 0 4 #[.val (.ref r0)] []
  refine own_retV X1 hx Bd.returns hlk e1 (hb hby d2_4) (by decide) (by decide) ?_
  exact ⟨rfl, N0, rfl⟩
theorem d41_0 : decode prog_55_method_7_code 0 = .ok (.lconst 1, 1) := by decide +kernel
theorem d41_1 : decode prog_55_method_7_code 1 = .ok (.lstore_n 2, 1) := by decide +kernel
theorem d41_2 : decode prog_55_method_7_code 2 = .ok (.iconst 0, 1) := by decide +kernel
theorem d41_3 : decode prog_55_method_7_code 3 = .ok (.istore 4, 2) := by decide +kernel
theorem d41_5 : decode prog_55_method_7_code 5 = .ok (.iload 4, 2) := by decide +kernel
theorem d41_7 : decode prog_55_method_7_code 7 = .ok (.iload_n 1, 1) := by decide +kernel
theorem d41_8 : decode prog_55_method_7_code 8 = .ok (.if_icmp .ge 24, 3) := by decide +kernel
theorem d41_11 : decode prog_55_method_7_code 11 = .ok (.lload_n 2, 1) := by decide +kernel
theorem d41_12 : decode prog_55_method_7_code 12 = .ok (.iload_n 0, 1) := by decide +kernel
theorem d41_13 : decode prog_55_method_7_code 13 = .ok (.i2l, 1) := by decide +kernel
theorem d41_14 : decode prog_55_method_7_code 14 = .ok (.lmul, 1) := by decide +kernel
theorem d41_15 : decode prog_55_method_7_code 15 = .ok (.lstore_n 2, 1) := by decide +kernel
theorem d41_16 : decode prog_55_method_7_code 16 = .ok (.lload_n 2, 1) := by decide +kernel
theorem d41_17 : decode prog_55_method_7_code 17 = .ok (.ldc2_w 133, 3) := by decide +kernel
theorem d41_20 : decode prog_55_method_7_code 20 = .ok (.lcmp, 1) := by decide +kernel
theorem d41_21 : decode prog_55_method_7_code 21 = .ok (.ifCond .le 5, 3) := by decide +kernel
theorem d41_26 : decode prog_55_method_7_code 26 = .ok (.iinc 4 1, 3) := by decide +kernel
theorem d41_29 : decode prog_55_method_7_code 29 = .ok (.goto (-24), 3) := by decide +kernel
theorem d41_32 : decode prog_55_method_7_code 32 = .ok (.lload_n 2, 1) := by decide +kernel
theorem d41_33 : decode prog_55_method_7_code 33 = .ok (.l2i, 1) := by decide +kernel
theorem d41_34 : decode prog_55_method_7_code 34 = .ok (.ireturn, 1) := by decide +kernel
theorem pn_41 : plainName "com/example/gingham/gingham/designs/CoveringArraySpec" = true := by first | (simp [plainName, overriddenIn]; done) | decide +kernel
theorem ef_41 (m : MethodId) (p0 : Int32) : entryFrame m #[(.int p0), (.int (1 : Int32))] 5 = mkF m 0 #[.val (.int p0), .val (.int (1 : Int32)), .unset, .unset, .unset] [] := by first | (simp [entryFrame, mkF, argsToLocals, Value.category]; done) | rfl
def Q41 (Z : State) (p0 : Int32)  (h0 : Heap) (n0 : Nat) (v : Option Value) (h : Heap) (L : List Loc) : Prop := v = some (.int ((own_pw1 p0).toInt32)) ∧ Fr n0 L ∧ h = h0
set_option maxRecDepth 65536 in
set_option maxHeartbeats 40000000 in
theorem rm41 (l : Launch) (Z : State) (a0 : Array Value) (hw : ∀ d ∈ tables_1, d.before a0 Z = true) (ws : List Jvm.Cond) (p0 : Int32)  (h0 : Heap) (n0 : Nat) (Z0 : n0 ≤ h0.size) (H1 : ¬ (2147483639 : Int64) < own_pw1 p0) :
    MetFree l (⟨"com/example/gingham/gingham/designs/CoveringArraySpec", "tupleCount", "(II)I"⟩ : MethodName) (head1 (Jvm.Cond.code (⟨"com/example/gingham/gingham/designs/CoveringArraySpec", "tupleCount", "(II)I"⟩ : MethodName) prog_55_method_7_code 5 (some .int) :: ws) ({ frames := 0, cells := 0, slots := 0, locals := 0 } : Room)) (fun a U => a = #[(.int p0), (.int (1 : Int32))] ∧ Z.Warmed39 U.vm ∧ U.heap = h0) (fun _ _ _ _ _ => True) (fun _ U o U' => ∃ v L, o = .returned v ∧ Q41 Z p0 h0 n0 v U'.heap L ∧ FrameEnd U o U' L ({ frames := 0, cells := 0, slots := 0, locals := 0 } : Room).cells ({ frames := 0, cells := 0, slots := 0, locals := 0 } : Room).slots) := by
  refine MetFree.of_bodySF (plainFor_of_name pn_41) hisR ?_
  intro p e s m args below meth c s₁ Bd hml0 hP hK
  obtain ⟨rfl, hZ, hh⟩ := hP
  have hx := Bd.exec
  have hby := Bd.bytes
  have hml : c.maxLocals = 5 := hml0
  have hown : s.vm.findClass "com/example/gingham/gingham/designs/CoveringArraySpec" = some m.cls := findClass_of_methodNamed Bd.named
  have hnm := (name_of_methodNamed Bd.named Bd.method).1
  have hlk : meth.locks = false := Bd.notSynchronized
  have X0 : Stand p l e ({ frames := 0, cells := 0, slots := 0, locals := 0 } : Room) s m #[(.int p0), (.int (1 : Int32))] below meth c s₁ [] 0 0 := Stand.of_body Bd
  have e0 : s₁.heap = h0 := by rw [← hh, Bd.state]; rfl
  have N0 := Fr.nil n0
  refine own_cast (Q := Q41 Z p0 h0 n0) (kc := 0) (ks := 0) (ef_41 m p0) ?_
  refine own_st (fun _ k => XS.lconst X0.here hx rfl (hb hby d41_0) k) ?_
  show own_Go X0 (Q41 Z p0 h0 n0) 0 0 1 #[.val (.int p0), .val (.int (1 : Int32)), .unset, .unset, .unset] [(.long (1 : Int64))]
  refine own_st (fun _ k => XS.lstoreN X0.here hx rfl (hb hby d41_1) rfl (l' := #[.val (.int p0), .val (.int (1 : Int32)), .val (.long (1 : Int64)), .second, .unset]) rfl k) ?_
  show own_Go X0 (Q41 Z p0 h0 n0) 0 0 2 #[.val (.int p0), .val (.int (1 : Int32)), .val (.long (1 : Int64)), .second, .unset] []
  refine own_st (fun _ k => XS.iconst X0.here hx rfl (hb hby d41_2) k) ?_
  show own_Go X0 (Q41 Z p0 h0 n0) 0 0 3 #[.val (.int p0), .val (.int (1 : Int32)), .val (.long (1 : Int64)), .second, .unset] [(.int (0 : Int32))]
  refine own_st (fun _ k => XS.istore X0.here hx rfl (hb hby d41_3) rfl (l' := #[.val (.int p0), .val (.int (1 : Int32)), .val (.long (1 : Int64)), .second, .val (.int (0 : Int32))]) rfl k) ?_
  show own_Go X0 (Q41 Z p0 h0 n0) 0 0 5 #[.val (.int p0), .val (.int (1 : Int32)), .val (.long (1 : Int64)), .second, .val (.int (0 : Int32))] []
  refine own_st (fun _ k => XS.iload X0.here hx rfl (hb hby d41_5) rfl k) ?_
  show own_Go X0 (Q41 Z p0 h0 n0) 0 0 7 #[.val (.int p0), .val (.int (1 : Int32)), .val (.long (1 : Int64)), .second, .val (.int (0 : Int32))] [(.int (0 : Int32))]
  refine own_st (fun _ k => XS.iloadN X0.here hx rfl (hb hby d41_7) rfl k) ?_
  show own_Go X0 (Q41 Z p0 h0 n0) 0 0 8 #[.val (.int p0), .val (.int (1 : Int32)), .val (.long (1 : Int64)), .second, .val (.int (0 : Int32))] [(.int (1 : Int32)), (.int (0 : Int32))]
  have c8_1 : (0 : Int32) < (1 : Int32) := (by decide)
  refine own_st (fun _ k => XS.icmpNo X0.here hx rfl (hb hby d41_8) rfl (tlt c8_1).2.1 k) ?_
  show own_Go X0 (Q41 Z p0 h0 n0) 0 0 11 #[.val (.int p0), .val (.int (1 : Int32)), .val (.long (1 : Int64)), .second, .val (.int (0 : Int32))] []
  refine own_st (fun _ k => XS.lloadN X0.here hx rfl (hb hby d41_11) rfl k) ?_
  show own_Go X0 (Q41 Z p0 h0 n0) 0 0 12 #[.val (.int p0), .val (.int (1 : Int32)), .val (.long (1 : Int64)), .second, .val (.int (0 : Int32))] [(.long (1 : Int64))]
  refine own_st (fun _ k => XS.iloadN X0.here hx rfl (hb hby d41_12) rfl k) ?_
  show own_Go X0 (Q41 Z p0 h0 n0) 0 0 13 #[.val (.int p0), .val (.int (1 : Int32)), .val (.long (1 : Int64)), .second, .val (.int (0 : Int32))] [(.int p0), (.long (1 : Int64))]
  refine own_st (fun _ k => XS.i2l X0.here hx rfl (hb hby d41_13) rfl k) ?_
  show own_Go X0 (Q41 Z p0 h0 n0) 0 0 14 #[.val (.int p0), .val (.int (1 : Int32)), .val (.long (1 : Int64)), .second, .val (.int (0 : Int32))] [(.long (p0.toInt64)), (.long (1 : Int64))]
  refine own_st (fun _ k => XS.lmul X0.here hx rfl (hb hby d41_14) rfl k) ?_
  show own_Go X0 (Q41 Z p0 h0 n0) 0 0 15 #[.val (.int p0), .val (.int (1 : Int32)), .val (.long (1 : Int64)), .second, .val (.int (0 : Int32))] [(.long ((1 : Int64) * (p0.toInt64)))]
  refine own_st (fun _ k => XS.lstoreN X0.here hx rfl (hb hby d41_15) rfl (l' := #[.val (.int p0), .val (.int (1 : Int32)), .val (.long ((1 : Int64) * (p0.toInt64))), .second, .val (.int (0 : Int32))]) rfl k) ?_
  show own_Go X0 (Q41 Z p0 h0 n0) 0 0 16 #[.val (.int p0), .val (.int (1 : Int32)), .val (.long ((1 : Int64) * (p0.toInt64))), .second, .val (.int (0 : Int32))] []
  show own_Go X0 (Q41 Z p0 h0 n0) 0 0 16 #[.val (.int p0), .val (.int (1 : Int32)), .val (.long (own_pw1 p0)), .second, .val (.int (0 : Int32))] []
  refine own_st (fun _ k => XS.lloadN X0.here hx rfl (hb hby d41_16) rfl k) ?_
  show own_Go X0 (Q41 Z p0 h0 n0) 0 0 17 #[.val (.int p0), .val (.int (1 : Int32)), .val (.long (own_pw1 p0)), .second, .val (.int (0 : Int32))] [(.long (own_pw1 p0))]
  refine own_st (fun t k => X0.ldc2Long hx hown (mvT hZ (hw _ (List.mem_of_getElem? (i := 20) rfl))) (g := (mkF m 17 #[.val (.int p0), .val (.int (1 : Int32)), .val (.long (own_pw1 p0)), .second, .val (.int (0 : Int32))] [(.long (own_pw1 p0))])) rfl (hb hby d41_17) t k) ?_
  show own_Go X0 (Q41 Z p0 h0 n0) 0 0 20 #[.val (.int p0), .val (.int (1 : Int32)), .val (.long (own_pw1 p0)), .second, .val (.int (0 : Int32))] [(.long (2147483639 : Int64)), (.long (own_pw1 p0))]
  refine own_st (fun _ k => XS.lcmp X0.here hx rfl (hb hby d41_20) rfl k) ?_
  show own_Go X0 (Q41 Z p0 h0 n0) 0 0 21 #[.val (.int p0), .val (.int (1 : Int32)), .val (.long (own_pw1 p0)), .second, .val (.int (0 : Int32))] [(.int (lcmpW (own_pw1 p0) (2147483639 : Int64)))]
  have c21_2 : ¬ ((2147483639 : Int64) < (own_pw1 p0)) := H1
  refine own_st (fun _ k => XS.ifYes X0.here hx rfl (pc0 := 21) (pc' := 26) rfl (hb hby d41_21) rfl ((if0 _ _).trans (flt (fun q => c21_2 ((lw_gt _ _).mp q))).2.2.2) (by decide) (by decide) k) ?_
  show own_Go X0 (Q41 Z p0 h0 n0) 0 0 26 #[.val (.int p0), .val (.int (1 : Int32)), .val (.long (own_pw1 p0)), .second, .val (.int (0 : Int32))] []
  refine own_st (fun _ k => XS.iinc X0.here hx rfl (hb hby d41_26) rfl (l' := #[.val (.int p0), .val (.int (1 : Int32)), .val (.long (own_pw1 p0)), .second, .val (.int (1 : Int32))]) rfl k) ?_
  show own_Go X0 (Q41 Z p0 h0 n0) 0 0 29 #[.val (.int p0), .val (.int (1 : Int32)), .val (.long (own_pw1 p0)), .second, .val (.int (1 : Int32))] []
  refine own_st (fun _ k => XS.goto X0.here hx rfl (pc0 := 29) (pc' := 5) rfl (hb hby d41_29) (by decide) (by decide) k) ?_
  show own_Go X0 (Q41 Z p0 h0 n0) 0 0 5 #[.val (.int p0), .val (.int (1 : Int32)), .val (.long (own_pw1 p0)), .second, .val (.int (1 : Int32))] []
  refine own_st (fun _ k => XS.iload X0.here hx rfl (hb hby d41_5) rfl k) ?_
  show own_Go X0 (Q41 Z p0 h0 n0) 0 0 7 #[.val (.int p0), .val (.int (1 : Int32)), .val (.long (own_pw1 p0)), .second, .val (.int (1 : Int32))] [(.int (1 : Int32))]
  refine own_st (fun _ k => XS.iloadN X0.here hx rfl (hb hby d41_7) rfl k) ?_
  show own_Go X0 (Q41 Z p0 h0 n0) 0 0 8 #[.val (.int p0), .val (.int (1 : Int32)), .val (.long (own_pw1 p0)), .second, .val (.int (1 : Int32))] [(.int (1 : Int32)), (.int (1 : Int32))]
  have c8_3 : ¬ ((1 : Int32) < (1 : Int32)) := (by decide)
  refine own_st (fun _ k => XS.icmpYes X0.here hx rfl (pc0 := 8) (pc' := 32) rfl (hb hby d41_8) rfl (flt c8_3).2.1 (by decide) (by decide) k) ?_
  show own_Go X0 (Q41 Z p0 h0 n0) 0 0 32 #[.val (.int p0), .val (.int (1 : Int32)), .val (.long (own_pw1 p0)), .second, .val (.int (1 : Int32))] []
  refine own_st (fun _ k => XS.lloadN X0.here hx rfl (hb hby d41_32) rfl k) ?_
  show own_Go X0 (Q41 Z p0 h0 n0) 0 0 33 #[.val (.int p0), .val (.int (1 : Int32)), .val (.long (own_pw1 p0)), .second, .val (.int (1 : Int32))] [(.long (own_pw1 p0))]
  refine own_st (fun _ k => XS.l2i X0.here hx rfl (hb hby d41_33) rfl k) ?_
  show own_Go X0 (Q41 Z p0 h0 n0) 0 0 34 #[.val (.int p0), .val (.int (1 : Int32)), .val (.long (own_pw1 p0)), .second, .val (.int (1 : Int32))] [(.int ((own_pw1 p0).toInt32))]
  refine own_retI X0 hx Bd.returns hlk e0 (hb hby d41_34) (by decide) (by decide) ?_
  exact ⟨rfl, N0, rfl⟩
theorem d11_0 : decode prog_55_method_1_code 0 = .ok (.aload_n 0, 1) := by decide +kernel
theorem d11_1 : decode prog_55_method_1_code 1 = .ok (.invokespecial 1, 3) := by decide +kernel
theorem d11_4 : decode prog_55_method_1_code 4 = .ok (.iload_n 1, 1) := by decide +kernel
theorem d11_5 : decode prog_55_method_1_code 5 = .ok (.iconst 1, 1) := by decide +kernel
theorem d11_6 : decode prog_55_method_1_code 6 = .ok (.if_icmp .ge 11, 3) := by decide +kernel
theorem d11_17 : decode prog_55_method_1_code 17 = .ok (.iload_n 3, 1) := by decide +kernel
theorem d11_18 : decode prog_55_method_1_code 18 = .ok (.iconst 1, 1) := by decide +kernel
theorem d11_19 : decode prog_55_method_1_code 19 = .ok (.if_icmp .ge 11, 3) := by decide +kernel
theorem d11_30 : decode prog_55_method_1_code 30 = .ok (.iload_n 2, 1) := by decide +kernel
theorem d11_31 : decode prog_55_method_1_code 31 = .ok (.iconst 1, 1) := by decide +kernel
theorem d11_32 : decode prog_55_method_1_code 32 = .ok (.if_icmp .lt 8, 3) := by decide +kernel
theorem d11_35 : decode prog_55_method_1_code 35 = .ok (.iload_n 2, 1) := by decide +kernel
theorem d11_36 : decode prog_55_method_1_code 36 = .ok (.iload_n 3, 1) := by decide +kernel
theorem d11_37 : decode prog_55_method_1_code 37 = .ok (.if_icmp .le 20, 3) := by decide +kernel
theorem d11_57 : decode prog_55_method_1_code 57 = .ok (.iload 4, 2) := by decide +kernel
theorem d11_59 : decode prog_55_method_1_code 59 = .ok (.iconst 2, 1) := by decide +kernel
theorem d11_60 : decode prog_55_method_1_code 60 = .ok (.if_icmp .ge 12, 3) := by decide +kernel
theorem d11_72 : decode prog_55_method_1_code 72 = .ok (.iload 4, 2) := by decide +kernel
theorem d11_74 : decode prog_55_method_1_code 74 = .ok (.iload_n 2, 1) := by decide +kernel
theorem d11_75 : decode prog_55_method_1_code 75 = .ok (.invokestatic 28, 3) := by decide +kernel
theorem d11_78 : decode prog_55_method_1_code 78 = .ok (.ifCond .ge 23, 3) := by decide +kernel
theorem d11_101 : decode prog_55_method_1_code 101 = .ok (.aload_n 0, 1) := by decide +kernel
theorem d11_102 : decode prog_55_method_1_code 102 = .ok (.iload_n 1, 1) := by decide +kernel
theorem d11_103 : decode prog_55_method_1_code 103 = .ok (.putfield 37, 3) := by decide +kernel
theorem d11_106 : decode prog_55_method_1_code 106 = .ok (.aload_n 0, 1) := by decide +kernel
theorem d11_107 : decode prog_55_method_1_code 107 = .ok (.iload_n 2, 1) := by decide +kernel
theorem d11_108 : decode prog_55_method_1_code 108 = .ok (.putfield 40, 3) := by decide +kernel
theorem d11_111 : decode prog_55_method_1_code 111 = .ok (.aload_n 0, 1) := by decide +kernel
theorem d11_112 : decode prog_55_method_1_code 112 = .ok (.iload_n 3, 1) := by decide +kernel
theorem d11_113 : decode prog_55_method_1_code 113 = .ok (.putfield 42, 3) := by decide +kernel
theorem d11_116 : decode prog_55_method_1_code 116 = .ok (.aload_n 0, 1) := by decide +kernel
theorem d11_117 : decode prog_55_method_1_code 117 = .ok (.iload 4, 2) := by decide +kernel
theorem d11_119 : decode prog_55_method_1_code 119 = .ok (.putfield 44, 3) := by decide +kernel
theorem d11_122 : decode prog_55_method_1_code 122 = .ok (.return_, 1) := by decide +kernel
theorem pn_11 : plainName "com/example/gingham/gingham/designs/CoveringArraySpec" = true := by first | (simp [plainName, overriddenIn]; done) | decide +kernel
theorem pd_11_0 : parseMethodDescriptor "()V" = some ⟨[], none⟩ := by decide +kernel
theorem pd_11_1 : parseMethodDescriptor "(II)I" = some ⟨[.int, .int], some .int⟩ := by decide +kernel
theorem ef_11 (m : MethodId) (r0 : Addr) (p4 : Int32) : entryFrame m #[(.ref r0), (.int (1 : Int32)), (.int (1 : Int32)), (.int (4 : Int32)), (.int p4)] 5 = mkF m 0 #[.val (.ref r0), .val (.int (1 : Int32)), .val (.int (1 : Int32)), .val (.int (4 : Int32)), .val (.int p4)] [] := by first | (simp [entryFrame, mkF, argsToLocals, Value.category]; done) | rfl
def Q11 (Z : State) (r0 : Addr) (p4 : Int32)  (h0 : Heap) (n0 : Nat) (v : Option Value) (h : Heap) (L : List Loc) : Prop := v = none ∧ Fr n0 L ∧ Keep h0 h [r0] ∧ Fld Z h r0 "com/example/gingham/gingham/designs/CoveringArraySpec" "rows" "I" (.int (1 : Int32)) ∧ Fld Z h r0 "com/example/gingham/gingham/designs/CoveringArraySpec" "strength" "I" (.int (1 : Int32)) ∧ Fld Z h r0 "com/example/gingham/gingham/designs/CoveringArraySpec" "columns" "I" (.int (4 : Int32)) ∧ Fld Z h r0 "com/example/gingham/gingham/designs/CoveringArraySpec" "levels" "I" (.int p4)
set_option maxRecDepth 65536 in
set_option maxHeartbeats 40000000 in
theorem rm11 (l : Launch) (Z : State) (a0 : Array Value) (hw : ∀ d ∈ tables_1, d.before a0 Z = true) (ws : List Jvm.Cond) (r0 : Addr) (p4 : Int32)  (h0 : Heap) (n0 : Nat) (Z0 : n0 ≤ h0.size) (PE : Exa Z h0 r0 "com/example/gingham/gingham/designs/CoveringArraySpec") (PG : n0 ≤ r0) (P_rows : Fld Z h0 r0 "com/example/gingham/gingham/designs/CoveringArraySpec" "rows" "I" (.int (0 : Int32))) (P_strength : Fld Z h0 r0 "com/example/gingham/gingham/designs/CoveringArraySpec" "strength" "I" (.int (0 : Int32))) (P_columns : Fld Z h0 r0 "com/example/gingham/gingham/designs/CoveringArraySpec" "columns" "I" (.int (0 : Int32))) (P_levels : Fld Z h0 r0 "com/example/gingham/gingham/designs/CoveringArraySpec" "levels" "I" (.int (0 : Int32))) (H1 : ¬ (2147483639 : Int64) < own_pw1 p4) (HN : ¬ (own_pw1 p4).toInt32 < (0 : Int32)) (HG : ¬ p4 < (2 : Int32)) :
    MetFree l (⟨"com/example/gingham/gingham/designs/CoveringArraySpec", "<init>", "(IIII)V"⟩ : MethodName) (head1 (Jvm.Cond.code (⟨"com/example/gingham/gingham/designs/CoveringArraySpec", "<init>", "(IIII)V"⟩ : MethodName) prog_55_method_1_code 5 none :: ws) ({ frames := 2, cells := 0, slots := 0, locals := 24 } : Room)) (fun a U => a = #[(.ref r0), (.int (1 : Int32)), (.int (1 : Int32)), (.int (4 : Int32)), (.int p4)] ∧ Z.Warmed39 U.vm ∧ U.heap = h0) (fun _ _ _ _ _ => True) (fun _ U o U' => ∃ v L, o = .returned v ∧ Q11 Z r0 p4 h0 n0 v U'.heap L ∧ FrameEnd U o U' L ({ frames := 2, cells := 0, slots := 0, locals := 24 } : Room).cells ({ frames := 2, cells := 0, slots := 0, locals := 24 } : Room).slots) := by
  refine MetFree.of_bodySF (plainFor_of_name pn_11) hisR ?_
  intro p e s m args below meth c s₁ Bd hml0 hP hK
  obtain ⟨rfl, hZ, hh⟩ := hP
  have hx := Bd.exec
  have hby := Bd.bytes
  have hml : c.maxLocals = 5 := hml0
  have hown : s.vm.findClass "com/example/gingham/gingham/designs/CoveringArraySpec" = some m.cls := findClass_of_methodNamed Bd.named
  have hnm := (name_of_methodNamed Bd.named Bd.method).1
  have hlk : meth.locks = false := Bd.notSynchronized
  have X0 : Stand p l e ({ frames := 2, cells := 0, slots := 0, locals := 24 } : Room) s m #[(.ref r0), (.int (1 : Int32)), (.int (1 : Int32)), (.int (4 : Int32)), (.int p4)] below meth c s₁ [] 0 0 := Stand.of_body Bd
  have e0 : s₁.heap = h0 := by rw [← hh, Bd.state]; rfl
  have N0 := Fr.nil n0
  refine own_cast (Q := Q11 Z r0 p4 h0 n0) (kc := 0) (ks := 0) (ef_11 m r0 p4) ?_
  have K_1 := Keep.refl h0 [r0]
  refine own_st (fun _ k => XS.aloadN X0.here hx rfl (hb hby d11_0) rfl rfl k) ?_
  show own_Go X0 (Q11 Z r0 p4 h0 n0) 0 0 1 #[.val (.ref r0), .val (.int (1 : Int32)), .val (.int (1 : Int32)), .val (.int (4 : Int32)), .val (.int p4)] [(.ref r0)]
  refine own_callI (W := 0) X0 hx hZ hown (hw _ (List.mem_of_getElem? (i := 9) rfl)) (hw _ (List.mem_of_getElem? (i := 10) rfl)) (hw _ (List.mem_of_getElem? (i := 12) rfl)) (hw _ (List.mem_of_getElem? (i := 13) rfl)) rfl (by decide) (rm2 l Z a0 hw [] r0 h0 n0 Z0) (by decide) (by decide) (by rw [hml]; rfl) r0 [] [] (lenOf pd_11_0 rfl) rfl rfl (Nat.le_of_ble_eq_true rfl) (hb hby d11_1) e0 (by decide) (by decide) ?_
  rintro _ T2 L2 X2 ⟨rfl, N2q, e2⟩
  have N_3 := Fr.app N0 N2q
  show own_Go X2 (Q11 Z r0 p4 h0 n0) 0 0 4 #[.val (.ref r0), .val (.int (1 : Int32)), .val (.int (1 : Int32)), .val (.int (4 : Int32)), .val (.int p4)] []
  refine own_st (fun _ k => XS.iloadN X2.here hx rfl (hb hby d11_4) rfl k) ?_
  show own_Go X2 (Q11 Z r0 p4 h0 n0) 0 0 5 #[.val (.ref r0), .val (.int (1 : Int32)), .val (.int (1 : Int32)), .val (.int (4 : Int32)), .val (.int p4)] [(.int (1 : Int32))]
  refine own_st (fun _ k => XS.iconst X2.here hx rfl (hb hby d11_5) k) ?_
  show own_Go X2 (Q11 Z r0 p4 h0 n0) 0 0 6 #[.val (.ref r0), .val (.int (1 : Int32)), .val (.int (1 : Int32)), .val (.int (4 : Int32)), .val (.int p4)] [(.int (1 : Int32)), (.int (1 : Int32))]
  have c6_4 : ¬ ((1 : Int32) < (1 : Int32)) := (by decide)
  refine own_st (fun _ k => XS.icmpYes X2.here hx rfl (pc0 := 6) (pc' := 17) rfl (hb hby d11_6) rfl (flt c6_4).2.1 (by decide) (by decide) k) ?_
  show own_Go X2 (Q11 Z r0 p4 h0 n0) 0 0 17 #[.val (.ref r0), .val (.int (1 : Int32)), .val (.int (1 : Int32)), .val (.int (4 : Int32)), .val (.int p4)] []
  refine own_st (fun _ k => XS.iloadN X2.here hx rfl (hb hby d11_17) rfl k) ?_
  show own_Go X2 (Q11 Z r0 p4 h0 n0) 0 0 18 #[.val (.ref r0), .val (.int (1 : Int32)), .val (.int (1 : Int32)), .val (.int (4 : Int32)), .val (.int p4)] [(.int (4 : Int32))]
  refine own_st (fun _ k => XS.iconst X2.here hx rfl (hb hby d11_18) k) ?_
  show own_Go X2 (Q11 Z r0 p4 h0 n0) 0 0 19 #[.val (.ref r0), .val (.int (1 : Int32)), .val (.int (1 : Int32)), .val (.int (4 : Int32)), .val (.int p4)] [(.int (1 : Int32)), (.int (4 : Int32))]
  have c19_5 : ¬ ((4 : Int32) < (1 : Int32)) := (by decide)
  refine own_st (fun _ k => XS.icmpYes X2.here hx rfl (pc0 := 19) (pc' := 30) rfl (hb hby d11_19) rfl (flt c19_5).2.1 (by decide) (by decide) k) ?_
  show own_Go X2 (Q11 Z r0 p4 h0 n0) 0 0 30 #[.val (.ref r0), .val (.int (1 : Int32)), .val (.int (1 : Int32)), .val (.int (4 : Int32)), .val (.int p4)] []
  refine own_st (fun _ k => XS.iloadN X2.here hx rfl (hb hby d11_30) rfl k) ?_
  show own_Go X2 (Q11 Z r0 p4 h0 n0) 0 0 31 #[.val (.ref r0), .val (.int (1 : Int32)), .val (.int (1 : Int32)), .val (.int (4 : Int32)), .val (.int p4)] [(.int (1 : Int32))]
  refine own_st (fun _ k => XS.iconst X2.here hx rfl (hb hby d11_31) k) ?_
  show own_Go X2 (Q11 Z r0 p4 h0 n0) 0 0 32 #[.val (.ref r0), .val (.int (1 : Int32)), .val (.int (1 : Int32)), .val (.int (4 : Int32)), .val (.int p4)] [(.int (1 : Int32)), (.int (1 : Int32))]
  have c32_6 : ¬ ((1 : Int32) < (1 : Int32)) := (by decide)
  refine own_st (fun _ k => XS.icmpNo X2.here hx rfl (hb hby d11_32) rfl (flt c32_6).1 k) ?_
  show own_Go X2 (Q11 Z r0 p4 h0 n0) 0 0 35 #[.val (.ref r0), .val (.int (1 : Int32)), .val (.int (1 : Int32)), .val (.int (4 : Int32)), .val (.int p4)] []
  refine own_st (fun _ k => XS.iloadN X2.here hx rfl (hb hby d11_35) rfl k) ?_
  show own_Go X2 (Q11 Z r0 p4 h0 n0) 0 0 36 #[.val (.ref r0), .val (.int (1 : Int32)), .val (.int (1 : Int32)), .val (.int (4 : Int32)), .val (.int p4)] [(.int (1 : Int32))]
  refine own_st (fun _ k => XS.iloadN X2.here hx rfl (hb hby d11_36) rfl k) ?_
  show own_Go X2 (Q11 Z r0 p4 h0 n0) 0 0 37 #[.val (.ref r0), .val (.int (1 : Int32)), .val (.int (1 : Int32)), .val (.int (4 : Int32)), .val (.int p4)] [(.int (4 : Int32)), (.int (1 : Int32))]
  have c37_7 : ¬ ((4 : Int32) < (1 : Int32)) := (by decide)
  refine own_st (fun _ k => XS.icmpYes X2.here hx rfl (pc0 := 37) (pc' := 57) rfl (hb hby d11_37) rfl (flt c37_7).2.2.2 (by decide) (by decide) k) ?_
  show own_Go X2 (Q11 Z r0 p4 h0 n0) 0 0 57 #[.val (.ref r0), .val (.int (1 : Int32)), .val (.int (1 : Int32)), .val (.int (4 : Int32)), .val (.int p4)] []
  refine own_st (fun _ k => XS.iload X2.here hx rfl (hb hby d11_57) rfl k) ?_
  show own_Go X2 (Q11 Z r0 p4 h0 n0) 0 0 59 #[.val (.ref r0), .val (.int (1 : Int32)), .val (.int (1 : Int32)), .val (.int (4 : Int32)), .val (.int p4)] [(.int p4)]
  refine own_st (fun _ k => XS.iconst X2.here hx rfl (hb hby d11_59) k) ?_
  show own_Go X2 (Q11 Z r0 p4 h0 n0) 0 0 60 #[.val (.ref r0), .val (.int (1 : Int32)), .val (.int (1 : Int32)), .val (.int (4 : Int32)), .val (.int p4)] [(.int (2 : Int32)), (.int p4)]
  have c60_8 : ¬ (p4 < (2 : Int32)) := HG
  refine own_st (fun _ k => XS.icmpYes X2.here hx rfl (pc0 := 60) (pc' := 72) rfl (hb hby d11_60) rfl (flt c60_8).2.1 (by decide) (by decide) k) ?_
  show own_Go X2 (Q11 Z r0 p4 h0 n0) 0 0 72 #[.val (.ref r0), .val (.int (1 : Int32)), .val (.int (1 : Int32)), .val (.int (4 : Int32)), .val (.int p4)] []
  refine own_st (fun _ k => XS.iload X2.here hx rfl (hb hby d11_72) rfl k) ?_
  show own_Go X2 (Q11 Z r0 p4 h0 n0) 0 0 74 #[.val (.ref r0), .val (.int (1 : Int32)), .val (.int (1 : Int32)), .val (.int (4 : Int32)), .val (.int p4)] [(.int p4)]
  refine own_st (fun _ k => XS.iloadN X2.here hx rfl (hb hby d11_74) rfl k) ?_
  show own_Go X2 (Q11 Z r0 p4 h0 n0) 0 0 75 #[.val (.ref r0), .val (.int (1 : Int32)), .val (.int (1 : Int32)), .val (.int (4 : Int32)), .val (.int p4)] [(.int (1 : Int32)), (.int p4)]
  refine own_callS (W := 0) X2 hx hZ hown (hw _ (List.mem_of_getElem? (i := 17) rfl)) (hw _ (List.mem_of_getElem? (i := 18) rfl)) (hw _ (List.mem_of_getElem? (i := 5) rfl)) (hw _ (List.mem_of_getElem? (i := 19) rfl)) (by decide) (rm41 l Z a0 hw [] p4  h0 n0 Z0 H1) (by decide) (by decide) (by rw [hml]; rfl) [(.int p4), (.int (1 : Int32))] [] (lenOf pd_11_1 rfl) rfl rfl (Nat.le_of_ble_eq_true rfl) (hb hby d11_75) e2 (by decide) (by decide) ?_
  rintro _ T9 L9 X9 ⟨rfl, N9q, e9⟩
  have N_10 := Fr.app N_3 N9q
  show own_Go X9 (Q11 Z r0 p4 h0 n0) 0 0 78 #[.val (.ref r0), .val (.int (1 : Int32)), .val (.int (1 : Int32)), .val (.int (4 : Int32)), .val (.int p4)] [(.int ((own_pw1 p4).toInt32))]
  have c78_11 : ¬ (((own_pw1 p4).toInt32) < (0 : Int32)) := HN
  refine own_st (fun _ k => XS.ifYes X9.here hx rfl (pc0 := 78) (pc' := 101) rfl (hb hby d11_78) rfl ((if0 _ _).trans (flt c78_11).2.1) (by decide) (by decide) k) ?_
  show own_Go X9 (Q11 Z r0 p4 h0 n0) 0 0 101 #[.val (.ref r0), .val (.int (1 : Int32)), .val (.int (1 : Int32)), .val (.int (4 : Int32)), .val (.int p4)] []
  refine own_st (fun _ k => XS.aloadN X9.here hx rfl (hb hby d11_101) rfl rfl k) ?_
  show own_Go X9 (Q11 Z r0 p4 h0 n0) 0 0 102 #[.val (.ref r0), .val (.int (1 : Int32)), .val (.int (1 : Int32)), .val (.int (4 : Int32)), .val (.int p4)] [(.ref r0)]
  refine own_st (fun _ k => XS.iloadN X9.here hx rfl (hb hby d11_102) rfl k) ?_
  show own_Go X9 (Q11 Z r0 p4 h0 n0) 0 0 103 #[.val (.ref r0), .val (.int (1 : Int32)), .val (.int (1 : Int32)), .val (.int (4 : Int32)), .val (.int p4)] [(.int (1 : Int32)), (.ref r0)]
  obtain ⟨T12, h12, X12, e12, W12, st12⟩ := putF X9 hx hZ hown (host := "") (Or.inl (hw _ (List.mem_of_getElem? (i := 21) rfl))) Via.refl e9 P_rows PE (Or.inr ⟨(hw _ (List.mem_of_getElem? (i := 22) rfl)), rfl, hnm⟩) (hw _ (List.mem_of_getElem? (i := 4) rfl)) (ty := .int) (by decide) rfl rfl (g := (mkF m 103 #[.val (.ref r0), .val (.int (1 : Int32)), .val (.int (1 : Int32)), .val (.int (4 : Int32)), .val (.int p4)] [(.int (1 : Int32)), (.ref r0)])) rfl rfl (hb hby d11_103)
  refine own_st st12 ?_
  have f_13 := PE.wr W12
  have f_14 := P_strength.other W12 (Or.inr (slot_ne (Or.inr (hw _ (List.mem_of_getElem? (i := 24) rfl))) (Or.inr (hw _ (List.mem_of_getElem? (i := 22) rfl))) (by decide) (t := .int) (t' := .int) (by decide) (by decide)))
  have f_15 := P_columns.other W12 (Or.inr (slot_ne (Or.inr (hw _ (List.mem_of_getElem? (i := 26) rfl))) (Or.inr (hw _ (List.mem_of_getElem? (i := 22) rfl))) (by decide) (t := .int) (t' := .int) (by decide) (by decide)))
  have f_16 := P_levels.other W12 (Or.inr (slot_ne (Or.inr (hw _ (List.mem_of_getElem? (i := 28) rfl))) (Or.inr (hw _ (List.mem_of_getElem? (i := 22) rfl))) (by decide) (t := .int) (t' := .int) (by decide) (by decide)))
  have Z_17 := Nat.le_trans Z0 (Nat.le_of_eq W12.size.symm)
  have K_18 := K_1.wr W12 (Or.inl (List.mem_of_getElem? (i := 0) rfl))
  have f_19 := P_rows.same W12
  have N_20 := Fr.snoc X12 N_10 PG
  show own_Go X12 (Q11 Z r0 p4 h0 n0) 0 0 106 #[.val (.ref r0), .val (.int (1 : Int32)), .val (.int (1 : Int32)), .val (.int (4 : Int32)), .val (.int p4)] []
  refine own_st (fun _ k => XS.aloadN X12.here hx rfl (hb hby d11_106) rfl rfl k) ?_
  show own_Go X12 (Q11 Z r0 p4 h0 n0) 0 0 107 #[.val (.ref r0), .val (.int (1 : Int32)), .val (.int (1 : Int32)), .val (.int (4 : Int32)), .val (.int p4)] [(.ref r0)]
  refine own_st (fun _ k => XS.iloadN X12.here hx rfl (hb hby d11_107) rfl k) ?_
  show own_Go X12 (Q11 Z r0 p4 h0 n0) 0 0 108 #[.val (.ref r0), .val (.int (1 : Int32)), .val (.int (1 : Int32)), .val (.int (4 : Int32)), .val (.int p4)] [(.int (1 : Int32)), (.ref r0)]
  obtain ⟨T21, h21, X21, e21, W21, st21⟩ := putF X12 hx hZ hown (host := "") (Or.inl (hw _ (List.mem_of_getElem? (i := 23) rfl))) Via.refl e12 f_14 f_13 (Or.inr ⟨(hw _ (List.mem_of_getElem? (i := 24) rfl)), rfl, hnm⟩) (hw _ (List.mem_of_getElem? (i := 4) rfl)) (ty := .int) (by decide) rfl rfl (g := (mkF m 108 #[.val (.ref r0), .val (.int (1 : Int32)), .val (.int (1 : Int32)), .val (.int (4 : Int32)), .val (.int p4)] [(.int (1 : Int32)), (.ref r0)])) rfl rfl (hb hby d11_108)
  refine own_st st21 ?_
  have f_22 := f_13.wr W21
  have f_23 := f_19.other W21 (Or.inr (slot_ne (Or.inr (hw _ (List.mem_of_getElem? (i := 22) rfl))) (Or.inr (hw _ (List.mem_of_getElem? (i := 24) rfl))) (by decide) (t := .int) (t' := .int) (by decide) (by decide)))
  have f_24 := f_15.other W21 (Or.inr (slot_ne (Or.inr (hw _ (List.mem_of_getElem? (i := 26) rfl))) (Or.inr (hw _ (List.mem_of_getElem? (i := 24) rfl))) (by decide) (t := .int) (t' := .int) (by decide) (by decide)))
  have f_25 := f_16.other W21 (Or.inr (slot_ne (Or.inr (hw _ (List.mem_of_getElem? (i := 28) rfl))) (Or.inr (hw _ (List.mem_of_getElem? (i := 24) rfl))) (by decide) (t := .int) (t' := .int) (by decide) (by decide)))
  have Z_26 := Nat.le_trans Z_17 (Nat.le_of_eq W21.size.symm)
  have K_27 := K_18.wr W21 (Or.inl (List.mem_of_getElem? (i := 0) rfl))
  have f_28 := f_14.same W21
  have N_29 := Fr.snoc X21 N_20 PG
  show own_Go X21 (Q11 Z r0 p4 h0 n0) 0 0 111 #[.val (.ref r0), .val (.int (1 : Int32)), .val (.int (1 : Int32)), .val (.int (4 : Int32)), .val (.int p4)] []
  refine own_st (fun _ k => XS.aloadN X21.here hx rfl (hb hby d11_111) rfl rfl k) ?_
  show own_Go X21 (Q11 Z r0 p4 h0 n0) 0 0 112 #[.val (.ref r0), .val (.int (1 : Int32)), .val (.int (1 : Int32)), .val (.int (4 : Int32)), .val (.int p4)] [(.ref r0)]
  refine own_st (fun _ k => XS.iloadN X21.here hx rfl (hb hby d11_112) rfl k) ?_
  show own_Go X21 (Q11 Z r0 p4 h0 n0) 0 0 113 #[.val (.ref r0), .val (.int (1 : Int32)), .val (.int (1 : Int32)), .val (.int (4 : Int32)), .val (.int p4)] [(.int (4 : Int32)), (.ref r0)]
  obtain ⟨T30, h30, X30, e30, W30, st30⟩ := putF X21 hx hZ hown (host := "") (Or.inl (hw _ (List.mem_of_getElem? (i := 25) rfl))) Via.refl e21 f_24 f_22 (Or.inr ⟨(hw _ (List.mem_of_getElem? (i := 26) rfl)), rfl, hnm⟩) (hw _ (List.mem_of_getElem? (i := 4) rfl)) (ty := .int) (by decide) rfl rfl (g := (mkF m 113 #[.val (.ref r0), .val (.int (1 : Int32)), .val (.int (1 : Int32)), .val (.int (4 : Int32)), .val (.int p4)] [(.int (4 : Int32)), (.ref r0)])) rfl rfl (hb hby d11_113)
  refine own_st st30 ?_
  have f_31 := f_22.wr W30
  have f_32 := f_23.other W30 (Or.inr (slot_ne (Or.inr (hw _ (List.mem_of_getElem? (i := 22) rfl))) (Or.inr (hw _ (List.mem_of_getElem? (i := 26) rfl))) (by decide) (t := .int) (t' := .int) (by decide) (by decide)))
  have f_33 := f_28.other W30 (Or.inr (slot_ne (Or.inr (hw _ (List.mem_of_getElem? (i := 24) rfl))) (Or.inr (hw _ (List.mem_of_getElem? (i := 26) rfl))) (by decide) (t := .int) (t' := .int) (by decide) (by decide)))
  have f_34 := f_25.other W30 (Or.inr (slot_ne (Or.inr (hw _ (List.mem_of_getElem? (i := 28) rfl))) (Or.inr (hw _ (List.mem_of_getElem? (i := 26) rfl))) (by decide) (t := .int) (t' := .int) (by decide) (by decide)))
  have Z_35 := Nat.le_trans Z_26 (Nat.le_of_eq W30.size.symm)
  have K_36 := K_27.wr W30 (Or.inl (List.mem_of_getElem? (i := 0) rfl))
  have f_37 := f_24.same W30
  have N_38 := Fr.snoc X30 N_29 PG
  show own_Go X30 (Q11 Z r0 p4 h0 n0) 0 0 116 #[.val (.ref r0), .val (.int (1 : Int32)), .val (.int (1 : Int32)), .val (.int (4 : Int32)), .val (.int p4)] []
  refine own_st (fun _ k => XS.aloadN X30.here hx rfl (hb hby d11_116) rfl rfl k) ?_
  show own_Go X30 (Q11 Z r0 p4 h0 n0) 0 0 117 #[.val (.ref r0), .val (.int (1 : Int32)), .val (.int (1 : Int32)), .val (.int (4 : Int32)), .val (.int p4)] [(.ref r0)]
  refine own_st (fun _ k => XS.iload X30.here hx rfl (hb hby d11_117) rfl k) ?_
  show own_Go X30 (Q11 Z r0 p4 h0 n0) 0 0 119 #[.val (.ref r0), .val (.int (1 : Int32)), .val (.int (1 : Int32)), .val (.int (4 : Int32)), .val (.int p4)] [(.int p4), (.ref r0)]
  obtain ⟨T39, h39, X39, e39, W39, st39⟩ := putF X30 hx hZ hown (host := "") (Or.inl (hw _ (List.mem_of_getElem? (i := 27) rfl))) Via.refl e30 f_34 f_31 (Or.inr ⟨(hw _ (List.mem_of_getElem? (i := 28) rfl)), rfl, hnm⟩) (hw _ (List.mem_of_getElem? (i := 4) rfl)) (ty := .int) (by decide) rfl rfl (g := (mkF m 119 #[.val (.ref r0), .val (.int (1 : Int32)), .val (.int (1 : Int32)), .val (.int (4 : Int32)), .val (.int p4)] [(.int p4), (.ref r0)])) rfl rfl (hb hby d11_119)
  refine own_st st39 ?_
  have f_40 := f_31.wr W39
  have f_41 := f_32.other W39 (Or.inr (slot_ne (Or.inr (hw _ (List.mem_of_getElem? (i := 22) rfl))) (Or.inr (hw _ (List.mem_of_getElem? (i := 28) rfl))) (by decide) (t := .int) (t' := .int) (by decide) (by decide)))
  have f_42 := f_33.other W39 (Or.inr (slot_ne (Or.inr (hw _ (List.mem_of_getElem? (i := 24) rfl))) (Or.inr (hw _ (List.mem_of_getElem? (i := 28) rfl))) (by decide) (t := .int) (t' := .int) (by decide) (by decide)))
  have f_43 := f_37.other W39 (Or.inr (slot_ne (Or.inr (hw _ (List.mem_of_getElem? (i := 26) rfl))) (Or.inr (hw _ (List.mem_of_getElem? (i := 28) rfl))) (by decide) (t := .int) (t' := .int) (by decide) (by decide)))
  have Z_44 := Nat.le_trans Z_35 (Nat.le_of_eq W39.size.symm)
  have K_45 := K_36.wr W39 (Or.inl (List.mem_of_getElem? (i := 0) rfl))
  have f_46 := f_34.same W39
  have N_47 := Fr.snoc X39 N_38 PG
  show own_Go X39 (Q11 Z r0 p4 h0 n0) 0 0 122 #[.val (.ref r0), .val (.int (1 : Int32)), .val (.int (1 : Int32)), .val (.int (4 : Int32)), .val (.int p4)] []
  refine own_retV X39 hx Bd.returns hlk e39 (hb hby d11_122) (by decide) (by decide) ?_
  exact ⟨rfl, N_47, K_45, f_41, f_42, f_43, f_46⟩
theorem d42_0 : decode prog_55_method_7_code 0 = .ok (.lconst 1, 1) := by decide +kernel
theorem d42_1 : decode prog_55_method_7_code 1 = .ok (.lstore_n 2, 1) := by decide +kernel
theorem d42_2 : decode prog_55_method_7_code 2 = .ok (.iconst 0, 1) := by decide +kernel
theorem d42_3 : decode prog_55_method_7_code 3 = .ok (.istore 4, 2) := by decide +kernel
theorem d42_5 : decode prog_55_method_7_code 5 = .ok (.iload 4, 2) := by decide +kernel
theorem d42_7 : decode prog_55_method_7_code 7 = .ok (.iload_n 1, 1) := by decide +kernel
theorem d42_8 : decode prog_55_method_7_code 8 = .ok (.if_icmp .ge 24, 3) := by decide +kernel
theorem d42_11 : decode prog_55_method_7_code 11 = .ok (.lload_n 2, 1) := by decide +kernel
theorem d42_12 : decode prog_55_method_7_code 12 = .ok (.iload_n 0, 1) := by decide +kernel
theorem d42_13 : decode prog_55_method_7_code 13 = .ok (.i2l, 1) := by decide +kernel
theorem d42_14 : decode prog_55_method_7_code 14 = .ok (.lmul, 1) := by decide +kernel
theorem d42_15 : decode prog_55_method_7_code 15 = .ok (.lstore_n 2, 1) := by decide +kernel
theorem d42_16 : decode prog_55_method_7_code 16 = .ok (.lload_n 2, 1) := by decide +kernel
theorem d42_17 : decode prog_55_method_7_code 17 = .ok (.ldc2_w 133, 3) := by decide +kernel
theorem d42_20 : decode prog_55_method_7_code 20 = .ok (.lcmp, 1) := by decide +kernel
theorem d42_21 : decode prog_55_method_7_code 21 = .ok (.ifCond .le 5, 3) := by decide +kernel
theorem d42_26 : decode prog_55_method_7_code 26 = .ok (.iinc 4 1, 3) := by decide +kernel
theorem d42_29 : decode prog_55_method_7_code 29 = .ok (.goto (-24), 3) := by decide +kernel
theorem d42_32 : decode prog_55_method_7_code 32 = .ok (.lload_n 2, 1) := by decide +kernel
theorem d42_33 : decode prog_55_method_7_code 33 = .ok (.l2i, 1) := by decide +kernel
theorem d42_34 : decode prog_55_method_7_code 34 = .ok (.ireturn, 1) := by decide +kernel
theorem pn_42 : plainName "com/example/gingham/gingham/designs/CoveringArraySpec" = true := by first | (simp [plainName, overriddenIn]; done) | decide +kernel
theorem ef_42 (m : MethodId) (p0 : Int32) : entryFrame m #[(.int p0), (.int (2 : Int32))] 5 = mkF m 0 #[.val (.int p0), .val (.int (2 : Int32)), .unset, .unset, .unset] [] := by first | (simp [entryFrame, mkF, argsToLocals, Value.category]; done) | rfl
def Q42 (Z : State) (p0 : Int32)  (h0 : Heap) (n0 : Nat) (v : Option Value) (h : Heap) (L : List Loc) : Prop := v = some (.int ((own_pw2 p0).toInt32)) ∧ Fr n0 L ∧ h = h0
set_option maxRecDepth 65536 in
set_option maxHeartbeats 40000000 in
theorem rm42 (l : Launch) (Z : State) (a0 : Array Value) (hw : ∀ d ∈ tables_1, d.before a0 Z = true) (ws : List Jvm.Cond) (p0 : Int32)  (h0 : Heap) (n0 : Nat) (Z0 : n0 ≤ h0.size) (H1 : ¬ (2147483639 : Int64) < own_pw1 p0) (H2 : ¬ (2147483639 : Int64) < own_pw2 p0) :
    MetFree l (⟨"com/example/gingham/gingham/designs/CoveringArraySpec", "tupleCount", "(II)I"⟩ : MethodName) (head1 (Jvm.Cond.code (⟨"com/example/gingham/gingham/designs/CoveringArraySpec", "tupleCount", "(II)I"⟩ : MethodName) prog_55_method_7_code 5 (some .int) :: ws) ({ frames := 0, cells := 0, slots := 0, locals := 0 } : Room)) (fun a U => a = #[(.int p0), (.int (2 : Int32))] ∧ Z.Warmed39 U.vm ∧ U.heap = h0) (fun _ _ _ _ _ => True) (fun _ U o U' => ∃ v L, o = .returned v ∧ Q42 Z p0 h0 n0 v U'.heap L ∧ FrameEnd U o U' L ({ frames := 0, cells := 0, slots := 0, locals := 0 } : Room).cells ({ frames := 0, cells := 0, slots := 0, locals := 0 } : Room).slots) := by
  refine MetFree.of_bodySF (plainFor_of_name pn_42) hisR ?_
  intro p e s m args below meth c s₁ Bd hml0 hP hK
  obtain ⟨rfl, hZ, hh⟩ := hP
  have hx := Bd.exec
  have hby := Bd.bytes
  have hml : c.maxLocals = 5 := hml0
  have hown : s.vm.findClass "com/example/gingham/gingham/designs/CoveringArraySpec" = some m.cls := findClass_of_methodNamed Bd.named
  have hnm := (name_of_methodNamed Bd.named Bd.method).1
  have hlk : meth.locks = false := Bd.notSynchronized
  have X0 : Stand p l e ({ frames := 0, cells := 0, slots := 0, locals := 0 } : Room) s m #[(.int p0), (.int (2 : Int32))] below meth c s₁ [] 0 0 := Stand.of_body Bd
  have e0 : s₁.heap = h0 := by rw [← hh, Bd.state]; rfl
  have N0 := Fr.nil n0
  refine own_cast (Q := Q42 Z p0 h0 n0) (kc := 0) (ks := 0) (ef_42 m p0) ?_
  refine own_st (fun _ k => XS.lconst X0.here hx rfl (hb hby d42_0) k) ?_
  show own_Go X0 (Q42 Z p0 h0 n0) 0 0 1 #[.val (.int p0), .val (.int (2 : Int32)), .unset, .unset, .unset] [(.long (1 : Int64))]
  refine own_st (fun _ k => XS.lstoreN X0.here hx rfl (hb hby d42_1) rfl (l' := #[.val (.int p0), .val (.int (2 : Int32)), .val (.long (1 : Int64)), .second, .unset]) rfl k) ?_
  show own_Go X0 (Q42 Z p0 h0 n0) 0 0 2 #[.val (.int p0), .val (.int (2 : Int32)), .val (.long (1 : Int64)), .second, .unset] []
  refine own_st (fun _ k => XS.iconst X0.here hx rfl (hb hby d42_2) k) ?_
  show own_Go X0 (Q42 Z p0 h0 n0) 0 0 3 #[.val (.int p0), .val (.int (2 : Int32)), .val (.long (1 : Int64)), .second, .unset] [(.int (0 : Int32))]
  refine own_st (fun _ k => XS.istore X0.here hx rfl (hb hby d42_3) rfl (l' := #[.val (.int p0), .val (.int (2 : Int32)), .val (.long (1 : Int64)), .second, .val (.int (0 : Int32))]) rfl k) ?_
  show own_Go X0 (Q42 Z p0 h0 n0) 0 0 5 #[.val (.int p0), .val (.int (2 : Int32)), .val (.long (1 : Int64)), .second, .val (.int (0 : Int32))] []
  refine own_st (fun _ k => XS.iload X0.here hx rfl (hb hby d42_5) rfl k) ?_
  show own_Go X0 (Q42 Z p0 h0 n0) 0 0 7 #[.val (.int p0), .val (.int (2 : Int32)), .val (.long (1 : Int64)), .second, .val (.int (0 : Int32))] [(.int (0 : Int32))]
  refine own_st (fun _ k => XS.iloadN X0.here hx rfl (hb hby d42_7) rfl k) ?_
  show own_Go X0 (Q42 Z p0 h0 n0) 0 0 8 #[.val (.int p0), .val (.int (2 : Int32)), .val (.long (1 : Int64)), .second, .val (.int (0 : Int32))] [(.int (2 : Int32)), (.int (0 : Int32))]
  have c8_1 : (0 : Int32) < (2 : Int32) := (by decide)
  refine own_st (fun _ k => XS.icmpNo X0.here hx rfl (hb hby d42_8) rfl (tlt c8_1).2.1 k) ?_
  show own_Go X0 (Q42 Z p0 h0 n0) 0 0 11 #[.val (.int p0), .val (.int (2 : Int32)), .val (.long (1 : Int64)), .second, .val (.int (0 : Int32))] []
  refine own_st (fun _ k => XS.lloadN X0.here hx rfl (hb hby d42_11) rfl k) ?_
  show own_Go X0 (Q42 Z p0 h0 n0) 0 0 12 #[.val (.int p0), .val (.int (2 : Int32)), .val (.long (1 : Int64)), .second, .val (.int (0 : Int32))] [(.long (1 : Int64))]
  refine own_st (fun _ k => XS.iloadN X0.here hx rfl (hb hby d42_12) rfl k) ?_
  show own_Go X0 (Q42 Z p0 h0 n0) 0 0 13 #[.val (.int p0), .val (.int (2 : Int32)), .val (.long (1 : Int64)), .second, .val (.int (0 : Int32))] [(.int p0), (.long (1 : Int64))]
  refine own_st (fun _ k => XS.i2l X0.here hx rfl (hb hby d42_13) rfl k) ?_
  show own_Go X0 (Q42 Z p0 h0 n0) 0 0 14 #[.val (.int p0), .val (.int (2 : Int32)), .val (.long (1 : Int64)), .second, .val (.int (0 : Int32))] [(.long (p0.toInt64)), (.long (1 : Int64))]
  refine own_st (fun _ k => XS.lmul X0.here hx rfl (hb hby d42_14) rfl k) ?_
  show own_Go X0 (Q42 Z p0 h0 n0) 0 0 15 #[.val (.int p0), .val (.int (2 : Int32)), .val (.long (1 : Int64)), .second, .val (.int (0 : Int32))] [(.long ((1 : Int64) * (p0.toInt64)))]
  refine own_st (fun _ k => XS.lstoreN X0.here hx rfl (hb hby d42_15) rfl (l' := #[.val (.int p0), .val (.int (2 : Int32)), .val (.long ((1 : Int64) * (p0.toInt64))), .second, .val (.int (0 : Int32))]) rfl k) ?_
  show own_Go X0 (Q42 Z p0 h0 n0) 0 0 16 #[.val (.int p0), .val (.int (2 : Int32)), .val (.long ((1 : Int64) * (p0.toInt64))), .second, .val (.int (0 : Int32))] []
  show own_Go X0 (Q42 Z p0 h0 n0) 0 0 16 #[.val (.int p0), .val (.int (2 : Int32)), .val (.long (own_pw1 p0)), .second, .val (.int (0 : Int32))] []
  refine own_st (fun _ k => XS.lloadN X0.here hx rfl (hb hby d42_16) rfl k) ?_
  show own_Go X0 (Q42 Z p0 h0 n0) 0 0 17 #[.val (.int p0), .val (.int (2 : Int32)), .val (.long (own_pw1 p0)), .second, .val (.int (0 : Int32))] [(.long (own_pw1 p0))]
  refine own_st (fun t k => X0.ldc2Long hx hown (mvT hZ (hw _ (List.mem_of_getElem? (i := 20) rfl))) (g := (mkF m 17 #[.val (.int p0), .val (.int (2 : Int32)), .val (.long (own_pw1 p0)), .second, .val (.int (0 : Int32))] [(.long (own_pw1 p0))])) rfl (hb hby d42_17) t k) ?_
  show own_Go X0 (Q42 Z p0 h0 n0) 0 0 20 #[.val (.int p0), .val (.int (2 : Int32)), .val (.long (own_pw1 p0)), .second, .val (.int (0 : Int32))] [(.long (2147483639 : Int64)), (.long (own_pw1 p0))]
  refine own_st (fun _ k => XS.lcmp X0.here hx rfl (hb hby d42_20) rfl k) ?_
  show own_Go X0 (Q42 Z p0 h0 n0) 0 0 21 #[.val (.int p0), .val (.int (2 : Int32)), .val (.long (own_pw1 p0)), .second, .val (.int (0 : Int32))] [(.int (lcmpW (own_pw1 p0) (2147483639 : Int64)))]
  have c21_2 : ¬ ((2147483639 : Int64) < (own_pw1 p0)) := H1
  refine own_st (fun _ k => XS.ifYes X0.here hx rfl (pc0 := 21) (pc' := 26) rfl (hb hby d42_21) rfl ((if0 _ _).trans (flt (fun q => c21_2 ((lw_gt _ _).mp q))).2.2.2) (by decide) (by decide) k) ?_
  show own_Go X0 (Q42 Z p0 h0 n0) 0 0 26 #[.val (.int p0), .val (.int (2 : Int32)), .val (.long (own_pw1 p0)), .second, .val (.int (0 : Int32))] []
  refine own_st (fun _ k => XS.iinc X0.here hx rfl (hb hby d42_26) rfl (l' := #[.val (.int p0), .val (.int (2 : Int32)), .val (.long (own_pw1 p0)), .second, .val (.int (1 : Int32))]) rfl k) ?_
  show own_Go X0 (Q42 Z p0 h0 n0) 0 0 29 #[.val (.int p0), .val (.int (2 : Int32)), .val (.long (own_pw1 p0)), .second, .val (.int (1 : Int32))] []
  refine own_st (fun _ k => XS.goto X0.here hx rfl (pc0 := 29) (pc' := 5) rfl (hb hby d42_29) (by decide) (by decide) k) ?_
  show own_Go X0 (Q42 Z p0 h0 n0) 0 0 5 #[.val (.int p0), .val (.int (2 : Int32)), .val (.long (own_pw1 p0)), .second, .val (.int (1 : Int32))] []
  refine own_st (fun _ k => XS.iload X0.here hx rfl (hb hby d42_5) rfl k) ?_
  show own_Go X0 (Q42 Z p0 h0 n0) 0 0 7 #[.val (.int p0), .val (.int (2 : Int32)), .val (.long (own_pw1 p0)), .second, .val (.int (1 : Int32))] [(.int (1 : Int32))]
  refine own_st (fun _ k => XS.iloadN X0.here hx rfl (hb hby d42_7) rfl k) ?_
  show own_Go X0 (Q42 Z p0 h0 n0) 0 0 8 #[.val (.int p0), .val (.int (2 : Int32)), .val (.long (own_pw1 p0)), .second, .val (.int (1 : Int32))] [(.int (2 : Int32)), (.int (1 : Int32))]
  have c8_3 : (1 : Int32) < (2 : Int32) := (by decide)
  refine own_st (fun _ k => XS.icmpNo X0.here hx rfl (hb hby d42_8) rfl (tlt c8_3).2.1 k) ?_
  show own_Go X0 (Q42 Z p0 h0 n0) 0 0 11 #[.val (.int p0), .val (.int (2 : Int32)), .val (.long (own_pw1 p0)), .second, .val (.int (1 : Int32))] []
  refine own_st (fun _ k => XS.lloadN X0.here hx rfl (hb hby d42_11) rfl k) ?_
  show own_Go X0 (Q42 Z p0 h0 n0) 0 0 12 #[.val (.int p0), .val (.int (2 : Int32)), .val (.long (own_pw1 p0)), .second, .val (.int (1 : Int32))] [(.long (own_pw1 p0))]
  refine own_st (fun _ k => XS.iloadN X0.here hx rfl (hb hby d42_12) rfl k) ?_
  show own_Go X0 (Q42 Z p0 h0 n0) 0 0 13 #[.val (.int p0), .val (.int (2 : Int32)), .val (.long (own_pw1 p0)), .second, .val (.int (1 : Int32))] [(.int p0), (.long (own_pw1 p0))]
  refine own_st (fun _ k => XS.i2l X0.here hx rfl (hb hby d42_13) rfl k) ?_
  show own_Go X0 (Q42 Z p0 h0 n0) 0 0 14 #[.val (.int p0), .val (.int (2 : Int32)), .val (.long (own_pw1 p0)), .second, .val (.int (1 : Int32))] [(.long (p0.toInt64)), (.long (own_pw1 p0))]
  refine own_st (fun _ k => XS.lmul X0.here hx rfl (hb hby d42_14) rfl k) ?_
  show own_Go X0 (Q42 Z p0 h0 n0) 0 0 15 #[.val (.int p0), .val (.int (2 : Int32)), .val (.long (own_pw1 p0)), .second, .val (.int (1 : Int32))] [(.long ((own_pw1 p0) * (p0.toInt64)))]
  refine own_st (fun _ k => XS.lstoreN X0.here hx rfl (hb hby d42_15) rfl (l' := #[.val (.int p0), .val (.int (2 : Int32)), .val (.long ((own_pw1 p0) * (p0.toInt64))), .second, .val (.int (1 : Int32))]) rfl k) ?_
  show own_Go X0 (Q42 Z p0 h0 n0) 0 0 16 #[.val (.int p0), .val (.int (2 : Int32)), .val (.long ((own_pw1 p0) * (p0.toInt64))), .second, .val (.int (1 : Int32))] []
  show own_Go X0 (Q42 Z p0 h0 n0) 0 0 16 #[.val (.int p0), .val (.int (2 : Int32)), .val (.long (own_pw2 p0)), .second, .val (.int (1 : Int32))] []
  refine own_st (fun _ k => XS.lloadN X0.here hx rfl (hb hby d42_16) rfl k) ?_
  show own_Go X0 (Q42 Z p0 h0 n0) 0 0 17 #[.val (.int p0), .val (.int (2 : Int32)), .val (.long (own_pw2 p0)), .second, .val (.int (1 : Int32))] [(.long (own_pw2 p0))]
  refine own_st (fun t k => X0.ldc2Long hx hown (mvT hZ (hw _ (List.mem_of_getElem? (i := 20) rfl))) (g := (mkF m 17 #[.val (.int p0), .val (.int (2 : Int32)), .val (.long (own_pw2 p0)), .second, .val (.int (1 : Int32))] [(.long (own_pw2 p0))])) rfl (hb hby d42_17) t k) ?_
  show own_Go X0 (Q42 Z p0 h0 n0) 0 0 20 #[.val (.int p0), .val (.int (2 : Int32)), .val (.long (own_pw2 p0)), .second, .val (.int (1 : Int32))] [(.long (2147483639 : Int64)), (.long (own_pw2 p0))]
  refine own_st (fun _ k => XS.lcmp X0.here hx rfl (hb hby d42_20) rfl k) ?_
  show own_Go X0 (Q42 Z p0 h0 n0) 0 0 21 #[.val (.int p0), .val (.int (2 : Int32)), .val (.long (own_pw2 p0)), .second, .val (.int (1 : Int32))] [(.int (lcmpW (own_pw2 p0) (2147483639 : Int64)))]
  have c21_4 : ¬ ((2147483639 : Int64) < (own_pw2 p0)) := H2
  refine own_st (fun _ k => XS.ifYes X0.here hx rfl (pc0 := 21) (pc' := 26) rfl (hb hby d42_21) rfl ((if0 _ _).trans (flt (fun q => c21_4 ((lw_gt _ _).mp q))).2.2.2) (by decide) (by decide) k) ?_
  show own_Go X0 (Q42 Z p0 h0 n0) 0 0 26 #[.val (.int p0), .val (.int (2 : Int32)), .val (.long (own_pw2 p0)), .second, .val (.int (1 : Int32))] []
  refine own_st (fun _ k => XS.iinc X0.here hx rfl (hb hby d42_26) rfl (l' := #[.val (.int p0), .val (.int (2 : Int32)), .val (.long (own_pw2 p0)), .second, .val (.int (2 : Int32))]) rfl k) ?_
  show own_Go X0 (Q42 Z p0 h0 n0) 0 0 29 #[.val (.int p0), .val (.int (2 : Int32)), .val (.long (own_pw2 p0)), .second, .val (.int (2 : Int32))] []
  refine own_st (fun _ k => XS.goto X0.here hx rfl (pc0 := 29) (pc' := 5) rfl (hb hby d42_29) (by decide) (by decide) k) ?_
  show own_Go X0 (Q42 Z p0 h0 n0) 0 0 5 #[.val (.int p0), .val (.int (2 : Int32)), .val (.long (own_pw2 p0)), .second, .val (.int (2 : Int32))] []
  refine own_st (fun _ k => XS.iload X0.here hx rfl (hb hby d42_5) rfl k) ?_
  show own_Go X0 (Q42 Z p0 h0 n0) 0 0 7 #[.val (.int p0), .val (.int (2 : Int32)), .val (.long (own_pw2 p0)), .second, .val (.int (2 : Int32))] [(.int (2 : Int32))]
  refine own_st (fun _ k => XS.iloadN X0.here hx rfl (hb hby d42_7) rfl k) ?_
  show own_Go X0 (Q42 Z p0 h0 n0) 0 0 8 #[.val (.int p0), .val (.int (2 : Int32)), .val (.long (own_pw2 p0)), .second, .val (.int (2 : Int32))] [(.int (2 : Int32)), (.int (2 : Int32))]
  have c8_5 : ¬ ((2 : Int32) < (2 : Int32)) := (by decide)
  refine own_st (fun _ k => XS.icmpYes X0.here hx rfl (pc0 := 8) (pc' := 32) rfl (hb hby d42_8) rfl (flt c8_5).2.1 (by decide) (by decide) k) ?_
  show own_Go X0 (Q42 Z p0 h0 n0) 0 0 32 #[.val (.int p0), .val (.int (2 : Int32)), .val (.long (own_pw2 p0)), .second, .val (.int (2 : Int32))] []
  refine own_st (fun _ k => XS.lloadN X0.here hx rfl (hb hby d42_32) rfl k) ?_
  show own_Go X0 (Q42 Z p0 h0 n0) 0 0 33 #[.val (.int p0), .val (.int (2 : Int32)), .val (.long (own_pw2 p0)), .second, .val (.int (2 : Int32))] [(.long (own_pw2 p0))]
  refine own_st (fun _ k => XS.l2i X0.here hx rfl (hb hby d42_33) rfl k) ?_
  show own_Go X0 (Q42 Z p0 h0 n0) 0 0 34 #[.val (.int p0), .val (.int (2 : Int32)), .val (.long (own_pw2 p0)), .second, .val (.int (2 : Int32))] [(.int ((own_pw2 p0).toInt32))]
  refine own_retI X0 hx Bd.returns hlk e0 (hb hby d42_34) (by decide) (by decide) ?_
  exact ⟨rfl, N0, rfl⟩
theorem d12_0 : decode prog_55_method_1_code 0 = .ok (.aload_n 0, 1) := by decide +kernel
theorem d12_1 : decode prog_55_method_1_code 1 = .ok (.invokespecial 1, 3) := by decide +kernel
theorem d12_4 : decode prog_55_method_1_code 4 = .ok (.iload_n 1, 1) := by decide +kernel
theorem d12_5 : decode prog_55_method_1_code 5 = .ok (.iconst 1, 1) := by decide +kernel
theorem d12_6 : decode prog_55_method_1_code 6 = .ok (.if_icmp .ge 11, 3) := by decide +kernel
theorem d12_17 : decode prog_55_method_1_code 17 = .ok (.iload_n 3, 1) := by decide +kernel
theorem d12_18 : decode prog_55_method_1_code 18 = .ok (.iconst 1, 1) := by decide +kernel
theorem d12_19 : decode prog_55_method_1_code 19 = .ok (.if_icmp .ge 11, 3) := by decide +kernel
theorem d12_30 : decode prog_55_method_1_code 30 = .ok (.iload_n 2, 1) := by decide +kernel
theorem d12_31 : decode prog_55_method_1_code 31 = .ok (.iconst 1, 1) := by decide +kernel
theorem d12_32 : decode prog_55_method_1_code 32 = .ok (.if_icmp .lt 8, 3) := by decide +kernel
theorem d12_35 : decode prog_55_method_1_code 35 = .ok (.iload_n 2, 1) := by decide +kernel
theorem d12_36 : decode prog_55_method_1_code 36 = .ok (.iload_n 3, 1) := by decide +kernel
theorem d12_37 : decode prog_55_method_1_code 37 = .ok (.if_icmp .le 20, 3) := by decide +kernel
theorem d12_57 : decode prog_55_method_1_code 57 = .ok (.iload 4, 2) := by decide +kernel
theorem d12_59 : decode prog_55_method_1_code 59 = .ok (.iconst 2, 1) := by decide +kernel
theorem d12_60 : decode prog_55_method_1_code 60 = .ok (.if_icmp .ge 12, 3) := by decide +kernel
theorem d12_72 : decode prog_55_method_1_code 72 = .ok (.iload 4, 2) := by decide +kernel
theorem d12_74 : decode prog_55_method_1_code 74 = .ok (.iload_n 2, 1) := by decide +kernel
theorem d12_75 : decode prog_55_method_1_code 75 = .ok (.invokestatic 28, 3) := by decide +kernel
theorem d12_78 : decode prog_55_method_1_code 78 = .ok (.ifCond .ge 23, 3) := by decide +kernel
theorem d12_101 : decode prog_55_method_1_code 101 = .ok (.aload_n 0, 1) := by decide +kernel
theorem d12_102 : decode prog_55_method_1_code 102 = .ok (.iload_n 1, 1) := by decide +kernel
theorem d12_103 : decode prog_55_method_1_code 103 = .ok (.putfield 37, 3) := by decide +kernel
theorem d12_106 : decode prog_55_method_1_code 106 = .ok (.aload_n 0, 1) := by decide +kernel
theorem d12_107 : decode prog_55_method_1_code 107 = .ok (.iload_n 2, 1) := by decide +kernel
theorem d12_108 : decode prog_55_method_1_code 108 = .ok (.putfield 40, 3) := by decide +kernel
theorem d12_111 : decode prog_55_method_1_code 111 = .ok (.aload_n 0, 1) := by decide +kernel
theorem d12_112 : decode prog_55_method_1_code 112 = .ok (.iload_n 3, 1) := by decide +kernel
theorem d12_113 : decode prog_55_method_1_code 113 = .ok (.putfield 42, 3) := by decide +kernel
theorem d12_116 : decode prog_55_method_1_code 116 = .ok (.aload_n 0, 1) := by decide +kernel
theorem d12_117 : decode prog_55_method_1_code 117 = .ok (.iload 4, 2) := by decide +kernel
theorem d12_119 : decode prog_55_method_1_code 119 = .ok (.putfield 44, 3) := by decide +kernel
theorem d12_122 : decode prog_55_method_1_code 122 = .ok (.return_, 1) := by decide +kernel
theorem pn_12 : plainName "com/example/gingham/gingham/designs/CoveringArraySpec" = true := by first | (simp [plainName, overriddenIn]; done) | decide +kernel
theorem pd_12_0 : parseMethodDescriptor "()V" = some ⟨[], none⟩ := by decide +kernel
theorem pd_12_1 : parseMethodDescriptor "(II)I" = some ⟨[.int, .int], some .int⟩ := by decide +kernel
theorem ef_12 (m : MethodId) (r0 : Addr) (p4 : Int32) : entryFrame m #[(.ref r0), (.int (1 : Int32)), (.int (2 : Int32)), (.int (4 : Int32)), (.int p4)] 5 = mkF m 0 #[.val (.ref r0), .val (.int (1 : Int32)), .val (.int (2 : Int32)), .val (.int (4 : Int32)), .val (.int p4)] [] := by first | (simp [entryFrame, mkF, argsToLocals, Value.category]; done) | rfl
def Q12 (Z : State) (r0 : Addr) (p4 : Int32)  (h0 : Heap) (n0 : Nat) (v : Option Value) (h : Heap) (L : List Loc) : Prop := v = none ∧ Fr n0 L ∧ Keep h0 h [r0] ∧ Fld Z h r0 "com/example/gingham/gingham/designs/CoveringArraySpec" "rows" "I" (.int (1 : Int32)) ∧ Fld Z h r0 "com/example/gingham/gingham/designs/CoveringArraySpec" "strength" "I" (.int (2 : Int32)) ∧ Fld Z h r0 "com/example/gingham/gingham/designs/CoveringArraySpec" "columns" "I" (.int (4 : Int32)) ∧ Fld Z h r0 "com/example/gingham/gingham/designs/CoveringArraySpec" "levels" "I" (.int p4)
set_option maxRecDepth 65536 in
set_option maxHeartbeats 40000000 in
theorem rm12 (l : Launch) (Z : State) (a0 : Array Value) (hw : ∀ d ∈ tables_1, d.before a0 Z = true) (ws : List Jvm.Cond) (r0 : Addr) (p4 : Int32)  (h0 : Heap) (n0 : Nat) (Z0 : n0 ≤ h0.size) (PE : Exa Z h0 r0 "com/example/gingham/gingham/designs/CoveringArraySpec") (PG : n0 ≤ r0) (P_rows : Fld Z h0 r0 "com/example/gingham/gingham/designs/CoveringArraySpec" "rows" "I" (.int (0 : Int32))) (P_strength : Fld Z h0 r0 "com/example/gingham/gingham/designs/CoveringArraySpec" "strength" "I" (.int (0 : Int32))) (P_columns : Fld Z h0 r0 "com/example/gingham/gingham/designs/CoveringArraySpec" "columns" "I" (.int (0 : Int32))) (P_levels : Fld Z h0 r0 "com/example/gingham/gingham/designs/CoveringArraySpec" "levels" "I" (.int (0 : Int32))) (H1 : ¬ (2147483639 : Int64) < own_pw1 p4) (H2 : ¬ (2147483639 : Int64) < own_pw2 p4) (HN : ¬ (own_pw2 p4).toInt32 < (0 : Int32)) (HG : ¬ p4 < (2 : Int32)) :
    MetFree l (⟨"com/example/gingham/gingham/designs/CoveringArraySpec", "<init>", "(IIII)V"⟩ : MethodName) (head1 (Jvm.Cond.code (⟨"com/example/gingham/gingham/designs/CoveringArraySpec", "<init>", "(IIII)V"⟩ : MethodName) prog_55_method_1_code 5 none :: ws) ({ frames := 2, cells := 0, slots := 0, locals := 24 } : Room)) (fun a U => a = #[(.ref r0), (.int (1 : Int32)), (.int (2 : Int32)), (.int (4 : Int32)), (.int p4)] ∧ Z.Warmed39 U.vm ∧ U.heap = h0) (fun _ _ _ _ _ => True) (fun _ U o U' => ∃ v L, o = .returned v ∧ Q12 Z r0 p4 h0 n0 v U'.heap L ∧ FrameEnd U o U' L ({ frames := 2, cells := 0, slots := 0, locals := 24 } : Room).cells ({ frames := 2, cells := 0, slots := 0, locals := 24 } : Room).slots) := by
  refine MetFree.of_bodySF (plainFor_of_name pn_12) hisR ?_
  intro p e s m args below meth c s₁ Bd hml0 hP hK
  obtain ⟨rfl, hZ, hh⟩ := hP
  have hx := Bd.exec
  have hby := Bd.bytes
  have hml : c.maxLocals = 5 := hml0
  have hown : s.vm.findClass "com/example/gingham/gingham/designs/CoveringArraySpec" = some m.cls := findClass_of_methodNamed Bd.named
  have hnm := (name_of_methodNamed Bd.named Bd.method).1
  have hlk : meth.locks = false := Bd.notSynchronized
  have X0 : Stand p l e ({ frames := 2, cells := 0, slots := 0, locals := 24 } : Room) s m #[(.ref r0), (.int (1 : Int32)), (.int (2 : Int32)), (.int (4 : Int32)), (.int p4)] below meth c s₁ [] 0 0 := Stand.of_body Bd
  have e0 : s₁.heap = h0 := by rw [← hh, Bd.state]; rfl
  have N0 := Fr.nil n0
  refine own_cast (Q := Q12 Z r0 p4 h0 n0) (kc := 0) (ks := 0) (ef_12 m r0 p4) ?_
  have K_1 := Keep.refl h0 [r0]
  refine own_st (fun _ k => XS.aloadN X0.here hx rfl (hb hby d12_0) rfl rfl k) ?_
  show own_Go X0 (Q12 Z r0 p4 h0 n0) 0 0 1 #[.val (.ref r0), .val (.int (1 : Int32)), .val (.int (2 : Int32)), .val (.int (4 : Int32)), .val (.int p4)] [(.ref r0)]
  refine own_callI (W := 0) X0 hx hZ hown (hw _ (List.mem_of_getElem? (i := 9) rfl)) (hw _ (List.mem_of_getElem? (i := 10) rfl)) (hw _ (List.mem_of_getElem? (i := 12) rfl)) (hw _ (List.mem_of_getElem? (i := 13) rfl)) rfl (by decide) (rm2 l Z a0 hw [] r0 h0 n0 Z0) (by decide) (by decide) (by rw [hml]; rfl) r0 [] [] (lenOf pd_12_0 rfl) rfl rfl (Nat.le_of_ble_eq_true rfl) (hb hby d12_1) e0 (by decide) (by decide) ?_
  rintro _ T2 L2 X2 ⟨rfl, N2q, e2⟩
  have N_3 := Fr.app N0 N2q
  show own_Go X2 (Q12 Z r0 p4 h0 n0) 0 0 4 #[.val (.ref r0), .val (.int (1 : Int32)), .val (.int (2 : Int32)), .val (.int (4 : Int32)), .val (.int p4)] []
  refine own_st (fun _ k => XS.iloadN X2.here hx rfl (hb hby d12_4) rfl k) ?_
  show own_Go X2 (Q12 Z r0 p4 h0 n0) 0 0 5 #[.val (.ref r0), .val (.int (1 : Int32)), .val (.int (2 : Int32)), .val (.int (4 : Int32)), .val (.int p4)] [(.int (1 : Int32))]
  refine own_st (fun _ k => XS.iconst X2.here hx rfl (hb hby d12_5) k) ?_
  show own_Go X2 (Q12 Z r0 p4 h0 n0) 0 0 6 #[.val (.ref r0), .val (.int (1 : Int32)), .val (.int (2 : Int32)), .val (.int (4 : Int32)), .val (.int p4)] [(.int (1 : Int32)), (.int (1 : Int32))]
  have c6_4 : ¬ ((1 : Int32) < (1 : Int32)) := (by decide)
  refine own_st (fun _ k => XS.icmpYes X2.here hx rfl (pc0 := 6) (pc' := 17) rfl (hb hby d12_6) rfl (flt c6_4).2.1 (by decide) (by decide) k) ?_
  show own_Go X2 (Q12 Z r0 p4 h0 n0) 0 0 17 #[.val (.ref r0), .val (.int (1 : Int32)), .val (.int (2 : Int32)), .val (.int (4 : Int32)), .val (.int p4)] []
  refine own_st (fun _ k => XS.iloadN X2.here hx rfl (hb hby d12_17) rfl k) ?_
  show own_Go X2 (Q12 Z r0 p4 h0 n0) 0 0 18 #[.val (.ref r0), .val (.int (1 : Int32)), .val (.int (2 : Int32)), .val (.int (4 : Int32)), .val (.int p4)] [(.int (4 : Int32))]
  refine own_st (fun _ k => XS.iconst X2.here hx rfl (hb hby d12_18) k) ?_
  show own_Go X2 (Q12 Z r0 p4 h0 n0) 0 0 19 #[.val (.ref r0), .val (.int (1 : Int32)), .val (.int (2 : Int32)), .val (.int (4 : Int32)), .val (.int p4)] [(.int (1 : Int32)), (.int (4 : Int32))]
  have c19_5 : ¬ ((4 : Int32) < (1 : Int32)) := (by decide)
  refine own_st (fun _ k => XS.icmpYes X2.here hx rfl (pc0 := 19) (pc' := 30) rfl (hb hby d12_19) rfl (flt c19_5).2.1 (by decide) (by decide) k) ?_
  show own_Go X2 (Q12 Z r0 p4 h0 n0) 0 0 30 #[.val (.ref r0), .val (.int (1 : Int32)), .val (.int (2 : Int32)), .val (.int (4 : Int32)), .val (.int p4)] []
  refine own_st (fun _ k => XS.iloadN X2.here hx rfl (hb hby d12_30) rfl k) ?_
  show own_Go X2 (Q12 Z r0 p4 h0 n0) 0 0 31 #[.val (.ref r0), .val (.int (1 : Int32)), .val (.int (2 : Int32)), .val (.int (4 : Int32)), .val (.int p4)] [(.int (2 : Int32))]
  refine own_st (fun _ k => XS.iconst X2.here hx rfl (hb hby d12_31) k) ?_
  show own_Go X2 (Q12 Z r0 p4 h0 n0) 0 0 32 #[.val (.ref r0), .val (.int (1 : Int32)), .val (.int (2 : Int32)), .val (.int (4 : Int32)), .val (.int p4)] [(.int (1 : Int32)), (.int (2 : Int32))]
  have c32_6 : ¬ ((2 : Int32) < (1 : Int32)) := (by decide)
  refine own_st (fun _ k => XS.icmpNo X2.here hx rfl (hb hby d12_32) rfl (flt c32_6).1 k) ?_
  show own_Go X2 (Q12 Z r0 p4 h0 n0) 0 0 35 #[.val (.ref r0), .val (.int (1 : Int32)), .val (.int (2 : Int32)), .val (.int (4 : Int32)), .val (.int p4)] []
  refine own_st (fun _ k => XS.iloadN X2.here hx rfl (hb hby d12_35) rfl k) ?_
  show own_Go X2 (Q12 Z r0 p4 h0 n0) 0 0 36 #[.val (.ref r0), .val (.int (1 : Int32)), .val (.int (2 : Int32)), .val (.int (4 : Int32)), .val (.int p4)] [(.int (2 : Int32))]
  refine own_st (fun _ k => XS.iloadN X2.here hx rfl (hb hby d12_36) rfl k) ?_
  show own_Go X2 (Q12 Z r0 p4 h0 n0) 0 0 37 #[.val (.ref r0), .val (.int (1 : Int32)), .val (.int (2 : Int32)), .val (.int (4 : Int32)), .val (.int p4)] [(.int (4 : Int32)), (.int (2 : Int32))]
  have c37_7 : ¬ ((4 : Int32) < (2 : Int32)) := (by decide)
  refine own_st (fun _ k => XS.icmpYes X2.here hx rfl (pc0 := 37) (pc' := 57) rfl (hb hby d12_37) rfl (flt c37_7).2.2.2 (by decide) (by decide) k) ?_
  show own_Go X2 (Q12 Z r0 p4 h0 n0) 0 0 57 #[.val (.ref r0), .val (.int (1 : Int32)), .val (.int (2 : Int32)), .val (.int (4 : Int32)), .val (.int p4)] []
  refine own_st (fun _ k => XS.iload X2.here hx rfl (hb hby d12_57) rfl k) ?_
  show own_Go X2 (Q12 Z r0 p4 h0 n0) 0 0 59 #[.val (.ref r0), .val (.int (1 : Int32)), .val (.int (2 : Int32)), .val (.int (4 : Int32)), .val (.int p4)] [(.int p4)]
  refine own_st (fun _ k => XS.iconst X2.here hx rfl (hb hby d12_59) k) ?_
  show own_Go X2 (Q12 Z r0 p4 h0 n0) 0 0 60 #[.val (.ref r0), .val (.int (1 : Int32)), .val (.int (2 : Int32)), .val (.int (4 : Int32)), .val (.int p4)] [(.int (2 : Int32)), (.int p4)]
  have c60_8 : ¬ (p4 < (2 : Int32)) := HG
  refine own_st (fun _ k => XS.icmpYes X2.here hx rfl (pc0 := 60) (pc' := 72) rfl (hb hby d12_60) rfl (flt c60_8).2.1 (by decide) (by decide) k) ?_
  show own_Go X2 (Q12 Z r0 p4 h0 n0) 0 0 72 #[.val (.ref r0), .val (.int (1 : Int32)), .val (.int (2 : Int32)), .val (.int (4 : Int32)), .val (.int p4)] []
  refine own_st (fun _ k => XS.iload X2.here hx rfl (hb hby d12_72) rfl k) ?_
  show own_Go X2 (Q12 Z r0 p4 h0 n0) 0 0 74 #[.val (.ref r0), .val (.int (1 : Int32)), .val (.int (2 : Int32)), .val (.int (4 : Int32)), .val (.int p4)] [(.int p4)]
  refine own_st (fun _ k => XS.iloadN X2.here hx rfl (hb hby d12_74) rfl k) ?_
  show own_Go X2 (Q12 Z r0 p4 h0 n0) 0 0 75 #[.val (.ref r0), .val (.int (1 : Int32)), .val (.int (2 : Int32)), .val (.int (4 : Int32)), .val (.int p4)] [(.int (2 : Int32)), (.int p4)]
  refine own_callS (W := 0) X2 hx hZ hown (hw _ (List.mem_of_getElem? (i := 17) rfl)) (hw _ (List.mem_of_getElem? (i := 18) rfl)) (hw _ (List.mem_of_getElem? (i := 5) rfl)) (hw _ (List.mem_of_getElem? (i := 19) rfl)) (by decide) (rm42 l Z a0 hw [] p4  h0 n0 Z0 H1 H2) (by decide) (by decide) (by rw [hml]; rfl) [(.int p4), (.int (2 : Int32))] [] (lenOf pd_12_1 rfl) rfl rfl (Nat.le_of_ble_eq_true rfl) (hb hby d12_75) e2 (by decide) (by decide) ?_
  rintro _ T9 L9 X9 ⟨rfl, N9q, e9⟩
  have N_10 := Fr.app N_3 N9q
  show own_Go X9 (Q12 Z r0 p4 h0 n0) 0 0 78 #[.val (.ref r0), .val (.int (1 : Int32)), .val (.int (2 : Int32)), .val (.int (4 : Int32)), .val (.int p4)] [(.int ((own_pw2 p4).toInt32))]
  have c78_11 : ¬ (((own_pw2 p4).toInt32) < (0 : Int32)) := HN
  refine own_st (fun _ k => XS.ifYes X9.here hx rfl (pc0 := 78) (pc' := 101) rfl (hb hby d12_78) rfl ((if0 _ _).trans (flt c78_11).2.1) (by decide) (by decide) k) ?_
  show own_Go X9 (Q12 Z r0 p4 h0 n0) 0 0 101 #[.val (.ref r0), .val (.int (1 : Int32)), .val (.int (2 : Int32)), .val (.int (4 : Int32)), .val (.int p4)] []
  refine own_st (fun _ k => XS.aloadN X9.here hx rfl (hb hby d12_101) rfl rfl k) ?_
  show own_Go X9 (Q12 Z r0 p4 h0 n0) 0 0 102 #[.val (.ref r0), .val (.int (1 : Int32)), .val (.int (2 : Int32)), .val (.int (4 : Int32)), .val (.int p4)] [(.ref r0)]
  refine own_st (fun _ k => XS.iloadN X9.here hx rfl (hb hby d12_102) rfl k) ?_
  show own_Go X9 (Q12 Z r0 p4 h0 n0) 0 0 103 #[.val (.ref r0), .val (.int (1 : Int32)), .val (.int (2 : Int32)), .val (.int (4 : Int32)), .val (.int p4)] [(.int (1 : Int32)), (.ref r0)]
  obtain ⟨T12, h12, X12, e12, W12, st12⟩ := putF X9 hx hZ hown (host := "") (Or.inl (hw _ (List.mem_of_getElem? (i := 21) rfl))) Via.refl e9 P_rows PE (Or.inr ⟨(hw _ (List.mem_of_getElem? (i := 22) rfl)), rfl, hnm⟩) (hw _ (List.mem_of_getElem? (i := 4) rfl)) (ty := .int) (by decide) rfl rfl (g := (mkF m 103 #[.val (.ref r0), .val (.int (1 : Int32)), .val (.int (2 : Int32)), .val (.int (4 : Int32)), .val (.int p4)] [(.int (1 : Int32)), (.ref r0)])) rfl rfl (hb hby d12_103)
  refine own_st st12 ?_
  have f_13 := PE.wr W12
  have f_14 := P_strength.other W12 (Or.inr (slot_ne (Or.inr (hw _ (List.mem_of_getElem? (i := 24) rfl))) (Or.inr (hw _ (List.mem_of_getElem? (i := 22) rfl))) (by decide) (t := .int) (t' := .int) (by decide) (by decide)))
  have f_15 := P_columns.other W12 (Or.inr (slot_ne (Or.inr (hw _ (List.mem_of_getElem? (i := 26) rfl))) (Or.inr (hw _ (List.mem_of_getElem? (i := 22) rfl))) (by decide) (t := .int) (t' := .int) (by decide) (by decide)))
  have f_16 := P_levels.other W12 (Or.inr (slot_ne (Or.inr (hw _ (List.mem_of_getElem? (i := 28) rfl))) (Or.inr (hw _ (List.mem_of_getElem? (i := 22) rfl))) (by decide) (t := .int) (t' := .int) (by decide) (by decide)))
  have Z_17 := Nat.le_trans Z0 (Nat.le_of_eq W12.size.symm)
  have K_18 := K_1.wr W12 (Or.inl (List.mem_of_getElem? (i := 0) rfl))
  have f_19 := P_rows.same W12
  have N_20 := Fr.snoc X12 N_10 PG
  show own_Go X12 (Q12 Z r0 p4 h0 n0) 0 0 106 #[.val (.ref r0), .val (.int (1 : Int32)), .val (.int (2 : Int32)), .val (.int (4 : Int32)), .val (.int p4)] []
  refine own_st (fun _ k => XS.aloadN X12.here hx rfl (hb hby d12_106) rfl rfl k) ?_
  show own_Go X12 (Q12 Z r0 p4 h0 n0) 0 0 107 #[.val (.ref r0), .val (.int (1 : Int32)), .val (.int (2 : Int32)), .val (.int (4 : Int32)), .val (.int p4)] [(.ref r0)]
  refine own_st (fun _ k => XS.iloadN X12.here hx rfl (hb hby d12_107) rfl k) ?_
  show own_Go X12 (Q12 Z r0 p4 h0 n0) 0 0 108 #[.val (.ref r0), .val (.int (1 : Int32)), .val (.int (2 : Int32)), .val (.int (4 : Int32)), .val (.int p4)] [(.int (2 : Int32)), (.ref r0)]
  obtain ⟨T21, h21, X21, e21, W21, st21⟩ := putF X12 hx hZ hown (host := "") (Or.inl (hw _ (List.mem_of_getElem? (i := 23) rfl))) Via.refl e12 f_14 f_13 (Or.inr ⟨(hw _ (List.mem_of_getElem? (i := 24) rfl)), rfl, hnm⟩) (hw _ (List.mem_of_getElem? (i := 4) rfl)) (ty := .int) (by decide) rfl rfl (g := (mkF m 108 #[.val (.ref r0), .val (.int (1 : Int32)), .val (.int (2 : Int32)), .val (.int (4 : Int32)), .val (.int p4)] [(.int (2 : Int32)), (.ref r0)])) rfl rfl (hb hby d12_108)
  refine own_st st21 ?_
  have f_22 := f_13.wr W21
  have f_23 := f_19.other W21 (Or.inr (slot_ne (Or.inr (hw _ (List.mem_of_getElem? (i := 22) rfl))) (Or.inr (hw _ (List.mem_of_getElem? (i := 24) rfl))) (by decide) (t := .int) (t' := .int) (by decide) (by decide)))
  have f_24 := f_15.other W21 (Or.inr (slot_ne (Or.inr (hw _ (List.mem_of_getElem? (i := 26) rfl))) (Or.inr (hw _ (List.mem_of_getElem? (i := 24) rfl))) (by decide) (t := .int) (t' := .int) (by decide) (by decide)))
  have f_25 := f_16.other W21 (Or.inr (slot_ne (Or.inr (hw _ (List.mem_of_getElem? (i := 28) rfl))) (Or.inr (hw _ (List.mem_of_getElem? (i := 24) rfl))) (by decide) (t := .int) (t' := .int) (by decide) (by decide)))
  have Z_26 := Nat.le_trans Z_17 (Nat.le_of_eq W21.size.symm)
  have K_27 := K_18.wr W21 (Or.inl (List.mem_of_getElem? (i := 0) rfl))
  have f_28 := f_14.same W21
  have N_29 := Fr.snoc X21 N_20 PG
  show own_Go X21 (Q12 Z r0 p4 h0 n0) 0 0 111 #[.val (.ref r0), .val (.int (1 : Int32)), .val (.int (2 : Int32)), .val (.int (4 : Int32)), .val (.int p4)] []
  refine own_st (fun _ k => XS.aloadN X21.here hx rfl (hb hby d12_111) rfl rfl k) ?_
  show own_Go X21 (Q12 Z r0 p4 h0 n0) 0 0 112 #[.val (.ref r0), .val (.int (1 : Int32)), .val (.int (2 : Int32)), .val (.int (4 : Int32)), .val (.int p4)] [(.ref r0)]
  refine own_st (fun _ k => XS.iloadN X21.here hx rfl (hb hby d12_112) rfl k) ?_
  show own_Go X21 (Q12 Z r0 p4 h0 n0) 0 0 113 #[.val (.ref r0), .val (.int (1 : Int32)), .val (.int (2 : Int32)), .val (.int (4 : Int32)), .val (.int p4)] [(.int (4 : Int32)), (.ref r0)]
  obtain ⟨T30, h30, X30, e30, W30, st30⟩ := putF X21 hx hZ hown (host := "") (Or.inl (hw _ (List.mem_of_getElem? (i := 25) rfl))) Via.refl e21 f_24 f_22 (Or.inr ⟨(hw _ (List.mem_of_getElem? (i := 26) rfl)), rfl, hnm⟩) (hw _ (List.mem_of_getElem? (i := 4) rfl)) (ty := .int) (by decide) rfl rfl (g := (mkF m 113 #[.val (.ref r0), .val (.int (1 : Int32)), .val (.int (2 : Int32)), .val (.int (4 : Int32)), .val (.int p4)] [(.int (4 : Int32)), (.ref r0)])) rfl rfl (hb hby d12_113)
  refine own_st st30 ?_
  have f_31 := f_22.wr W30
  have f_32 := f_23.other W30 (Or.inr (slot_ne (Or.inr (hw _ (List.mem_of_getElem? (i := 22) rfl))) (Or.inr (hw _ (List.mem_of_getElem? (i := 26) rfl))) (by decide) (t := .int) (t' := .int) (by decide) (by decide)))
  have f_33 := f_28.other W30 (Or.inr (slot_ne (Or.inr (hw _ (List.mem_of_getElem? (i := 24) rfl))) (Or.inr (hw _ (List.mem_of_getElem? (i := 26) rfl))) (by decide) (t := .int) (t' := .int) (by decide) (by decide)))
  have f_34 := f_25.other W30 (Or.inr (slot_ne (Or.inr (hw _ (List.mem_of_getElem? (i := 28) rfl))) (Or.inr (hw _ (List.mem_of_getElem? (i := 26) rfl))) (by decide) (t := .int) (t' := .int) (by decide) (by decide)))
  have Z_35 := Nat.le_trans Z_26 (Nat.le_of_eq W30.size.symm)
  have K_36 := K_27.wr W30 (Or.inl (List.mem_of_getElem? (i := 0) rfl))
  have f_37 := f_24.same W30
  have N_38 := Fr.snoc X30 N_29 PG
  show own_Go X30 (Q12 Z r0 p4 h0 n0) 0 0 116 #[.val (.ref r0), .val (.int (1 : Int32)), .val (.int (2 : Int32)), .val (.int (4 : Int32)), .val (.int p4)] []
  refine own_st (fun _ k => XS.aloadN X30.here hx rfl (hb hby d12_116) rfl rfl k) ?_
  show own_Go X30 (Q12 Z r0 p4 h0 n0) 0 0 117 #[.val (.ref r0), .val (.int (1 : Int32)), .val (.int (2 : Int32)), .val (.int (4 : Int32)), .val (.int p4)] [(.ref r0)]
  refine own_st (fun _ k => XS.iload X30.here hx rfl (hb hby d12_117) rfl k) ?_
  show own_Go X30 (Q12 Z r0 p4 h0 n0) 0 0 119 #[.val (.ref r0), .val (.int (1 : Int32)), .val (.int (2 : Int32)), .val (.int (4 : Int32)), .val (.int p4)] [(.int p4), (.ref r0)]
  obtain ⟨T39, h39, X39, e39, W39, st39⟩ := putF X30 hx hZ hown (host := "") (Or.inl (hw _ (List.mem_of_getElem? (i := 27) rfl))) Via.refl e30 f_34 f_31 (Or.inr ⟨(hw _ (List.mem_of_getElem? (i := 28) rfl)), rfl, hnm⟩) (hw _ (List.mem_of_getElem? (i := 4) rfl)) (ty := .int) (by decide) rfl rfl (g := (mkF m 119 #[.val (.ref r0), .val (.int (1 : Int32)), .val (.int (2 : Int32)), .val (.int (4 : Int32)), .val (.int p4)] [(.int p4), (.ref r0)])) rfl rfl (hb hby d12_119)
  refine own_st st39 ?_
  have f_40 := f_31.wr W39
  have f_41 := f_32.other W39 (Or.inr (slot_ne (Or.inr (hw _ (List.mem_of_getElem? (i := 22) rfl))) (Or.inr (hw _ (List.mem_of_getElem? (i := 28) rfl))) (by decide) (t := .int) (t' := .int) (by decide) (by decide)))
  have f_42 := f_33.other W39 (Or.inr (slot_ne (Or.inr (hw _ (List.mem_of_getElem? (i := 24) rfl))) (Or.inr (hw _ (List.mem_of_getElem? (i := 28) rfl))) (by decide) (t := .int) (t' := .int) (by decide) (by decide)))
  have f_43 := f_37.other W39 (Or.inr (slot_ne (Or.inr (hw _ (List.mem_of_getElem? (i := 26) rfl))) (Or.inr (hw _ (List.mem_of_getElem? (i := 28) rfl))) (by decide) (t := .int) (t' := .int) (by decide) (by decide)))
  have Z_44 := Nat.le_trans Z_35 (Nat.le_of_eq W39.size.symm)
  have K_45 := K_36.wr W39 (Or.inl (List.mem_of_getElem? (i := 0) rfl))
  have f_46 := f_34.same W39
  have N_47 := Fr.snoc X39 N_38 PG
  show own_Go X39 (Q12 Z r0 p4 h0 n0) 0 0 122 #[.val (.ref r0), .val (.int (1 : Int32)), .val (.int (2 : Int32)), .val (.int (4 : Int32)), .val (.int p4)] []
  refine own_retV X39 hx Bd.returns hlk e39 (hb hby d12_122) (by decide) (by decide) ?_
  exact ⟨rfl, N_47, K_45, f_41, f_42, f_43, f_46⟩
theorem d43_0 : decode prog_55_method_7_code 0 = .ok (.lconst 1, 1) := by decide +kernel
theorem d43_1 : decode prog_55_method_7_code 1 = .ok (.lstore_n 2, 1) := by decide +kernel
theorem d43_2 : decode prog_55_method_7_code 2 = .ok (.iconst 0, 1) := by decide +kernel
theorem d43_3 : decode prog_55_method_7_code 3 = .ok (.istore 4, 2) := by decide +kernel
theorem d43_5 : decode prog_55_method_7_code 5 = .ok (.iload 4, 2) := by decide +kernel
theorem d43_7 : decode prog_55_method_7_code 7 = .ok (.iload_n 1, 1) := by decide +kernel
theorem d43_8 : decode prog_55_method_7_code 8 = .ok (.if_icmp .ge 24, 3) := by decide +kernel
theorem d43_11 : decode prog_55_method_7_code 11 = .ok (.lload_n 2, 1) := by decide +kernel
theorem d43_12 : decode prog_55_method_7_code 12 = .ok (.iload_n 0, 1) := by decide +kernel
theorem d43_13 : decode prog_55_method_7_code 13 = .ok (.i2l, 1) := by decide +kernel
theorem d43_14 : decode prog_55_method_7_code 14 = .ok (.lmul, 1) := by decide +kernel
theorem d43_15 : decode prog_55_method_7_code 15 = .ok (.lstore_n 2, 1) := by decide +kernel
theorem d43_16 : decode prog_55_method_7_code 16 = .ok (.lload_n 2, 1) := by decide +kernel
theorem d43_17 : decode prog_55_method_7_code 17 = .ok (.ldc2_w 133, 3) := by decide +kernel
theorem d43_20 : decode prog_55_method_7_code 20 = .ok (.lcmp, 1) := by decide +kernel
theorem d43_21 : decode prog_55_method_7_code 21 = .ok (.ifCond .le 5, 3) := by decide +kernel
theorem d43_26 : decode prog_55_method_7_code 26 = .ok (.iinc 4 1, 3) := by decide +kernel
theorem d43_29 : decode prog_55_method_7_code 29 = .ok (.goto (-24), 3) := by decide +kernel
theorem d43_32 : decode prog_55_method_7_code 32 = .ok (.lload_n 2, 1) := by decide +kernel
theorem d43_33 : decode prog_55_method_7_code 33 = .ok (.l2i, 1) := by decide +kernel
theorem d43_34 : decode prog_55_method_7_code 34 = .ok (.ireturn, 1) := by decide +kernel
theorem pn_43 : plainName "com/example/gingham/gingham/designs/CoveringArraySpec" = true := by first | (simp [plainName, overriddenIn]; done) | decide +kernel
theorem ef_43 (m : MethodId) (p0 : Int32) : entryFrame m #[(.int p0), (.int (3 : Int32))] 5 = mkF m 0 #[.val (.int p0), .val (.int (3 : Int32)), .unset, .unset, .unset] [] := by first | (simp [entryFrame, mkF, argsToLocals, Value.category]; done) | rfl
def Q43 (Z : State) (p0 : Int32)  (h0 : Heap) (n0 : Nat) (v : Option Value) (h : Heap) (L : List Loc) : Prop := v = some (.int ((own_pw3 p0).toInt32)) ∧ Fr n0 L ∧ h = h0
set_option maxRecDepth 65536 in
set_option maxHeartbeats 40000000 in
theorem rm43 (l : Launch) (Z : State) (a0 : Array Value) (hw : ∀ d ∈ tables_1, d.before a0 Z = true) (ws : List Jvm.Cond) (p0 : Int32)  (h0 : Heap) (n0 : Nat) (Z0 : n0 ≤ h0.size) (H1 : ¬ (2147483639 : Int64) < own_pw1 p0) (H2 : ¬ (2147483639 : Int64) < own_pw2 p0) (H3 : ¬ (2147483639 : Int64) < own_pw3 p0) :
    MetFree l (⟨"com/example/gingham/gingham/designs/CoveringArraySpec", "tupleCount", "(II)I"⟩ : MethodName) (head1 (Jvm.Cond.code (⟨"com/example/gingham/gingham/designs/CoveringArraySpec", "tupleCount", "(II)I"⟩ : MethodName) prog_55_method_7_code 5 (some .int) :: ws) ({ frames := 0, cells := 0, slots := 0, locals := 0 } : Room)) (fun a U => a = #[(.int p0), (.int (3 : Int32))] ∧ Z.Warmed39 U.vm ∧ U.heap = h0) (fun _ _ _ _ _ => True) (fun _ U o U' => ∃ v L, o = .returned v ∧ Q43 Z p0 h0 n0 v U'.heap L ∧ FrameEnd U o U' L ({ frames := 0, cells := 0, slots := 0, locals := 0 } : Room).cells ({ frames := 0, cells := 0, slots := 0, locals := 0 } : Room).slots) := by
  refine MetFree.of_bodySF (plainFor_of_name pn_43) hisR ?_
  intro p e s m args below meth c s₁ Bd hml0 hP hK
  obtain ⟨rfl, hZ, hh⟩ := hP
  have hx := Bd.exec
  have hby := Bd.bytes
  have hml : c.maxLocals = 5 := hml0
  have hown : s.vm.findClass "com/example/gingham/gingham/designs/CoveringArraySpec" = some m.cls := findClass_of_methodNamed Bd.named
  have hnm := (name_of_methodNamed Bd.named Bd.method).1
  have hlk : meth.locks = false := Bd.notSynchronized
  have X0 : Stand p l e ({ frames := 0, cells := 0, slots := 0, locals := 0 } : Room) s m #[(.int p0), (.int (3 : Int32))] below meth c s₁ [] 0 0 := Stand.of_body Bd
  have e0 : s₁.heap = h0 := by rw [← hh, Bd.state]; rfl
  have N0 := Fr.nil n0
  refine own_cast (Q := Q43 Z p0 h0 n0) (kc := 0) (ks := 0) (ef_43 m p0) ?_
  refine own_st (fun _ k => XS.lconst X0.here hx rfl (hb hby d43_0) k) ?_
  show own_Go X0 (Q43 Z p0 h0 n0) 0 0 1 #[.val (.int p0), .val (.int (3 : Int32)), .unset, .unset, .unset] [(.long (1 : Int64))]
  refine own_st (fun _ k => XS.lstoreN X0.here hx rfl (hb hby d43_1) rfl (l' := #[.val (.int p0), .val (.int (3 : Int32)), .val (.long (1 : Int64)), .second, .unset]) rfl k) ?_
  show own_Go X0 (Q43 Z p0 h0 n0) 0 0 2 #[.val (.int p0), .val (.int (3 : Int32)), .val (.long (1 : Int64)), .second, .unset] []
  refine own_st (fun _ k => XS.iconst X0.here hx rfl (hb hby d43_2) k) ?_
  show own_Go X0 (Q43 Z p0 h0 n0) 0 0 3 #[.val (.int p0), .val (.int (3 : Int32)), .val (.long (1 : Int64)), .second, .unset] [(.int (0 : Int32))]
  refine own_st (fun _ k => XS.istore X0.here hx rfl (hb hby d43_3) rfl (l' := #[.val (.int p0), .val (.int (3 : Int32)), .val (.long (1 : Int64)), .second, .val (.int (0 : Int32))]) rfl k) ?_
  show own_Go X0 (Q43 Z p0 h0 n0) 0 0 5 #[.val (.int p0), .val (.int (3 : Int32)), .val (.long (1 : Int64)), .second, .val (.int (0 : Int32))] []
  refine own_st (fun _ k => XS.iload X0.here hx rfl (hb hby d43_5) rfl k) ?_
  show own_Go X0 (Q43 Z p0 h0 n0) 0 0 7 #[.val (.int p0), .val (.int (3 : Int32)), .val (.long (1 : Int64)), .second, .val (.int (0 : Int32))] [(.int (0 : Int32))]
  refine own_st (fun _ k => XS.iloadN X0.here hx rfl (hb hby d43_7) rfl k) ?_
  show own_Go X0 (Q43 Z p0 h0 n0) 0 0 8 #[.val (.int p0), .val (.int (3 : Int32)), .val (.long (1 : Int64)), .second, .val (.int (0 : Int32))] [(.int (3 : Int32)), (.int (0 : Int32))]
  have c8_1 : (0 : Int32) < (3 : Int32) := (by decide)
  refine own_st (fun _ k => XS.icmpNo X0.here hx rfl (hb hby d43_8) rfl (tlt c8_1).2.1 k) ?_
  show own_Go X0 (Q43 Z p0 h0 n0) 0 0 11 #[.val (.int p0), .val (.int (3 : Int32)), .val (.long (1 : Int64)), .second, .val (.int (0 : Int32))] []
  refine own_st (fun _ k => XS.lloadN X0.here hx rfl (hb hby d43_11) rfl k) ?_
  show own_Go X0 (Q43 Z p0 h0 n0) 0 0 12 #[.val (.int p0), .val (.int (3 : Int32)), .val (.long (1 : Int64)), .second, .val (.int (0 : Int32))] [(.long (1 : Int64))]
  refine own_st (fun _ k => XS.iloadN X0.here hx rfl (hb hby d43_12) rfl k) ?_
  show own_Go X0 (Q43 Z p0 h0 n0) 0 0 13 #[.val (.int p0), .val (.int (3 : Int32)), .val (.long (1 : Int64)), .second, .val (.int (0 : Int32))] [(.int p0), (.long (1 : Int64))]
  refine own_st (fun _ k => XS.i2l X0.here hx rfl (hb hby d43_13) rfl k) ?_
  show own_Go X0 (Q43 Z p0 h0 n0) 0 0 14 #[.val (.int p0), .val (.int (3 : Int32)), .val (.long (1 : Int64)), .second, .val (.int (0 : Int32))] [(.long (p0.toInt64)), (.long (1 : Int64))]
  refine own_st (fun _ k => XS.lmul X0.here hx rfl (hb hby d43_14) rfl k) ?_
  show own_Go X0 (Q43 Z p0 h0 n0) 0 0 15 #[.val (.int p0), .val (.int (3 : Int32)), .val (.long (1 : Int64)), .second, .val (.int (0 : Int32))] [(.long ((1 : Int64) * (p0.toInt64)))]
  refine own_st (fun _ k => XS.lstoreN X0.here hx rfl (hb hby d43_15) rfl (l' := #[.val (.int p0), .val (.int (3 : Int32)), .val (.long ((1 : Int64) * (p0.toInt64))), .second, .val (.int (0 : Int32))]) rfl k) ?_
  show own_Go X0 (Q43 Z p0 h0 n0) 0 0 16 #[.val (.int p0), .val (.int (3 : Int32)), .val (.long ((1 : Int64) * (p0.toInt64))), .second, .val (.int (0 : Int32))] []
  show own_Go X0 (Q43 Z p0 h0 n0) 0 0 16 #[.val (.int p0), .val (.int (3 : Int32)), .val (.long (own_pw1 p0)), .second, .val (.int (0 : Int32))] []
  refine own_st (fun _ k => XS.lloadN X0.here hx rfl (hb hby d43_16) rfl k) ?_
  show own_Go X0 (Q43 Z p0 h0 n0) 0 0 17 #[.val (.int p0), .val (.int (3 : Int32)), .val (.long (own_pw1 p0)), .second, .val (.int (0 : Int32))] [(.long (own_pw1 p0))]
  refine own_st (fun t k => X0.ldc2Long hx hown (mvT hZ (hw _ (List.mem_of_getElem? (i := 20) rfl))) (g := (mkF m 17 #[.val (.int p0), .val (.int (3 : Int32)), .val (.long (own_pw1 p0)), .second, .val (.int (0 : Int32))] [(.long (own_pw1 p0))])) rfl (hb hby d43_17) t k) ?_
  show own_Go X0 (Q43 Z p0 h0 n0) 0 0 20 #[.val (.int p0), .val (.int (3 : Int32)), .val (.long (own_pw1 p0)), .second, .val (.int (0 : Int32))] [(.long (2147483639 : Int64)), (.long (own_pw1 p0))]
  refine own_st (fun _ k => XS.lcmp X0.here hx rfl (hb hby d43_20) rfl k) ?_
  show own_Go X0 (Q43 Z p0 h0 n0) 0 0 21 #[.val (.int p0), .val (.int (3 : Int32)), .val (.long (own_pw1 p0)), .second, .val (.int (0 : Int32))] [(.int (lcmpW (own_pw1 p0) (2147483639 : Int64)))]
  have c21_2 : ¬ ((2147483639 : Int64) < (own_pw1 p0)) := H1
  refine own_st (fun _ k => XS.ifYes X0.here hx rfl (pc0 := 21) (pc' := 26) rfl (hb hby d43_21) rfl ((if0 _ _).trans (flt (fun q => c21_2 ((lw_gt _ _).mp q))).2.2.2) (by decide) (by decide) k) ?_
  show own_Go X0 (Q43 Z p0 h0 n0) 0 0 26 #[.val (.int p0), .val (.int (3 : Int32)), .val (.long (own_pw1 p0)), .second, .val (.int (0 : Int32))] []
  refine own_st (fun _ k => XS.iinc X0.here hx rfl (hb hby d43_26) rfl (l' := #[.val (.int p0), .val (.int (3 : Int32)), .val (.long (own_pw1 p0)), .second, .val (.int (1 : Int32))]) rfl k) ?_
  show own_Go X0 (Q43 Z p0 h0 n0) 0 0 29 #[.val (.int p0), .val (.int (3 : Int32)), .val (.long (own_pw1 p0)), .second, .val (.int (1 : Int32))] []
  refine own_st (fun _ k => XS.goto X0.here hx rfl (pc0 := 29) (pc' := 5) rfl (hb hby d43_29) (by decide) (by decide) k) ?_
  show own_Go X0 (Q43 Z p0 h0 n0) 0 0 5 #[.val (.int p0), .val (.int (3 : Int32)), .val (.long (own_pw1 p0)), .second, .val (.int (1 : Int32))] []
  refine own_st (fun _ k => XS.iload X0.here hx rfl (hb hby d43_5) rfl k) ?_
  show own_Go X0 (Q43 Z p0 h0 n0) 0 0 7 #[.val (.int p0), .val (.int (3 : Int32)), .val (.long (own_pw1 p0)), .second, .val (.int (1 : Int32))] [(.int (1 : Int32))]
  refine own_st (fun _ k => XS.iloadN X0.here hx rfl (hb hby d43_7) rfl k) ?_
  show own_Go X0 (Q43 Z p0 h0 n0) 0 0 8 #[.val (.int p0), .val (.int (3 : Int32)), .val (.long (own_pw1 p0)), .second, .val (.int (1 : Int32))] [(.int (3 : Int32)), (.int (1 : Int32))]
  have c8_3 : (1 : Int32) < (3 : Int32) := (by decide)
  refine own_st (fun _ k => XS.icmpNo X0.here hx rfl (hb hby d43_8) rfl (tlt c8_3).2.1 k) ?_
  show own_Go X0 (Q43 Z p0 h0 n0) 0 0 11 #[.val (.int p0), .val (.int (3 : Int32)), .val (.long (own_pw1 p0)), .second, .val (.int (1 : Int32))] []
  refine own_st (fun _ k => XS.lloadN X0.here hx rfl (hb hby d43_11) rfl k) ?_
  show own_Go X0 (Q43 Z p0 h0 n0) 0 0 12 #[.val (.int p0), .val (.int (3 : Int32)), .val (.long (own_pw1 p0)), .second, .val (.int (1 : Int32))] [(.long (own_pw1 p0))]
  refine own_st (fun _ k => XS.iloadN X0.here hx rfl (hb hby d43_12) rfl k) ?_
  show own_Go X0 (Q43 Z p0 h0 n0) 0 0 13 #[.val (.int p0), .val (.int (3 : Int32)), .val (.long (own_pw1 p0)), .second, .val (.int (1 : Int32))] [(.int p0), (.long (own_pw1 p0))]
  refine own_st (fun _ k => XS.i2l X0.here hx rfl (hb hby d43_13) rfl k) ?_
  show own_Go X0 (Q43 Z p0 h0 n0) 0 0 14 #[.val (.int p0), .val (.int (3 : Int32)), .val (.long (own_pw1 p0)), .second, .val (.int (1 : Int32))] [(.long (p0.toInt64)), (.long (own_pw1 p0))]
  refine own_st (fun _ k => XS.lmul X0.here hx rfl (hb hby d43_14) rfl k) ?_
  show own_Go X0 (Q43 Z p0 h0 n0) 0 0 15 #[.val (.int p0), .val (.int (3 : Int32)), .val (.long (own_pw1 p0)), .second, .val (.int (1 : Int32))] [(.long ((own_pw1 p0) * (p0.toInt64)))]
  refine own_st (fun _ k => XS.lstoreN X0.here hx rfl (hb hby d43_15) rfl (l' := #[.val (.int p0), .val (.int (3 : Int32)), .val (.long ((own_pw1 p0) * (p0.toInt64))), .second, .val (.int (1 : Int32))]) rfl k) ?_
  show own_Go X0 (Q43 Z p0 h0 n0) 0 0 16 #[.val (.int p0), .val (.int (3 : Int32)), .val (.long ((own_pw1 p0) * (p0.toInt64))), .second, .val (.int (1 : Int32))] []
  show own_Go X0 (Q43 Z p0 h0 n0) 0 0 16 #[.val (.int p0), .val (.int (3 : Int32)), .val (.long (own_pw2 p0)), .second, .val (.int (1 : Int32))] []
  refine own_st (fun _ k => XS.lloadN X0.here hx rfl (hb hby d43_16) rfl k) ?_
  show own_Go X0 (Q43 Z p0 h0 n0) 0 0 17 #[.val (.int p0), .val (.int (3 : Int32)), .val (.long (own_pw2 p0)), .second, .val (.int (1 : Int32))] [(.long (own_pw2 p0))]
  refine own_st (fun t k => X0.ldc2Long hx hown (mvT hZ (hw _ (List.mem_of_getElem? (i := 20) rfl))) (g := (mkF m 17 #[.val (.int p0), .val (.int (3 : Int32)), .val (.long (own_pw2 p0)), .second, .val (.int (1 : Int32))] [(.long (own_pw2 p0))])) rfl (hb hby d43_17) t k) ?_
  show own_Go X0 (Q43 Z p0 h0 n0) 0 0 20 #[.val (.int p0), .val (.int (3 : Int32)), .val (.long (own_pw2 p0)), .second, .val (.int (1 : Int32))] [(.long (2147483639 : Int64)), (.long (own_pw2 p0))]
  refine own_st (fun _ k => XS.lcmp X0.here hx rfl (hb hby d43_20) rfl k) ?_
  show own_Go X0 (Q43 Z p0 h0 n0) 0 0 21 #[.val (.int p0), .val (.int (3 : Int32)), .val (.long (own_pw2 p0)), .second, .val (.int (1 : Int32))] [(.int (lcmpW (own_pw2 p0) (2147483639 : Int64)))]
  have c21_4 : ¬ ((2147483639 : Int64) < (own_pw2 p0)) := H2
  refine own_st (fun _ k => XS.ifYes X0.here hx rfl (pc0 := 21) (pc' := 26) rfl (hb hby d43_21) rfl ((if0 _ _).trans (flt (fun q => c21_4 ((lw_gt _ _).mp q))).2.2.2) (by decide) (by decide) k) ?_
  show own_Go X0 (Q43 Z p0 h0 n0) 0 0 26 #[.val (.int p0), .val (.int (3 : Int32)), .val (.long (own_pw2 p0)), .second, .val (.int (1 : Int32))] []
  refine own_st (fun _ k => XS.iinc X0.here hx rfl (hb hby d43_26) rfl (l' := #[.val (.int p0), .val (.int (3 : Int32)), .val (.long (own_pw2 p0)), .second, .val (.int (2 : Int32))]) rfl k) ?_
  show own_Go X0 (Q43 Z p0 h0 n0) 0 0 29 #[.val (.int p0), .val (.int (3 : Int32)), .val (.long (own_pw2 p0)), .second, .val (.int (2 : Int32))] []
  refine own_st (fun _ k => XS.goto X0.here hx rfl (pc0 := 29) (pc' := 5) rfl (hb hby d43_29) (by decide) (by decide) k) ?_
  show own_Go X0 (Q43 Z p0 h0 n0) 0 0 5 #[.val (.int p0), .val (.int (3 : Int32)), .val (.long (own_pw2 p0)), .second, .val (.int (2 : Int32))] []
  refine own_st (fun _ k => XS.iload X0.here hx rfl (hb hby d43_5) rfl k) ?_
  show own_Go X0 (Q43 Z p0 h0 n0) 0 0 7 #[.val (.int p0), .val (.int (3 : Int32)), .val (.long (own_pw2 p0)), .second, .val (.int (2 : Int32))] [(.int (2 : Int32))]
  refine own_st (fun _ k => XS.iloadN X0.here hx rfl (hb hby d43_7) rfl k) ?_
  show own_Go X0 (Q43 Z p0 h0 n0) 0 0 8 #[.val (.int p0), .val (.int (3 : Int32)), .val (.long (own_pw2 p0)), .second, .val (.int (2 : Int32))] [(.int (3 : Int32)), (.int (2 : Int32))]
  have c8_5 : (2 : Int32) < (3 : Int32) := (by decide)
  refine own_st (fun _ k => XS.icmpNo X0.here hx rfl (hb hby d43_8) rfl (tlt c8_5).2.1 k) ?_
  show own_Go X0 (Q43 Z p0 h0 n0) 0 0 11 #[.val (.int p0), .val (.int (3 : Int32)), .val (.long (own_pw2 p0)), .second, .val (.int (2 : Int32))] []
  refine own_st (fun _ k => XS.lloadN X0.here hx rfl (hb hby d43_11) rfl k) ?_
  show own_Go X0 (Q43 Z p0 h0 n0) 0 0 12 #[.val (.int p0), .val (.int (3 : Int32)), .val (.long (own_pw2 p0)), .second, .val (.int (2 : Int32))] [(.long (own_pw2 p0))]
  refine own_st (fun _ k => XS.iloadN X0.here hx rfl (hb hby d43_12) rfl k) ?_
  show own_Go X0 (Q43 Z p0 h0 n0) 0 0 13 #[.val (.int p0), .val (.int (3 : Int32)), .val (.long (own_pw2 p0)), .second, .val (.int (2 : Int32))] [(.int p0), (.long (own_pw2 p0))]
  refine own_st (fun _ k => XS.i2l X0.here hx rfl (hb hby d43_13) rfl k) ?_
  show own_Go X0 (Q43 Z p0 h0 n0) 0 0 14 #[.val (.int p0), .val (.int (3 : Int32)), .val (.long (own_pw2 p0)), .second, .val (.int (2 : Int32))] [(.long (p0.toInt64)), (.long (own_pw2 p0))]
  refine own_st (fun _ k => XS.lmul X0.here hx rfl (hb hby d43_14) rfl k) ?_
  show own_Go X0 (Q43 Z p0 h0 n0) 0 0 15 #[.val (.int p0), .val (.int (3 : Int32)), .val (.long (own_pw2 p0)), .second, .val (.int (2 : Int32))] [(.long ((own_pw2 p0) * (p0.toInt64)))]
  refine own_st (fun _ k => XS.lstoreN X0.here hx rfl (hb hby d43_15) rfl (l' := #[.val (.int p0), .val (.int (3 : Int32)), .val (.long ((own_pw2 p0) * (p0.toInt64))), .second, .val (.int (2 : Int32))]) rfl k) ?_
  show own_Go X0 (Q43 Z p0 h0 n0) 0 0 16 #[.val (.int p0), .val (.int (3 : Int32)), .val (.long ((own_pw2 p0) * (p0.toInt64))), .second, .val (.int (2 : Int32))] []
  show own_Go X0 (Q43 Z p0 h0 n0) 0 0 16 #[.val (.int p0), .val (.int (3 : Int32)), .val (.long (own_pw3 p0)), .second, .val (.int (2 : Int32))] []
  refine own_st (fun _ k => XS.lloadN X0.here hx rfl (hb hby d43_16) rfl k) ?_
  show own_Go X0 (Q43 Z p0 h0 n0) 0 0 17 #[.val (.int p0), .val (.int (3 : Int32)), .val (.long (own_pw3 p0)), .second, .val (.int (2 : Int32))] [(.long (own_pw3 p0))]
  refine own_st (fun t k => X0.ldc2Long hx hown (mvT hZ (hw _ (List.mem_of_getElem? (i := 20) rfl))) (g := (mkF m 17 #[.val (.int p0), .val (.int (3 : Int32)), .val (.long (own_pw3 p0)), .second, .val (.int (2 : Int32))] [(.long (own_pw3 p0))])) rfl (hb hby d43_17) t k) ?_
  show own_Go X0 (Q43 Z p0 h0 n0) 0 0 20 #[.val (.int p0), .val (.int (3 : Int32)), .val (.long (own_pw3 p0)), .second, .val (.int (2 : Int32))] [(.long (2147483639 : Int64)), (.long (own_pw3 p0))]
  refine own_st (fun _ k => XS.lcmp X0.here hx rfl (hb hby d43_20) rfl k) ?_
  show own_Go X0 (Q43 Z p0 h0 n0) 0 0 21 #[.val (.int p0), .val (.int (3 : Int32)), .val (.long (own_pw3 p0)), .second, .val (.int (2 : Int32))] [(.int (lcmpW (own_pw3 p0) (2147483639 : Int64)))]
  have c21_6 : ¬ ((2147483639 : Int64) < (own_pw3 p0)) := H3
  refine own_st (fun _ k => XS.ifYes X0.here hx rfl (pc0 := 21) (pc' := 26) rfl (hb hby d43_21) rfl ((if0 _ _).trans (flt (fun q => c21_6 ((lw_gt _ _).mp q))).2.2.2) (by decide) (by decide) k) ?_
  show own_Go X0 (Q43 Z p0 h0 n0) 0 0 26 #[.val (.int p0), .val (.int (3 : Int32)), .val (.long (own_pw3 p0)), .second, .val (.int (2 : Int32))] []
  refine own_st (fun _ k => XS.iinc X0.here hx rfl (hb hby d43_26) rfl (l' := #[.val (.int p0), .val (.int (3 : Int32)), .val (.long (own_pw3 p0)), .second, .val (.int (3 : Int32))]) rfl k) ?_
  show own_Go X0 (Q43 Z p0 h0 n0) 0 0 29 #[.val (.int p0), .val (.int (3 : Int32)), .val (.long (own_pw3 p0)), .second, .val (.int (3 : Int32))] []
  refine own_st (fun _ k => XS.goto X0.here hx rfl (pc0 := 29) (pc' := 5) rfl (hb hby d43_29) (by decide) (by decide) k) ?_
  show own_Go X0 (Q43 Z p0 h0 n0) 0 0 5 #[.val (.int p0), .val (.int (3 : Int32)), .val (.long (own_pw3 p0)), .second, .val (.int (3 : Int32))] []
  refine own_st (fun _ k => XS.iload X0.here hx rfl (hb hby d43_5) rfl k) ?_
  show own_Go X0 (Q43 Z p0 h0 n0) 0 0 7 #[.val (.int p0), .val (.int (3 : Int32)), .val (.long (own_pw3 p0)), .second, .val (.int (3 : Int32))] [(.int (3 : Int32))]
  refine own_st (fun _ k => XS.iloadN X0.here hx rfl (hb hby d43_7) rfl k) ?_
  show own_Go X0 (Q43 Z p0 h0 n0) 0 0 8 #[.val (.int p0), .val (.int (3 : Int32)), .val (.long (own_pw3 p0)), .second, .val (.int (3 : Int32))] [(.int (3 : Int32)), (.int (3 : Int32))]
  have c8_7 : ¬ ((3 : Int32) < (3 : Int32)) := (by decide)
  refine own_st (fun _ k => XS.icmpYes X0.here hx rfl (pc0 := 8) (pc' := 32) rfl (hb hby d43_8) rfl (flt c8_7).2.1 (by decide) (by decide) k) ?_
  show own_Go X0 (Q43 Z p0 h0 n0) 0 0 32 #[.val (.int p0), .val (.int (3 : Int32)), .val (.long (own_pw3 p0)), .second, .val (.int (3 : Int32))] []
  refine own_st (fun _ k => XS.lloadN X0.here hx rfl (hb hby d43_32) rfl k) ?_
  show own_Go X0 (Q43 Z p0 h0 n0) 0 0 33 #[.val (.int p0), .val (.int (3 : Int32)), .val (.long (own_pw3 p0)), .second, .val (.int (3 : Int32))] [(.long (own_pw3 p0))]
  refine own_st (fun _ k => XS.l2i X0.here hx rfl (hb hby d43_33) rfl k) ?_
  show own_Go X0 (Q43 Z p0 h0 n0) 0 0 34 #[.val (.int p0), .val (.int (3 : Int32)), .val (.long (own_pw3 p0)), .second, .val (.int (3 : Int32))] [(.int ((own_pw3 p0).toInt32))]
  refine own_retI X0 hx Bd.returns hlk e0 (hb hby d43_34) (by decide) (by decide) ?_
  exact ⟨rfl, N0, rfl⟩
theorem d13_0 : decode prog_55_method_1_code 0 = .ok (.aload_n 0, 1) := by decide +kernel
theorem d13_1 : decode prog_55_method_1_code 1 = .ok (.invokespecial 1, 3) := by decide +kernel
theorem d13_4 : decode prog_55_method_1_code 4 = .ok (.iload_n 1, 1) := by decide +kernel
theorem d13_5 : decode prog_55_method_1_code 5 = .ok (.iconst 1, 1) := by decide +kernel
theorem d13_6 : decode prog_55_method_1_code 6 = .ok (.if_icmp .ge 11, 3) := by decide +kernel
theorem d13_17 : decode prog_55_method_1_code 17 = .ok (.iload_n 3, 1) := by decide +kernel
theorem d13_18 : decode prog_55_method_1_code 18 = .ok (.iconst 1, 1) := by decide +kernel
theorem d13_19 : decode prog_55_method_1_code 19 = .ok (.if_icmp .ge 11, 3) := by decide +kernel
theorem d13_30 : decode prog_55_method_1_code 30 = .ok (.iload_n 2, 1) := by decide +kernel
theorem d13_31 : decode prog_55_method_1_code 31 = .ok (.iconst 1, 1) := by decide +kernel
theorem d13_32 : decode prog_55_method_1_code 32 = .ok (.if_icmp .lt 8, 3) := by decide +kernel
theorem d13_35 : decode prog_55_method_1_code 35 = .ok (.iload_n 2, 1) := by decide +kernel
theorem d13_36 : decode prog_55_method_1_code 36 = .ok (.iload_n 3, 1) := by decide +kernel
theorem d13_37 : decode prog_55_method_1_code 37 = .ok (.if_icmp .le 20, 3) := by decide +kernel
theorem d13_57 : decode prog_55_method_1_code 57 = .ok (.iload 4, 2) := by decide +kernel
theorem d13_59 : decode prog_55_method_1_code 59 = .ok (.iconst 2, 1) := by decide +kernel
theorem d13_60 : decode prog_55_method_1_code 60 = .ok (.if_icmp .ge 12, 3) := by decide +kernel
theorem d13_72 : decode prog_55_method_1_code 72 = .ok (.iload 4, 2) := by decide +kernel
theorem d13_74 : decode prog_55_method_1_code 74 = .ok (.iload_n 2, 1) := by decide +kernel
theorem d13_75 : decode prog_55_method_1_code 75 = .ok (.invokestatic 28, 3) := by decide +kernel
theorem d13_78 : decode prog_55_method_1_code 78 = .ok (.ifCond .ge 23, 3) := by decide +kernel
theorem d13_101 : decode prog_55_method_1_code 101 = .ok (.aload_n 0, 1) := by decide +kernel
theorem d13_102 : decode prog_55_method_1_code 102 = .ok (.iload_n 1, 1) := by decide +kernel
theorem d13_103 : decode prog_55_method_1_code 103 = .ok (.putfield 37, 3) := by decide +kernel
theorem d13_106 : decode prog_55_method_1_code 106 = .ok (.aload_n 0, 1) := by decide +kernel
theorem d13_107 : decode prog_55_method_1_code 107 = .ok (.iload_n 2, 1) := by decide +kernel
theorem d13_108 : decode prog_55_method_1_code 108 = .ok (.putfield 40, 3) := by decide +kernel
theorem d13_111 : decode prog_55_method_1_code 111 = .ok (.aload_n 0, 1) := by decide +kernel
theorem d13_112 : decode prog_55_method_1_code 112 = .ok (.iload_n 3, 1) := by decide +kernel
theorem d13_113 : decode prog_55_method_1_code 113 = .ok (.putfield 42, 3) := by decide +kernel
theorem d13_116 : decode prog_55_method_1_code 116 = .ok (.aload_n 0, 1) := by decide +kernel
theorem d13_117 : decode prog_55_method_1_code 117 = .ok (.iload 4, 2) := by decide +kernel
theorem d13_119 : decode prog_55_method_1_code 119 = .ok (.putfield 44, 3) := by decide +kernel
theorem d13_122 : decode prog_55_method_1_code 122 = .ok (.return_, 1) := by decide +kernel
theorem pn_13 : plainName "com/example/gingham/gingham/designs/CoveringArraySpec" = true := by first | (simp [plainName, overriddenIn]; done) | decide +kernel
theorem pd_13_0 : parseMethodDescriptor "()V" = some ⟨[], none⟩ := by decide +kernel
theorem pd_13_1 : parseMethodDescriptor "(II)I" = some ⟨[.int, .int], some .int⟩ := by decide +kernel
theorem ef_13 (m : MethodId) (r0 : Addr) (p4 : Int32) : entryFrame m #[(.ref r0), (.int (1 : Int32)), (.int (3 : Int32)), (.int (4 : Int32)), (.int p4)] 5 = mkF m 0 #[.val (.ref r0), .val (.int (1 : Int32)), .val (.int (3 : Int32)), .val (.int (4 : Int32)), .val (.int p4)] [] := by first | (simp [entryFrame, mkF, argsToLocals, Value.category]; done) | rfl
def Q13 (Z : State) (r0 : Addr) (p4 : Int32)  (h0 : Heap) (n0 : Nat) (v : Option Value) (h : Heap) (L : List Loc) : Prop := v = none ∧ Fr n0 L ∧ Keep h0 h [r0] ∧ Fld Z h r0 "com/example/gingham/gingham/designs/CoveringArraySpec" "rows" "I" (.int (1 : Int32)) ∧ Fld Z h r0 "com/example/gingham/gingham/designs/CoveringArraySpec" "strength" "I" (.int (3 : Int32)) ∧ Fld Z h r0 "com/example/gingham/gingham/designs/CoveringArraySpec" "columns" "I" (.int (4 : Int32)) ∧ Fld Z h r0 "com/example/gingham/gingham/designs/CoveringArraySpec" "levels" "I" (.int p4)
set_option maxRecDepth 65536 in
set_option maxHeartbeats 40000000 in
theorem rm13 (l : Launch) (Z : State) (a0 : Array Value) (hw : ∀ d ∈ tables_1, d.before a0 Z = true) (ws : List Jvm.Cond) (r0 : Addr) (p4 : Int32)  (h0 : Heap) (n0 : Nat) (Z0 : n0 ≤ h0.size) (PE : Exa Z h0 r0 "com/example/gingham/gingham/designs/CoveringArraySpec") (PG : n0 ≤ r0) (P_rows : Fld Z h0 r0 "com/example/gingham/gingham/designs/CoveringArraySpec" "rows" "I" (.int (0 : Int32))) (P_strength : Fld Z h0 r0 "com/example/gingham/gingham/designs/CoveringArraySpec" "strength" "I" (.int (0 : Int32))) (P_columns : Fld Z h0 r0 "com/example/gingham/gingham/designs/CoveringArraySpec" "columns" "I" (.int (0 : Int32))) (P_levels : Fld Z h0 r0 "com/example/gingham/gingham/designs/CoveringArraySpec" "levels" "I" (.int (0 : Int32))) (H1 : ¬ (2147483639 : Int64) < own_pw1 p4) (H2 : ¬ (2147483639 : Int64) < own_pw2 p4) (H3 : ¬ (2147483639 : Int64) < own_pw3 p4) (HN : ¬ (own_pw3 p4).toInt32 < (0 : Int32)) (HG : ¬ p4 < (2 : Int32)) :
    MetFree l (⟨"com/example/gingham/gingham/designs/CoveringArraySpec", "<init>", "(IIII)V"⟩ : MethodName) (head1 (Jvm.Cond.code (⟨"com/example/gingham/gingham/designs/CoveringArraySpec", "<init>", "(IIII)V"⟩ : MethodName) prog_55_method_1_code 5 none :: ws) ({ frames := 2, cells := 0, slots := 0, locals := 24 } : Room)) (fun a U => a = #[(.ref r0), (.int (1 : Int32)), (.int (3 : Int32)), (.int (4 : Int32)), (.int p4)] ∧ Z.Warmed39 U.vm ∧ U.heap = h0) (fun _ _ _ _ _ => True) (fun _ U o U' => ∃ v L, o = .returned v ∧ Q13 Z r0 p4 h0 n0 v U'.heap L ∧ FrameEnd U o U' L ({ frames := 2, cells := 0, slots := 0, locals := 24 } : Room).cells ({ frames := 2, cells := 0, slots := 0, locals := 24 } : Room).slots) := by
  refine MetFree.of_bodySF (plainFor_of_name pn_13) hisR ?_
  intro p e s m args below meth c s₁ Bd hml0 hP hK
  obtain ⟨rfl, hZ, hh⟩ := hP
  have hx := Bd.exec
  have hby := Bd.bytes
  have hml : c.maxLocals = 5 := hml0
  have hown : s.vm.findClass "com/example/gingham/gingham/designs/CoveringArraySpec" = some m.cls := findClass_of_methodNamed Bd.named
  have hnm := (name_of_methodNamed Bd.named Bd.method).1
  have hlk : meth.locks = false := Bd.notSynchronized
  have X0 : Stand p l e ({ frames := 2, cells := 0, slots := 0, locals := 24 } : Room) s m #[(.ref r0), (.int (1 : Int32)), (.int (3 : Int32)), (.int (4 : Int32)), (.int p4)] below meth c s₁ [] 0 0 := Stand.of_body Bd
  have e0 : s₁.heap = h0 := by rw [← hh, Bd.state]; rfl
  have N0 := Fr.nil n0
  refine own_cast (Q := Q13 Z r0 p4 h0 n0) (kc := 0) (ks := 0) (ef_13 m r0 p4) ?_
  have K_1 := Keep.refl h0 [r0]
  refine own_st (fun _ k => XS.aloadN X0.here hx rfl (hb hby d13_0) rfl rfl k) ?_
  show own_Go X0 (Q13 Z r0 p4 h0 n0) 0 0 1 #[.val (.ref r0), .val (.int (1 : Int32)), .val (.int (3 : Int32)), .val (.int (4 : Int32)), .val (.int p4)] [(.ref r0)]
  refine own_callI (W := 0) X0 hx hZ hown (hw _ (List.mem_of_getElem? (i := 9) rfl)) (hw _ (List.mem_of_getElem? (i := 10) rfl)) (hw _ (List.mem_of_getElem? (i := 12) rfl)) (hw _ (List.mem_of_getElem? (i := 13) rfl)) rfl (by decide) (rm2 l Z a0 hw [] r0 h0 n0 Z0) (by decide) (by decide) (by rw [hml]; rfl) r0 [] [] (lenOf pd_13_0 rfl) rfl rfl (Nat.le_of_ble_eq_true rfl) (hb hby d13_1) e0 (by decide) (by decide) ?_
  rintro _ T2 L2 X2 ⟨rfl, N2q, e2⟩
  have N_3 := Fr.app N0 N2q
  show own_Go X2 (Q13 Z r0 p4 h0 n0) 0 0 4 #[.val (.ref r0), .val (.int (1 : Int32)), .val (.int (3 : Int32)), .val (.int (4 : Int32)), .val (.int p4)] []
  refine own_st (fun _ k => XS.iloadN X2.here hx rfl (hb hby d13_4) rfl k) ?_
  show own_Go X2 (Q13 Z r0 p4 h0 n0) 0 0 5 #[.val (.ref r0), .val (.int (1 : Int32)), .val (.int (3 : Int32)), .val (.int (4 : Int32)), .val (.int p4)] [(.int (1 : Int32))]
  refine own_st (fun _ k => XS.iconst X2.here hx rfl (hb hby d13_5) k) ?_
  show own_Go X2 (Q13 Z r0 p4 h0 n0) 0 0 6 #[.val (.ref r0), .val (.int (1 : Int32)), .val (.int (3 : Int32)), .val (.int (4 : Int32)), .val (.int p4)] [(.int (1 : Int32)), (.int (1 : Int32))]
  have c6_4 : ¬ ((1 : Int32) < (1 : Int32)) := (by decide)
  refine own_st (fun _ k => XS.icmpYes X2.here hx rfl (pc0 := 6) (pc' := 17) rfl (hb hby d13_6) rfl (flt c6_4).2.1 (by decide) (by decide) k) ?_
  show own_Go X2 (Q13 Z r0 p4 h0 n0) 0 0 17 #[.val (.ref r0), .val (.int (1 : Int32)), .val (.int (3 : Int32)), .val (.int (4 : Int32)), .val (.int p4)] []
  refine own_st (fun _ k => XS.iloadN X2.here hx rfl (hb hby d13_17) rfl k) ?_
  show own_Go X2 (Q13 Z r0 p4 h0 n0) 0 0 18 #[.val (.ref r0), .val (.int (1 : Int32)), .val (.int (3 : Int32)), .val (.int (4 : Int32)), .val (.int p4)] [(.int (4 : Int32))]
  refine own_st (fun _ k => XS.iconst X2.here hx rfl (hb hby d13_18) k) ?_
  show own_Go X2 (Q13 Z r0 p4 h0 n0) 0 0 19 #[.val (.ref r0), .val (.int (1 : Int32)), .val (.int (3 : Int32)), .val (.int (4 : Int32)), .val (.int p4)] [(.int (1 : Int32)), (.int (4 : Int32))]
  have c19_5 : ¬ ((4 : Int32) < (1 : Int32)) := (by decide)
  refine own_st (fun _ k => XS.icmpYes X2.here hx rfl (pc0 := 19) (pc' := 30) rfl (hb hby d13_19) rfl (flt c19_5).2.1 (by decide) (by decide) k) ?_
  show own_Go X2 (Q13 Z r0 p4 h0 n0) 0 0 30 #[.val (.ref r0), .val (.int (1 : Int32)), .val (.int (3 : Int32)), .val (.int (4 : Int32)), .val (.int p4)] []
  refine own_st (fun _ k => XS.iloadN X2.here hx rfl (hb hby d13_30) rfl k) ?_
  show own_Go X2 (Q13 Z r0 p4 h0 n0) 0 0 31 #[.val (.ref r0), .val (.int (1 : Int32)), .val (.int (3 : Int32)), .val (.int (4 : Int32)), .val (.int p4)] [(.int (3 : Int32))]
  refine own_st (fun _ k => XS.iconst X2.here hx rfl (hb hby d13_31) k) ?_
  show own_Go X2 (Q13 Z r0 p4 h0 n0) 0 0 32 #[.val (.ref r0), .val (.int (1 : Int32)), .val (.int (3 : Int32)), .val (.int (4 : Int32)), .val (.int p4)] [(.int (1 : Int32)), (.int (3 : Int32))]
  have c32_6 : ¬ ((3 : Int32) < (1 : Int32)) := (by decide)
  refine own_st (fun _ k => XS.icmpNo X2.here hx rfl (hb hby d13_32) rfl (flt c32_6).1 k) ?_
  show own_Go X2 (Q13 Z r0 p4 h0 n0) 0 0 35 #[.val (.ref r0), .val (.int (1 : Int32)), .val (.int (3 : Int32)), .val (.int (4 : Int32)), .val (.int p4)] []
  refine own_st (fun _ k => XS.iloadN X2.here hx rfl (hb hby d13_35) rfl k) ?_
  show own_Go X2 (Q13 Z r0 p4 h0 n0) 0 0 36 #[.val (.ref r0), .val (.int (1 : Int32)), .val (.int (3 : Int32)), .val (.int (4 : Int32)), .val (.int p4)] [(.int (3 : Int32))]
  refine own_st (fun _ k => XS.iloadN X2.here hx rfl (hb hby d13_36) rfl k) ?_
  show own_Go X2 (Q13 Z r0 p4 h0 n0) 0 0 37 #[.val (.ref r0), .val (.int (1 : Int32)), .val (.int (3 : Int32)), .val (.int (4 : Int32)), .val (.int p4)] [(.int (4 : Int32)), (.int (3 : Int32))]
  have c37_7 : ¬ ((4 : Int32) < (3 : Int32)) := (by decide)
  refine own_st (fun _ k => XS.icmpYes X2.here hx rfl (pc0 := 37) (pc' := 57) rfl (hb hby d13_37) rfl (flt c37_7).2.2.2 (by decide) (by decide) k) ?_
  show own_Go X2 (Q13 Z r0 p4 h0 n0) 0 0 57 #[.val (.ref r0), .val (.int (1 : Int32)), .val (.int (3 : Int32)), .val (.int (4 : Int32)), .val (.int p4)] []
  refine own_st (fun _ k => XS.iload X2.here hx rfl (hb hby d13_57) rfl k) ?_
  show own_Go X2 (Q13 Z r0 p4 h0 n0) 0 0 59 #[.val (.ref r0), .val (.int (1 : Int32)), .val (.int (3 : Int32)), .val (.int (4 : Int32)), .val (.int p4)] [(.int p4)]
  refine own_st (fun _ k => XS.iconst X2.here hx rfl (hb hby d13_59) k) ?_
  show own_Go X2 (Q13 Z r0 p4 h0 n0) 0 0 60 #[.val (.ref r0), .val (.int (1 : Int32)), .val (.int (3 : Int32)), .val (.int (4 : Int32)), .val (.int p4)] [(.int (2 : Int32)), (.int p4)]
  have c60_8 : ¬ (p4 < (2 : Int32)) := HG
  refine own_st (fun _ k => XS.icmpYes X2.here hx rfl (pc0 := 60) (pc' := 72) rfl (hb hby d13_60) rfl (flt c60_8).2.1 (by decide) (by decide) k) ?_
  show own_Go X2 (Q13 Z r0 p4 h0 n0) 0 0 72 #[.val (.ref r0), .val (.int (1 : Int32)), .val (.int (3 : Int32)), .val (.int (4 : Int32)), .val (.int p4)] []
  refine own_st (fun _ k => XS.iload X2.here hx rfl (hb hby d13_72) rfl k) ?_
  show own_Go X2 (Q13 Z r0 p4 h0 n0) 0 0 74 #[.val (.ref r0), .val (.int (1 : Int32)), .val (.int (3 : Int32)), .val (.int (4 : Int32)), .val (.int p4)] [(.int p4)]
  refine own_st (fun _ k => XS.iloadN X2.here hx rfl (hb hby d13_74) rfl k) ?_
  show own_Go X2 (Q13 Z r0 p4 h0 n0) 0 0 75 #[.val (.ref r0), .val (.int (1 : Int32)), .val (.int (3 : Int32)), .val (.int (4 : Int32)), .val (.int p4)] [(.int (3 : Int32)), (.int p4)]
  refine own_callS (W := 0) X2 hx hZ hown (hw _ (List.mem_of_getElem? (i := 17) rfl)) (hw _ (List.mem_of_getElem? (i := 18) rfl)) (hw _ (List.mem_of_getElem? (i := 5) rfl)) (hw _ (List.mem_of_getElem? (i := 19) rfl)) (by decide) (rm43 l Z a0 hw [] p4  h0 n0 Z0 H1 H2 H3) (by decide) (by decide) (by rw [hml]; rfl) [(.int p4), (.int (3 : Int32))] [] (lenOf pd_13_1 rfl) rfl rfl (Nat.le_of_ble_eq_true rfl) (hb hby d13_75) e2 (by decide) (by decide) ?_
  rintro _ T9 L9 X9 ⟨rfl, N9q, e9⟩
  have N_10 := Fr.app N_3 N9q
  show own_Go X9 (Q13 Z r0 p4 h0 n0) 0 0 78 #[.val (.ref r0), .val (.int (1 : Int32)), .val (.int (3 : Int32)), .val (.int (4 : Int32)), .val (.int p4)] [(.int ((own_pw3 p4).toInt32))]
  have c78_11 : ¬ (((own_pw3 p4).toInt32) < (0 : Int32)) := HN
  refine own_st (fun _ k => XS.ifYes X9.here hx rfl (pc0 := 78) (pc' := 101) rfl (hb hby d13_78) rfl ((if0 _ _).trans (flt c78_11).2.1) (by decide) (by decide) k) ?_
  show own_Go X9 (Q13 Z r0 p4 h0 n0) 0 0 101 #[.val (.ref r0), .val (.int (1 : Int32)), .val (.int (3 : Int32)), .val (.int (4 : Int32)), .val (.int p4)] []
  refine own_st (fun _ k => XS.aloadN X9.here hx rfl (hb hby d13_101) rfl rfl k) ?_
  show own_Go X9 (Q13 Z r0 p4 h0 n0) 0 0 102 #[.val (.ref r0), .val (.int (1 : Int32)), .val (.int (3 : Int32)), .val (.int (4 : Int32)), .val (.int p4)] [(.ref r0)]
  refine own_st (fun _ k => XS.iloadN X9.here hx rfl (hb hby d13_102) rfl k) ?_
  show own_Go X9 (Q13 Z r0 p4 h0 n0) 0 0 103 #[.val (.ref r0), .val (.int (1 : Int32)), .val (.int (3 : Int32)), .val (.int (4 : Int32)), .val (.int p4)] [(.int (1 : Int32)), (.ref r0)]
  obtain ⟨T12, h12, X12, e12, W12, st12⟩ := putF X9 hx hZ hown (host := "") (Or.inl (hw _ (List.mem_of_getElem? (i := 21) rfl))) Via.refl e9 P_rows PE (Or.inr ⟨(hw _ (List.mem_of_getElem? (i := 22) rfl)), rfl, hnm⟩) (hw _ (List.mem_of_getElem? (i := 4) rfl)) (ty := .int) (by decide) rfl rfl (g := (mkF m 103 #[.val (.ref r0), .val (.int (1 : Int32)), .val (.int (3 : Int32)), .val (.int (4 : Int32)), .val (.int p4)] [(.int (1 : Int32)), (.ref r0)])) rfl rfl (hb hby d13_103)
  refine own_st st12 ?_
  have f_13 := PE.wr W12
  have f_14 := P_strength.other W12 (Or.inr (slot_ne (Or.inr (hw _ (List.mem_of_getElem? (i := 24) rfl))) (Or.inr (hw _ (List.mem_of_getElem? (i := 22) rfl))) (by decide) (t := .int) (t' := .int) (by decide) (by decide)))
  have f_15 := P_columns.other W12 (Or.inr (slot_ne (Or.inr (hw _ (List.mem_of_getElem? (i := 26) rfl))) (Or.inr (hw _ (List.mem_of_getElem? (i := 22) rfl))) (by decide) (t := .int) (t' := .int) (by decide) (by decide)))
  have f_16 := P_levels.other W12 (Or.inr (slot_ne (Or.inr (hw _ (List.mem_of_getElem? (i := 28) rfl))) (Or.inr (hw _ (List.mem_of_getElem? (i := 22) rfl))) (by decide) (t := .int) (t' := .int) (by decide) (by decide)))
  have Z_17 := Nat.le_trans Z0 (Nat.le_of_eq W12.size.symm)
  have K_18 := K_1.wr W12 (Or.inl (List.mem_of_getElem? (i := 0) rfl))
  have f_19 := P_rows.same W12
  have N_20 := Fr.snoc X12 N_10 PG
  show own_Go X12 (Q13 Z r0 p4 h0 n0) 0 0 106 #[.val (.ref r0), .val (.int (1 : Int32)), .val (.int (3 : Int32)), .val (.int (4 : Int32)), .val (.int p4)] []
  refine own_st (fun _ k => XS.aloadN X12.here hx rfl (hb hby d13_106) rfl rfl k) ?_
  show own_Go X12 (Q13 Z r0 p4 h0 n0) 0 0 107 #[.val (.ref r0), .val (.int (1 : Int32)), .val (.int (3 : Int32)), .val (.int (4 : Int32)), .val (.int p4)] [(.ref r0)]
  refine own_st (fun _ k => XS.iloadN X12.here hx rfl (hb hby d13_107) rfl k) ?_
  show own_Go X12 (Q13 Z r0 p4 h0 n0) 0 0 108 #[.val (.ref r0), .val (.int (1 : Int32)), .val (.int (3 : Int32)), .val (.int (4 : Int32)), .val (.int p4)] [(.int (3 : Int32)), (.ref r0)]
  obtain ⟨T21, h21, X21, e21, W21, st21⟩ := putF X12 hx hZ hown (host := "") (Or.inl (hw _ (List.mem_of_getElem? (i := 23) rfl))) Via.refl e12 f_14 f_13 (Or.inr ⟨(hw _ (List.mem_of_getElem? (i := 24) rfl)), rfl, hnm⟩) (hw _ (List.mem_of_getElem? (i := 4) rfl)) (ty := .int) (by decide) rfl rfl (g := (mkF m 108 #[.val (.ref r0), .val (.int (1 : Int32)), .val (.int (3 : Int32)), .val (.int (4 : Int32)), .val (.int p4)] [(.int (3 : Int32)), (.ref r0)])) rfl rfl (hb hby d13_108)
  refine own_st st21 ?_
  have f_22 := f_13.wr W21
  have f_23 := f_19.other W21 (Or.inr (slot_ne (Or.inr (hw _ (List.mem_of_getElem? (i := 22) rfl))) (Or.inr (hw _ (List.mem_of_getElem? (i := 24) rfl))) (by decide) (t := .int) (t' := .int) (by decide) (by decide)))
  have f_24 := f_15.other W21 (Or.inr (slot_ne (Or.inr (hw _ (List.mem_of_getElem? (i := 26) rfl))) (Or.inr (hw _ (List.mem_of_getElem? (i := 24) rfl))) (by decide) (t := .int) (t' := .int) (by decide) (by decide)))
  have f_25 := f_16.other W21 (Or.inr (slot_ne (Or.inr (hw _ (List.mem_of_getElem? (i := 28) rfl))) (Or.inr (hw _ (List.mem_of_getElem? (i := 24) rfl))) (by decide) (t := .int) (t' := .int) (by decide) (by decide)))
  have Z_26 := Nat.le_trans Z_17 (Nat.le_of_eq W21.size.symm)
  have K_27 := K_18.wr W21 (Or.inl (List.mem_of_getElem? (i := 0) rfl))
  have f_28 := f_14.same W21
  have N_29 := Fr.snoc X21 N_20 PG
  show own_Go X21 (Q13 Z r0 p4 h0 n0) 0 0 111 #[.val (.ref r0), .val (.int (1 : Int32)), .val (.int (3 : Int32)), .val (.int (4 : Int32)), .val (.int p4)] []
  refine own_st (fun _ k => XS.aloadN X21.here hx rfl (hb hby d13_111) rfl rfl k) ?_
  show own_Go X21 (Q13 Z r0 p4 h0 n0) 0 0 112 #[.val (.ref r0), .val (.int (1 : Int32)), .val (.int (3 : Int32)), .val (.int (4 : Int32)), .val (.int p4)] [(.ref r0)]
  refine own_st (fun _ k => XS.iloadN X21.here hx rfl (hb hby d13_112) rfl k) ?_
  show own_Go X21 (Q13 Z r0 p4 h0 n0) 0 0 113 #[.val (.ref r0), .val (.int (1 : Int32)), .val (.int (3 : Int32)), .val (.int (4 : Int32)), .val (.int p4)] [(.int (4 : Int32)), (.ref r0)]
  obtain ⟨T30, h30, X30, e30, W30, st30⟩ := putF X21 hx hZ hown (host := "") (Or.inl (hw _ (List.mem_of_getElem? (i := 25) rfl))) Via.refl e21 f_24 f_22 (Or.inr ⟨(hw _ (List.mem_of_getElem? (i := 26) rfl)), rfl, hnm⟩) (hw _ (List.mem_of_getElem? (i := 4) rfl)) (ty := .int) (by decide) rfl rfl (g := (mkF m 113 #[.val (.ref r0), .val (.int (1 : Int32)), .val (.int (3 : Int32)), .val (.int (4 : Int32)), .val (.int p4)] [(.int (4 : Int32)), (.ref r0)])) rfl rfl (hb hby d13_113)
  refine own_st st30 ?_
  have f_31 := f_22.wr W30
  have f_32 := f_23.other W30 (Or.inr (slot_ne (Or.inr (hw _ (List.mem_of_getElem? (i := 22) rfl))) (Or.inr (hw _ (List.mem_of_getElem? (i := 26) rfl))) (by decide) (t := .int) (t' := .int) (by decide) (by decide)))
  have f_33 := f_28.other W30 (Or.inr (slot_ne (Or.inr (hw _ (List.mem_of_getElem? (i := 24) rfl))) (Or.inr (hw _ (List.mem_of_getElem? (i := 26) rfl))) (by decide) (t := .int) (t' := .int) (by decide) (by decide)))
  have f_34 := f_25.other W30 (Or.inr (slot_ne (Or.inr (hw _ (List.mem_of_getElem? (i := 28) rfl))) (Or.inr (hw _ (List.mem_of_getElem? (i := 26) rfl))) (by decide) (t := .int) (t' := .int) (by decide) (by decide)))
  have Z_35 := Nat.le_trans Z_26 (Nat.le_of_eq W30.size.symm)
  have K_36 := K_27.wr W30 (Or.inl (List.mem_of_getElem? (i := 0) rfl))
  have f_37 := f_24.same W30
  have N_38 := Fr.snoc X30 N_29 PG
  show own_Go X30 (Q13 Z r0 p4 h0 n0) 0 0 116 #[.val (.ref r0), .val (.int (1 : Int32)), .val (.int (3 : Int32)), .val (.int (4 : Int32)), .val (.int p4)] []
  refine own_st (fun _ k => XS.aloadN X30.here hx rfl (hb hby d13_116) rfl rfl k) ?_
  show own_Go X30 (Q13 Z r0 p4 h0 n0) 0 0 117 #[.val (.ref r0), .val (.int (1 : Int32)), .val (.int (3 : Int32)), .val (.int (4 : Int32)), .val (.int p4)] [(.ref r0)]
  refine own_st (fun _ k => XS.iload X30.here hx rfl (hb hby d13_117) rfl k) ?_
  show own_Go X30 (Q13 Z r0 p4 h0 n0) 0 0 119 #[.val (.ref r0), .val (.int (1 : Int32)), .val (.int (3 : Int32)), .val (.int (4 : Int32)), .val (.int p4)] [(.int p4), (.ref r0)]
  obtain ⟨T39, h39, X39, e39, W39, st39⟩ := putF X30 hx hZ hown (host := "") (Or.inl (hw _ (List.mem_of_getElem? (i := 27) rfl))) Via.refl e30 f_34 f_31 (Or.inr ⟨(hw _ (List.mem_of_getElem? (i := 28) rfl)), rfl, hnm⟩) (hw _ (List.mem_of_getElem? (i := 4) rfl)) (ty := .int) (by decide) rfl rfl (g := (mkF m 119 #[.val (.ref r0), .val (.int (1 : Int32)), .val (.int (3 : Int32)), .val (.int (4 : Int32)), .val (.int p4)] [(.int p4), (.ref r0)])) rfl rfl (hb hby d13_119)
  refine own_st st39 ?_
  have f_40 := f_31.wr W39
  have f_41 := f_32.other W39 (Or.inr (slot_ne (Or.inr (hw _ (List.mem_of_getElem? (i := 22) rfl))) (Or.inr (hw _ (List.mem_of_getElem? (i := 28) rfl))) (by decide) (t := .int) (t' := .int) (by decide) (by decide)))
  have f_42 := f_33.other W39 (Or.inr (slot_ne (Or.inr (hw _ (List.mem_of_getElem? (i := 24) rfl))) (Or.inr (hw _ (List.mem_of_getElem? (i := 28) rfl))) (by decide) (t := .int) (t' := .int) (by decide) (by decide)))
  have f_43 := f_37.other W39 (Or.inr (slot_ne (Or.inr (hw _ (List.mem_of_getElem? (i := 26) rfl))) (Or.inr (hw _ (List.mem_of_getElem? (i := 28) rfl))) (by decide) (t := .int) (t' := .int) (by decide) (by decide)))
  have Z_44 := Nat.le_trans Z_35 (Nat.le_of_eq W39.size.symm)
  have K_45 := K_36.wr W39 (Or.inl (List.mem_of_getElem? (i := 0) rfl))
  have f_46 := f_34.same W39
  have N_47 := Fr.snoc X39 N_38 PG
  show own_Go X39 (Q13 Z r0 p4 h0 n0) 0 0 122 #[.val (.ref r0), .val (.int (1 : Int32)), .val (.int (3 : Int32)), .val (.int (4 : Int32)), .val (.int p4)] []
  refine own_retV X39 hx Bd.returns hlk e39 (hb hby d13_122) (by decide) (by decide) ?_
  exact ⟨rfl, N_47, K_45, f_41, f_42, f_43, f_46⟩
theorem d51_0 : decode prog_55_method_5_code 0 = .ok (.iconst 0, 1) := by decide +kernel
theorem d51_1 : decode prog_55_method_5_code 1 = .ok (.istore_n 3, 1) := by decide +kernel
theorem d51_2 : decode prog_55_method_5_code 2 = .ok (.aload_n 2, 1) := by decide +kernel
theorem d51_3 : decode prog_55_method_5_code 3 = .ok (.astore 4, 2) := by decide +kernel
theorem d51_5 : decode prog_55_method_5_code 5 = .ok (.aload 4, 2) := by decide +kernel
theorem d51_7 : decode prog_55_method_5_code 7 = .ok (.arraylength, 1) := by decide +kernel
theorem d51_8 : decode prog_55_method_5_code 8 = .ok (.istore 5, 2) := by decide +kernel
theorem d51_10 : decode prog_55_method_5_code 10 = .ok (.iconst 0, 1) := by decide +kernel
theorem d51_11 : decode prog_55_method_5_code 11 = .ok (.istore 6, 2) := by decide +kernel
theorem d51_13 : decode prog_55_method_5_code 13 = .ok (.iload 6, 2) := by decide +kernel
theorem d51_15 : decode prog_55_method_5_code 15 = .ok (.iload 5, 2) := by decide +kernel
theorem d51_17 : decode prog_55_method_5_code 17 = .ok (.if_icmp .ge 28, 3) := by decide +kernel
theorem d51_20 : decode prog_55_method_5_code 20 = .ok (.aload 4, 2) := by decide +kernel
theorem d51_22 : decode prog_55_method_5_code 22 = .ok (.iload 6, 2) := by decide +kernel
theorem d51_24 : decode prog_55_method_5_code 24 = .ok (.iaload, 1) := by decide +kernel
theorem d51_25 : decode prog_55_method_5_code 25 = .ok (.istore 7, 2) := by decide +kernel
theorem d51_27 : decode prog_55_method_5_code 27 = .ok (.iload_n 3, 1) := by decide +kernel
theorem d51_28 : decode prog_55_method_5_code 28 = .ok (.aload_n 0, 1) := by decide +kernel
theorem d51_29 : decode prog_55_method_5_code 29 = .ok (.getfield 44, 3) := by decide +kernel
theorem d51_32 : decode prog_55_method_5_code 32 = .ok (.imul, 1) := by decide +kernel
theorem d51_33 : decode prog_55_method_5_code 33 = .ok (.aload_n 1, 1) := by decide +kernel
theorem d51_34 : decode prog_55_method_5_code 34 = .ok (.iload 7, 2) := by decide +kernel
theorem d51_36 : decode prog_55_method_5_code 36 = .ok (.iaload, 1) := by decide +kernel
theorem d51_37 : decode prog_55_method_5_code 37 = .ok (.iadd, 1) := by decide +kernel
theorem d51_38 : decode prog_55_method_5_code 38 = .ok (.istore_n 3, 1) := by decide +kernel
theorem d51_39 : decode prog_55_method_5_code 39 = .ok (.iinc 6 1, 3) := by decide +kernel
theorem d51_42 : decode prog_55_method_5_code 42 = .ok (.goto (-29), 3) := by decide +kernel
theorem d51_45 : decode prog_55_method_5_code 45 = .ok (.iload_n 3, 1) := by decide +kernel
theorem d51_46 : decode prog_55_method_5_code 46 = .ok (.ireturn, 1) := by decide +kernel
theorem pn_51 : plainName "com/example/gingham/gingham/designs/CoveringArraySpec" = true := by first | (simp [plainName, overriddenIn]; done) | decide +kernel
theorem ef_51 (m : MethodId) (r0 : Addr) (r1 : Addr) (r2 : Addr) : entryFrame m #[(.ref r0), (.ref r1), (.ref r2)] 8 = mkF m 0 #[.val (.ref r0), .val (.ref r1), .val (.ref r2), .unset, .unset, .unset, .unset, .unset] [] := by first | (simp [entryFrame, mkF, argsToLocals, Value.category]; done) | rfl
def Q51 (Z : State) (r0 : Addr) (r1 : Addr) (r2 : Addr) (g : Int32) (kA kB : ClassId) (x0 x1 x2 x3 : Int32) (c0 : Int32) (h0 : Heap) (n0 : Nat) (v : Option Value) (h : Heap) (L : List Loc) : Prop := v = some (.int (own_tup1 g (own_at4 x0 x1 x2 x3 c0))) ∧ Fr n0 L ∧ h = h0
set_option maxRecDepth 65536 in
set_option maxHeartbeats 40000000 in
theorem rm51 (l : Launch) (Z : State) (a0 : Array Value) (hw : ∀ d ∈ tables_1, d.before a0 Z = true) (ws : List Jvm.Cond) (r0 : Addr) (r1 : Addr) (r2 : Addr) (g : Int32) (kA kB : ClassId) (x0 x1 x2 x3 : Int32) (c0 : Int32) (h0 : Heap) (n0 : Nat) (Z0 : n0 ≤ h0.size) (P_levels : Fld Z h0 r0 "com/example/gingham/gingham/designs/CoveringArraySpec" "levels" "I" (.int g)) (PV1 : Arv Z h0 r1 kA .int (4 : Int32) [(.int x0), (.int x1), (.int x2), (.int x3)] (.int (0 : Int32))) (PV2 : Arv Z h0 r2 kB .int (1 : Int32) [(.int c0)] (.int (0 : Int32))) (B0 : ¬ c0 < 0 ∧ c0 < 4) :
    MetFree l (⟨"com/example/gingham/gingham/designs/CoveringArraySpec", "tupleOf", "([I[I)I"⟩ : MethodName) (head1 (Jvm.Cond.code (⟨"com/example/gingham/gingham/designs/CoveringArraySpec", "tupleOf", "([I[I)I"⟩ : MethodName) prog_55_method_5_code 8 (some .int) :: ws) ({ frames := 0, cells := 0, slots := 0, locals := 0 } : Room)) (fun a U => a = #[(.ref r0), (.ref r1), (.ref r2)] ∧ Z.Warmed39 U.vm ∧ U.heap = h0) (fun _ _ _ _ _ => True) (fun _ U o U' => ∃ v L, o = .returned v ∧ Q51 Z r0 r1 r2 g kA kB x0 x1 x2 x3 c0 h0 n0 v U'.heap L ∧ FrameEnd U o U' L ({ frames := 0, cells := 0, slots := 0, locals := 0 } : Room).cells ({ frames := 0, cells := 0, slots := 0, locals := 0 } : Room).slots) := by
  refine MetFree.of_bodySF (plainFor_of_name pn_51) hisR ?_
  intro p e s m args below meth c s₁ Bd hml0 hP hK
  obtain ⟨rfl, hZ, hh⟩ := hP
  have hx := Bd.exec
  have hby := Bd.bytes
  have hml : c.maxLocals = 8 := hml0
  have hown : s.vm.findClass "com/example/gingham/gingham/designs/CoveringArraySpec" = some m.cls := findClass_of_methodNamed Bd.named
  have hnm := (name_of_methodNamed Bd.named Bd.method).1
  have hlk : meth.locks = false := Bd.notSynchronized
  have X0 : Stand p l e ({ frames := 0, cells := 0, slots := 0, locals := 0 } : Room) s m #[(.ref r0), (.ref r1), (.ref r2)] below meth c s₁ [] 0 0 := Stand.of_body Bd
  have e0 : s₁.heap = h0 := by rw [← hh, Bd.state]; rfl
  have N0 := Fr.nil n0
  refine own_cast (Q := Q51 Z r0 r1 r2 g kA kB x0 x1 x2 x3 c0 h0 n0) (kc := 0) (ks := 0) (ef_51 m r0 r1 r2) ?_
  refine own_st (fun _ k => XS.iconst X0.here hx rfl (hb hby d51_0) k) ?_
  show own_Go X0 (Q51 Z r0 r1 r2 g kA kB x0 x1 x2 x3 c0 h0 n0) 0 0 1 #[.val (.ref r0), .val (.ref r1), .val (.ref r2), .unset, .unset, .unset, .unset, .unset] [(.int (0 : Int32))]
  refine own_st (fun _ k => XS.istoreN X0.here hx rfl (hb hby d51_1) rfl (l' := #[.val (.ref r0), .val (.ref r1), .val (.ref r2), .val (.int (0 : Int32)), .unset, .unset, .unset, .unset]) rfl k) ?_
  show own_Go X0 (Q51 Z r0 r1 r2 g kA kB x0 x1 x2 x3 c0 h0 n0) 0 0 2 #[.val (.ref r0), .val (.ref r1), .val (.ref r2), .val (.int (0 : Int32)), .unset, .unset, .unset, .unset] []
  refine own_st (fun _ k => XS.aloadN X0.here hx rfl (hb hby d51_2) rfl rfl k) ?_
  show own_Go X0 (Q51 Z r0 r1 r2 g kA kB x0 x1 x2 x3 c0 h0 n0) 0 0 3 #[.val (.ref r0), .val (.ref r1), .val (.ref r2), .val (.int (0 : Int32)), .unset, .unset, .unset, .unset] [(.ref r2)]
  refine own_st (fun _ k => XS.astore X0.here hx rfl (hb hby d51_3) rfl rfl (l' := #[.val (.ref r0), .val (.ref r1), .val (.ref r2), .val (.int (0 : Int32)), .val (.ref r2), .unset, .unset, .unset]) rfl k) ?_
  show own_Go X0 (Q51 Z r0 r1 r2 g kA kB x0 x1 x2 x3 c0 h0 n0) 0 0 5 #[.val (.ref r0), .val (.ref r1), .val (.ref r2), .val (.int (0 : Int32)), .val (.ref r2), .unset, .unset, .unset] []
  refine own_st (fun _ k => XS.aload X0.here hx rfl (hb hby d51_5) rfl rfl k) ?_
  show own_Go X0 (Q51 Z r0 r1 r2 g kA kB x0 x1 x2 x3 c0 h0 n0) 0 0 7 #[.val (.ref r0), .val (.ref r1), .val (.ref r2), .val (.int (0 : Int32)), .val (.ref r2), .unset, .unset, .unset] [(.ref r2)]
  refine own_st (fun _ k => own_len X0 hx hZ e0 PV2 (g := (mkF m 7 #[.val (.ref r0), .val (.ref r1), .val (.ref r2), .val (.int (0 : Int32)), .val (.ref r2), .unset, .unset, .unset] [(.ref r2)])) rfl rfl (hb hby d51_7) _ k) ?_
  show own_Go X0 (Q51 Z r0 r1 r2 g kA kB x0 x1 x2 x3 c0 h0 n0) 0 0 8 #[.val (.ref r0), .val (.ref r1), .val (.ref r2), .val (.int (0 : Int32)), .val (.ref r2), .unset, .unset, .unset] [(.int (1 : Int32))]
  refine own_st (fun _ k => XS.istore X0.here hx rfl (hb hby d51_8) rfl (l' := #[.val (.ref r0), .val (.ref r1), .val (.ref r2), .val (.int (0 : Int32)), .val (.ref r2), .val (.int (1 : Int32)), .unset, .unset]) rfl k) ?_
  show own_Go X0 (Q51 Z r0 r1 r2 g kA kB x0 x1 x2 x3 c0 h0 n0) 0 0 10 #[.val (.ref r0), .val (.ref r1), .val (.ref r2), .val (.int (0 : Int32)), .val (.ref r2), .val (.int (1 : Int32)), .unset, .unset] []
  refine own_st (fun _ k => XS.iconst X0.here hx rfl (hb hby d51_10) k) ?_
  show own_Go X0 (Q51 Z r0 r1 r2 g kA kB x0 x1 x2 x3 c0 h0 n0) 0 0 11 #[.val (.ref r0), .val (.ref r1), .val (.ref r2), .val (.int (0 : Int32)), .val (.ref r2), .val (.int (1 : Int32)), .unset, .unset] [(.int (0 : Int32))]
  refine own_st (fun _ k => XS.istore X0.here hx rfl (hb hby d51_11) rfl (l' := #[.val (.ref r0), .val (.ref r1), .val (.ref r2), .val (.int (0 : Int32)), .val (.ref r2), .val (.int (1 : Int32)), .val (.int (0 : Int32)), .unset]) rfl k) ?_
  show own_Go X0 (Q51 Z r0 r1 r2 g kA kB x0 x1 x2 x3 c0 h0 n0) 0 0 13 #[.val (.ref r0), .val (.ref r1), .val (.ref r2), .val (.int (0 : Int32)), .val (.ref r2), .val (.int (1 : Int32)), .val (.int (0 : Int32)), .unset] []
  refine own_st (fun _ k => XS.iload X0.here hx rfl (hb hby d51_13) rfl k) ?_
  show own_Go X0 (Q51 Z r0 r1 r2 g kA kB x0 x1 x2 x3 c0 h0 n0) 0 0 15 #[.val (.ref r0), .val (.ref r1), .val (.ref r2), .val (.int (0 : Int32)), .val (.ref r2), .val (.int (1 : Int32)), .val (.int (0 : Int32)), .unset] [(.int (0 : Int32))]
  refine own_st (fun _ k => XS.iload X0.here hx rfl (hb hby d51_15) rfl k) ?_
  show own_Go X0 (Q51 Z r0 r1 r2 g kA kB x0 x1 x2 x3 c0 h0 n0) 0 0 17 #[.val (.ref r0), .val (.ref r1), .val (.ref r2), .val (.int (0 : Int32)), .val (.ref r2), .val (.int (1 : Int32)), .val (.int (0 : Int32)), .unset] [(.int (1 : Int32)), (.int (0 : Int32))]
  have c17_1 : (0 : Int32) < (1 : Int32) := (by decide)
  refine own_st (fun _ k => XS.icmpNo X0.here hx rfl (hb hby d51_17) rfl (tlt c17_1).2.1 k) ?_
  show own_Go X0 (Q51 Z r0 r1 r2 g kA kB x0 x1 x2 x3 c0 h0 n0) 0 0 20 #[.val (.ref r0), .val (.ref r1), .val (.ref r2), .val (.int (0 : Int32)), .val (.ref r2), .val (.int (1 : Int32)), .val (.int (0 : Int32)), .unset] []
  refine own_st (fun _ k => XS.aload X0.here hx rfl (hb hby d51_20) rfl rfl k) ?_
  show own_Go X0 (Q51 Z r0 r1 r2 g kA kB x0 x1 x2 x3 c0 h0 n0) 0 0 22 #[.val (.ref r0), .val (.ref r1), .val (.ref r2), .val (.int (0 : Int32)), .val (.ref r2), .val (.int (1 : Int32)), .val (.int (0 : Int32)), .unset] [(.ref r2)]
  refine own_st (fun _ k => XS.iload X0.here hx rfl (hb hby d51_22) rfl k) ?_
  show own_Go X0 (Q51 Z r0 r1 r2 g kA kB x0 x1 x2 x3 c0 h0 n0) 0 0 24 #[.val (.ref r0), .val (.ref r1), .val (.ref r2), .val (.int (0 : Int32)), .val (.ref r2), .val (.int (1 : Int32)), .val (.int (0 : Int32)), .unset] [(.int (0 : Int32)), (.ref r2)]
  refine own_st (fun _ k => own_ldI X0 hx hZ e0 PV2 (j := (0 : Int32)) ⟨by decide, by decide⟩ (v := (.int c0)) rfl (g := (mkF m 24 #[.val (.ref r0), .val (.ref r1), .val (.ref r2), .val (.int (0 : Int32)), .val (.ref r2), .val (.int (1 : Int32)), .val (.int (0 : Int32)), .unset] [(.int (0 : Int32)), (.ref r2)])) rfl rfl (hb hby d51_24) _ k) ?_
  show own_Go X0 (Q51 Z r0 r1 r2 g kA kB x0 x1 x2 x3 c0 h0 n0) 0 0 25 #[.val (.ref r0), .val (.ref r1), .val (.ref r2), .val (.int (0 : Int32)), .val (.ref r2), .val (.int (1 : Int32)), .val (.int (0 : Int32)), .unset] [(.int c0)]
  refine own_st (fun _ k => XS.istore X0.here hx rfl (hb hby d51_25) rfl (l' := #[.val (.ref r0), .val (.ref r1), .val (.ref r2), .val (.int (0 : Int32)), .val (.ref r2), .val (.int (1 : Int32)), .val (.int (0 : Int32)), .val (.int c0)]) rfl k) ?_
  show own_Go X0 (Q51 Z r0 r1 r2 g kA kB x0 x1 x2 x3 c0 h0 n0) 0 0 27 #[.val (.ref r0), .val (.ref r1), .val (.ref r2), .val (.int (0 : Int32)), .val (.ref r2), .val (.int (1 : Int32)), .val (.int (0 : Int32)), .val (.int c0)] []
  refine own_st (fun _ k => XS.iloadN X0.here hx rfl (hb hby d51_27) rfl k) ?_
  show own_Go X0 (Q51 Z r0 r1 r2 g kA kB x0 x1 x2 x3 c0 h0 n0) 0 0 28 #[.val (.ref r0), .val (.ref r1), .val (.ref r2), .val (.int (0 : Int32)), .val (.ref r2), .val (.int (1 : Int32)), .val (.int (0 : Int32)), .val (.int c0)] [(.int (0 : Int32))]
  refine own_st (fun _ k => XS.aloadN X0.here hx rfl (hb hby d51_28) rfl rfl k) ?_
  show own_Go X0 (Q51 Z r0 r1 r2 g kA kB x0 x1 x2 x3 c0 h0 n0) 0 0 29 #[.val (.ref r0), .val (.ref r1), .val (.ref r2), .val (.int (0 : Int32)), .val (.ref r2), .val (.int (1 : Int32)), .val (.int (0 : Int32)), .val (.int c0)] [(.ref r0), (.int (0 : Int32))]
  obtain ⟨T2, X2, e2, st2⟩ := getF X0 hx hZ hown (host := "") (Or.inl (hw _ (List.mem_of_getElem? (i := 27) rfl))) Via.refl e0 P_levels (g := (mkF m 29 #[.val (.ref r0), .val (.ref r1), .val (.ref r2), .val (.int (0 : Int32)), .val (.ref r2), .val (.int (1 : Int32)), .val (.int (0 : Int32)), .val (.int c0)] [(.ref r0), (.int (0 : Int32))])) rfl rfl (hb hby d51_29)
  refine own_st st2 ?_
  show own_Go X2 (Q51 Z r0 r1 r2 g kA kB x0 x1 x2 x3 c0 h0 n0) 0 0 32 #[.val (.ref r0), .val (.ref r1), .val (.ref r2), .val (.int (0 : Int32)), .val (.ref r2), .val (.int (1 : Int32)), .val (.int (0 : Int32)), .val (.int c0)] [(.int g), (.int (0 : Int32))]
  refine own_st (fun _ k => XS.imul X2.here hx rfl (hb hby d51_32) rfl k) ?_
  show own_Go X2 (Q51 Z r0 r1 r2 g kA kB x0 x1 x2 x3 c0 h0 n0) 0 0 33 #[.val (.ref r0), .val (.ref r1), .val (.ref r2), .val (.int (0 : Int32)), .val (.ref r2), .val (.int (1 : Int32)), .val (.int (0 : Int32)), .val (.int c0)] [(.int ((0 : Int32) * g))]
  refine own_st (fun _ k => XS.aloadN X2.here hx rfl (hb hby d51_33) rfl rfl k) ?_
  show own_Go X2 (Q51 Z r0 r1 r2 g kA kB x0 x1 x2 x3 c0 h0 n0) 0 0 34 #[.val (.ref r0), .val (.ref r1), .val (.ref r2), .val (.int (0 : Int32)), .val (.ref r2), .val (.int (1 : Int32)), .val (.int (0 : Int32)), .val (.int c0)] [(.ref r1), (.int ((0 : Int32) * g))]
  refine own_st (fun _ k => XS.iload X2.here hx rfl (hb hby d51_34) rfl k) ?_
  show own_Go X2 (Q51 Z r0 r1 r2 g kA kB x0 x1 x2 x3 c0 h0 n0) 0 0 36 #[.val (.ref r0), .val (.ref r1), .val (.ref r2), .val (.int (0 : Int32)), .val (.ref r2), .val (.int (1 : Int32)), .val (.int (0 : Int32)), .val (.int c0)] [(.int c0), (.ref r1), (.int ((0 : Int32) * g))]
  refine own_st (fun _ k => own_ldI X2 hx hZ e2 PV1 (j := c0) B0 (v := (.int (own_at4 x0 x1 x2 x3 c0))) (own_getD4 B0) (g := (mkF m 36 #[.val (.ref r0), .val (.ref r1), .val (.ref r2), .val (.int (0 : Int32)), .val (.ref r2), .val (.int (1 : Int32)), .val (.int (0 : Int32)), .val (.int c0)] [(.int c0), (.ref r1), (.int ((0 : Int32) * g))])) rfl rfl (hb hby d51_36) _ k) ?_
  show own_Go X2 (Q51 Z r0 r1 r2 g kA kB x0 x1 x2 x3 c0 h0 n0) 0 0 37 #[.val (.ref r0), .val (.ref r1), .val (.ref r2), .val (.int (0 : Int32)), .val (.ref r2), .val (.int (1 : Int32)), .val (.int (0 : Int32)), .val (.int c0)] [(.int (own_at4 x0 x1 x2 x3 c0)), (.int ((0 : Int32) * g))]
  refine own_st (fun _ k => XS.iadd X2.here hx rfl (hb hby d51_37) rfl k) ?_
  show own_Go X2 (Q51 Z r0 r1 r2 g kA kB x0 x1 x2 x3 c0 h0 n0) 0 0 38 #[.val (.ref r0), .val (.ref r1), .val (.ref r2), .val (.int (0 : Int32)), .val (.ref r2), .val (.int (1 : Int32)), .val (.int (0 : Int32)), .val (.int c0)] [(.int (((0 : Int32) * g) + (own_at4 x0 x1 x2 x3 c0)))]
  refine own_st (fun _ k => XS.istoreN X2.here hx rfl (hb hby d51_38) rfl (l' := #[.val (.ref r0), .val (.ref r1), .val (.ref r2), .val (.int (((0 : Int32) * g) + (own_at4 x0 x1 x2 x3 c0))), .val (.ref r2), .val (.int (1 : Int32)), .val (.int (0 : Int32)), .val (.int c0)]) rfl k) ?_
  show own_Go X2 (Q51 Z r0 r1 r2 g kA kB x0 x1 x2 x3 c0 h0 n0) 0 0 39 #[.val (.ref r0), .val (.ref r1), .val (.ref r2), .val (.int (((0 : Int32) * g) + (own_at4 x0 x1 x2 x3 c0))), .val (.ref r2), .val (.int (1 : Int32)), .val (.int (0 : Int32)), .val (.int c0)] []
  show own_Go X2 (Q51 Z r0 r1 r2 g kA kB x0 x1 x2 x3 c0 h0 n0) 0 0 39 #[.val (.ref r0), .val (.ref r1), .val (.ref r2), .val (.int (own_tup1 g (own_at4 x0 x1 x2 x3 c0))), .val (.ref r2), .val (.int (1 : Int32)), .val (.int (0 : Int32)), .val (.int c0)] []
  refine own_st (fun _ k => XS.iinc X2.here hx rfl (hb hby d51_39) rfl (l' := #[.val (.ref r0), .val (.ref r1), .val (.ref r2), .val (.int (own_tup1 g (own_at4 x0 x1 x2 x3 c0))), .val (.ref r2), .val (.int (1 : Int32)), .val (.int (1 : Int32)), .val (.int c0)]) rfl k) ?_
  show own_Go X2 (Q51 Z r0 r1 r2 g kA kB x0 x1 x2 x3 c0 h0 n0) 0 0 42 #[.val (.ref r0), .val (.ref r1), .val (.ref r2), .val (.int (own_tup1 g (own_at4 x0 x1 x2 x3 c0))), .val (.ref r2), .val (.int (1 : Int32)), .val (.int (1 : Int32)), .val (.int c0)] []
  refine own_st (fun _ k => XS.goto X2.here hx rfl (pc0 := 42) (pc' := 13) rfl (hb hby d51_42) (by decide) (by decide) k) ?_
  show own_Go X2 (Q51 Z r0 r1 r2 g kA kB x0 x1 x2 x3 c0 h0 n0) 0 0 13 #[.val (.ref r0), .val (.ref r1), .val (.ref r2), .val (.int (own_tup1 g (own_at4 x0 x1 x2 x3 c0))), .val (.ref r2), .val (.int (1 : Int32)), .val (.int (1 : Int32)), .val (.int c0)] []
  refine own_st (fun _ k => XS.iload X2.here hx rfl (hb hby d51_13) rfl k) ?_
  show own_Go X2 (Q51 Z r0 r1 r2 g kA kB x0 x1 x2 x3 c0 h0 n0) 0 0 15 #[.val (.ref r0), .val (.ref r1), .val (.ref r2), .val (.int (own_tup1 g (own_at4 x0 x1 x2 x3 c0))), .val (.ref r2), .val (.int (1 : Int32)), .val (.int (1 : Int32)), .val (.int c0)] [(.int (1 : Int32))]
  refine own_st (fun _ k => XS.iload X2.here hx rfl (hb hby d51_15) rfl k) ?_
  show own_Go X2 (Q51 Z r0 r1 r2 g kA kB x0 x1 x2 x3 c0 h0 n0) 0 0 17 #[.val (.ref r0), .val (.ref r1), .val (.ref r2), .val (.int (own_tup1 g (own_at4 x0 x1 x2 x3 c0))), .val (.ref r2), .val (.int (1 : Int32)), .val (.int (1 : Int32)), .val (.int c0)] [(.int (1 : Int32)), (.int (1 : Int32))]
  have c17_3 : ¬ ((1 : Int32) < (1 : Int32)) := (by decide)
  refine own_st (fun _ k => XS.icmpYes X2.here hx rfl (pc0 := 17) (pc' := 45) rfl (hb hby d51_17) rfl (flt c17_3).2.1 (by decide) (by decide) k) ?_
  show own_Go X2 (Q51 Z r0 r1 r2 g kA kB x0 x1 x2 x3 c0 h0 n0) 0 0 45 #[.val (.ref r0), .val (.ref r1), .val (.ref r2), .val (.int (own_tup1 g (own_at4 x0 x1 x2 x3 c0))), .val (.ref r2), .val (.int (1 : Int32)), .val (.int (1 : Int32)), .val (.int c0)] []
  refine own_st (fun _ k => XS.iloadN X2.here hx rfl (hb hby d51_45) rfl k) ?_
  show own_Go X2 (Q51 Z r0 r1 r2 g kA kB x0 x1 x2 x3 c0 h0 n0) 0 0 46 #[.val (.ref r0), .val (.ref r1), .val (.ref r2), .val (.int (own_tup1 g (own_at4 x0 x1 x2 x3 c0))), .val (.ref r2), .val (.int (1 : Int32)), .val (.int (1 : Int32)), .val (.int c0)] [(.int (own_tup1 g (own_at4 x0 x1 x2 x3 c0)))]
  refine own_retI X2 hx Bd.returns hlk e2 (hb hby d51_46) (by decide) (by decide) ?_
  exact ⟨rfl, N0, rfl⟩
theorem d52_0 : decode prog_55_method_5_code 0 = .ok (.iconst 0, 1) := by decide +kernel
theorem d52_1 : decode prog_55_method_5_code 1 = .ok (.istore_n 3, 1) := by decide +kernel
theorem d52_2 : decode prog_55_method_5_code 2 = .ok (.aload_n 2, 1) := by decide +kernel
theorem d52_3 : decode prog_55_method_5_code 3 = .ok (.astore 4, 2) := by decide +kernel
theorem d52_5 : decode prog_55_method_5_code 5 = .ok (.aload 4, 2) := by decide +kernel
theorem d52_7 : decode prog_55_method_5_code 7 = .ok (.arraylength, 1) := by decide +kernel
theorem d52_8 : decode prog_55_method_5_code 8 = .ok (.istore 5, 2) := by decide +kernel
theorem d52_10 : decode prog_55_method_5_code 10 = .ok (.iconst 0, 1) := by decide +kernel
theorem d52_11 : decode prog_55_method_5_code 11 = .ok (.istore 6, 2) := by decide +kernel
theorem d52_13 : decode prog_55_method_5_code 13 = .ok (.iload 6, 2) := by decide +kernel
theorem d52_15 : decode prog_55_method_5_code 15 = .ok (.iload 5, 2) := by decide +kernel
theorem d52_17 : decode prog_55_method_5_code 17 = .ok (.if_icmp .ge 28, 3) := by decide +kernel
theorem d52_20 : decode prog_55_method_5_code 20 = .ok (.aload 4, 2) := by decide +kernel
theorem d52_22 : decode prog_55_method_5_code 22 = .ok (.iload 6, 2) := by decide +kernel
theorem d52_24 : decode prog_55_method_5_code 24 = .ok (.iaload, 1) := by decide +kernel
theorem d52_25 : decode prog_55_method_5_code 25 = .ok (.istore 7, 2) := by decide +kernel
theorem d52_27 : decode prog_55_method_5_code 27 = .ok (.iload_n 3, 1) := by decide +kernel
theorem d52_28 : decode prog_55_method_5_code 28 = .ok (.aload_n 0, 1) := by decide +kernel
theorem d52_29 : decode prog_55_method_5_code 29 = .ok (.getfield 44, 3) := by decide +kernel
theorem d52_32 : decode prog_55_method_5_code 32 = .ok (.imul, 1) := by decide +kernel
theorem d52_33 : decode prog_55_method_5_code 33 = .ok (.aload_n 1, 1) := by decide +kernel
theorem d52_34 : decode prog_55_method_5_code 34 = .ok (.iload 7, 2) := by decide +kernel
theorem d52_36 : decode prog_55_method_5_code 36 = .ok (.iaload, 1) := by decide +kernel
theorem d52_37 : decode prog_55_method_5_code 37 = .ok (.iadd, 1) := by decide +kernel
theorem d52_38 : decode prog_55_method_5_code 38 = .ok (.istore_n 3, 1) := by decide +kernel
theorem d52_39 : decode prog_55_method_5_code 39 = .ok (.iinc 6 1, 3) := by decide +kernel
theorem d52_42 : decode prog_55_method_5_code 42 = .ok (.goto (-29), 3) := by decide +kernel
theorem d52_45 : decode prog_55_method_5_code 45 = .ok (.iload_n 3, 1) := by decide +kernel
theorem d52_46 : decode prog_55_method_5_code 46 = .ok (.ireturn, 1) := by decide +kernel
theorem pn_52 : plainName "com/example/gingham/gingham/designs/CoveringArraySpec" = true := by first | (simp [plainName, overriddenIn]; done) | decide +kernel
theorem ef_52 (m : MethodId) (r0 : Addr) (r1 : Addr) (r2 : Addr) : entryFrame m #[(.ref r0), (.ref r1), (.ref r2)] 8 = mkF m 0 #[.val (.ref r0), .val (.ref r1), .val (.ref r2), .unset, .unset, .unset, .unset, .unset] [] := by first | (simp [entryFrame, mkF, argsToLocals, Value.category]; done) | rfl
def Q52 (Z : State) (r0 : Addr) (r1 : Addr) (r2 : Addr) (g : Int32) (kA kB : ClassId) (x0 x1 x2 x3 : Int32) (c0 c1 : Int32) (h0 : Heap) (n0 : Nat) (v : Option Value) (h : Heap) (L : List Loc) : Prop := v = some (.int (own_tup2 g (own_at4 x0 x1 x2 x3 c0) (own_at4 x0 x1 x2 x3 c1))) ∧ Fr n0 L ∧ h = h0
set_option maxRecDepth 65536 in
set_option maxHeartbeats 40000000 in
theorem rm52 (l : Launch) (Z : State) (a0 : Array Value) (hw : ∀ d ∈ tables_1, d.before a0 Z = true) (ws : List Jvm.Cond) (r0 : Addr) (r1 : Addr) (r2 : Addr) (g : Int32) (kA kB : ClassId) (x0 x1 x2 x3 : Int32) (c0 c1 : Int32) (h0 : Heap) (n0 : Nat) (Z0 : n0 ≤ h0.size) (P_levels : Fld Z h0 r0 "com/example/gingham/gingham/designs/CoveringArraySpec" "levels" "I" (.int g)) (PV1 : Arv Z h0 r1 kA .int (4 : Int32) [(.int x0), (.int x1), (.int x2), (.int x3)] (.int (0 : Int32))) (PV2 : Arv Z h0 r2 kB .int (2 : Int32) [(.int c0), (.int c1)] (.int (0 : Int32))) (B0 : ¬ c0 < 0 ∧ c0 < 4) (B1 : ¬ c1 < 0 ∧ c1 < 4) :
    MetFree l (⟨"com/example/gingham/gingham/designs/CoveringArraySpec", "tupleOf", "([I[I)I"⟩ : MethodName) (head1 (Jvm.Cond.code (⟨"com/example/gingham/gingham/designs/CoveringArraySpec", "tupleOf", "([I[I)I"⟩ : MethodName) prog_55_method_5_code 8 (some .int) :: ws) ({ frames := 0, cells := 0, slots := 0, locals := 0 } : Room)) (fun a U => a = #[(.ref r0), (.ref r1), (.ref r2)] ∧ Z.Warmed39 U.vm ∧ U.heap = h0) (fun _ _ _ _ _ => True) (fun _ U o U' => ∃ v L, o = .returned v ∧ Q52 Z r0 r1 r2 g kA kB x0 x1 x2 x3 c0 c1 h0 n0 v U'.heap L ∧ FrameEnd U o U' L ({ frames := 0, cells := 0, slots := 0, locals := 0 } : Room).cells ({ frames := 0, cells := 0, slots := 0, locals := 0 } : Room).slots) := by
  refine MetFree.of_bodySF (plainFor_of_name pn_52) hisR ?_
  intro p e s m args below meth c s₁ Bd hml0 hP hK
  obtain ⟨rfl, hZ, hh⟩ := hP
  have hx := Bd.exec
  have hby := Bd.bytes
  have hml : c.maxLocals = 8 := hml0
  have hown : s.vm.findClass "com/example/gingham/gingham/designs/CoveringArraySpec" = some m.cls := findClass_of_methodNamed Bd.named
  have hnm := (name_of_methodNamed Bd.named Bd.method).1
  have hlk : meth.locks = false := Bd.notSynchronized
  have X0 : Stand p l e ({ frames := 0, cells := 0, slots := 0, locals := 0 } : Room) s m #[(.ref r0), (.ref r1), (.ref r2)] below meth c s₁ [] 0 0 := Stand.of_body Bd
  have e0 : s₁.heap = h0 := by rw [← hh, Bd.state]; rfl
  have N0 := Fr.nil n0
  refine own_cast (Q := Q52 Z r0 r1 r2 g kA kB x0 x1 x2 x3 c0 c1 h0 n0) (kc := 0) (ks := 0) (ef_52 m r0 r1 r2) ?_
  refine own_st (fun _ k => XS.iconst X0.here hx rfl (hb hby d52_0) k) ?_
  show own_Go X0 (Q52 Z r0 r1 r2 g kA kB x0 x1 x2 x3 c0 c1 h0 n0) 0 0 1 #[.val (.ref r0), .val (.ref r1), .val (.ref r2), .unset, .unset, .unset, .unset, .unset] [(.int (0 : Int32))]
  refine own_st (fun _ k => XS.istoreN X0.here hx rfl (hb hby d52_1) rfl (l' := #[.val (.ref r0), .val (.ref r1), .val (.ref r2), .val (.int (0 : Int32)), .unset, .unset, .unset, .unset]) rfl k) ?_
  show own_Go X0 (Q52 Z r0 r1 r2 g kA kB x0 x1 x2 x3 c0 c1 h0 n0) 0 0 2 #[.val (.ref r0), .val (.ref r1), .val (.ref r2), .val (.int (0 : Int32)), .unset, .unset, .unset, .unset] []
  refine own_st (fun _ k => XS.aloadN X0.here hx rfl (hb hby d52_2) rfl rfl k) ?_
  show own_Go X0 (Q52 Z r0 r1 r2 g kA kB x0 x1 x2 x3 c0 c1 h0 n0) 0 0 3 #[.val (.ref r0), .val (.ref r1), .val (.ref r2), .val (.int (0 : Int32)), .unset, .unset, .unset, .unset] [(.ref r2)]
  refine own_st (fun _ k => XS.astore X0.here hx rfl (hb hby d52_3) rfl rfl (l' := #[.val (.ref r0), .val (.ref r1), .val (.ref r2), .val (.int (0 : Int32)), .val (.ref r2), .unset, .unset, .unset]) rfl k) ?_
  show own_Go X0 (Q52 Z r0 r1 r2 g kA kB x0 x1 x2 x3 c0 c1 h0 n0) 0 0 5 #[.val (.ref r0), .val (.ref r1), .val (.ref r2), .val (.int (0 : Int32)), .val (.ref r2), .unset, .unset, .unset] []
  refine own_st (fun _ k => XS.aload X0.here hx rfl (hb hby d52_5) rfl rfl k) ?_
  show own_Go X0 (Q52 Z r0 r1 r2 g kA kB x0 x1 x2 x3 c0 c1 h0 n0) 0 0 7 #[.val (.ref r0), .val (.ref r1), .val (.ref r2), .val (.int (0 : Int32)), .val (.ref r2), .unset, .unset, .unset] [(.ref r2)]
  refine own_st (fun _ k => own_len X0 hx hZ e0 PV2 (g := (mkF m 7 #[.val (.ref r0), .val (.ref r1), .val (.ref r2), .val (.int (0 : Int32)), .val (.ref r2), .unset, .unset, .unset] [(.ref r2)])) rfl rfl (hb hby d52_7) _ k) ?_
  show own_Go X0 (Q52 Z r0 r1 r2 g kA kB x0 x1 x2 x3 c0 c1 h0 n0) 0 0 8 #[.val (.ref r0), .val (.ref r1), .val (.ref r2), .val (.int (0 : Int32)), .val (.ref r2), .unset, .unset, .unset] [(.int (2 : Int32))]
  refine own_st (fun _ k => XS.istore X0.here hx rfl (hb hby d52_8) rfl (l' := #[.val (.ref r0), .val (.ref r1), .val (.ref r2), .val (.int (0 : Int32)), .val (.ref r2), .val (.int (2 : Int32)), .unset, .unset]) rfl k) ?_
  show own_Go X0 (Q52 Z r0 r1 r2 g kA kB x0 x1 x2 x3 c0 c1 h0 n0) 0 0 10 #[.val (.ref r0), .val (.ref r1), .val (.ref r2), .val (.int (0 : Int32)), .val (.ref r2), .val (.int (2 : Int32)), .unset, .unset] []
  refine own_st (fun _ k => XS.iconst X0.here hx rfl (hb hby d52_10) k) ?_
  show own_Go X0 (Q52 Z r0 r1 r2 g kA kB x0 x1 x2 x3 c0 c1 h0 n0) 0 0 11 #[.val (.ref r0), .val (.ref r1), .val (.ref r2), .val (.int (0 : Int32)), .val (.ref r2), .val (.int (2 : Int32)), .unset, .unset] [(.int (0 : Int32))]
  refine own_st (fun _ k => XS.istore X0.here hx rfl (hb hby d52_11) rfl (l' := #[.val (.ref r0), .val (.ref r1), .val (.ref r2), .val (.int (0 : Int32)), .val (.ref r2), .val (.int (2 : Int32)), .val (.int (0 : Int32)), .unset]) rfl k) ?_
  show own_Go X0 (Q52 Z r0 r1 r2 g kA kB x0 x1 x2 x3 c0 c1 h0 n0) 0 0 13 #[.val (.ref r0), .val (.ref r1), .val (.ref r2), .val (.int (0 : Int32)), .val (.ref r2), .val (.int (2 : Int32)), .val (.int (0 : Int32)), .unset] []
  refine own_st (fun _ k => XS.iload X0.here hx rfl (hb hby d52_13) rfl k) ?_
  show own_Go X0 (Q52 Z r0 r1 r2 g kA kB x0 x1 x2 x3 c0 c1 h0 n0) 0 0 15 #[.val (.ref r0), .val (.ref r1), .val (.ref r2), .val (.int (0 : Int32)), .val (.ref r2), .val (.int (2 : Int32)), .val (.int (0 : Int32)), .unset] [(.int (0 : Int32))]
  refine own_st (fun _ k => XS.iload X0.here hx rfl (hb hby d52_15) rfl k) ?_
  show own_Go X0 (Q52 Z r0 r1 r2 g kA kB x0 x1 x2 x3 c0 c1 h0 n0) 0 0 17 #[.val (.ref r0), .val (.ref r1), .val (.ref r2), .val (.int (0 : Int32)), .val (.ref r2), .val (.int (2 : Int32)), .val (.int (0 : Int32)), .unset] [(.int (2 : Int32)), (.int (0 : Int32))]
  have c17_1 : (0 : Int32) < (2 : Int32) := (by decide)
  refine own_st (fun _ k => XS.icmpNo X0.here hx rfl (hb hby d52_17) rfl (tlt c17_1).2.1 k) ?_
  show own_Go X0 (Q52 Z r0 r1 r2 g kA kB x0 x1 x2 x3 c0 c1 h0 n0) 0 0 20 #[.val (.ref r0), .val (.ref r1), .val (.ref r2), .val (.int (0 : Int32)), .val (.ref r2), .val (.int (2 : Int32)), .val (.int (0 : Int32)), .unset] []
  refine own_st (fun _ k => XS.aload X0.here hx rfl (hb hby d52_20) rfl rfl k) ?_
  show own_Go X0 (Q52 Z r0 r1 r2 g kA kB x0 x1 x2 x3 c0 c1 h0 n0) 0 0 22 #[.val (.ref r0), .val (.ref r1), .val (.ref r2), .val (.int (0 : Int32)), .val (.ref r2), .val (.int (2 : Int32)), .val (.int (0 : Int32)), .unset] [(.ref r2)]
  refine own_st (fun _ k => XS.iload X0.here hx rfl (hb hby d52_22) rfl k) ?_
  show own_Go X0 (Q52 Z r0 r1 r2 g kA kB x0 x1 x2 x3 c0 c1 h0 n0) 0 0 24 #[.val (.ref r0), .val (.ref r1), .val (.ref r2), .val (.int (0 : Int32)), .val (.ref r2), .val (.int (2 : Int32)), .val (.int (0 : Int32)), .unset] [(.int (0 : Int32)), (.ref r2)]
  refine own_st (fun _ k => own_ldI X0 hx hZ e0 PV2 (j := (0 : Int32)) ⟨by decide, by decide⟩ (v := (.int c0)) rfl (g := (mkF m 24 #[.val (.ref r0), .val (.ref r1), .val (.ref r2), .val (.int (0 : Int32)), .val (.ref r2), .val (.int (2 : Int32)), .val (.int (0 : Int32)), .unset] [(.int (0 : Int32)), (.ref r2)])) rfl rfl (hb hby d52_24) _ k) ?_
  show own_Go X0 (Q52 Z r0 r1 r2 g kA kB x0 x1 x2 x3 c0 c1 h0 n0) 0 0 25 #[.val (.ref r0), .val (.ref r1), .val (.ref r2), .val (.int (0 : Int32)), .val (.ref r2), .val (.int (2 : Int32)), .val (.int (0 : Int32)), .unset] [(.int c0)]
  refine own_st (fun _ k => XS.istore X0.here hx rfl (hb hby d52_25) rfl (l' := #[.val (.ref r0), .val (.ref r1), .val (.ref r2), .val (.int (0 : Int32)), .val (.ref r2), .val (.int (2 : Int32)), .val (.int (0 : Int32)), .val (.int c0)]) rfl k) ?_
  show own_Go X0 (Q52 Z r0 r1 r2 g kA kB x0 x1 x2 x3 c0 c1 h0 n0) 0 0 27 #[.val (.ref r0), .val (.ref r1), .val (.ref r2), .val (.int (0 : Int32)), .val (.ref r2), .val (.int (2 : Int32)), .val (.int (0 : Int32)), .val (.int c0)] []
  refine own_st (fun _ k => XS.iloadN X0.here hx rfl (hb hby d52_27) rfl k) ?_
  show own_Go X0 (Q52 Z r0 r1 r2 g kA kB x0 x1 x2 x3 c0 c1 h0 n0) 0 0 28 #[.val (.ref r0), .val (.ref r1), .val (.ref r2), .val (.int (0 : Int32)), .val (.ref r2), .val (.int (2 : Int32)), .val (.int (0 : Int32)), .val (.int c0)] [(.int (0 : Int32))]
  refine own_st (fun _ k => XS.aloadN X0.here hx rfl (hb hby d52_28) rfl rfl k) ?_
  show own_Go X0 (Q52 Z r0 r1 r2 g kA kB x0 x1 x2 x3 c0 c1 h0 n0) 0 0 29 #[.val (.ref r0), .val (.ref r1), .val (.ref r2), .val (.int (0 : Int32)), .val (.ref r2), .val (.int (2 : Int32)), .val (.int (0 : Int32)), .val (.int c0)] [(.ref r0), (.int (0 : Int32))]
  obtain ⟨T2, X2, e2, st2⟩ := getF X0 hx hZ hown (host := "") (Or.inl (hw _ (List.mem_of_getElem? (i := 27) rfl))) Via.refl e0 P_levels (g := (mkF m 29 #[.val (.ref r0), .val (.ref r1), .val (.ref r2), .val (.int (0 : Int32)), .val (.ref r2), .val (.int (2 : Int32)), .val (.int (0 : Int32)), .val (.int c0)] [(.ref r0), (.int (0 : Int32))])) rfl rfl (hb hby d52_29)
  refine own_st st2 ?_
  show own_Go X2 (Q52 Z r0 r1 r2 g kA kB x0 x1 x2 x3 c0 c1 h0 n0) 0 0 32 #[.val (.ref r0), .val (.ref r1), .val (.ref r2), .val (.int (0 : Int32)), .val (.ref r2), .val (.int (2 : Int32)), .val (.int (0 : Int32)), .val (.int c0)] [(.int g), (.int (0 : Int32))]
  refine own_st (fun _ k => XS.imul X2.here hx rfl (hb hby d52_32) rfl k) ?_
  show own_Go X2 (Q52 Z r0 r1 r2 g kA kB x0 x1 x2 x3 c0 c1 h0 n0) 0 0 33 #[.val (.ref r0), .val (.ref r1), .val (.ref r2), .val (.int (0 : Int32)), .val (.ref r2), .val (.int (2 : Int32)), .val (.int (0 : Int32)), .val (.int c0)] [(.int ((0 : Int32) * g))]
  refine own_st (fun _ k => XS.aloadN X2.here hx rfl (hb hby d52_33) rfl rfl k) ?_
  show own_Go X2 (Q52 Z r0 r1 r2 g kA kB x0 x1 x2 x3 c0 c1 h0 n0) 0 0 34 #[.val (.ref r0), .val (.ref r1), .val (.ref r2), .val (.int (0 : Int32)), .val (.ref r2), .val (.int (2 : Int32)), .val (.int (0 : Int32)), .val (.int c0)] [(.ref r1), (.int ((0 : Int32) * g))]
  refine own_st (fun _ k => XS.iload X2.here hx rfl (hb hby d52_34) rfl k) ?_
  show own_Go X2 (Q52 Z r0 r1 r2 g kA kB x0 x1 x2 x3 c0 c1 h0 n0) 0 0 36 #[.val (.ref r0), .val (.ref r1), .val (.ref r2), .val (.int (0 : Int32)), .val (.ref r2), .val (.int (2 : Int32)), .val (.int (0 : Int32)), .val (.int c0)] [(.int c0), (.ref r1), (.int ((0 : Int32) * g))]
  refine own_st (fun _ k => own_ldI X2 hx hZ e2 PV1 (j := c0) B0 (v := (.int (own_at4 x0 x1 x2 x3 c0))) (own_getD4 B0) (g := (mkF m 36 #[.val (.ref r0), .val (.ref r1), .val (.ref r2), .val (.int (0 : Int32)), .val (.ref r2), .val (.int (2 : Int32)), .val (.int (0 : Int32)), .val (.int c0)] [(.int c0), (.ref r1), (.int ((0 : Int32) * g))])) rfl rfl (hb hby d52_36) _ k) ?_
  show own_Go X2 (Q52 Z r0 r1 r2 g kA kB x0 x1 x2 x3 c0 c1 h0 n0) 0 0 37 #[.val (.ref r0), .val (.ref r1), .val (.ref r2), .val (.int (0 : Int32)), .val (.ref r2), .val (.int (2 : Int32)), .val (.int (0 : Int32)), .val (.int c0)] [(.int (own_at4 x0 x1 x2 x3 c0)), (.int ((0 : Int32) * g))]
  refine own_st (fun _ k => XS.iadd X2.here hx rfl (hb hby d52_37) rfl k) ?_
  show own_Go X2 (Q52 Z r0 r1 r2 g kA kB x0 x1 x2 x3 c0 c1 h0 n0) 0 0 38 #[.val (.ref r0), .val (.ref r1), .val (.ref r2), .val (.int (0 : Int32)), .val (.ref r2), .val (.int (2 : Int32)), .val (.int (0 : Int32)), .val (.int c0)] [(.int (((0 : Int32) * g) + (own_at4 x0 x1 x2 x3 c0)))]
  refine own_st (fun _ k => XS.istoreN X2.here hx rfl (hb hby d52_38) rfl (l' := #[.val (.ref r0), .val (.ref r1), .val (.ref r2), .val (.int (((0 : Int32) * g) + (own_at4 x0 x1 x2 x3 c0))), .val (.ref r2), .val (.int (2 : Int32)), .val (.int (0 : Int32)), .val (.int c0)]) rfl k) ?_
  show own_Go X2 (Q52 Z r0 r1 r2 g kA kB x0 x1 x2 x3 c0 c1 h0 n0) 0 0 39 #[.val (.ref r0), .val (.ref r1), .val (.ref r2), .val (.int (((0 : Int32) * g) + (own_at4 x0 x1 x2 x3 c0))), .val (.ref r2), .val (.int (2 : Int32)), .val (.int (0 : Int32)), .val (.int c0)] []
  show own_Go X2 (Q52 Z r0 r1 r2 g kA kB x0 x1 x2 x3 c0 c1 h0 n0) 0 0 39 #[.val (.ref r0), .val (.ref r1), .val (.ref r2), .val (.int (own_tup1 g (own_at4 x0 x1 x2 x3 c0))), .val (.ref r2), .val (.int (2 : Int32)), .val (.int (0 : Int32)), .val (.int c0)] []
  refine own_st (fun _ k => XS.iinc X2.here hx rfl (hb hby d52_39) rfl (l' := #[.val (.ref r0), .val (.ref r1), .val (.ref r2), .val (.int (own_tup1 g (own_at4 x0 x1 x2 x3 c0))), .val (.ref r2), .val (.int (2 : Int32)), .val (.int (1 : Int32)), .val (.int c0)]) rfl k) ?_
  show own_Go X2 (Q52 Z r0 r1 r2 g kA kB x0 x1 x2 x3 c0 c1 h0 n0) 0 0 42 #[.val (.ref r0), .val (.ref r1), .val (.ref r2), .val (.int (own_tup1 g (own_at4 x0 x1 x2 x3 c0))), .val (.ref r2), .val (.int (2 : Int32)), .val (.int (1 : Int32)), .val (.int c0)] []
  refine own_st (fun _ k => XS.goto X2.here hx rfl (pc0 := 42) (pc' := 13) rfl (hb hby d52_42) (by decide) (by decide) k) ?_
  show own_Go X2 (Q52 Z r0 r1 r2 g kA kB x0 x1 x2 x3 c0 c1 h0 n0) 0 0 13 #[.val (.ref r0), .val (.ref r1), .val (.ref r2), .val (.int (own_tup1 g (own_at4 x0 x1 x2 x3 c0))), .val (.ref r2), .val (.int (2 : Int32)), .val (.int (1 : Int32)), .val (.int c0)] []
  refine own_st (fun _ k => XS.iload X2.here hx rfl (hb hby d52_13) rfl k) ?_
  show own_Go X2 (Q52 Z r0 r1 r2 g kA kB x0 x1 x2 x3 c0 c1 h0 n0) 0 0 15 #[.val (.ref r0), .val (.ref r1), .val (.ref r2), .val (.int (own_tup1 g (own_at4 x0 x1 x2 x3 c0))), .val (.ref r2), .val (.int (2 : Int32)), .val (.int (1 : Int32)), .val (.int c0)] [(.int (1 : Int32))]
  refine own_st (fun _ k => XS.iload X2.here hx rfl (hb hby d52_15) rfl k) ?_
  show own_Go X2 (Q52 Z r0 r1 r2 g kA kB x0 x1 x2 x3 c0 c1 h0 n0) 0 0 17 #[.val (.ref r0), .val (.ref r1), .val (.ref r2), .val (.int (own_tup1 g (own_at4 x0 x1 x2 x3 c0))), .val (.ref r2), .val (.int (2 : Int32)), .val (.int (1 : Int32)), .val (.int c0)] [(.int (2 : Int32)), (.int (1 : Int32))]
  have c17_3 : (1 : Int32) < (2 : Int32) := (by decide)
  refine own_st (fun _ k => XS.icmpNo X2.here hx rfl (hb hby d52_17) rfl (tlt c17_3).2.1 k) ?_
  show own_Go X2 (Q52 Z r0 r1 r2 g kA kB x0 x1 x2 x3 c0 c1 h0 n0) 0 0 20 #[.val (.ref r0), .val (.ref r1), .val (.ref r2), .val (.int (own_tup1 g (own_at4 x0 x1 x2 x3 c0))), .val (.ref r2), .val (.int (2 : Int32)), .val (.int (1 : Int32)), .val (.int c0)] []
  refine own_st (fun _ k => XS.aload X2.here hx rfl (hb hby d52_20) rfl rfl k) ?_
  show own_Go X2 (Q52 Z r0 r1 r2 g kA kB x0 x1 x2 x3 c0 c1 h0 n0) 0 0 22 #[.val (.ref r0), .val (.ref r1), .val (.ref r2), .val (.int (own_tup1 g (own_at4 x0 x1 x2 x3 c0))), .val (.ref r2), .val (.int (2 : Int32)), .val (.int (1 : Int32)), .val (.int c0)] [(.ref r2)]
  refine own_st (fun _ k => XS.iload X2.here hx rfl (hb hby d52_22) rfl k) ?_
  show own_Go X2 (Q52 Z r0 r1 r2 g kA kB x0 x1 x2 x3 c0 c1 h0 n0) 0 0 24 #[.val (.ref r0), .val (.ref r1), .val (.ref r2), .val (.int (own_tup1 g (own_at4 x0 x1 x2 x3 c0))), .val (.ref r2), .val (.int (2 : Int32)), .val (.int (1 : Int32)), .val (.int c0)] [(.int (1 : Int32)), (.ref r2)]
  refine own_st (fun _ k => own_ldI X2 hx hZ e2 PV2 (j := (1 : Int32)) ⟨by decide, by decide⟩ (v := (.int c1)) rfl (g := (mkF m 24 #[.val (.ref r0), .val (.ref r1), .val (.ref r2), .val (.int (own_tup1 g (own_at4 x0 x1 x2 x3 c0))), .val (.ref r2), .val (.int (2 : Int32)), .val (.int (1 : Int32)), .val (.int c0)] [(.int (1 : Int32)), (.ref r2)])) rfl rfl (hb hby d52_24) _ k) ?_
  show own_Go X2 (Q52 Z r0 r1 r2 g kA kB x0 x1 x2 x3 c0 c1 h0 n0) 0 0 25 #[.val (.ref r0), .val (.ref r1), .val (.ref r2), .val (.int (own_tup1 g (own_at4 x0 x1 x2 x3 c0))), .val (.ref r2), .val (.int (2 : Int32)), .val (.int (1 : Int32)), .val (.int c0)] [(.int c1)]
  refine own_st (fun _ k => XS.istore X2.here hx rfl (hb hby d52_25) rfl (l' := #[.val (.ref r0), .val (.ref r1), .val (.ref r2), .val (.int (own_tup1 g (own_at4 x0 x1 x2 x3 c0))), .val (.ref r2), .val (.int (2 : Int32)), .val (.int (1 : Int32)), .val (.int c1)]) rfl k) ?_
  show own_Go X2 (Q52 Z r0 r1 r2 g kA kB x0 x1 x2 x3 c0 c1 h0 n0) 0 0 27 #[.val (.ref r0), .val (.ref r1), .val (.ref r2), .val (.int (own_tup1 g (own_at4 x0 x1 x2 x3 c0))), .val (.ref r2), .val (.int (2 : Int32)), .val (.int (1 : Int32)), .val (.int c1)] []
  refine own_st (fun _ k => XS.iloadN X2.here hx rfl (hb hby d52_27) rfl k) ?_
  show own_Go X2 (Q52 Z r0 r1 r2 g kA kB x0 x1 x2 x3 c0 c1 h0 n0) 0 0 28 #[.val (.ref r0), .val (.ref r1), .val (.ref r2), .val (.int (own_tup1 g (own_at4 x0 x1 x2 x3 c0))), .val (.ref r2), .val (.int (2 : Int32)), .val (.int (1 : Int32)), .val (.int c1)] [(.int (own_tup1 g (own_at4 x0 x1 x2 x3 c0)))]
  refine own_st (fun _ k => XS.aloadN X2.here hx rfl (hb hby d52_28) rfl rfl k) ?_
  show own_Go X2 (Q52 Z r0 r1 r2 g kA kB x0 x1 x2 x3 c0 c1 h0 n0) 0 0 29 #[.val (.ref r0), .val (.ref r1), .val (.ref r2), .val (.int (own_tup1 g (own_at4 x0 x1 x2 x3 c0))), .val (.ref r2), .val (.int (2 : Int32)), .val (.int (1 : Int32)), .val (.int c1)] [(.ref r0), (.int (own_tup1 g (own_at4 x0 x1 x2 x3 c0)))]
  obtain ⟨T4, X4, e4, st4⟩ := getF X2 hx hZ hown (host := "") (Or.inl (hw _ (List.mem_of_getElem? (i := 27) rfl))) Via.refl e2 P_levels (g := (mkF m 29 #[.val (.ref r0), .val (.ref r1), .val (.ref r2), .val (.int (own_tup1 g (own_at4 x0 x1 x2 x3 c0))), .val (.ref r2), .val (.int (2 : Int32)), .val (.int (1 : Int32)), .val (.int c1)] [(.ref r0), (.int (own_tup1 g (own_at4 x0 x1 x2 x3 c0)))])) rfl rfl (hb hby d52_29)
  refine own_st st4 ?_
  show own_Go X4 (Q52 Z r0 r1 r2 g kA kB x0 x1 x2 x3 c0 c1 h0 n0) 0 0 32 #[.val (.ref r0), .val (.ref r1), .val (.ref r2), .val (.int (own_tup1 g (own_at4 x0 x1 x2 x3 c0))), .val (.ref r2), .val (.int (2 : Int32)), .val (.int (1 : Int32)), .val (.int c1)] [(.int g), (.int (own_tup1 g (own_at4 x0 x1 x2 x3 c0)))]
  refine own_st (fun _ k => XS.imul X4.here hx rfl (hb hby d52_32) rfl k) ?_
  show own_Go X4 (Q52 Z r0 r1 r2 g kA kB x0 x1 x2 x3 c0 c1 h0 n0) 0 0 33 #[.val (.ref r0), .val (.ref r1), .val (.ref r2), .val (.int (own_tup1 g (own_at4 x0 x1 x2 x3 c0))), .val (.ref r2), .val (.int (2 : Int32)), .val (.int (1 : Int32)), .val (.int c1)] [(.int ((own_tup1 g (own_at4 x0 x1 x2 x3 c0)) * g))]
  refine own_st (fun _ k => XS.aloadN X4.here hx rfl (hb hby d52_33) rfl rfl k) ?_
  show own_Go X4 (Q52 Z r0 r1 r2 g kA kB x0 x1 x2 x3 c0 c1 h0 n0) 0 0 34 #[.val (.ref r0), .val (.ref r1), .val (.ref r2), .val (.int (own_tup1 g (own_at4 x0 x1 x2 x3 c0))), .val (.ref r2), .val (.int (2 : Int32)), .val (.int (1 : Int32)), .val (.int c1)] [(.ref r1), (.int ((own_tup1 g (own_at4 x0 x1 x2 x3 c0)) * g))]
  refine own_st (fun _ k => XS.iload X4.here hx rfl (hb hby d52_34) rfl k) ?_
  show own_Go X4 (Q52 Z r0 r1 r2 g kA kB x0 x1 x2 x3 c0 c1 h0 n0) 0 0 36 #[.val (.ref r0), .val (.ref r1), .val (.ref r2), .val (.int (own_tup1 g (own_at4 x0 x1 x2 x3 c0))), .val (.ref r2), .val (.int (2 : Int32)), .val (.int (1 : Int32)), .val (.int c1)] [(.int c1), (.ref r1), (.int ((own_tup1 g (own_at4 x0 x1 x2 x3 c0)) * g))]
  refine own_st (fun _ k => own_ldI X4 hx hZ e4 PV1 (j := c1) B1 (v := (.int (own_at4 x0 x1 x2 x3 c1))) (own_getD4 B1) (g := (mkF m 36 #[.val (.ref r0), .val (.ref r1), .val (.ref r2), .val (.int (own_tup1 g (own_at4 x0 x1 x2 x3 c0))), .val (.ref r2), .val (.int (2 : Int32)), .val (.int (1 : Int32)), .val (.int c1)] [(.int c1), (.ref r1), (.int ((own_tup1 g (own_at4 x0 x1 x2 x3 c0)) * g))])) rfl rfl (hb hby d52_36) _ k) ?_
  show own_Go X4 (Q52 Z r0 r1 r2 g kA kB x0 x1 x2 x3 c0 c1 h0 n0) 0 0 37 #[.val (.ref r0), .val (.ref r1), .val (.ref r2), .val (.int (own_tup1 g (own_at4 x0 x1 x2 x3 c0))), .val (.ref r2), .val (.int (2 : Int32)), .val (.int (1 : Int32)), .val (.int c1)] [(.int (own_at4 x0 x1 x2 x3 c1)), (.int ((own_tup1 g (own_at4 x0 x1 x2 x3 c0)) * g))]
  refine own_st (fun _ k => XS.iadd X4.here hx rfl (hb hby d52_37) rfl k) ?_
  show own_Go X4 (Q52 Z r0 r1 r2 g kA kB x0 x1 x2 x3 c0 c1 h0 n0) 0 0 38 #[.val (.ref r0), .val (.ref r1), .val (.ref r2), .val (.int (own_tup1 g (own_at4 x0 x1 x2 x3 c0))), .val (.ref r2), .val (.int (2 : Int32)), .val (.int (1 : Int32)), .val (.int c1)] [(.int (((own_tup1 g (own_at4 x0 x1 x2 x3 c0)) * g) + (own_at4 x0 x1 x2 x3 c1)))]
  refine own_st (fun _ k => XS.istoreN X4.here hx rfl (hb hby d52_38) rfl (l' := #[.val (.ref r0), .val (.ref r1), .val (.ref r2), .val (.int (((own_tup1 g (own_at4 x0 x1 x2 x3 c0)) * g) + (own_at4 x0 x1 x2 x3 c1))), .val (.ref r2), .val (.int (2 : Int32)), .val (.int (1 : Int32)), .val (.int c1)]) rfl k) ?_
  show own_Go X4 (Q52 Z r0 r1 r2 g kA kB x0 x1 x2 x3 c0 c1 h0 n0) 0 0 39 #[.val (.ref r0), .val (.ref r1), .val (.ref r2), .val (.int (((own_tup1 g (own_at4 x0 x1 x2 x3 c0)) * g) + (own_at4 x0 x1 x2 x3 c1))), .val (.ref r2), .val (.int (2 : Int32)), .val (.int (1 : Int32)), .val (.int c1)] []
  show own_Go X4 (Q52 Z r0 r1 r2 g kA kB x0 x1 x2 x3 c0 c1 h0 n0) 0 0 39 #[.val (.ref r0), .val (.ref r1), .val (.ref r2), .val (.int (own_tup2 g (own_at4 x0 x1 x2 x3 c0) (own_at4 x0 x1 x2 x3 c1))), .val (.ref r2), .val (.int (2 : Int32)), .val (.int (1 : Int32)), .val (.int c1)] []
  refine own_st (fun _ k => XS.iinc X4.here hx rfl (hb hby d52_39) rfl (l' := #[.val (.ref r0), .val (.ref r1), .val (.ref r2), .val (.int (own_tup2 g (own_at4 x0 x1 x2 x3 c0) (own_at4 x0 x1 x2 x3 c1))), .val (.ref r2), .val (.int (2 : Int32)), .val (.int (2 : Int32)), .val (.int c1)]) rfl k) ?_
  show own_Go X4 (Q52 Z r0 r1 r2 g kA kB x0 x1 x2 x3 c0 c1 h0 n0) 0 0 42 #[.val (.ref r0), .val (.ref r1), .val (.ref r2), .val (.int (own_tup2 g (own_at4 x0 x1 x2 x3 c0) (own_at4 x0 x1 x2 x3 c1))), .val (.ref r2), .val (.int (2 : Int32)), .val (.int (2 : Int32)), .val (.int c1)] []
  refine own_st (fun _ k => XS.goto X4.here hx rfl (pc0 := 42) (pc' := 13) rfl (hb hby d52_42) (by decide) (by decide) k) ?_
  show own_Go X4 (Q52 Z r0 r1 r2 g kA kB x0 x1 x2 x3 c0 c1 h0 n0) 0 0 13 #[.val (.ref r0), .val (.ref r1), .val (.ref r2), .val (.int (own_tup2 g (own_at4 x0 x1 x2 x3 c0) (own_at4 x0 x1 x2 x3 c1))), .val (.ref r2), .val (.int (2 : Int32)), .val (.int (2 : Int32)), .val (.int c1)] []
  refine own_st (fun _ k => XS.iload X4.here hx rfl (hb hby d52_13) rfl k) ?_
  show own_Go X4 (Q52 Z r0 r1 r2 g kA kB x0 x1 x2 x3 c0 c1 h0 n0) 0 0 15 #[.val (.ref r0), .val (.ref r1), .val (.ref r2), .val (.int (own_tup2 g (own_at4 x0 x1 x2 x3 c0) (own_at4 x0 x1 x2 x3 c1))), .val (.ref r2), .val (.int (2 : Int32)), .val (.int (2 : Int32)), .val (.int c1)] [(.int (2 : Int32))]
  refine own_st (fun _ k => XS.iload X4.here hx rfl (hb hby d52_15) rfl k) ?_
  show own_Go X4 (Q52 Z r0 r1 r2 g kA kB x0 x1 x2 x3 c0 c1 h0 n0) 0 0 17 #[.val (.ref r0), .val (.ref r1), .val (.ref r2), .val (.int (own_tup2 g (own_at4 x0 x1 x2 x3 c0) (own_at4 x0 x1 x2 x3 c1))), .val (.ref r2), .val (.int (2 : Int32)), .val (.int (2 : Int32)), .val (.int c1)] [(.int (2 : Int32)), (.int (2 : Int32))]
  have c17_5 : ¬ ((2 : Int32) < (2 : Int32)) := (by decide)
  refine own_st (fun _ k => XS.icmpYes X4.here hx rfl (pc0 := 17) (pc' := 45) rfl (hb hby d52_17) rfl (flt c17_5).2.1 (by decide) (by decide) k) ?_
  show own_Go X4 (Q52 Z r0 r1 r2 g kA kB x0 x1 x2 x3 c0 c1 h0 n0) 0 0 45 #[.val (.ref r0), .val (.ref r1), .val (.ref r2), .val (.int (own_tup2 g (own_at4 x0 x1 x2 x3 c0) (own_at4 x0 x1 x2 x3 c1))), .val (.ref r2), .val (.int (2 : Int32)), .val (.int (2 : Int32)), .val (.int c1)] []
  refine own_st (fun _ k => XS.iloadN X4.here hx rfl (hb hby d52_45) rfl k) ?_
  show own_Go X4 (Q52 Z r0 r1 r2 g kA kB x0 x1 x2 x3 c0 c1 h0 n0) 0 0 46 #[.val (.ref r0), .val (.ref r1), .val (.ref r2), .val (.int (own_tup2 g (own_at4 x0 x1 x2 x3 c0) (own_at4 x0 x1 x2 x3 c1))), .val (.ref r2), .val (.int (2 : Int32)), .val (.int (2 : Int32)), .val (.int c1)] [(.int (own_tup2 g (own_at4 x0 x1 x2 x3 c0) (own_at4 x0 x1 x2 x3 c1)))]
  refine own_retI X4 hx Bd.returns hlk e4 (hb hby d52_46) (by decide) (by decide) ?_
  exact ⟨rfl, N0, rfl⟩
theorem d53_0 : decode prog_55_method_5_code 0 = .ok (.iconst 0, 1) := by decide +kernel
theorem d53_1 : decode prog_55_method_5_code 1 = .ok (.istore_n 3, 1) := by decide +kernel
theorem d53_2 : decode prog_55_method_5_code 2 = .ok (.aload_n 2, 1) := by decide +kernel
theorem d53_3 : decode prog_55_method_5_code 3 = .ok (.astore 4, 2) := by decide +kernel
theorem d53_5 : decode prog_55_method_5_code 5 = .ok (.aload 4, 2) := by decide +kernel
theorem d53_7 : decode prog_55_method_5_code 7 = .ok (.arraylength, 1) := by decide +kernel
theorem d53_8 : decode prog_55_method_5_code 8 = .ok (.istore 5, 2) := by decide +kernel
theorem d53_10 : decode prog_55_method_5_code 10 = .ok (.iconst 0, 1) := by decide +kernel
theorem d53_11 : decode prog_55_method_5_code 11 = .ok (.istore 6, 2) := by decide +kernel
theorem d53_13 : decode prog_55_method_5_code 13 = .ok (.iload 6, 2) := by decide +kernel
theorem d53_15 : decode prog_55_method_5_code 15 = .ok (.iload 5, 2) := by decide +kernel
theorem d53_17 : decode prog_55_method_5_code 17 = .ok (.if_icmp .ge 28, 3) := by decide +kernel
theorem d53_20 : decode prog_55_method_5_code 20 = .ok (.aload 4, 2) := by decide +kernel
theorem d53_22 : decode prog_55_method_5_code 22 = .ok (.iload 6, 2) := by decide +kernel
theorem d53_24 : decode prog_55_method_5_code 24 = .ok (.iaload, 1) := by decide +kernel
theorem d53_25 : decode prog_55_method_5_code 25 = .ok (.istore 7, 2) := by decide +kernel
theorem d53_27 : decode prog_55_method_5_code 27 = .ok (.iload_n 3, 1) := by decide +kernel
theorem d53_28 : decode prog_55_method_5_code 28 = .ok (.aload_n 0, 1) := by decide +kernel
theorem d53_29 : decode prog_55_method_5_code 29 = .ok (.getfield 44, 3) := by decide +kernel
theorem d53_32 : decode prog_55_method_5_code 32 = .ok (.imul, 1) := by decide +kernel
theorem d53_33 : decode prog_55_method_5_code 33 = .ok (.aload_n 1, 1) := by decide +kernel
theorem d53_34 : decode prog_55_method_5_code 34 = .ok (.iload 7, 2) := by decide +kernel
theorem d53_36 : decode prog_55_method_5_code 36 = .ok (.iaload, 1) := by decide +kernel
theorem d53_37 : decode prog_55_method_5_code 37 = .ok (.iadd, 1) := by decide +kernel
theorem d53_38 : decode prog_55_method_5_code 38 = .ok (.istore_n 3, 1) := by decide +kernel
theorem d53_39 : decode prog_55_method_5_code 39 = .ok (.iinc 6 1, 3) := by decide +kernel
theorem d53_42 : decode prog_55_method_5_code 42 = .ok (.goto (-29), 3) := by decide +kernel
theorem d53_45 : decode prog_55_method_5_code 45 = .ok (.iload_n 3, 1) := by decide +kernel
theorem d53_46 : decode prog_55_method_5_code 46 = .ok (.ireturn, 1) := by decide +kernel
theorem pn_53 : plainName "com/example/gingham/gingham/designs/CoveringArraySpec" = true := by first | (simp [plainName, overriddenIn]; done) | decide +kernel
theorem ef_53 (m : MethodId) (r0 : Addr) (r1 : Addr) (r2 : Addr) : entryFrame m #[(.ref r0), (.ref r1), (.ref r2)] 8 = mkF m 0 #[.val (.ref r0), .val (.ref r1), .val (.ref r2), .unset, .unset, .unset, .unset, .unset] [] := by first | (simp [entryFrame, mkF, argsToLocals, Value.category]; done) | rfl
def Q53 (Z : State) (r0 : Addr) (r1 : Addr) (r2 : Addr) (g : Int32) (kA kB : ClassId) (x0 x1 x2 x3 : Int32) (c0 c1 c2 : Int32) (h0 : Heap) (n0 : Nat) (v : Option Value) (h : Heap) (L : List Loc) : Prop := v = some (.int (own_tup3 g (own_at4 x0 x1 x2 x3 c0) (own_at4 x0 x1 x2 x3 c1) (own_at4 x0 x1 x2 x3 c2))) ∧ Fr n0 L ∧ h = h0
set_option maxRecDepth 65536 in
set_option maxHeartbeats 40000000 in
theorem rm53 (l : Launch) (Z : State) (a0 : Array Value) (hw : ∀ d ∈ tables_1, d.before a0 Z = true) (ws : List Jvm.Cond) (r0 : Addr) (r1 : Addr) (r2 : Addr) (g : Int32) (kA kB : ClassId) (x0 x1 x2 x3 : Int32) (c0 c1 c2 : Int32) (h0 : Heap) (n0 : Nat) (Z0 : n0 ≤ h0.size) (P_levels : Fld Z h0 r0 "com/example/gingham/gingham/designs/CoveringArraySpec" "levels" "I" (.int g)) (PV1 : Arv Z h0 r1 kA .int (4 : Int32) [(.int x0), (.int x1), (.int x2), (.int x3)] (.int (0 : Int32))) (PV2 : Arv Z h0 r2 kB .int (3 : Int32) [(.int c0), (.int c1), (.int c2)] (.int (0 : Int32))) (B0 : ¬ c0 < 0 ∧ c0 < 4) (B1 : ¬ c1 < 0 ∧ c1 < 4) (B2 : ¬ c2 < 0 ∧ c2 < 4) :
    MetFree l (⟨"com/example/gingham/gingham/designs/CoveringArraySpec", "tupleOf", "([I[I)I"⟩ : MethodName) (head1 (Jvm.Cond.code (⟨"com/example/gingham/gingham/designs/CoveringArraySpec", "tupleOf", "([I[I)I"⟩ : MethodName) prog_55_method_5_code 8 (some .int) :: ws) ({ frames := 0, cells := 0, slots := 0, locals := 0 } : Room)) (fun a U => a = #[(.ref r0), (.ref r1), (.ref r2)] ∧ Z.Warmed39 U.vm ∧ U.heap = h0) (fun _ _ _ _ _ => True) (fun _ U o U' => ∃ v L, o = .returned v ∧ Q53 Z r0 r1 r2 g kA kB x0 x1 x2 x3 c0 c1 c2 h0 n0 v U'.heap L ∧ FrameEnd U o U' L ({ frames := 0, cells := 0, slots := 0, locals := 0 } : Room).cells ({ frames := 0, cells := 0, slots := 0, locals := 0 } : Room).slots) := by
  refine MetFree.of_bodySF (plainFor_of_name pn_53) hisR ?_
  intro p e s m args below meth c s₁ Bd hml0 hP hK
  obtain ⟨rfl, hZ, hh⟩ := hP
  have hx := Bd.exec
  have hby := Bd.bytes
  have hml : c.maxLocals = 8 := hml0
  have hown : s.vm.findClass "com/example/gingham/gingham/designs/CoveringArraySpec" = some m.cls := findClass_of_methodNamed Bd.named
  have hnm := (name_of_methodNamed Bd.named Bd.method).1
  have hlk : meth.locks = false := Bd.notSynchronized
  have X0 : Stand p l e ({ frames := 0, cells := 0, slots := 0, locals := 0 } : Room) s m #[(.ref r0), (.ref r1), (.ref r2)] below meth c s₁ [] 0 0 := Stand.of_body Bd
  have e0 : s₁.heap = h0 := by rw [← hh, Bd.state]; rfl
  have N0 := Fr.nil n0
  refine own_cast (Q := Q53 Z r0 r1 r2 g kA kB x0 x1 x2 x3 c0 c1 c2 h0 n0) (kc := 0) (ks := 0) (ef_53 m r0 r1 r2) ?_
  refine own_st (fun _ k => XS.iconst X0.here hx rfl (hb hby d53_0) k) ?_
  show own_Go X0 (Q53 Z r0 r1 r2 g kA kB x0 x1 x2 x3 c0 c1 c2 h0 n0) 0 0 1 #[.val (.ref r0), .val (.ref r1), .val (.ref r2), .unset, .unset, .unset, .unset, .unset] [(.int (0 : Int32))]
  refine own_st (fun _ k => XS.istoreN X0.here hx rfl (hb hby d53_1) rfl (l' := #[.val (.ref r0), .val (.ref r1), .val (.ref r2), .val (.int (0 : Int32)), .unset, .unset, .unset, .unset]) rfl k) ?_
  show own_Go X0 (Q53 Z r0 r1 r2 g kA kB x0 x1 x2 x3 c0 c1 c2 h0 n0) 0 0 2 #[.val (.ref r0), .val (.ref r1), .val (.ref r2), .val (.int (0 : Int32)), .unset, .unset, .unset, .unset] []
  refine own_st (fun _ k => XS.aloadN X0.here hx rfl (hb hby d53_2) rfl rfl k) ?_
  show own_Go X0 (Q53 Z r0 r1 r2 g kA kB x0 x1 x2 x3 c0 c1 c2 h0 n0) 0 0 3 #[.val (.ref r0), .val (.ref r1), .val (.ref r2), .val (.int (0 : Int32)), .unset, .unset, .unset, .unset] [(.ref r2)]
  refine own_st (fun _ k => XS.astore X0.here hx rfl (hb hby d53_3) rfl rfl (l' := #[.val (.ref r0), .val (.ref r1), .val (.ref r2), .val (.int (0 : Int32)), .val (.ref r2), .unset, .unset, .unset]) rfl k) ?_
  show own_Go X0 (Q53 Z r0 r1 r2 g kA kB x0 x1 x2 x3 c0 c1 c2 h0 n0) 0 0 5 #[.val (.ref r0), .val (.ref r1), .val (.ref r2), .val (.int (0 : Int32)), .val (.ref r2), .unset, .unset, .unset] []
  refine own_st (fun _ k => XS.aload X0.here hx rfl (hb hby d53_5) rfl rfl k) ?_
  show own_Go X0 (Q53 Z r0 r1 r2 g kA kB x0 x1 x2 x3 c0 c1 c2 h0 n0) 0 0 7 #[.val (.ref r0), .val (.ref r1), .val (.ref r2), .val (.int (0 : Int32)), .val (.ref r2), .unset, .unset, .unset] [(.ref r2)]
  refine own_st (fun _ k => own_len X0 hx hZ e0 PV2 (g := (mkF m 7 #[.val (.ref r0), .val (.ref r1), .val (.ref r2), .val (.int (0 : Int32)), .val (.ref r2), .unset, .unset, .unset] [(.ref r2)])) rfl rfl (hb hby d53_7) _ k) ?_
  show own_Go X0 (Q53 Z r0 r1 r2 g kA kB x0 x1 x2 x3 c0 c1 c2 h0 n0) 0 0 8 #[.val (.ref r0), .val (.ref r1), .val (.ref r2), .val (.int (0 : Int32)), .val (.ref r2), .unset, .unset, .unset] [(.int (3 : Int32))]
  refine own_st (fun _ k => XS.istore X0.here hx rfl (hb hby d53_8) rfl (l' := #[.val (.ref r0), .val (.ref r1), .val (.ref r2), .val (.int (0 : Int32)), .val (.ref r2), .val (.int (3 : Int32)), .unset, .unset]) rfl k) ?_
  show own_Go X0 (Q53 Z r0 r1 r2 g kA kB x0 x1 x2 x3 c0 c1 c2 h0 n0) 0 0 10 #[.val (.ref r0), .val (.ref r1), .val (.ref r2), .val (.int (0 : Int32)), .val (.ref r2), .val (.int (3 : Int32)), .unset, .unset] []
  refine own_st (fun _ k => XS.iconst X0.here hx rfl (hb hby d53_10) k) ?_
  show own_Go X0 (Q53 Z r0 r1 r2 g kA kB x0 x1 x2 x3 c0 c1 c2 h0 n0) 0 0 11 #[.val (.ref r0), .val (.ref r1), .val (.ref r2), .val (.int (0 : Int32)), .val (.ref r2), .val (.int (3 : Int32)), .unset, .unset] [(.int (0 : Int32))]
  refine own_st (fun _ k => XS.istore X0.here hx rfl (hb hby d53_11) rfl (l' := #[.val (.ref r0), .val (.ref r1), .val (.ref r2), .val (.int (0 : Int32)), .val (.ref r2), .val (.int (3 : Int32)), .val (.int (0 : Int32)), .unset]) rfl k) ?_
  show own_Go X0 (Q53 Z r0 r1 r2 g kA kB x0 x1 x2 x3 c0 c1 c2 h0 n0) 0 0 13 #[.val (.ref r0), .val (.ref r1), .val (.ref r2), .val (.int (0 : Int32)), .val (.ref r2), .val (.int (3 : Int32)), .val (.int (0 : Int32)), .unset] []
  refine own_st (fun _ k => XS.iload X0.here hx rfl (hb hby d53_13) rfl k) ?_
  show own_Go X0 (Q53 Z r0 r1 r2 g kA kB x0 x1 x2 x3 c0 c1 c2 h0 n0) 0 0 15 #[.val (.ref r0), .val (.ref r1), .val (.ref r2), .val (.int (0 : Int32)), .val (.ref r2), .val (.int (3 : Int32)), .val (.int (0 : Int32)), .unset] [(.int (0 : Int32))]
  refine own_st (fun _ k => XS.iload X0.here hx rfl (hb hby d53_15) rfl k) ?_
  show own_Go X0 (Q53 Z r0 r1 r2 g kA kB x0 x1 x2 x3 c0 c1 c2 h0 n0) 0 0 17 #[.val (.ref r0), .val (.ref r1), .val (.ref r2), .val (.int (0 : Int32)), .val (.ref r2), .val (.int (3 : Int32)), .val (.int (0 : Int32)), .unset] [(.int (3 : Int32)), (.int (0 : Int32))]
  have c17_1 : (0 : Int32) < (3 : Int32) := (by decide)
  refine own_st (fun _ k => XS.icmpNo X0.here hx rfl (hb hby d53_17) rfl (tlt c17_1).2.1 k) ?_
  show own_Go X0 (Q53 Z r0 r1 r2 g kA kB x0 x1 x2 x3 c0 c1 c2 h0 n0) 0 0 20 #[.val (.ref r0), .val (.ref r1), .val (.ref r2), .val (.int (0 : Int32)), .val (.ref r2), .val (.int (3 : Int32)), .val (.int (0 : Int32)), .unset] []
  refine own_st (fun _ k => XS.aload X0.here hx rfl (hb hby d53_20) rfl rfl k) ?_
  show own_Go X0 (Q53 Z r0 r1 r2 g kA kB x0 x1 x2 x3 c0 c1 c2 h0 n0) 0 0 22 #[.val (.ref r0), .val (.ref r1), .val (.ref r2), .val (.int (0 : Int32)), .val (.ref r2), .val (.int (3 : Int32)), .val (.int (0 : Int32)), .unset] [(.ref r2)]
  refine own_st (fun _ k => XS.iload X0.here hx rfl (hb hby d53_22) rfl k) ?_
  show own_Go X0 (Q53 Z r0 r1 r2 g kA kB x0 x1 x2 x3 c0 c1 c2 h0 n0) 0 0 24 #[.val (.ref r0), .val (.ref r1), .val (.ref r2), .val (.int (0 : Int32)), .val (.ref r2), .val (.int (3 : Int32)), .val (.int (0 : Int32)), .unset] [(.int (0 : Int32)), (.ref r2)]
  refine own_st (fun _ k => own_ldI X0 hx hZ e0 PV2 (j := (0 : Int32)) ⟨by decide, by decide⟩ (v := (.int c0)) rfl (g := (mkF m 24 #[.val (.ref r0), .val (.ref r1), .val (.ref r2), .val (.int (0 : Int32)), .val (.ref r2), .val (.int (3 : Int32)), .val (.int (0 : Int32)), .unset] [(.int (0 : Int32)), (.ref r2)])) rfl rfl (hb hby d53_24) _ k) ?_
  show own_Go X0 (Q53 Z r0 r1 r2 g kA kB x0 x1 x2 x3 c0 c1 c2 h0 n0) 0 0 25 #[.val (.ref r0), .val (.ref r1), .val (.ref r2), .val (.int (0 : Int32)), .val (.ref r2), .val (.int (3 : Int32)), .val (.int (0 : Int32)), .unset] [(.int c0)]
  refine own_st (fun _ k => XS.istore X0.here hx rfl (hb hby d53_25) rfl (l' := #[.val (.ref r0), .val (.ref r1), .val (.ref r2), .val (.int (0 : Int32)), .val (.ref r2), .val (.int (3 : Int32)), .val (.int (0 : Int32)), .val (.int c0)]) rfl k) ?_
  show own_Go X0 (Q53 Z r0 r1 r2 g kA kB x0 x1 x2 x3 c0 c1 c2 h0 n0) 0 0 27 #[.val (.ref r0), .val (.ref r1), .val (.ref r2), .val (.int (0 : Int32)), .val (.ref r2), .val (.int (3 : Int32)), .val (.int (0 : Int32)), .val (.int c0)] []
  refine own_st (fun _ k => XS.iloadN X0.here hx rfl (hb hby d53_27) rfl k) ?_
  show own_Go X0 (Q53 Z r0 r1 r2 g kA kB x0 x1 x2 x3 c0 c1 c2 h0 n0) 0 0 28 #[.val (.ref r0), .val (.ref r1), .val (.ref r2), .val (.int (0 : Int32)), .val (.ref r2), .val (.int (3 : Int32)), .val (.int (0 : Int32)), .val (.int c0)] [(.int (0 : Int32))]
  refine own_st (fun _ k => XS.aloadN X0.here hx rfl (hb hby d53_28) rfl rfl k) ?_
  show own_Go X0 (Q53 Z r0 r1 r2 g kA kB x0 x1 x2 x3 c0 c1 c2 h0 n0) 0 0 29 #[.val (.ref r0), .val (.ref r1), .val (.ref r2), .val (.int (0 : Int32)), .val (.ref r2), .val (.int (3 : Int32)), .val (.int (0 : Int32)), .val (.int c0)] [(.ref r0), (.int (0 : Int32))]
  obtain ⟨T2, X2, e2, st2⟩ := getF X0 hx hZ hown (host := "") (Or.inl (hw _ (List.mem_of_getElem? (i := 27) rfl))) Via.refl e0 P_levels (g := (mkF m 29 #[.val (.ref r0), .val (.ref r1), .val (.ref r2), .val (.int (0 : Int32)), .val (.ref r2), .val (.int (3 : Int32)), .val (.int (0 : Int32)), .val (.int c0)] [(.ref r0), (.int (0 : Int32))])) rfl rfl (hb hby d53_29)
  refine own_st st2 ?_
  show own_Go X2 (Q53 Z r0 r1 r2 g kA kB x0 x1 x2 x3 c0 c1 c2 h0 n0) 0 0 32 #[.val (.ref r0), .val (.ref r1), .val (.ref r2), .val (.int (0 : Int32)), .val (.ref r2), .val (.int (3 : Int32)), .val (.int (0 : Int32)), .val (.int c0)] [(.int g), (.int (0 : Int32))]
  refine own_st (fun _ k => XS.imul X2.here hx rfl (hb hby d53_32) rfl k) ?_
  show own_Go X2 (Q53 Z r0 r1 r2 g kA kB x0 x1 x2 x3 c0 c1 c2 h0 n0) 0 0 33 #[.val (.ref r0), .val (.ref r1), .val (.ref r2), .val (.int (0 : Int32)), .val (.ref r2), .val (.int (3 : Int32)), .val (.int (0 : Int32)), .val (.int c0)] [(.int ((0 : Int32) * g))]
  refine own_st (fun _ k => XS.aloadN X2.here hx rfl (hb hby d53_33) rfl rfl k) ?_
  show own_Go X2 (Q53 Z r0 r1 r2 g kA kB x0 x1 x2 x3 c0 c1 c2 h0 n0) 0 0 34 #[.val (.ref r0), .val (.ref r1), .val (.ref r2), .val (.int (0 : Int32)), .val (.ref r2), .val (.int (3 : Int32)), .val (.int (0 : Int32)), .val (.int c0)] [(.ref r1), (.int ((0 : Int32) * g))]
  refine own_st (fun _ k => XS.iload X2.here hx rfl (hb hby d53_34) rfl k) ?_
  show own_Go X2 (Q53 Z r0 r1 r2 g kA kB x0 x1 x2 x3 c0 c1 c2 h0 n0) 0 0 36 #[.val (.ref r0), .val (.ref r1), .val (.ref r2), .val (.int (0 : Int32)), .val (.ref r2), .val (.int (3 : Int32)), .val (.int (0 : Int32)), .val (.int c0)] [(.int c0), (.ref r1), (.int ((0 : Int32) * g))]
  refine own_st (fun _ k => own_ldI X2 hx hZ e2 PV1 (j := c0) B0 (v := (.int (own_at4 x0 x1 x2 x3 c0))) (own_getD4 B0) (g := (mkF m 36 #[.val (.ref r0), .val (.ref r1), .val (.ref r2), .val (.int (0 : Int32)), .val (.ref r2), .val (.int (3 : Int32)), .val (.int (0 : Int32)), .val (.int c0)] [(.int c0), (.ref r1), (.int ((0 : Int32) * g))])) rfl rfl (hb hby d53_36) _ k) ?_
  show own_Go X2 (Q53 Z r0 r1 r2 g kA kB x0 x1 x2 x3 c0 c1 c2 h0 n0) 0 0 37 #[.val (.ref r0), .val (.ref r1), .val (.ref r2), .val (.int (0 : Int32)), .val (.ref r2), .val (.int (3 : Int32)), .val (.int (0 : Int32)), .val (.int c0)] [(.int (own_at4 x0 x1 x2 x3 c0)), (.int ((0 : Int32) * g))]
  refine own_st (fun _ k => XS.iadd X2.here hx rfl (hb hby d53_37) rfl k) ?_
  show own_Go X2 (Q53 Z r0 r1 r2 g kA kB x0 x1 x2 x3 c0 c1 c2 h0 n0) 0 0 38 #[.val (.ref r0), .val (.ref r1), .val (.ref r2), .val (.int (0 : Int32)), .val (.ref r2), .val (.int (3 : Int32)), .val (.int (0 : Int32)), .val (.int c0)] [(.int (((0 : Int32) * g) + (own_at4 x0 x1 x2 x3 c0)))]
  refine own_st (fun _ k => XS.istoreN X2.here hx rfl (hb hby d53_38) rfl (l' := #[.val (.ref r0), .val (.ref r1), .val (.ref r2), .val (.int (((0 : Int32) * g) + (own_at4 x0 x1 x2 x3 c0))), .val (.ref r2), .val (.int (3 : Int32)), .val (.int (0 : Int32)), .val (.int c0)]) rfl k) ?_
  show own_Go X2 (Q53 Z r0 r1 r2 g kA kB x0 x1 x2 x3 c0 c1 c2 h0 n0) 0 0 39 #[.val (.ref r0), .val (.ref r1), .val (.ref r2), .val (.int (((0 : Int32) * g) + (own_at4 x0 x1 x2 x3 c0))), .val (.ref r2), .val (.int (3 : Int32)), .val (.int (0 : Int32)), .val (.int c0)] []
  show own_Go X2 (Q53 Z r0 r1 r2 g kA kB x0 x1 x2 x3 c0 c1 c2 h0 n0) 0 0 39 #[.val (.ref r0), .val (.ref r1), .val (.ref r2), .val (.int (own_tup1 g (own_at4 x0 x1 x2 x3 c0))), .val (.ref r2), .val (.int (3 : Int32)), .val (.int (0 : Int32)), .val (.int c0)] []
  refine own_st (fun _ k => XS.iinc X2.here hx rfl (hb hby d53_39) rfl (l' := #[.val (.ref r0), .val (.ref r1), .val (.ref r2), .val (.int (own_tup1 g (own_at4 x0 x1 x2 x3 c0))), .val (.ref r2), .val (.int (3 : Int32)), .val (.int (1 : Int32)), .val (.int c0)]) rfl k) ?_
  show own_Go X2 (Q53 Z r0 r1 r2 g kA kB x0 x1 x2 x3 c0 c1 c2 h0 n0) 0 0 42 #[.val (.ref r0), .val (.ref r1), .val (.ref r2), .val (.int (own_tup1 g (own_at4 x0 x1 x2 x3 c0))), .val (.ref r2), .val (.int (3 : Int32)), .val (.int (1 : Int32)), .val (.int c0)] []
  refine own_st (fun _ k => XS.goto X2.here hx rfl (pc0 := 42) (pc' := 13) rfl (hb hby d53_42) (by decide) (by decide) k) ?_
  show own_Go X2 (Q53 Z r0 r1 r2 g kA kB x0 x1 x2 x3 c0 c1 c2 h0 n0) 0 0 13 #[.val (.ref r0), .val (.ref r1), .val (.ref r2), .val (.int (own_tup1 g (own_at4 x0 x1 x2 x3 c0))), .val (.ref r2), .val (.int (3 : Int32)), .val (.int (1 : Int32)), .val (.int c0)] []
  refine own_st (fun _ k => XS.iload X2.here hx rfl (hb hby d53_13) rfl k) ?_
  show own_Go X2 (Q53 Z r0 r1 r2 g kA kB x0 x1 x2 x3 c0 c1 c2 h0 n0) 0 0 15 #[.val (.ref r0), .val (.ref r1), .val (.ref r2), .val (.int (own_tup1 g (own_at4 x0 x1 x2 x3 c0))), .val (.ref r2), .val (.int (3 : Int32)), .val (.int (1 : Int32)), .val (.int c0)] [(.int (1 : Int32))]
  refine own_st (fun _ k => XS.iload X2.here hx rfl (hb hby d53_15) rfl k) ?_
  show own_Go X2 (Q53 Z r0 r1 r2 g kA kB x0 x1 x2 x3 c0 c1 c2 h0 n0) 0 0 17 #[.val (.ref r0), .val (.ref r1), .val (.ref r2), .val (.int (own_tup1 g (own_at4 x0 x1 x2 x3 c0))), .val (.ref r2), .val (.int (3 : Int32)), .val (.int (1 : Int32)), .val (.int c0)] [(.int (3 : Int32)), (.int (1 : Int32))]
  have c17_3 : (1 : Int32) < (3 : Int32) := (by decide)
  refine own_st (fun _ k => XS.icmpNo X2.here hx rfl (hb hby d53_17) rfl (tlt c17_3).2.1 k) ?_
  show own_Go X2 (Q53 Z r0 r1 r2 g kA kB x0 x1 x2 x3 c0 c1 c2 h0 n0) 0 0 20 #[.val (.ref r0), .val (.ref r1), .val (.ref r2), .val (.int (own_tup1 g (own_at4 x0 x1 x2 x3 c0))), .val (.ref r2), .val (.int (3 : Int32)), .val (.int (1 : Int32)), .val (.int c0)] []
  refine own_st (fun _ k => XS.aload X2.here hx rfl (hb hby d53_20) rfl rfl k) ?_
  show own_Go X2 (Q53 Z r0 r1 r2 g kA kB x0 x1 x2 x3 c0 c1 c2 h0 n0) 0 0 22 #[.val (.ref r0), .val (.ref r1), .val (.ref r2), .val (.int (own_tup1 g (own_at4 x0 x1 x2 x3 c0))), .val (.ref r2), .val (.int (3 : Int32)), .val (.int (1 : Int32)), .val (.int c0)] [(.ref r2)]
  refine own_st (fun _ k => XS.iload X2.here hx rfl (hb hby d53_22) rfl k) ?_
  show own_Go X2 (Q53 Z r0 r1 r2 g kA kB x0 x1 x2 x3 c0 c1 c2 h0 n0) 0 0 24 #[.val (.ref r0), .val (.ref r1), .val (.ref r2), .val (.int (own_tup1 g (own_at4 x0 x1 x2 x3 c0))), .val (.ref r2), .val (.int (3 : Int32)), .val (.int (1 : Int32)), .val (.int c0)] [(.int (1 : Int32)), (.ref r2)]
  refine own_st (fun _ k => own_ldI X2 hx hZ e2 PV2 (j := (1 : Int32)) ⟨by decide, by decide⟩ (v := (.int c1)) rfl (g := (mkF m 24 #[.val (.ref r0), .val (.ref r1), .val (.ref r2), .val (.int (own_tup1 g (own_at4 x0 x1 x2 x3 c0))), .val (.ref r2), .val (.int (3 : Int32)), .val (.int (1 : Int32)), .val (.int c0)] [(.int (1 : Int32)), (.ref r2)])) rfl rfl (hb hby d53_24) _ k) ?_
  show own_Go X2 (Q53 Z r0 r1 r2 g kA kB x0 x1 x2 x3 c0 c1 c2 h0 n0) 0 0 25 #[.val (.ref r0), .val (.ref r1), .val (.ref r2), .val (.int (own_tup1 g (own_at4 x0 x1 x2 x3 c0))), .val (.ref r2), .val (.int (3 : Int32)), .val (.int (1 : Int32)), .val (.int c0)] [(.int c1)]
  refine own_st (fun _ k => XS.istore X2.here hx rfl (hb hby d53_25) rfl (l' := #[.val (.ref r0), .val (.ref r1), .val (.ref r2), .val (.int (own_tup1 g (own_at4 x0 x1 x2 x3 c0))), .val (.ref r2), .val (.int (3 : Int32)), .val (.int (1 : Int32)), .val (.int c1)]) rfl k) ?_
  show own_Go X2 (Q53 Z r0 r1 r2 g kA kB x0 x1 x2 x3 c0 c1 c2 h0 n0) 0 0 27 #[.val (.ref r0), .val (.ref r1), .val (.ref r2), .val (.int (own_tup1 g (own_at4 x0 x1 x2 x3 c0))), .val (.ref r2), .val (.int (3 : Int32)), .val (.int (1 : Int32)), .val (.int c1)] []
  refine own_st (fun _ k => XS.iloadN X2.here hx rfl (hb hby d53_27) rfl k) ?_
  show own_Go X2 (Q53 Z r0 r1 r2 g kA kB x0 x1 x2 x3 c0 c1 c2 h0 n0) 0 0 28 #[.val (.ref r0), .val (.ref r1), .val (.ref r2), .val (.int (own_tup1 g (own_at4 x0 x1 x2 x3 c0))), .val (.ref r2), .val (.int (3 : Int32)), .val (.int (1 : Int32)), .val (.int c1)] [(.int (own_tup1 g (own_at4 x0 x1 x2 x3 c0)))]
  refine own_st (fun _ k => XS.aloadN X2.here hx rfl (hb hby d53_28) rfl rfl k) ?_
  show own_Go X2 (Q53 Z r0 r1 r2 g kA kB x0 x1 x2 x3 c0 c1 c2 h0 n0) 0 0 29 #[.val (.ref r0), .val (.ref r1), .val (.ref r2), .val (.int (own_tup1 g (own_at4 x0 x1 x2 x3 c0))), .val (.ref r2), .val (.int (3 : Int32)), .val (.int (1 : Int32)), .val (.int c1)] [(.ref r0), (.int (own_tup1 g (own_at4 x0 x1 x2 x3 c0)))]
  obtain ⟨T4, X4, e4, st4⟩ := getF X2 hx hZ hown (host := "") (Or.inl (hw _ (List.mem_of_getElem? (i := 27) rfl))) Via.refl e2 P_levels (g := (mkF m 29 #[.val (.ref r0), .val (.ref r1), .val (.ref r2), .val (.int (own_tup1 g (own_at4 x0 x1 x2 x3 c0))), .val (.ref r2), .val (.int (3 : Int32)), .val (.int (1 : Int32)), .val (.int c1)] [(.ref r0), (.int (own_tup1 g (own_at4 x0 x1 x2 x3 c0)))])) rfl rfl (hb hby d53_29)
  refine own_st st4 ?_
  show own_Go X4 (Q53 Z r0 r1 r2 g kA kB x0 x1 x2 x3 c0 c1 c2 h0 n0) 0 0 32 #[.val (.ref r0), .val (.ref r1), .val (.ref r2), .val (.int (own_tup1 g (own_at4 x0 x1 x2 x3 c0))), .val (.ref r2), .val (.int (3 : Int32)), .val (.int (1 : Int32)), .val (.int c1)] [(.int g), (.int (own_tup1 g (own_at4 x0 x1 x2 x3 c0)))]
  refine own_st (fun _ k => XS.imul X4.here hx rfl (hb hby d53_32) rfl k) ?_
  show own_Go X4 (Q53 Z r0 r1 r2 g kA kB x0 x1 x2 x3 c0 c1 c2 h0 n0) 0 0 33 #[.val (.ref r0), .val (.ref r1), .val (.ref r2), .val (.int (own_tup1 g (own_at4 x0 x1 x2 x3 c0))), .val (.ref r2), .val (.int (3 : Int32)), .val (.int (1 : Int32)), .val (.int c1)] [(.int ((own_tup1 g (own_at4 x0 x1 x2 x3 c0)) * g))]
  refine own_st (fun _ k => XS.aloadN X4.here hx rfl (hb hby d53_33) rfl rfl k) ?_
  show own_Go X4 (Q53 Z r0 r1 r2 g kA kB x0 x1 x2 x3 c0 c1 c2 h0 n0) 0 0 34 #[.val (.ref r0), .val (.ref r1), .val (.ref r2), .val (.int (own_tup1 g (own_at4 x0 x1 x2 x3 c0))), .val (.ref r2), .val (.int (3 : Int32)), .val (.int (1 : Int32)), .val (.int c1)] [(.ref r1), (.int ((own_tup1 g (own_at4 x0 x1 x2 x3 c0)) * g))]
  refine own_st (fun _ k => XS.iload X4.here hx rfl (hb hby d53_34) rfl k) ?_
  show own_Go X4 (Q53 Z r0 r1 r2 g kA kB x0 x1 x2 x3 c0 c1 c2 h0 n0) 0 0 36 #[.val (.ref r0), .val (.ref r1), .val (.ref r2), .val (.int (own_tup1 g (own_at4 x0 x1 x2 x3 c0))), .val (.ref r2), .val (.int (3 : Int32)), .val (.int (1 : Int32)), .val (.int c1)] [(.int c1), (.ref r1), (.int ((own_tup1 g (own_at4 x0 x1 x2 x3 c0)) * g))]
  refine own_st (fun _ k => own_ldI X4 hx hZ e4 PV1 (j := c1) B1 (v := (.int (own_at4 x0 x1 x2 x3 c1))) (own_getD4 B1) (g := (mkF m 36 #[.val (.ref r0), .val (.ref r1), .val (.ref r2), .val (.int (own_tup1 g (own_at4 x0 x1 x2 x3 c0))), .val (.ref r2), .val (.int (3 : Int32)), .val (.int (1 : Int32)), .val (.int c1)] [(.int c1), (.ref r1), (.int ((own_tup1 g (own_at4 x0 x1 x2 x3 c0)) * g))])) rfl rfl (hb hby d53_36) _ k) ?_
  show own_Go X4 (Q53 Z r0 r1 r2 g kA kB x0 x1 x2 x3 c0 c1 c2 h0 n0) 0 0 37 #[.val (.ref r0), .val (.ref r1), .val (.ref r2), .val (.int (own_tup1 g (own_at4 x0 x1 x2 x3 c0))), .val (.ref r2), .val (.int (3 : Int32)), .val (.int (1 : Int32)), .val (.int c1)] [(.int (own_at4 x0 x1 x2 x3 c1)), (.int ((own_tup1 g (own_at4 x0 x1 x2 x3 c0)) * g))]
  refine own_st (fun _ k => XS.iadd X4.here hx rfl (hb hby d53_37) rfl k) ?_
  show own_Go X4 (Q53 Z r0 r1 r2 g kA kB x0 x1 x2 x3 c0 c1 c2 h0 n0) 0 0 38 #[.val (.ref r0), .val (.ref r1), .val (.ref r2), .val (.int (own_tup1 g (own_at4 x0 x1 x2 x3 c0))), .val (.ref r2), .val (.int (3 : Int32)), .val (.int (1 : Int32)), .val (.int c1)] [(.int (((own_tup1 g (own_at4 x0 x1 x2 x3 c0)) * g) + (own_at4 x0 x1 x2 x3 c1)))]
  refine own_st (fun _ k => XS.istoreN X4.here hx rfl (hb hby d53_38) rfl (l' := #[.val (.ref r0), .val (.ref r1), .val (.ref r2), .val (.int (((own_tup1 g (own_at4 x0 x1 x2 x3 c0)) * g) + (own_at4 x0 x1 x2 x3 c1))), .val (.ref r2), .val (.int (3 : Int32)), .val (.int (1 : Int32)), .val (.int c1)]) rfl k) ?_
  show own_Go X4 (Q53 Z r0 r1 r2 g kA kB x0 x1 x2 x3 c0 c1 c2 h0 n0) 0 0 39 #[.val (.ref r0), .val (.ref r1), .val (.ref r2), .val (.int (((own_tup1 g (own_at4 x0 x1 x2 x3 c0)) * g) + (own_at4 x0 x1 x2 x3 c1))), .val (.ref r2), .val (.int (3 : Int32)), .val (.int (1 : Int32)), .val (.int c1)] []
  show own_Go X4 (Q53 Z r0 r1 r2 g kA kB x0 x1 x2 x3 c0 c1 c2 h0 n0) 0 0 39 #[.val (.ref r0), .val (.ref r1), .val (.ref r2), .val (.int (own_tup2 g (own_at4 x0 x1 x2 x3 c0) (own_at4 x0 x1 x2 x3 c1))), .val (.ref r2), .val (.int (3 : Int32)), .val (.int (1 : Int32)), .val (.int c1)] []
  refine own_st (fun _ k => XS.iinc X4.here hx rfl (hb hby d53_39) rfl (l' := #[.val (.ref r0), .val (.ref r1), .val (.ref r2), .val (.int (own_tup2 g (own_at4 x0 x1 x2 x3 c0) (own_at4 x0 x1 x2 x3 c1))), .val (.ref r2), .val (.int (3 : Int32)), .val (.int (2 : Int32)), .val (.int c1)]) rfl k) ?_
  show own_Go X4 (Q53 Z r0 r1 r2 g kA kB x0 x1 x2 x3 c0 c1 c2 h0 n0) 0 0 42 #[.val (.ref r0), .val (.ref r1), .val (.ref r2), .val (.int (own_tup2 g (own_at4 x0 x1 x2 x3 c0) (own_at4 x0 x1 x2 x3 c1))), .val (.ref r2), .val (.int (3 : Int32)), .val (.int (2 : Int32)), .val (.int c1)] []
  refine own_st (fun _ k => XS.goto X4.here hx rfl (pc0 := 42) (pc' := 13) rfl (hb hby d53_42) (by decide) (by decide) k) ?_
  show own_Go X4 (Q53 Z r0 r1 r2 g kA kB x0 x1 x2 x3 c0 c1 c2 h0 n0) 0 0 13 #[.val (.ref r0), .val (.ref r1), .val (.ref r2), .val (.int (own_tup2 g (own_at4 x0 x1 x2 x3 c0) (own_at4 x0 x1 x2 x3 c1))), .val (.ref r2), .val (.int (3 : Int32)), .val (.int (2 : Int32)), .val (.int c1)] []
  refine own_st (fun _ k => XS.iload X4.here hx rfl (hb hby d53_13) rfl k) ?_
  show own_Go X4 (Q53 Z r0 r1 r2 g kA kB x0 x1 x2 x3 c0 c1 c2 h0 n0) 0 0 15 #[.val (.ref r0), .val (.ref r1), .val (.ref r2), .val (.int (own_tup2 g (own_at4 x0 x1 x2 x3 c0) (own_at4 x0 x1 x2 x3 c1))), .val (.ref r2), .val (.int (3 : Int32)), .val (.int (2 : Int32)), .val (.int c1)] [(.int (2 : Int32))]
  refine own_st (fun _ k => XS.iload X4.here hx rfl (hb hby d53_15) rfl k) ?_
  show own_Go X4 (Q53 Z r0 r1 r2 g kA kB x0 x1 x2 x3 c0 c1 c2 h0 n0) 0 0 17 #[.val (.ref r0), .val (.ref r1), .val (.ref r2), .val (.int (own_tup2 g (own_at4 x0 x1 x2 x3 c0) (own_at4 x0 x1 x2 x3 c1))), .val (.ref r2), .val (.int (3 : Int32)), .val (.int (2 : Int32)), .val (.int c1)] [(.int (3 : Int32)), (.int (2 : Int32))]
  have c17_5 : (2 : Int32) < (3 : Int32) := (by decide)
  refine own_st (fun _ k => XS.icmpNo X4.here hx rfl (hb hby d53_17) rfl (tlt c17_5).2.1 k) ?_
  show own_Go X4 (Q53 Z r0 r1 r2 g kA kB x0 x1 x2 x3 c0 c1 c2 h0 n0) 0 0 20 #[.val (.ref r0), .val (.ref r1), .val (.ref r2), .val (.int (own_tup2 g (own_at4 x0 x1 x2 x3 c0) (own_at4 x0 x1 x2 x3 c1))), .val (.ref r2), .val (.int (3 : Int32)), .val (.int (2 : Int32)), .val (.int c1)] []
  refine own_st (fun _ k => XS.aload X4.here hx rfl (hb hby d53_20) rfl rfl k) ?_
  show own_Go X4 (Q53 Z r0 r1 r2 g kA kB x0 x1 x2 x3 c0 c1 c2 h0 n0) 0 0 22 #[.val (.ref r0), .val (.ref r1), .val (.ref r2), .val (.int (own_tup2 g (own_at4 x0 x1 x2 x3 c0) (own_at4 x0 x1 x2 x3 c1))), .val (.ref r2), .val (.int (3 : Int32)), .val (.int (2 : Int32)), .val (.int c1)] [(.ref r2)]
  refine own_st (fun _ k => XS.iload X4.here hx rfl (hb hby d53_22) rfl k) ?_
  show own_Go X4 (Q53 Z r0 r1 r2 g kA kB x0 x1 x2 x3 c0 c1 c2 h0 n0) 0 0 24 #[.val (.ref r0), .val (.ref r1), .val (.ref r2), .val (.int (own_tup2 g (own_at4 x0 x1 x2 x3 c0) (own_at4 x0 x1 x2 x3 c1))), .val (.ref r2), .val (.int (3 : Int32)), .val (.int (2 : Int32)), .val (.int c1)] [(.int (2 : Int32)), (.ref r2)]
  refine own_st (fun _ k => own_ldI X4 hx hZ e4 PV2 (j := (2 : Int32)) ⟨by decide, by decide⟩ (v := (.int c2)) rfl (g := (mkF m 24 #[.val (.ref r0), .val (.ref r1), .val (.ref r2), .val (.int (own_tup2 g (own_at4 x0 x1 x2 x3 c0) (own_at4 x0 x1 x2 x3 c1))), .val (.ref r2), .val (.int (3 : Int32)), .val (.int (2 : Int32)), .val (.int c1)] [(.int (2 : Int32)), (.ref r2)])) rfl rfl (hb hby d53_24) _ k) ?_
  show own_Go X4 (Q53 Z r0 r1 r2 g kA kB x0 x1 x2 x3 c0 c1 c2 h0 n0) 0 0 25 #[.val (.ref r0), .val (.ref r1), .val (.ref r2), .val (.int (own_tup2 g (own_at4 x0 x1 x2 x3 c0) (own_at4 x0 x1 x2 x3 c1))), .val (.ref r2), .val (.int (3 : Int32)), .val (.int (2 : Int32)), .val (.int c1)] [(.int c2)]
  refine own_st (fun _ k => XS.istore X4.here hx rfl (hb hby d53_25) rfl (l' := #[.val (.ref r0), .val (.ref r1), .val (.ref r2), .val (.int (own_tup2 g (own_at4 x0 x1 x2 x3 c0) (own_at4 x0 x1 x2 x3 c1))), .val (.ref r2), .val (.int (3 : Int32)), .val (.int (2 : Int32)), .val (.int c2)]) rfl k) ?_
  show own_Go X4 (Q53 Z r0 r1 r2 g kA kB x0 x1 x2 x3 c0 c1 c2 h0 n0) 0 0 27 #[.val (.ref r0), .val (.ref r1), .val (.ref r2), .val (.int (own_tup2 g (own_at4 x0 x1 x2 x3 c0) (own_at4 x0 x1 x2 x3 c1))), .val (.ref r2), .val (.int (3 : Int32)), .val (.int (2 : Int32)), .val (.int c2)] []
  refine own_st (fun _ k => XS.iloadN X4.here hx rfl (hb hby d53_27) rfl k) ?_
  show own_Go X4 (Q53 Z r0 r1 r2 g kA kB x0 x1 x2 x3 c0 c1 c2 h0 n0) 0 0 28 #[.val (.ref r0), .val (.ref r1), .val (.ref r2), .val (.int (own_tup2 g (own_at4 x0 x1 x2 x3 c0) (own_at4 x0 x1 x2 x3 c1))), .val (.ref r2), .val (.int (3 : Int32)), .val (.int (2 : Int32)), .val (.int c2)] [(.int (own_tup2 g (own_at4 x0 x1 x2 x3 c0) (own_at4 x0 x1 x2 x3 c1)))]
  refine own_st (fun _ k => XS.aloadN X4.here hx rfl (hb hby d53_28) rfl rfl k) ?_
  show own_Go X4 (Q53 Z r0 r1 r2 g kA kB x0 x1 x2 x3 c0 c1 c2 h0 n0) 0 0 29 #[.val (.ref r0), .val (.ref r1), .val (.ref r2), .val (.int (own_tup2 g (own_at4 x0 x1 x2 x3 c0) (own_at4 x0 x1 x2 x3 c1))), .val (.ref r2), .val (.int (3 : Int32)), .val (.int (2 : Int32)), .val (.int c2)] [(.ref r0), (.int (own_tup2 g (own_at4 x0 x1 x2 x3 c0) (own_at4 x0 x1 x2 x3 c1)))]
  obtain ⟨T6, X6, e6, st6⟩ := getF X4 hx hZ hown (host := "") (Or.inl (hw _ (List.mem_of_getElem? (i := 27) rfl))) Via.refl e4 P_levels (g := (mkF m 29 #[.val (.ref r0), .val (.ref r1), .val (.ref r2), .val (.int (own_tup2 g (own_at4 x0 x1 x2 x3 c0) (own_at4 x0 x1 x2 x3 c1))), .val (.ref r2), .val (.int (3 : Int32)), .val (.int (2 : Int32)), .val (.int c2)] [(.ref r0), (.int (own_tup2 g (own_at4 x0 x1 x2 x3 c0) (own_at4 x0 x1 x2 x3 c1)))])) rfl rfl (hb hby d53_29)
  refine own_st st6 ?_
  show own_Go X6 (Q53 Z r0 r1 r2 g kA kB x0 x1 x2 x3 c0 c1 c2 h0 n0) 0 0 32 #[.val (.ref r0), .val (.ref r1), .val (.ref r2), .val (.int (own_tup2 g (own_at4 x0 x1 x2 x3 c0) (own_at4 x0 x1 x2 x3 c1))), .val (.ref r2), .val (.int (3 : Int32)), .val (.int (2 : Int32)), .val (.int c2)] [(.int g), (.int (own_tup2 g (own_at4 x0 x1 x2 x3 c0) (own_at4 x0 x1 x2 x3 c1)))]
  refine own_st (fun _ k => XS.imul X6.here hx rfl (hb hby d53_32) rfl k) ?_
  show own_Go X6 (Q53 Z r0 r1 r2 g kA kB x0 x1 x2 x3 c0 c1 c2 h0 n0) 0 0 33 #[.val (.ref r0), .val (.ref r1), .val (.ref r2), .val (.int (own_tup2 g (own_at4 x0 x1 x2 x3 c0) (own_at4 x0 x1 x2 x3 c1))), .val (.ref r2), .val (.int (3 : Int32)), .val (.int (2 : Int32)), .val (.int c2)] [(.int ((own_tup2 g (own_at4 x0 x1 x2 x3 c0) (own_at4 x0 x1 x2 x3 c1)) * g))]
  refine own_st (fun _ k => XS.aloadN X6.here hx rfl (hb hby d53_33) rfl rfl k) ?_
  show own_Go X6 (Q53 Z r0 r1 r2 g kA kB x0 x1 x2 x3 c0 c1 c2 h0 n0) 0 0 34 #[.val (.ref r0), .val (.ref r1), .val (.ref r2), .val (.int (own_tup2 g (own_at4 x0 x1 x2 x3 c0) (own_at4 x0 x1 x2 x3 c1))), .val (.ref r2), .val (.int (3 : Int32)), .val (.int (2 : Int32)), .val (.int c2)] [(.ref r1), (.int ((own_tup2 g (own_at4 x0 x1 x2 x3 c0) (own_at4 x0 x1 x2 x3 c1)) * g))]
  refine own_st (fun _ k => XS.iload X6.here hx rfl (hb hby d53_34) rfl k) ?_
  show own_Go X6 (Q53 Z r0 r1 r2 g kA kB x0 x1 x2 x3 c0 c1 c2 h0 n0) 0 0 36 #[.val (.ref r0), .val (.ref r1), .val (.ref r2), .val (.int (own_tup2 g (own_at4 x0 x1 x2 x3 c0) (own_at4 x0 x1 x2 x3 c1))), .val (.ref r2), .val (.int (3 : Int32)), .val (.int (2 : Int32)), .val (.int c2)] [(.int c2), (.ref r1), (.int ((own_tup2 g (own_at4 x0 x1 x2 x3 c0) (own_at4 x0 x1 x2 x3 c1)) * g))]
  refine own_st (fun _ k => own_ldI X6 hx hZ e6 PV1 (j := c2) B2 (v := (.int (own_at4 x0 x1 x2 x3 c2))) (own_getD4 B2) (g := (mkF m 36 #[.val (.ref r0), .val (.ref r1), .val (.ref r2), .val (.int (own_tup2 g (own_at4 x0 x1 x2 x3 c0) (own_at4 x0 x1 x2 x3 c1))), .val (.ref r2), .val (.int (3 : Int32)), .val (.int (2 : Int32)), .val (.int c2)] [(.int c2), (.ref r1), (.int ((own_tup2 g (own_at4 x0 x1 x2 x3 c0) (own_at4 x0 x1 x2 x3 c1)) * g))])) rfl rfl (hb hby d53_36) _ k) ?_
  show own_Go X6 (Q53 Z r0 r1 r2 g kA kB x0 x1 x2 x3 c0 c1 c2 h0 n0) 0 0 37 #[.val (.ref r0), .val (.ref r1), .val (.ref r2), .val (.int (own_tup2 g (own_at4 x0 x1 x2 x3 c0) (own_at4 x0 x1 x2 x3 c1))), .val (.ref r2), .val (.int (3 : Int32)), .val (.int (2 : Int32)), .val (.int c2)] [(.int (own_at4 x0 x1 x2 x3 c2)), (.int ((own_tup2 g (own_at4 x0 x1 x2 x3 c0) (own_at4 x0 x1 x2 x3 c1)) * g))]
  refine own_st (fun _ k => XS.iadd X6.here hx rfl (hb hby d53_37) rfl k) ?_
  show own_Go X6 (Q53 Z r0 r1 r2 g kA kB x0 x1 x2 x3 c0 c1 c2 h0 n0) 0 0 38 #[.val (.ref r0), .val (.ref r1), .val (.ref r2), .val (.int (own_tup2 g (own_at4 x0 x1 x2 x3 c0) (own_at4 x0 x1 x2 x3 c1))), .val (.ref r2), .val (.int (3 : Int32)), .val (.int (2 : Int32)), .val (.int c2)] [(.int (((own_tup2 g (own_at4 x0 x1 x2 x3 c0) (own_at4 x0 x1 x2 x3 c1)) * g) + (own_at4 x0 x1 x2 x3 c2)))]
  refine own_st (fun _ k => XS.istoreN X6.here hx rfl (hb hby d53_38) rfl (l' := #[.val (.ref r0), .val (.ref r1), .val (.ref r2), .val (.int (((own_tup2 g (own_at4 x0 x1 x2 x3 c0) (own_at4 x0 x1 x2 x3 c1)) * g) + (own_at4 x0 x1 x2 x3 c2))), .val (.ref r2), .val (.int (3 : Int32)), .val (.int (2 : Int32)), .val (.int c2)]) rfl k) ?_
  show own_Go X6 (Q53 Z r0 r1 r2 g kA kB x0 x1 x2 x3 c0 c1 c2 h0 n0) 0 0 39 #[.val (.ref r0), .val (.ref r1), .val (.ref r2), .val (.int (((own_tup2 g (own_at4 x0 x1 x2 x3 c0) (own_at4 x0 x1 x2 x3 c1)) * g) + (own_at4 x0 x1 x2 x3 c2))), .val (.ref r2), .val (.int (3 : Int32)), .val (.int (2 : Int32)), .val (.int c2)] []
  show own_Go X6 (Q53 Z r0 r1 r2 g kA kB x0 x1 x2 x3 c0 c1 c2 h0 n0) 0 0 39 #[.val (.ref r0), .val (.ref r1), .val (.ref r2), .val (.int (own_tup3 g (own_at4 x0 x1 x2 x3 c0) (own_at4 x0 x1 x2 x3 c1) (own_at4 x0 x1 x2 x3 c2))), .val (.ref r2), .val (.int (3 : Int32)), .val (.int (2 : Int32)), .val (.int c2)] []
  refine own_st (fun _ k => XS.iinc X6.here hx rfl (hb hby d53_39) rfl (l' := #[.val (.ref r0), .val (.ref r1), .val (.ref r2), .val (.int (own_tup3 g (own_at4 x0 x1 x2 x3 c0) (own_at4 x0 x1 x2 x3 c1) (own_at4 x0 x1 x2 x3 c2))), .val (.ref r2), .val (.int (3 : Int32)), .val (.int (3 : Int32)), .val (.int c2)]) rfl k) ?_
  show own_Go X6 (Q53 Z r0 r1 r2 g kA kB x0 x1 x2 x3 c0 c1 c2 h0 n0) 0 0 42 #[.val (.ref r0), .val (.ref r1), .val (.ref r2), .val (.int (own_tup3 g (own_at4 x0 x1 x2 x3 c0) (own_at4 x0 x1 x2 x3 c1) (own_at4 x0 x1 x2 x3 c2))), .val (.ref r2), .val (.int (3 : Int32)), .val (.int (3 : Int32)), .val (.int c2)] []
  refine own_st (fun _ k => XS.goto X6.here hx rfl (pc0 := 42) (pc' := 13) rfl (hb hby d53_42) (by decide) (by decide) k) ?_
  show own_Go X6 (Q53 Z r0 r1 r2 g kA kB x0 x1 x2 x3 c0 c1 c2 h0 n0) 0 0 13 #[.val (.ref r0), .val (.ref r1), .val (.ref r2), .val (.int (own_tup3 g (own_at4 x0 x1 x2 x3 c0) (own_at4 x0 x1 x2 x3 c1) (own_at4 x0 x1 x2 x3 c2))), .val (.ref r2), .val (.int (3 : Int32)), .val (.int (3 : Int32)), .val (.int c2)] []
  refine own_st (fun _ k => XS.iload X6.here hx rfl (hb hby d53_13) rfl k) ?_
  show own_Go X6 (Q53 Z r0 r1 r2 g kA kB x0 x1 x2 x3 c0 c1 c2 h0 n0) 0 0 15 #[.val (.ref r0), .val (.ref r1), .val (.ref r2), .val (.int (own_tup3 g (own_at4 x0 x1 x2 x3 c0) (own_at4 x0 x1 x2 x3 c1) (own_at4 x0 x1 x2 x3 c2))), .val (.ref r2), .val (.int (3 : Int32)), .val (.int (3 : Int32)), .val (.int c2)] [(.int (3 : Int32))]
  refine own_st (fun _ k => XS.iload X6.here hx rfl (hb hby d53_15) rfl k) ?_
  show own_Go X6 (Q53 Z r0 r1 r2 g kA kB x0 x1 x2 x3 c0 c1 c2 h0 n0) 0 0 17 #[.val (.ref r0), .val (.ref r1), .val (.ref r2), .val (.int (own_tup3 g (own_at4 x0 x1 x2 x3 c0) (own_at4 x0 x1 x2 x3 c1) (own_at4 x0 x1 x2 x3 c2))), .val (.ref r2), .val (.int (3 : Int32)), .val (.int (3 : Int32)), .val (.int c2)] [(.int (3 : Int32)), (.int (3 : Int32))]
  have c17_7 : ¬ ((3 : Int32) < (3 : Int32)) := (by decide)
  refine own_st (fun _ k => XS.icmpYes X6.here hx rfl (pc0 := 17) (pc' := 45) rfl (hb hby d53_17) rfl (flt c17_7).2.1 (by decide) (by decide) k) ?_
  show own_Go X6 (Q53 Z r0 r1 r2 g kA kB x0 x1 x2 x3 c0 c1 c2 h0 n0) 0 0 45 #[.val (.ref r0), .val (.ref r1), .val (.ref r2), .val (.int (own_tup3 g (own_at4 x0 x1 x2 x3 c0) (own_at4 x0 x1 x2 x3 c1) (own_at4 x0 x1 x2 x3 c2))), .val (.ref r2), .val (.int (3 : Int32)), .val (.int (3 : Int32)), .val (.int c2)] []
  refine own_st (fun _ k => XS.iloadN X6.here hx rfl (hb hby d53_45) rfl k) ?_
  show own_Go X6 (Q53 Z r0 r1 r2 g kA kB x0 x1 x2 x3 c0 c1 c2 h0 n0) 0 0 46 #[.val (.ref r0), .val (.ref r1), .val (.ref r2), .val (.int (own_tup3 g (own_at4 x0 x1 x2 x3 c0) (own_at4 x0 x1 x2 x3 c1) (own_at4 x0 x1 x2 x3 c2))), .val (.ref r2), .val (.int (3 : Int32)), .val (.int (3 : Int32)), .val (.int c2)] [(.int (own_tup3 g (own_at4 x0 x1 x2 x3 c0) (own_at4 x0 x1 x2 x3 c1) (own_at4 x0 x1 x2 x3 c2)))]
  refine own_retI X6 hx Bd.returns hlk e6 (hb hby d53_46) (by decide) (by decide) ?_
  exact ⟨rfl, N0, rfl⟩
theorem pn_0 : plainName "com/example/gingham/gingham/designs/CoveringArraySpecTupleOfPinLaw" = true := by first | (simp [plainName, overriddenIn]; done) | decide +kernel
theorem pd_0_0 : parseMethodDescriptor "(IIII)V" = some ⟨[.int, .int, .int, .int], none⟩ := by decide +kernel
theorem pd_0_1 : parseMethodDescriptor "([I[I)I" = some ⟨[(.array .int), (.array .int)], some .int⟩ := by decide +kernel
theorem ef_0 (m : MethodId) (p0 : Int32) (p1 : Int32) (p2 : Int32) (p3 : Int32) (p4 : Int32) (p5 : Int32) : entryFrame m #[(.int p0), (.int p1), (.int p2), (.int p3), (.int p4), (.int p5)] maxLocals = mkF m 0 #[.val (.int p0), .val (.int p1), .val (.int p2), .val (.int p3), .val (.int p4), .val (.int p5), .unset, .unset, .unset, .unset, .unset, .unset, .unset, .unset, .unset, .unset, .unset, .unset, .unset, .unset, .unset, .unset, .unset, .unset, .unset] [] := by first | (simp [entryFrame, mkF, argsToLocals, Value.category, maxLocals]; done) | rfl
def Q0 (Z : State) (p0 : Int32) (p1 : Int32) (p2 : Int32) (p3 : Int32) (p4 : Int32) (p5 : Int32)  (h0 : Heap) (n0 : Nat) (v : Option Value) (h : Heap) (L : List Loc) : Prop := v = some (.int 1) ∧ Fr n0 L
set_option maxRecDepth 65536 in
set_option maxHeartbeats 40000000 in
theorem rm0 (l : Launch) (Z : State) (a0 : Array Value) (hw : ∀ d ∈ tables_1, d.before a0 Z = true) (ws : List Jvm.Cond) (p0 : Int32) (p1 : Int32) (p2 : Int32) (p3 : Int32) (p4 : Int32) (p5 : Int32)  (h0 : Heap) (n0 : Nat) (Z0 : n0 ≤ h0.size)  :
    MetFree l x (head1 (Jvm.Cond.code x code maxLocals ret :: ws) room_1) (fun a U => a = #[(.int p0), (.int p1), (.int p2), (.int p3), (.int p4), (.int p5)] ∧ Z.Warmed39 U.vm ∧ U.heap = h0) (fun _ _ _ _ _ => True) (fun _ U o U' => ∃ v L, o = .returned v ∧ Q0 Z p0 p1 p2 p3 p4 p5 h0 n0 v U'.heap L ∧ FrameEnd U o U' L 3 11) := by
  refine MetFree.of_bodySF (plainFor_of_name pn_0) hisR ?_
  intro p e s m args below meth c s₁ Bd hml0 hP hK
  obtain ⟨rfl, hZ, hh⟩ := hP
  have hx := Bd.exec
  have hby := Bd.bytes
  have hml : c.maxLocals = 25 := hml0
  have hown : s.vm.findClass "com/example/gingham/gingham/designs/CoveringArraySpecTupleOfPinLaw" = some m.cls := findClass_of_methodNamed Bd.named
  have hnm := (name_of_methodNamed Bd.named Bd.method).1
  have hlk : meth.locks = false := Bd.notSynchronized
  have X0 : Stand p l e room_1 s m #[(.int p0), (.int p1), (.int p2), (.int p3), (.int p4), (.int p5)] below meth c s₁ [] 0 0 := Stand.of_body Bd
  have e0 : s₁.heap = h0 := by rw [← hh, Bd.state]; rfl
  have N0 := Fr.nil n0
  refine own_cast (Q := Q0 Z p0 p1 p2 p3 p4 p5 h0 n0) (kc := 3) (ks := 11) (ef_0 m p0 p1 p2 p3 p4 p5) ?_
  refine own_st (fun _ k => XS.iloadN X0.here hx rfl (hb hby at_0) rfl k) ?_
  show own_Go X0 (Q0 Z p0 p1 p2 p3 p4 p5 h0 n0) 3 11 1 #[.val (.int p0), .val (.int p1), .val (.int p2), .val (.int p3), .val (.int p4), .val (.int p5), .unset, .unset, .unset, .unset, .unset, .unset, .unset, .unset, .unset, .unset, .unset, .unset, .unset, .unset, .unset, .unset, .unset, .unset, .unset] [(.int p0)]
  refine own_st (fun _ k => XS.bipush X0.here hx rfl (hb hby at_1) k) ?_
  show own_Go X0 (Q0 Z p0 p1 p2 p3 p4 p5 h0 n0) 3 11 3 #[.val (.int p0), .val (.int p1), .val (.int p2), .val (.int p3), .val (.int p4), .val (.int p5), .unset, .unset, .unset, .unset, .unset, .unset, .unset, .unset, .unset, .unset, .unset, .unset, .unset, .unset, .unset, .unset, .unset, .unset, .unset] [(.int (8 : Int32)), (.int p0)]
  refine own_st (fun _ k => XS.iushr X0.here hx rfl (hb hby at_3) rfl k) ?_
  show own_Go X0 (Q0 Z p0 p1 p2 p3 p4 p5 h0 n0) 3 11 4 #[.val (.int p0), .val (.int p1), .val (.int p2), .val (.int p3), .val (.int p4), .val (.int p5), .unset, .unset, .unset, .unset, .unset, .unset, .unset, .unset, .unset, .unset, .unset, .unset, .unset, .unset, .unset, .unset, .unset, .unset, .unset] [(.int ((p0.toUInt32 >>> ((8 : Int32) &&& 31).toUInt32).toInt32))]
  refine own_st (fun _ k => XS.iconst X0.here hx rfl (hb hby at_4) k) ?_
  show own_Go X0 (Q0 Z p0 p1 p2 p3 p4 p5 h0 n0) 3 11 5 #[.val (.int p0), .val (.int p1), .val (.int p2), .val (.int p3), .val (.int p4), .val (.int p5), .unset, .unset, .unset, .unset, .unset, .unset, .unset, .unset, .unset, .unset, .unset, .unset, .unset, .unset, .unset, .unset, .unset, .unset, .unset] [(.int (3 : Int32)), (.int ((p0.toUInt32 >>> ((8 : Int32) &&& 31).toUInt32).toInt32))]
  refine own_st (fun _ k => iremM X0 hx rfl (hb hby at_5) rfl (by decide) k) ?_
  show own_Go X0 (Q0 Z p0 p1 p2 p3 p4 p5 h0 n0) 3 11 6 #[.val (.int p0), .val (.int p1), .val (.int p2), .val (.int p3), .val (.int p4), .val (.int p5), .unset, .unset, .unset, .unset, .unset, .unset, .unset, .unset, .unset, .unset, .unset, .unset, .unset, .unset, .unset, .unset, .unset, .unset, .unset] [(.int (((p0.toUInt32 >>> ((8 : Int32) &&& 31).toUInt32).toInt32) % (3 : Int32)))]
  refine own_st (fun _ k => XS.iconst X0.here hx rfl (hb hby at_6) k) ?_
  show own_Go X0 (Q0 Z p0 p1 p2 p3 p4 p5 h0 n0) 3 11 7 #[.val (.int p0), .val (.int p1), .val (.int p2), .val (.int p3), .val (.int p4), .val (.int p5), .unset, .unset, .unset, .unset, .unset, .unset, .unset, .unset, .unset, .unset, .unset, .unset, .unset, .unset, .unset, .unset, .unset, .unset, .unset] [(.int (1 : Int32)), (.int (((p0.toUInt32 >>> ((8 : Int32) &&& 31).toUInt32).toInt32) % (3 : Int32)))]
  refine own_st (fun _ k => XS.iadd X0.here hx rfl (hb hby at_7) rfl k) ?_
  show own_Go X0 (Q0 Z p0 p1 p2 p3 p4 p5 h0 n0) 3 11 8 #[.val (.int p0), .val (.int p1), .val (.int p2), .val (.int p3), .val (.int p4), .val (.int p5), .unset, .unset, .unset, .unset, .unset, .unset, .unset, .unset, .unset, .unset, .unset, .unset, .unset, .unset, .unset, .unset, .unset, .unset, .unset] [(.int ((((p0.toUInt32 >>> ((8 : Int32) &&& 31).toUInt32).toInt32) % (3 : Int32)) + (1 : Int32)))]
  refine own_st (fun _ k => XS.istore X0.here hx rfl (hb hby at_8) rfl (l' := #[.val (.int p0), .val (.int p1), .val (.int p2), .val (.int p3), .val (.int p4), .val (.int p5), .val (.int ((((p0.toUInt32 >>> ((8 : Int32) &&& 31).toUInt32).toInt32) % (3 : Int32)) + (1 : Int32))), .unset, .unset, .unset, .unset, .unset, .unset, .unset, .unset, .unset, .unset, .unset, .unset, .unset, .unset, .unset, .unset, .unset, .unset]) rfl k) ?_
  show own_Go X0 (Q0 Z p0 p1 p2 p3 p4 p5 h0 n0) 3 11 10 #[.val (.int p0), .val (.int p1), .val (.int p2), .val (.int p3), .val (.int p4), .val (.int p5), .val (.int ((((p0.toUInt32 >>> ((8 : Int32) &&& 31).toUInt32).toInt32) % (3 : Int32)) + (1 : Int32))), .unset, .unset, .unset, .unset, .unset, .unset, .unset, .unset, .unset, .unset, .unset, .unset, .unset, .unset, .unset, .unset, .unset, .unset] []
  generalize htt : ((((p0.toUInt32 >>> ((8 : Int32) &&& 31).toUInt32).toInt32) % (3 : Int32)) + (1 : Int32)) = tt
  show own_Go X0 (Q0 Z p0 p1 p2 p3 p4 p5 h0 n0) 3 11 10 #[.val (.int p0), .val (.int p1), .val (.int p2), .val (.int p3), .val (.int p4), .val (.int p5), .val (.int tt), .unset, .unset, .unset, .unset, .unset, .unset, .unset, .unset, .unset, .unset, .unset, .unset, .unset, .unset, .unset, .unset, .unset, .unset] []
  rcases own_tt htt with rfl | rfl | rfl
  · skip
    show own_Go X0 (Q0 Z p0 p1 p2 p3 p4 p5 h0 n0) 3 11 10 #[.val (.int p0), .val (.int p1), .val (.int p2), .val (.int p3), .val (.int p4), .val (.int p5), .val (.int (1 : Int32)), .unset, .unset, .unset, .unset, .unset, .unset, .unset, .unset, .unset, .unset, .unset, .unset, .unset, .unset, .unset, .unset, .unset, .unset] []
    refine own_st (fun _ k => XS.iload X0.here hx rfl (hb hby at_10) rfl k) ?_
    show own_Go X0 (Q0 Z p0 p1 p2 p3 p4 p5 h0 n0) 3 11 12 #[.val (.int p0), .val (.int p1), .val (.int p2), .val (.int p3), .val (.int p4), .val (.int p5), .val (.int (1 : Int32)), .unset, .unset, .unset, .unset, .unset, .unset, .unset, .unset, .unset, .unset, .unset, .unset, .unset, .unset, .unset, .unset, .unset, .unset] [(.int (1 : Int32))]
    refine own_st (fun _ k => XS.iconst X0.here hx rfl (hb hby at_12) k) ?_
    show own_Go X0 (Q0 Z p0 p1 p2 p3 p4 p5 h0 n0) 3 11 13 #[.val (.int p0), .val (.int p1), .val (.int p2), .val (.int p3), .val (.int p4), .val (.int p5), .val (.int (1 : Int32)), .unset, .unset, .unset, .unset, .unset, .unset, .unset, .unset, .unset, .unset, .unset, .unset, .unset, .unset, .unset, .unset, .unset, .unset] [(.int (1 : Int32)), (.int (1 : Int32))]
    have c13_1 : (1 : Int32) = (1 : Int32) := (by decide)
    refine own_st (fun _ k => XS.icmpNo X0.here hx rfl (hb hby at_13) rfl (teq c13_1).2 k) ?_
    show own_Go X0 (Q0 Z p0 p1 p2 p3 p4 p5 h0 n0) 3 11 16 #[.val (.int p0), .val (.int p1), .val (.int p2), .val (.int p3), .val (.int p4), .val (.int p5), .val (.int (1 : Int32)), .unset, .unset, .unset, .unset, .unset, .unset, .unset, .unset, .unset, .unset, .unset, .unset, .unset, .unset, .unset, .unset, .unset, .unset] []
    refine own_st (fun _ k => XS.iconst X0.here hx rfl (hb hby at_16) k) ?_
    show own_Go X0 (Q0 Z p0 p1 p2 p3 p4 p5 h0 n0) 3 11 17 #[.val (.int p0), .val (.int p1), .val (.int p2), .val (.int p3), .val (.int p4), .val (.int p5), .val (.int (1 : Int32)), .unset, .unset, .unset, .unset, .unset, .unset, .unset, .unset, .unset, .unset, .unset, .unset, .unset, .unset, .unset, .unset, .unset, .unset] [(.int (2 : Int32))]
    refine own_st (fun _ k => XS.iloadN X0.here hx rfl (hb hby at_17) rfl k) ?_
    show own_Go X0 (Q0 Z p0 p1 p2 p3 p4 p5 h0 n0) 3 11 18 #[.val (.int p0), .val (.int p1), .val (.int p2), .val (.int p3), .val (.int p4), .val (.int p5), .val (.int (1 : Int32)), .unset, .unset, .unset, .unset, .unset, .unset, .unset, .unset, .unset, .unset, .unset, .unset, .unset, .unset, .unset, .unset, .unset, .unset] [(.int p1), (.int (2 : Int32))]
    refine own_st (fun t k => X0.ldcInt hx hown (mvT hZ (hw _ (List.mem_of_getElem? (i := 0) rfl))) (g := (mkF m 18 #[.val (.int p0), .val (.int p1), .val (.int p2), .val (.int p3), .val (.int p4), .val (.int p5), .val (.int (1 : Int32)), .unset, .unset, .unset, .unset, .unset, .unset, .unset, .unset, .unset, .unset, .unset, .unset, .unset, .unset, .unset, .unset, .unset, .unset] [(.int p1), (.int (2 : Int32))])) rfl (hb hby at_18) t k) ?_
    show own_Go X0 (Q0 Z p0 p1 p2 p3 p4 p5 h0 n0) 3 11 20 #[.val (.int p0), .val (.int p1), .val (.int p2), .val (.int p3), .val (.int p4), .val (.int p5), .val (.int (1 : Int32)), .unset, .unset, .unset, .unset, .unset, .unset, .unset, .unset, .unset, .unset, .unset, .unset, .unset, .unset, .unset, .unset, .unset, .unset] [(.int (1073741823 : Int32)), (.int p1), (.int (2 : Int32))]
    refine own_st (fun _ k => XS.iand X0.here hx rfl (hb hby at_20) rfl k) ?_
    show own_Go X0 (Q0 Z p0 p1 p2 p3 p4 p5 h0 n0) 3 11 21 #[.val (.int p0), .val (.int p1), .val (.int p2), .val (.int p3), .val (.int p4), .val (.int p5), .val (.int (1 : Int32)), .unset, .unset, .unset, .unset, .unset, .unset, .unset, .unset, .unset, .unset, .unset, .unset, .unset, .unset, .unset, .unset, .unset, .unset] [(.int (p1 &&& (1073741823 : Int32))), (.int (2 : Int32))]
    refine own_st (fun _ k => XS.iadd X0.here hx rfl (hb hby at_21) rfl k) ?_
    show own_Go X0 (Q0 Z p0 p1 p2 p3 p4 p5 h0 n0) 3 11 22 #[.val (.int p0), .val (.int p1), .val (.int p2), .val (.int p3), .val (.int p4), .val (.int p5), .val (.int (1 : Int32)), .unset, .unset, .unset, .unset, .unset, .unset, .unset, .unset, .unset, .unset, .unset, .unset, .unset, .unset, .unset, .unset, .unset, .unset] [(.int ((2 : Int32) + (p1 &&& (1073741823 : Int32))))]
    refine own_st (fun _ k => XS.istore X0.here hx rfl (hb hby at_22) rfl (l' := #[.val (.int p0), .val (.int p1), .val (.int p2), .val (.int p3), .val (.int p4), .val (.int p5), .val (.int (1 : Int32)), .val (.int ((2 : Int32) + (p1 &&& (1073741823 : Int32)))), .unset, .unset, .unset, .unset, .unset, .unset, .unset, .unset, .unset, .unset, .unset, .unset, .unset, .unset, .unset, .unset, .unset]) rfl k) ?_
    show own_Go X0 (Q0 Z p0 p1 p2 p3 p4 p5 h0 n0) 3 11 24 #[.val (.int p0), .val (.int p1), .val (.int p2), .val (.int p3), .val (.int p4), .val (.int p5), .val (.int (1 : Int32)), .val (.int ((2 : Int32) + (p1 &&& (1073741823 : Int32)))), .unset, .unset, .unset, .unset, .unset, .unset, .unset, .unset, .unset, .unset, .unset, .unset, .unset, .unset, .unset, .unset, .unset] []
    refine own_st (fun _ k => XS.goto X0.here hx rfl (pc0 := 24) (pc' := 54) rfl (hb hby at_24) (by decide) (by decide) k) ?_
    show own_Go X0 (Q0 Z p0 p1 p2 p3 p4 p5 h0 n0) 3 11 54 #[.val (.int p0), .val (.int p1), .val (.int p2), .val (.int p3), .val (.int p4), .val (.int p5), .val (.int (1 : Int32)), .val (.int ((2 : Int32) + (p1 &&& (1073741823 : Int32)))), .unset, .unset, .unset, .unset, .unset, .unset, .unset, .unset, .unset, .unset, .unset, .unset, .unset, .unset, .unset, .unset, .unset] []
    generalize hgg : ((2 : Int32) + (p1 &&& (1073741823 : Int32))) = gg
    show own_Go X0 (Q0 Z p0 p1 p2 p3 p4 p5 h0 n0) 3 11 54 #[.val (.int p0), .val (.int p1), .val (.int p2), .val (.int p3), .val (.int p4), .val (.int p5), .val (.int (1 : Int32)), .val (.int gg), .unset, .unset, .unset, .unset, .unset, .unset, .unset, .unset, .unset, .unset, .unset, .unset, .unset, .unset, .unset, .unset, .unset] []
    have hG : 2 ≤ gg.toInt ∧ gg.toInt ≤ 1073741825 := own_gb 30 (by decide) (by decide) hgg
    refine own_st (fun _ k => XS.iconst X0.here hx rfl (hb hby at_54) k) ?_
    show own_Go X0 (Q0 Z p0 p1 p2 p3 p4 p5 h0 n0) 3 11 55 #[.val (.int p0), .val (.int p1), .val (.int p2), .val (.int p3), .val (.int p4), .val (.int p5), .val (.int (1 : Int32)), .val (.int gg), .unset, .unset, .unset, .unset, .unset, .unset, .unset, .unset, .unset, .unset, .unset, .unset, .unset, .unset, .unset, .unset, .unset] [(.int (4 : Int32))]
    obtain ⟨T2, h2, k2, X2, e2, E2, A2, st2⟩ := newP X0 hx hZ (hw _ (List.mem_of_getElem? (i := 1) rfl)) e0 (g := (mkF m 55 #[.val (.int p0), .val (.int p1), .val (.int p2), .val (.int p3), .val (.int p4), .val (.int p5), .val (.int (1 : Int32)), .val (.int gg), .unset, .unset, .unset, .unset, .unset, .unset, .unset, .unset, .unset, .unset, .unset, .unset, .unset, .unset, .unset, .unset, .unset] [(.int (4 : Int32))])) rfl (hb hby at_55) rfl (by decide) (cap := 4) (by decide) (by decide) (by decide) (by decide)
    obtain ⟨b2, g2⟩ : ∃ z, z = h0.size := ⟨_, rfl⟩
    rw [← g2] at A2 st2
    refine own_st st2 ?_
    have G_3 := Nat.le_trans Z0 (Nat.le_of_eq g2.symm)
    have Z_4 := Nat.le_trans Z0 E2.1
    have V2 : Arv Z h2 b2 k2 .int (4 : Int32) [(.int (0 : Int32)), (.int (0 : Int32)), (.int (0 : Int32)), (.int (0 : Int32))] (.int (0 : Int32)) := (Arv.new A2 (by decide)).pad (pad_rep [] (.int (0 : Int32)) 4)
    show own_Go X2 (Q0 Z p0 p1 p2 p3 p4 p5 h0 n0) 3 11 57 #[.val (.int p0), .val (.int p1), .val (.int p2), .val (.int p3), .val (.int p4), .val (.int p5), .val (.int (1 : Int32)), .val (.int gg), .unset, .unset, .unset, .unset, .unset, .unset, .unset, .unset, .unset, .unset, .unset, .unset, .unset, .unset, .unset, .unset, .unset] [(.ref b2)]
    refine own_st (fun _ k => XS.dup X2.here hx rfl (hb hby at_57) rfl rfl k) ?_
    show own_Go X2 (Q0 Z p0 p1 p2 p3 p4 p5 h0 n0) 3 11 58 #[.val (.int p0), .val (.int p1), .val (.int p2), .val (.int p3), .val (.int p4), .val (.int p5), .val (.int (1 : Int32)), .val (.int gg), .unset, .unset, .unset, .unset, .unset, .unset, .unset, .unset, .unset, .unset, .unset, .unset, .unset, .unset, .unset, .unset, .unset] [(.ref b2), (.ref b2)]
    refine own_st (fun _ k => XS.iconst X2.here hx rfl (hb hby at_58) k) ?_
    show own_Go X2 (Q0 Z p0 p1 p2 p3 p4 p5 h0 n0) 3 11 59 #[.val (.int p0), .val (.int p1), .val (.int p2), .val (.int p3), .val (.int p4), .val (.int p5), .val (.int (1 : Int32)), .val (.int gg), .unset, .unset, .unset, .unset, .unset, .unset, .unset, .unset, .unset, .unset, .unset, .unset, .unset, .unset, .unset, .unset, .unset] [(.int (0 : Int32)), (.ref b2), (.ref b2)]
    refine own_st (fun _ k => XS.iloadN X2.here hx rfl (hb hby at_59) rfl k) ?_
    show own_Go X2 (Q0 Z p0 p1 p2 p3 p4 p5 h0 n0) 3 11 60 #[.val (.int p0), .val (.int p1), .val (.int p2), .val (.int p3), .val (.int p4), .val (.int p5), .val (.int (1 : Int32)), .val (.int gg), .unset, .unset, .unset, .unset, .unset, .unset, .unset, .unset, .unset, .unset, .unset, .unset, .unset, .unset, .unset, .unset, .unset] [(.int p2), (.int (0 : Int32)), (.ref b2), (.ref b2)]
    refine own_st (fun t k => X2.ldcInt hx hown (mvT hZ (hw _ (List.mem_of_getElem? (i := 2) rfl))) (g := (mkF m 60 #[.val (.int p0), .val (.int p1), .val (.int p2), .val (.int p3), .val (.int p4), .val (.int p5), .val (.int (1 : Int32)), .val (.int gg), .unset, .unset, .unset, .unset, .unset, .unset, .unset, .unset, .unset, .unset, .unset, .unset, .unset, .unset, .unset, .unset, .unset] [(.int p2), (.int (0 : Int32)), (.ref b2), (.ref b2)])) rfl (hb hby at_60) t k) ?_
    show own_Go X2 (Q0 Z p0 p1 p2 p3 p4 p5 h0 n0) 3 11 62 #[.val (.int p0), .val (.int p1), .val (.int p2), .val (.int p3), .val (.int p4), .val (.int p5), .val (.int (1 : Int32)), .val (.int gg), .unset, .unset, .unset, .unset, .unset, .unset, .unset, .unset, .unset, .unset, .unset, .unset, .unset, .unset, .unset, .unset, .unset] [(.int (2147483647 : Int32)), (.int p2), (.int (0 : Int32)), (.ref b2), (.ref b2)]
    refine own_st (fun _ k => XS.iand X2.here hx rfl (hb hby at_62) rfl k) ?_
    show own_Go X2 (Q0 Z p0 p1 p2 p3 p4 p5 h0 n0) 3 11 63 #[.val (.int p0), .val (.int p1), .val (.int p2), .val (.int p3), .val (.int p4), .val (.int p5), .val (.int (1 : Int32)), .val (.int gg), .unset, .unset, .unset, .unset, .unset, .unset, .unset, .unset, .unset, .unset, .unset, .unset, .unset, .unset, .unset, .unset, .unset] [(.int (p2 &&& (2147483647 : Int32))), (.int (0 : Int32)), (.ref b2), (.ref b2)]
    refine own_st (fun _ k => XS.iload X2.here hx rfl (hb hby at_63) rfl k) ?_
    show own_Go X2 (Q0 Z p0 p1 p2 p3 p4 p5 h0 n0) 3 11 65 #[.val (.int p0), .val (.int p1), .val (.int p2), .val (.int p3), .val (.int p4), .val (.int p5), .val (.int (1 : Int32)), .val (.int gg), .unset, .unset, .unset, .unset, .unset, .unset, .unset, .unset, .unset, .unset, .unset, .unset, .unset, .unset, .unset, .unset, .unset] [(.int gg), (.int (p2 &&& (2147483647 : Int32))), (.int (0 : Int32)), (.ref b2), (.ref b2)]
    refine own_st (fun _ k => iremM X2 hx rfl (hb hby at_65) rfl (own_gnz hG.1) k) ?_
    show own_Go X2 (Q0 Z p0 p1 p2 p3 p4 p5 h0 n0) 3 11 66 #[.val (.int p0), .val (.int p1), .val (.int p2), .val (.int p3), .val (.int p4), .val (.int p5), .val (.int (1 : Int32)), .val (.int gg), .unset, .unset, .unset, .unset, .unset, .unset, .unset, .unset, .unset, .unset, .unset, .unset, .unset, .unset, .unset, .unset, .unset] [(.int ((p2 &&& (2147483647 : Int32)) % gg)), (.int (0 : Int32)), (.ref b2), (.ref b2)]
    obtain ⟨T5, h5, X5, e5, W5, V5, st5⟩ := own_stI X2 hx hZ e2 V2 (j := (0 : Int32)) ⟨by decide, by decide⟩ (Nat.le_of_ble_eq_true rfl) (g := (mkF m 66 #[.val (.int p0), .val (.int p1), .val (.int p2), .val (.int p3), .val (.int p4), .val (.int p5), .val (.int (1 : Int32)), .val (.int gg), .unset, .unset, .unset, .unset, .unset, .unset, .unset, .unset, .unset, .unset, .unset, .unset, .unset, .unset, .unset, .unset, .unset] [(.int ((p2 &&& (2147483647 : Int32)) % gg)), (.int (0 : Int32)), (.ref b2), (.ref b2)])) rfl rfl (hb hby at_66)
    refine own_st st5 ?_
    have Z_6 := Nat.le_trans Z_4 (Nat.le_of_eq W5.size.symm)
    have U5 : Arv Z h5 b2 k2 .int (4 : Int32) [(.int ((p2 &&& (2147483647 : Int32)) % gg)), (.int (0 : Int32)), (.int (0 : Int32)), (.int (0 : Int32))] (.int (0 : Int32)) := V5
    have N_7 := Fr.snoc X5 N0 G_3
    show own_Go X5 (Q0 Z p0 p1 p2 p3 p4 p5 h0 n0) 3 11 67 #[.val (.int p0), .val (.int p1), .val (.int p2), .val (.int p3), .val (.int p4), .val (.int p5), .val (.int (1 : Int32)), .val (.int gg), .unset, .unset, .unset, .unset, .unset, .unset, .unset, .unset, .unset, .unset, .unset, .unset, .unset, .unset, .unset, .unset, .unset] [(.ref b2)]
    refine own_st (fun _ k => XS.dup X5.here hx rfl (hb hby at_67) rfl rfl k) ?_
    show own_Go X5 (Q0 Z p0 p1 p2 p3 p4 p5 h0 n0) 3 11 68 #[.val (.int p0), .val (.int p1), .val (.int p2), .val (.int p3), .val (.int p4), .val (.int p5), .val (.int (1 : Int32)), .val (.int gg), .unset, .unset, .unset, .unset, .unset, .unset, .unset, .unset, .unset, .unset, .unset, .unset, .unset, .unset, .unset, .unset, .unset] [(.ref b2), (.ref b2)]
    refine own_st (fun _ k => XS.iconst X5.here hx rfl (hb hby at_68) k) ?_
    show own_Go X5 (Q0 Z p0 p1 p2 p3 p4 p5 h0 n0) 3 11 69 #[.val (.int p0), .val (.int p1), .val (.int p2), .val (.int p3), .val (.int p4), .val (.int p5), .val (.int (1 : Int32)), .val (.int gg), .unset, .unset, .unset, .unset, .unset, .unset, .unset, .unset, .unset, .unset, .unset, .unset, .unset, .unset, .unset, .unset, .unset] [(.int (1 : Int32)), (.ref b2), (.ref b2)]
    refine own_st (fun _ k => XS.iloadN X5.here hx rfl (hb hby at_69) rfl k) ?_
    show own_Go X5 (Q0 Z p0 p1 p2 p3 p4 p5 h0 n0) 3 11 70 #[.val (.int p0), .val (.int p1), .val (.int p2), .val (.int p3), .val (.int p4), .val (.int p5), .val (.int (1 : Int32)), .val (.int gg), .unset, .unset, .unset, .unset, .unset, .unset, .unset, .unset, .unset, .unset, .unset, .unset, .unset, .unset, .unset, .unset, .unset] [(.int p3), (.int (1 : Int32)), (.ref b2), (.ref b2)]
    refine own_st (fun t k => X5.ldcInt hx hown (mvT hZ (hw _ (List.mem_of_getElem? (i := 2) rfl))) (g := (mkF m 70 #[.val (.int p0), .val (.int p1), .val (.int p2), .val (.int p3), .val (.int p4), .val (.int p5), .val (.int (1 : Int32)), .val (.int gg), .unset, .unset, .unset, .unset, .unset, .unset, .unset, .unset, .unset, .unset, .unset, .unset, .unset, .unset, .unset, .unset, .unset] [(.int p3), (.int (1 : Int32)), (.ref b2), (.ref b2)])) rfl (hb hby at_70) t k) ?_
    show own_Go X5 (Q0 Z p0 p1 p2 p3 p4 p5 h0 n0) 3 11 72 #[.val (.int p0), .val (.int p1), .val (.int p2), .val (.int p3), .val (.int p4), .val (.int p5), .val (.int (1 : Int32)), .val (.int gg), .unset, .unset, .unset, .unset, .unset, .unset, .unset, .unset, .unset, .unset, .unset, .unset, .unset, .unset, .unset, .unset, .unset] [(.int (2147483647 : Int32)), (.int p3), (.int (1 : Int32)), (.ref b2), (.ref b2)]
    refine own_st (fun _ k => XS.iand X5.here hx rfl (hb hby at_72) rfl k) ?_
    show own_Go X5 (Q0 Z p0 p1 p2 p3 p4 p5 h0 n0) 3 11 73 #[.val (.int p0), .val (.int p1), .val (.int p2), .val (.int p3), .val (.int p4), .val (.int p5), .val (.int (1 : Int32)), .val (.int gg), .unset, .unset, .unset, .unset, .unset, .unset, .unset, .unset, .unset, .unset, .unset, .unset, .unset, .unset, .unset, .unset, .unset] [(.int (p3 &&& (2147483647 : Int32))), (.int (1 : Int32)), (.ref b2), (.ref b2)]
    refine own_st (fun _ k => XS.iload X5.here hx rfl (hb hby at_73) rfl k) ?_
    show own_Go X5 (Q0 Z p0 p1 p2 p3 p4 p5 h0 n0) 3 11 75 #[.val (.int p0), .val (.int p1), .val (.int p2), .val (.int p3), .val (.int p4), .val (.int p5), .val (.int (1 : Int32)), .val (.int gg), .unset, .unset, .unset, .unset, .unset, .unset, .unset, .unset, .unset, .unset, .unset, .unset, .unset, .unset, .unset, .unset, .unset] [(.int gg), (.int (p3 &&& (2147483647 : Int32))), (.int (1 : Int32)), (.ref b2), (.ref b2)]
    refine own_st (fun _ k => iremM X5 hx rfl (hb hby at_75) rfl (own_gnz hG.1) k) ?_
    show own_Go X5 (Q0 Z p0 p1 p2 p3 p4 p5 h0 n0) 3 11 76 #[.val (.int p0), .val (.int p1), .val (.int p2), .val (.int p3), .val (.int p4), .val (.int p5), .val (.int (1 : Int32)), .val (.int gg), .unset, .unset, .unset, .unset, .unset, .unset, .unset, .unset, .unset, .unset, .unset, .unset, .unset, .unset, .unset, .unset, .unset] [(.int ((p3 &&& (2147483647 : Int32)) % gg)), (.int (1 : Int32)), (.ref b2), (.ref b2)]
    obtain ⟨T8, h8, X8, e8, W8, V8, st8⟩ := own_stI X5 hx hZ e5 U5 (j := (1 : Int32)) ⟨by decide, by decide⟩ (Nat.le_of_ble_eq_true rfl) (g := (mkF m 76 #[.val (.int p0), .val (.int p1), .val (.int p2), .val (.int p3), .val (.int p4), .val (.int p5), .val (.int (1 : Int32)), .val (.int gg), .unset, .unset, .unset, .unset, .unset, .unset, .unset, .unset, .unset, .unset, .unset, .unset, .unset, .unset, .unset, .unset, .unset] [(.int ((p3 &&& (2147483647 : Int32)) % gg)), (.int (1 : Int32)), (.ref b2), (.ref b2)])) rfl rfl (hb hby at_76)
    refine own_st st8 ?_
    have Z_9 := Nat.le_trans Z_6 (Nat.le_of_eq W8.size.symm)
    have U8 : Arv Z h8 b2 k2 .int (4 : Int32) [(.int ((p2 &&& (2147483647 : Int32)) % gg)), (.int ((p3 &&& (2147483647 : Int32)) % gg)), (.int (0 : Int32)), (.int (0 : Int32))] (.int (0 : Int32)) := V8
    have N_10 := Fr.snoc X8 N_7 G_3
    show own_Go X8 (Q0 Z p0 p1 p2 p3 p4 p5 h0 n0) 3 11 77 #[.val (.int p0), .val (.int p1), .val (.int p2), .val (.int p3), .val (.int p4), .val (.int p5), .val (.int (1 : Int32)), .val (.int gg), .unset, .unset, .unset, .unset, .unset, .unset, .unset, .unset, .unset, .unset, .unset, .unset, .unset, .unset, .unset, .unset, .unset] [(.ref b2)]
    refine own_st (fun _ k => XS.dup X8.here hx rfl (hb hby at_77) rfl rfl k) ?_
    show own_Go X8 (Q0 Z p0 p1 p2 p3 p4 p5 h0 n0) 3 11 78 #[.val (.int p0), .val (.int p1), .val (.int p2), .val (.int p3), .val (.int p4), .val (.int p5), .val (.int (1 : Int32)), .val (.int gg), .unset, .unset, .unset, .unset, .unset, .unset, .unset, .unset, .unset, .unset, .unset, .unset, .unset, .unset, .unset, .unset, .unset] [(.ref b2), (.ref b2)]
    refine own_st (fun _ k => XS.iconst X8.here hx rfl (hb hby at_78) k) ?_
    show own_Go X8 (Q0 Z p0 p1 p2 p3 p4 p5 h0 n0) 3 11 79 #[.val (.int p0), .val (.int p1), .val (.int p2), .val (.int p3), .val (.int p4), .val (.int p5), .val (.int (1 : Int32)), .val (.int gg), .unset, .unset, .unset, .unset, .unset, .unset, .unset, .unset, .unset, .unset, .unset, .unset, .unset, .unset, .unset, .unset, .unset] [(.int (2 : Int32)), (.ref b2), (.ref b2)]
    refine own_st (fun _ k => XS.iload X8.here hx rfl (hb hby at_79) rfl k) ?_
    show own_Go X8 (Q0 Z p0 p1 p2 p3 p4 p5 h0 n0) 3 11 81 #[.val (.int p0), .val (.int p1), .val (.int p2), .val (.int p3), .val (.int p4), .val (.int p5), .val (.int (1 : Int32)), .val (.int gg), .unset, .unset, .unset, .unset, .unset, .unset, .unset, .unset, .unset, .unset, .unset, .unset, .unset, .unset, .unset, .unset, .unset] [(.int p4), (.int (2 : Int32)), (.ref b2), (.ref b2)]
    refine own_st (fun t k => X8.ldcInt hx hown (mvT hZ (hw _ (List.mem_of_getElem? (i := 2) rfl))) (g := (mkF m 81 #[.val (.int p0), .val (.int p1), .val (.int p2), .val (.int p3), .val (.int p4), .val (.int p5), .val (.int (1 : Int32)), .val (.int gg), .unset, .unset, .unset, .unset, .unset, .unset, .unset, .unset, .unset, .unset, .unset, .unset, .unset, .unset, .unset, .unset, .unset] [(.int p4), (.int (2 : Int32)), (.ref b2), (.ref b2)])) rfl (hb hby at_81) t k) ?_
    show own_Go X8 (Q0 Z p0 p1 p2 p3 p4 p5 h0 n0) 3 11 83 #[.val (.int p0), .val (.int p1), .val (.int p2), .val (.int p3), .val (.int p4), .val (.int p5), .val (.int (1 : Int32)), .val (.int gg), .unset, .unset, .unset, .unset, .unset, .unset, .unset, .unset, .unset, .unset, .unset, .unset, .unset, .unset, .unset, .unset, .unset] [(.int (2147483647 : Int32)), (.int p4), (.int (2 : Int32)), (.ref b2), (.ref b2)]
    refine own_st (fun _ k => XS.iand X8.here hx rfl (hb hby at_83) rfl k) ?_
    show own_Go X8 (Q0 Z p0 p1 p2 p3 p4 p5 h0 n0) 3 11 84 #[.val (.int p0), .val (.int p1), .val (.int p2), .val (.int p3), .val (.int p4), .val (.int p5), .val (.int (1 : Int32)), .val (.int gg), .unset, .unset, .unset, .unset, .unset, .unset, .unset, .unset, .unset, .unset, .unset, .unset, .unset, .unset, .unset, .unset, .unset] [(.int (p4 &&& (2147483647 : Int32))), (.int (2 : Int32)), (.ref b2), (.ref b2)]
    refine own_st (fun _ k => XS.iload X8.here hx rfl (hb hby at_84) rfl k) ?_
    show own_Go X8 (Q0 Z p0 p1 p2 p3 p4 p5 h0 n0) 3 11 86 #[.val (.int p0), .val (.int p1), .val (.int p2), .val (.int p3), .val (.int p4), .val (.int p5), .val (.int (1 : Int32)), .val (.int gg), .unset, .unset, .unset, .unset, .unset, .unset, .unset, .unset, .unset, .unset, .unset, .unset, .unset, .unset, .unset, .unset, .unset] [(.int gg), (.int (p4 &&& (2147483647 : Int32))), (.int (2 : Int32)), (.ref b2), (.ref b2)]
    refine own_st (fun _ k => iremM X8 hx rfl (hb hby at_86) rfl (own_gnz hG.1) k) ?_
    show own_Go X8 (Q0 Z p0 p1 p2 p3 p4 p5 h0 n0) 3 11 87 #[.val (.int p0), .val (.int p1), .val (.int p2), .val (.int p3), .val (.int p4), .val (.int p5), .val (.int (1 : Int32)), .val (.int gg), .unset, .unset, .unset, .unset, .unset, .unset, .unset, .unset, .unset, .unset, .unset, .unset, .unset, .unset, .unset, .unset, .unset] [(.int ((p4 &&& (2147483647 : Int32)) % gg)), (.int (2 : Int32)), (.ref b2), (.ref b2)]
    obtain ⟨T11, h11, X11, e11, W11, V11, st11⟩ := own_stI X8 hx hZ e8 U8 (j := (2 : Int32)) ⟨by decide, by decide⟩ (Nat.le_of_ble_eq_true rfl) (g := (mkF m 87 #[.val (.int p0), .val (.int p1), .val (.int p2), .val (.int p3), .val (.int p4), .val (.int p5), .val (.int (1 : Int32)), .val (.int gg), .unset, .unset, .unset, .unset, .unset, .unset, .unset, .unset, .unset, .unset, .unset, .unset, .unset, .unset, .unset, .unset, .unset] [(.int ((p4 &&& (2147483647 : Int32)) % gg)), (.int (2 : Int32)), (.ref b2), (.ref b2)])) rfl rfl (hb hby at_87)
    refine own_st st11 ?_
    have Z_12 := Nat.le_trans Z_9 (Nat.le_of_eq W11.size.symm)
    have U11 : Arv Z h11 b2 k2 .int (4 : Int32) [(.int ((p2 &&& (2147483647 : Int32)) % gg)), (.int ((p3 &&& (2147483647 : Int32)) % gg)), (.int ((p4 &&& (2147483647 : Int32)) % gg)), (.int (0 : Int32))] (.int (0 : Int32)) := V11
    have N_13 := Fr.snoc X11 N_10 G_3
    show own_Go X11 (Q0 Z p0 p1 p2 p3 p4 p5 h0 n0) 3 11 88 #[.val (.int p0), .val (.int p1), .val (.int p2), .val (.int p3), .val (.int p4), .val (.int p5), .val (.int (1 : Int32)), .val (.int gg), .unset, .unset, .unset, .unset, .unset, .unset, .unset, .unset, .unset, .unset, .unset, .unset, .unset, .unset, .unset, .unset, .unset] [(.ref b2)]
    refine own_st (fun _ k => XS.dup X11.here hx rfl (hb hby at_88) rfl rfl k) ?_
    show own_Go X11 (Q0 Z p0 p1 p2 p3 p4 p5 h0 n0) 3 11 89 #[.val (.int p0), .val (.int p1), .val (.int p2), .val (.int p3), .val (.int p4), .val (.int p5), .val (.int (1 : Int32)), .val (.int gg), .unset, .unset, .unset, .unset, .unset, .unset, .unset, .unset, .unset, .unset, .unset, .unset, .unset, .unset, .unset, .unset, .unset] [(.ref b2), (.ref b2)]
    refine own_st (fun _ k => XS.iconst X11.here hx rfl (hb hby at_89) k) ?_
    show own_Go X11 (Q0 Z p0 p1 p2 p3 p4 p5 h0 n0) 3 11 90 #[.val (.int p0), .val (.int p1), .val (.int p2), .val (.int p3), .val (.int p4), .val (.int p5), .val (.int (1 : Int32)), .val (.int gg), .unset, .unset, .unset, .unset, .unset, .unset, .unset, .unset, .unset, .unset, .unset, .unset, .unset, .unset, .unset, .unset, .unset] [(.int (3 : Int32)), (.ref b2), (.ref b2)]
    refine own_st (fun _ k => XS.iload X11.here hx rfl (hb hby at_90) rfl k) ?_
    show own_Go X11 (Q0 Z p0 p1 p2 p3 p4 p5 h0 n0) 3 11 92 #[.val (.int p0), .val (.int p1), .val (.int p2), .val (.int p3), .val (.int p4), .val (.int p5), .val (.int (1 : Int32)), .val (.int gg), .unset, .unset, .unset, .unset, .unset, .unset, .unset, .unset, .unset, .unset, .unset, .unset, .unset, .unset, .unset, .unset, .unset] [(.int p5), (.int (3 : Int32)), (.ref b2), (.ref b2)]
    refine own_st (fun t k => X11.ldcInt hx hown (mvT hZ (hw _ (List.mem_of_getElem? (i := 2) rfl))) (g := (mkF m 92 #[.val (.int p0), .val (.int p1), .val (.int p2), .val (.int p3), .val (.int p4), .val (.int p5), .val (.int (1 : Int32)), .val (.int gg), .unset, .unset, .unset, .unset, .unset, .unset, .unset, .unset, .unset, .unset, .unset, .unset, .unset, .unset, .unset, .unset, .unset] [(.int p5), (.int (3 : Int32)), (.ref b2), (.ref b2)])) rfl (hb hby at_92) t k) ?_
    show own_Go X11 (Q0 Z p0 p1 p2 p3 p4 p5 h0 n0) 3 11 94 #[.val (.int p0), .val (.int p1), .val (.int p2), .val (.int p3), .val (.int p4), .val (.int p5), .val (.int (1 : Int32)), .val (.int gg), .unset, .unset, .unset, .unset, .unset, .unset, .unset, .unset, .unset, .unset, .unset, .unset, .unset, .unset, .unset, .unset, .unset] [(.int (2147483647 : Int32)), (.int p5), (.int (3 : Int32)), (.ref b2), (.ref b2)]
    refine own_st (fun _ k => XS.iand X11.here hx rfl (hb hby at_94) rfl k) ?_
    show own_Go X11 (Q0 Z p0 p1 p2 p3 p4 p5 h0 n0) 3 11 95 #[.val (.int p0), .val (.int p1), .val (.int p2), .val (.int p3), .val (.int p4), .val (.int p5), .val (.int (1 : Int32)), .val (.int gg), .unset, .unset, .unset, .unset, .unset, .unset, .unset, .unset, .unset, .unset, .unset, .unset, .unset, .unset, .unset, .unset, .unset] [(.int (p5 &&& (2147483647 : Int32))), (.int (3 : Int32)), (.ref b2), (.ref b2)]
    refine own_st (fun _ k => XS.iload X11.here hx rfl (hb hby at_95) rfl k) ?_
    show own_Go X11 (Q0 Z p0 p1 p2 p3 p4 p5 h0 n0) 3 11 97 #[.val (.int p0), .val (.int p1), .val (.int p2), .val (.int p3), .val (.int p4), .val (.int p5), .val (.int (1 : Int32)), .val (.int gg), .unset, .unset, .unset, .unset, .unset, .unset, .unset, .unset, .unset, .unset, .unset, .unset, .unset, .unset, .unset, .unset, .unset] [(.int gg), (.int (p5 &&& (2147483647 : Int32))), (.int (3 : Int32)), (.ref b2), (.ref b2)]
    refine own_st (fun _ k => iremM X11 hx rfl (hb hby at_97) rfl (own_gnz hG.1) k) ?_
    show own_Go X11 (Q0 Z p0 p1 p2 p3 p4 p5 h0 n0) 3 11 98 #[.val (.int p0), .val (.int p1), .val (.int p2), .val (.int p3), .val (.int p4), .val (.int p5), .val (.int (1 : Int32)), .val (.int gg), .unset, .unset, .unset, .unset, .unset, .unset, .unset, .unset, .unset, .unset, .unset, .unset, .unset, .unset, .unset, .unset, .unset] [(.int ((p5 &&& (2147483647 : Int32)) % gg)), (.int (3 : Int32)), (.ref b2), (.ref b2)]
    obtain ⟨T14, h14, X14, e14, W14, V14, st14⟩ := own_stI X11 hx hZ e11 U11 (j := (3 : Int32)) ⟨by decide, by decide⟩ (Nat.le_of_ble_eq_true rfl) (g := (mkF m 98 #[.val (.int p0), .val (.int p1), .val (.int p2), .val (.int p3), .val (.int p4), .val (.int p5), .val (.int (1 : Int32)), .val (.int gg), .unset, .unset, .unset, .unset, .unset, .unset, .unset, .unset, .unset, .unset, .unset, .unset, .unset, .unset, .unset, .unset, .unset] [(.int ((p5 &&& (2147483647 : Int32)) % gg)), (.int (3 : Int32)), (.ref b2), (.ref b2)])) rfl rfl (hb hby at_98)
    refine own_st st14 ?_
    have Z_15 := Nat.le_trans Z_12 (Nat.le_of_eq W14.size.symm)
    have U14 : Arv Z h14 b2 k2 .int (4 : Int32) [(.int ((p2 &&& (2147483647 : Int32)) % gg)), (.int ((p3 &&& (2147483647 : Int32)) % gg)), (.int ((p4 &&& (2147483647 : Int32)) % gg)), (.int ((p5 &&& (2147483647 : Int32)) % gg))] (.int (0 : Int32)) := V14
    have N_16 := Fr.snoc X14 N_13 G_3
    show own_Go X14 (Q0 Z p0 p1 p2 p3 p4 p5 h0 n0) 3 11 99 #[.val (.int p0), .val (.int p1), .val (.int p2), .val (.int p3), .val (.int p4), .val (.int p5), .val (.int (1 : Int32)), .val (.int gg), .unset, .unset, .unset, .unset, .unset, .unset, .unset, .unset, .unset, .unset, .unset, .unset, .unset, .unset, .unset, .unset, .unset] [(.ref b2)]
    refine own_st (fun _ k => XS.astore X14.here hx rfl (hb hby at_99) rfl rfl (l' := #[.val (.int p0), .val (.int p1), .val (.int p2), .val (.int p3), .val (.int p4), .val (.int p5), .val (.int (1 : Int32)), .val (.int gg), .val (.ref b2), .unset, .unset, .unset, .unset, .unset, .unset, .unset, .unset, .unset, .unset, .unset, .unset, .unset, .unset, .unset, .unset]) rfl k) ?_
    show own_Go X14 (Q0 Z p0 p1 p2 p3 p4 p5 h0 n0) 3 11 101 #[.val (.int p0), .val (.int p1), .val (.int p2), .val (.int p3), .val (.int p4), .val (.int p5), .val (.int (1 : Int32)), .val (.int gg), .val (.ref b2), .unset, .unset, .unset, .unset, .unset, .unset, .unset, .unset, .unset, .unset, .unset, .unset, .unset, .unset, .unset, .unset] []
    obtain ⟨y0, hy0⟩ : ∃ z, z = ((p2 &&& (2147483647 : Int32)) % gg) := ⟨_, rfl⟩
    obtain ⟨y1, hy1⟩ : ∃ z, z = ((p3 &&& (2147483647 : Int32)) % gg) := ⟨_, rfl⟩
    obtain ⟨y2, hy2⟩ : ∃ z, z = ((p4 &&& (2147483647 : Int32)) % gg) := ⟨_, rfl⟩
    obtain ⟨y3, hy3⟩ : ∃ z, z = ((p5 &&& (2147483647 : Int32)) % gg) := ⟨_, rfl⟩
    have hY : (0 ≤ y0.toInt ∧ y0.toInt < gg.toInt) ∧ (0 ≤ y1.toInt ∧ y1.toInt < gg.toInt) ∧ (0 ≤ y2.toInt ∧ y2.toInt < gg.toInt) ∧ (0 ≤ y3.toInt ∧ y3.toInt < gg.toInt) := by subst hy0 hy1 hy2 hy3; exact ⟨own_rb hG.1, own_rb hG.1, own_rb hG.1, own_rb hG.1⟩
    have VR : Arv Z h14 b2 k2 .int (4 : Int32) [(.int y0), (.int y1), (.int y2), (.int y3)] (.int (0 : Int32)) := by rw [hy0, hy1, hy2, hy3]; exact U14
    refine own_st (fun _ k => XS.iloadN X14.here hx rfl (hb hby at_101) rfl k) ?_
    show own_Go X14 (Q0 Z p0 p1 p2 p3 p4 p5 h0 n0) 3 11 102 #[.val (.int p0), .val (.int p1), .val (.int p2), .val (.int p3), .val (.int p4), .val (.int p5), .val (.int (1 : Int32)), .val (.int gg), .val (.ref b2), .unset, .unset, .unset, .unset, .unset, .unset, .unset, .unset, .unset, .unset, .unset, .unset, .unset, .unset, .unset, .unset] [(.int p0)]
    refine own_st (fun _ k => XS.iconst X14.here hx rfl (hb hby at_102) k) ?_
    show own_Go X14 (Q0 Z p0 p1 p2 p3 p4 p5 h0 n0) 3 11 103 #[.val (.int p0), .val (.int p1), .val (.int p2), .val (.int p3), .val (.int p4), .val (.int p5), .val (.int (1 : Int32)), .val (.int gg), .val (.ref b2), .unset, .unset, .unset, .unset, .unset, .unset, .unset, .unset, .unset, .unset, .unset, .unset, .unset, .unset, .unset, .unset] [(.int (3 : Int32)), (.int p0)]
    refine own_st (fun _ k => XS.iand X14.here hx rfl (hb hby at_103) rfl k) ?_
    show own_Go X14 (Q0 Z p0 p1 p2 p3 p4 p5 h0 n0) 3 11 104 #[.val (.int p0), .val (.int p1), .val (.int p2), .val (.int p3), .val (.int p4), .val (.int p5), .val (.int (1 : Int32)), .val (.int gg), .val (.ref b2), .unset, .unset, .unset, .unset, .unset, .unset, .unset, .unset, .unset, .unset, .unset, .unset, .unset, .unset, .unset, .unset] [(.int (p0 &&& (3 : Int32)))]
    refine own_st (fun _ k => XS.istore X14.here hx rfl (hb hby at_104) rfl (l' := #[.val (.int p0), .val (.int p1), .val (.int p2), .val (.int p3), .val (.int p4), .val (.int p5), .val (.int (1 : Int32)), .val (.int gg), .val (.ref b2), .val (.int (p0 &&& (3 : Int32))), .unset, .unset, .unset, .unset, .unset, .unset, .unset, .unset, .unset, .unset, .unset, .unset, .unset, .unset, .unset]) rfl k) ?_
    show own_Go X14 (Q0 Z p0 p1 p2 p3 p4 p5 h0 n0) 3 11 106 #[.val (.int p0), .val (.int p1), .val (.int p2), .val (.int p3), .val (.int p4), .val (.int p5), .val (.int (1 : Int32)), .val (.int gg), .val (.ref b2), .val (.int (p0 &&& (3 : Int32))), .unset, .unset, .unset, .unset, .unset, .unset, .unset, .unset, .unset, .unset, .unset, .unset, .unset, .unset, .unset] []
    generalize hd0 : (p0 &&& (3 : Int32)) = d0
    show own_Go X14 (Q0 Z p0 p1 p2 p3 p4 p5 h0 n0) 3 11 106 #[.val (.int p0), .val (.int p1), .val (.int p2), .val (.int p3), .val (.int p4), .val (.int p5), .val (.int (1 : Int32)), .val (.int gg), .val (.ref b2), .val (.int d0), .unset, .unset, .unset, .unset, .unset, .unset, .unset, .unset, .unset, .unset, .unset, .unset, .unset, .unset, .unset] []
    refine own_st (fun _ k => XS.iloadN X14.here hx rfl (hb hby at_106) rfl k) ?_
    show own_Go X14 (Q0 Z p0 p1 p2 p3 p4 p5 h0 n0) 3 11 107 #[.val (.int p0), .val (.int p1), .val (.int p2), .val (.int p3), .val (.int p4), .val (.int p5), .val (.int (1 : Int32)), .val (.int gg), .val (.ref b2), .val (.int d0), .unset, .unset, .unset, .unset, .unset, .unset, .unset, .unset, .unset, .unset, .unset, .unset, .unset, .unset, .unset] [(.int p0)]
    refine own_st (fun _ k => XS.iconst X14.here hx rfl (hb hby at_107) k) ?_
    show own_Go X14 (Q0 Z p0 p1 p2 p3 p4 p5 h0 n0) 3 11 108 #[.val (.int p0), .val (.int p1), .val (.int p2), .val (.int p3), .val (.int p4), .val (.int p5), .val (.int (1 : Int32)), .val (.int gg), .val (.ref b2), .val (.int d0), .unset, .unset, .unset, .unset, .unset, .unset, .unset, .unset, .unset, .unset, .unset, .unset, .unset, .unset, .unset] [(.int (2 : Int32)), (.int p0)]
    refine own_st (fun _ k => XS.iushr X14.here hx rfl (hb hby at_108) rfl k) ?_
    show own_Go X14 (Q0 Z p0 p1 p2 p3 p4 p5 h0 n0) 3 11 109 #[.val (.int p0), .val (.int p1), .val (.int p2), .val (.int p3), .val (.int p4), .val (.int p5), .val (.int (1 : Int32)), .val (.int gg), .val (.ref b2), .val (.int d0), .unset, .unset, .unset, .unset, .unset, .unset, .unset, .unset, .unset, .unset, .unset, .unset, .unset, .unset, .unset] [(.int ((p0.toUInt32 >>> ((2 : Int32) &&& 31).toUInt32).toInt32))]
    refine own_st (fun _ k => XS.iconst X14.here hx rfl (hb hby at_109) k) ?_
    show own_Go X14 (Q0 Z p0 p1 p2 p3 p4 p5 h0 n0) 3 11 110 #[.val (.int p0), .val (.int p1), .val (.int p2), .val (.int p3), .val (.int p4), .val (.int p5), .val (.int (1 : Int32)), .val (.int gg), .val (.ref b2), .val (.int d0), .unset, .unset, .unset, .unset, .unset, .unset, .unset, .unset, .unset, .unset, .unset, .unset, .unset, .unset, .unset] [(.int (3 : Int32)), (.int ((p0.toUInt32 >>> ((2 : Int32) &&& 31).toUInt32).toInt32))]
    refine own_st (fun _ k => XS.iand X14.here hx rfl (hb hby at_110) rfl k) ?_
    show own_Go X14 (Q0 Z p0 p1 p2 p3 p4 p5 h0 n0) 3 11 111 #[.val (.int p0), .val (.int p1), .val (.int p2), .val (.int p3), .val (.int p4), .val (.int p5), .val (.int (1 : Int32)), .val (.int gg), .val (.ref b2), .val (.int d0), .unset, .unset, .unset, .unset, .unset, .unset, .unset, .unset, .unset, .unset, .unset, .unset, .unset, .unset, .unset] [(.int (((p0.toUInt32 >>> ((2 : Int32) &&& 31).toUInt32).toInt32) &&& (3 : Int32)))]
    refine own_st (fun _ k => XS.istore X14.here hx rfl (hb hby at_111) rfl (l' := #[.val (.int p0), .val (.int p1), .val (.int p2), .val (.int p3), .val (.int p4), .val (.int p5), .val (.int (1 : Int32)), .val (.int gg), .val (.ref b2), .val (.int d0), .val (.int (((p0.toUInt32 >>> ((2 : Int32) &&& 31).toUInt32).toInt32) &&& (3 : Int32))), .unset, .unset, .unset, .unset, .unset, .unset, .unset, .unset, .unset, .unset, .unset, .unset, .unset, .unset]) rfl k) ?_
    show own_Go X14 (Q0 Z p0 p1 p2 p3 p4 p5 h0 n0) 3 11 113 #[.val (.int p0), .val (.int p1), .val (.int p2), .val (.int p3), .val (.int p4), .val (.int p5), .val (.int (1 : Int32)), .val (.int gg), .val (.ref b2), .val (.int d0), .val (.int (((p0.toUInt32 >>> ((2 : Int32) &&& 31).toUInt32).toInt32) &&& (3 : Int32))), .unset, .unset, .unset, .unset, .unset, .unset, .unset, .unset, .unset, .unset, .unset, .unset, .unset, .unset] []
    generalize hd1 : (((p0.toUInt32 >>> ((2 : Int32) &&& 31).toUInt32).toInt32) &&& (3 : Int32)) = d1
    show own_Go X14 (Q0 Z p0 p1 p2 p3 p4 p5 h0 n0) 3 11 113 #[.val (.int p0), .val (.int p1), .val (.int p2), .val (.int p3), .val (.int p4), .val (.int p5), .val (.int (1 : Int32)), .val (.int gg), .val (.ref b2), .val (.int d0), .val (.int d1), .unset, .unset, .unset, .unset, .unset, .unset, .unset, .unset, .unset, .unset, .unset, .unset, .unset, .unset] []
    refine own_st (fun _ k => XS.iloadN X14.here hx rfl (hb hby at_113) rfl k) ?_
    show own_Go X14 (Q0 Z p0 p1 p2 p3 p4 p5 h0 n0) 3 11 114 #[.val (.int p0), .val (.int p1), .val (.int p2), .val (.int p3), .val (.int p4), .val (.int p5), .val (.int (1 : Int32)), .val (.int gg), .val (.ref b2), .val (.int d0), .val (.int d1), .unset, .unset, .unset, .unset, .unset, .unset, .unset, .unset, .unset, .unset, .unset, .unset, .unset, .unset] [(.int p0)]
    refine own_st (fun _ k => XS.iconst X14.here hx rfl (hb hby at_114) k) ?_
    show own_Go X14 (Q0 Z p0 p1 p2 p3 p4 p5 h0 n0) 3 11 115 #[.val (.int p0), .val (.int p1), .val (.int p2), .val (.int p3), .val (.int p4), .val (.int p5), .val (.int (1 : Int32)), .val (.int gg), .val (.ref b2), .val (.int d0), .val (.int d1), .unset, .unset, .unset, .unset, .unset, .unset, .unset, .unset, .unset, .unset, .unset, .unset, .unset, .unset] [(.int (4 : Int32)), (.int p0)]
    refine own_st (fun _ k => XS.iushr X14.here hx rfl (hb hby at_115) rfl k) ?_
    show own_Go X14 (Q0 Z p0 p1 p2 p3 p4 p5 h0 n0) 3 11 116 #[.val (.int p0), .val (.int p1), .val (.int p2), .val (.int p3), .val (.int p4), .val (.int p5), .val (.int (1 : Int32)), .val (.int gg), .val (.ref b2), .val (.int d0), .val (.int d1), .unset, .unset, .unset, .unset, .unset, .unset, .unset, .unset, .unset, .unset, .unset, .unset, .unset, .unset] [(.int ((p0.toUInt32 >>> ((4 : Int32) &&& 31).toUInt32).toInt32))]
    refine own_st (fun _ k => XS.iconst X14.here hx rfl (hb hby at_116) k) ?_
    show own_Go X14 (Q0 Z p0 p1 p2 p3 p4 p5 h0 n0) 3 11 117 #[.val (.int p0), .val (.int p1), .val (.int p2), .val (.int p3), .val (.int p4), .val (.int p5), .val (.int (1 : Int32)), .val (.int gg), .val (.ref b2), .val (.int d0), .val (.int d1), .unset, .unset, .unset, .unset, .unset, .unset, .unset, .unset, .unset, .unset, .unset, .unset, .unset, .unset] [(.int (3 : Int32)), (.int ((p0.toUInt32 >>> ((4 : Int32) &&& 31).toUInt32).toInt32))]
    refine own_st (fun _ k => XS.iand X14.here hx rfl (hb hby at_117) rfl k) ?_
    show own_Go X14 (Q0 Z p0 p1 p2 p3 p4 p5 h0 n0) 3 11 118 #[.val (.int p0), .val (.int p1), .val (.int p2), .val (.int p3), .val (.int p4), .val (.int p5), .val (.int (1 : Int32)), .val (.int gg), .val (.ref b2), .val (.int d0), .val (.int d1), .unset, .unset, .unset, .unset, .unset, .unset, .unset, .unset, .unset, .unset, .unset, .unset, .unset, .unset] [(.int (((p0.toUInt32 >>> ((4 : Int32) &&& 31).toUInt32).toInt32) &&& (3 : Int32)))]
    refine own_st (fun _ k => XS.istore X14.here hx rfl (hb hby at_118) rfl (l' := #[.val (.int p0), .val (.int p1), .val (.int p2), .val (.int p3), .val (.int p4), .val (.int p5), .val (.int (1 : Int32)), .val (.int gg), .val (.ref b2), .val (.int d0), .val (.int d1), .val (.int (((p0.toUInt32 >>> ((4 : Int32) &&& 31).toUInt32).toInt32) &&& (3 : Int32))), .unset, .unset, .unset, .unset, .unset, .unset, .unset, .unset, .unset, .unset, .unset, .unset, .unset]) rfl k) ?_
    show own_Go X14 (Q0 Z p0 p1 p2 p3 p4 p5 h0 n0) 3 11 120 #[.val (.int p0), .val (.int p1), .val (.int p2), .val (.int p3), .val (.int p4), .val (.int p5), .val (.int (1 : Int32)), .val (.int gg), .val (.ref b2), .val (.int d0), .val (.int d1), .val (.int (((p0.toUInt32 >>> ((4 : Int32) &&& 31).toUInt32).toInt32) &&& (3 : Int32))), .unset, .unset, .unset, .unset, .unset, .unset, .unset, .unset, .unset, .unset, .unset, .unset, .unset] []
    generalize hd2 : (((p0.toUInt32 >>> ((4 : Int32) &&& 31).toUInt32).toInt32) &&& (3 : Int32)) = d2
    show own_Go X14 (Q0 Z p0 p1 p2 p3 p4 p5 h0 n0) 3 11 120 #[.val (.int p0), .val (.int p1), .val (.int p2), .val (.int p3), .val (.int p4), .val (.int p5), .val (.int (1 : Int32)), .val (.int gg), .val (.ref b2), .val (.int d0), .val (.int d1), .val (.int d2), .unset, .unset, .unset, .unset, .unset, .unset, .unset, .unset, .unset, .unset, .unset, .unset, .unset] []
    refine own_st (fun _ k => XS.iload X14.here hx rfl (hb hby at_120) rfl k) ?_
    show own_Go X14 (Q0 Z p0 p1 p2 p3 p4 p5 h0 n0) 3 11 122 #[.val (.int p0), .val (.int p1), .val (.int p2), .val (.int p3), .val (.int p4), .val (.int p5), .val (.int (1 : Int32)), .val (.int gg), .val (.ref b2), .val (.int d0), .val (.int d1), .val (.int d2), .unset, .unset, .unset, .unset, .unset, .unset, .unset, .unset, .unset, .unset, .unset, .unset, .unset] [(.int (1 : Int32))]
    refine own_st (fun _ k => XS.iconst X14.here hx rfl (hb hby at_122) k) ?_
    show own_Go X14 (Q0 Z p0 p1 p2 p3 p4 p5 h0 n0) 3 11 123 #[.val (.int p0), .val (.int p1), .val (.int p2), .val (.int p3), .val (.int p4), .val (.int p5), .val (.int (1 : Int32)), .val (.int gg), .val (.ref b2), .val (.int d0), .val (.int d1), .val (.int d2), .unset, .unset, .unset, .unset, .unset, .unset, .unset, .unset, .unset, .unset, .unset, .unset, .unset] [(.int (1 : Int32)), (.int (1 : Int32))]
    have c123_17 : (1 : Int32) = (1 : Int32) := (by decide)
    refine own_st (fun _ k => XS.icmpNo X14.here hx rfl (hb hby at_123) rfl (teq c123_17).2 k) ?_
    show own_Go X14 (Q0 Z p0 p1 p2 p3 p4 p5 h0 n0) 3 11 126 #[.val (.int p0), .val (.int p1), .val (.int p2), .val (.int p3), .val (.int p4), .val (.int p5), .val (.int (1 : Int32)), .val (.int gg), .val (.ref b2), .val (.int d0), .val (.int d1), .val (.int d2), .unset, .unset, .unset, .unset, .unset, .unset, .unset, .unset, .unset, .unset, .unset, .unset, .unset] []
    refine own_st (fun _ k => XS.iconst X14.here hx rfl (hb hby at_126) k) ?_
    show own_Go X14 (Q0 Z p0 p1 p2 p3 p4 p5 h0 n0) 3 11 127 #[.val (.int p0), .val (.int p1), .val (.int p2), .val (.int p3), .val (.int p4), .val (.int p5), .val (.int (1 : Int32)), .val (.int gg), .val (.ref b2), .val (.int d0), .val (.int d1), .val (.int d2), .unset, .unset, .unset, .unset, .unset, .unset, .unset, .unset, .unset, .unset, .unset, .unset, .unset] [(.int (1 : Int32))]
    obtain ⟨T18, h18, k18, X18, e18, E18, A18, st18⟩ := newP X14 hx hZ (hw _ (List.mem_of_getElem? (i := 1) rfl)) e14 (g := (mkF m 127 #[.val (.int p0), .val (.int p1), .val (.int p2), .val (.int p3), .val (.int p4), .val (.int p5), .val (.int (1 : Int32)), .val (.int gg), .val (.ref b2), .val (.int d0), .val (.int d1), .val (.int d2), .unset, .unset, .unset, .unset, .unset, .unset, .unset, .unset, .unset, .unset, .unset, .unset, .unset] [(.int (1 : Int32))])) rfl (hb hby at_127) rfl (by decide) (cap := 1) (by decide) (by decide) (by decide) (by decide)
    obtain ⟨b18, g18⟩ : ∃ z, z = h14.size := ⟨_, rfl⟩
    rw [← g18] at A18 st18
    refine own_st st18 ?_
    have ne_19 := Nat.ne_of_lt (Nat.lt_of_lt_of_le VR.lt (Nat.le_of_eq g18.symm))
    have G_20 := Nat.le_trans Z_15 (Nat.le_of_eq g18.symm)
    have f_21 := VR.ext E18
    have Z_22 := Nat.le_trans Z_15 E18.1
    have V18 : Arv Z h18 b18 k18 .int (1 : Int32) [(.int (0 : Int32))] (.int (0 : Int32)) := (Arv.new A18 (by decide)).pad (pad_rep [] (.int (0 : Int32)) 1)
    show own_Go X18 (Q0 Z p0 p1 p2 p3 p4 p5 h0 n0) 3 11 129 #[.val (.int p0), .val (.int p1), .val (.int p2), .val (.int p3), .val (.int p4), .val (.int p5), .val (.int (1 : Int32)), .val (.int gg), .val (.ref b2), .val (.int d0), .val (.int d1), .val (.int d2), .unset, .unset, .unset, .unset, .unset, .unset, .unset, .unset, .unset, .unset, .unset, .unset, .unset] [(.ref b18)]
    refine own_st (fun _ k => XS.dup X18.here hx rfl (hb hby at_129) rfl rfl k) ?_
    show own_Go X18 (Q0 Z p0 p1 p2 p3 p4 p5 h0 n0) 3 11 130 #[.val (.int p0), .val (.int p1), .val (.int p2), .val (.int p3), .val (.int p4), .val (.int p5), .val (.int (1 : Int32)), .val (.int gg), .val (.ref b2), .val (.int d0), .val (.int d1), .val (.int d2), .unset, .unset, .unset, .unset, .unset, .unset, .unset, .unset, .unset, .unset, .unset, .unset, .unset] [(.ref b18), (.ref b18)]
    refine own_st (fun _ k => XS.iconst X18.here hx rfl (hb hby at_130) k) ?_
    show own_Go X18 (Q0 Z p0 p1 p2 p3 p4 p5 h0 n0) 3 11 131 #[.val (.int p0), .val (.int p1), .val (.int p2), .val (.int p3), .val (.int p4), .val (.int p5), .val (.int (1 : Int32)), .val (.int gg), .val (.ref b2), .val (.int d0), .val (.int d1), .val (.int d2), .unset, .unset, .unset, .unset, .unset, .unset, .unset, .unset, .unset, .unset, .unset, .unset, .unset] [(.int (0 : Int32)), (.ref b18), (.ref b18)]
    refine own_st (fun _ k => XS.iload X18.here hx rfl (hb hby at_131) rfl k) ?_
    show own_Go X18 (Q0 Z p0 p1 p2 p3 p4 p5 h0 n0) 3 11 133 #[.val (.int p0), .val (.int p1), .val (.int p2), .val (.int p3), .val (.int p4), .val (.int p5), .val (.int (1 : Int32)), .val (.int gg), .val (.ref b2), .val (.int d0), .val (.int d1), .val (.int d2), .unset, .unset, .unset, .unset, .unset, .unset, .unset, .unset, .unset, .unset, .unset, .unset, .unset] [(.int d0), (.int (0 : Int32)), (.ref b18), (.ref b18)]
    obtain ⟨T23, h23, X23, e23, W23, V23, st23⟩ := own_stI X18 hx hZ e18 V18 (j := (0 : Int32)) ⟨by decide, by decide⟩ (Nat.le_of_ble_eq_true rfl) (g := (mkF m 133 #[.val (.int p0), .val (.int p1), .val (.int p2), .val (.int p3), .val (.int p4), .val (.int p5), .val (.int (1 : Int32)), .val (.int gg), .val (.ref b2), .val (.int d0), .val (.int d1), .val (.int d2), .unset, .unset, .unset, .unset, .unset, .unset, .unset, .unset, .unset, .unset, .unset, .unset, .unset] [(.int d0), (.int (0 : Int32)), (.ref b18), (.ref b18)])) rfl rfl (hb hby at_133)
    refine own_st st23 ?_
    have f_24 := f_21.other W23 ne_19
    have Z_25 := Nat.le_trans Z_22 (Nat.le_of_eq W23.size.symm)
    have U23 : Arv Z h23 b18 k18 .int (1 : Int32) [(.int d0)] (.int (0 : Int32)) := V23
    have N_26 := Fr.snoc X23 N_16 G_20
    show own_Go X23 (Q0 Z p0 p1 p2 p3 p4 p5 h0 n0) 3 11 134 #[.val (.int p0), .val (.int p1), .val (.int p2), .val (.int p3), .val (.int p4), .val (.int p5), .val (.int (1 : Int32)), .val (.int gg), .val (.ref b2), .val (.int d0), .val (.int d1), .val (.int d2), .unset, .unset, .unset, .unset, .unset, .unset, .unset, .unset, .unset, .unset, .unset, .unset, .unset] [(.ref b18)]
    refine own_st (fun _ k => XS.astore X23.here hx rfl (hb hby at_134) rfl rfl (l' := #[.val (.int p0), .val (.int p1), .val (.int p2), .val (.int p3), .val (.int p4), .val (.int p5), .val (.int (1 : Int32)), .val (.int gg), .val (.ref b2), .val (.int d0), .val (.int d1), .val (.int d2), .val (.ref b18), .unset, .unset, .unset, .unset, .unset, .unset, .unset, .unset, .unset, .unset, .unset, .unset]) rfl k) ?_
    show own_Go X23 (Q0 Z p0 p1 p2 p3 p4 p5 h0 n0) 3 11 136 #[.val (.int p0), .val (.int p1), .val (.int p2), .val (.int p3), .val (.int p4), .val (.int p5), .val (.int (1 : Int32)), .val (.int gg), .val (.ref b2), .val (.int d0), .val (.int d1), .val (.int d2), .val (.ref b18), .unset, .unset, .unset, .unset, .unset, .unset, .unset, .unset, .unset, .unset, .unset, .unset] []
    refine own_st (fun _ k => XS.goto X23.here hx rfl (pc0 := 136) (pc' := 183) rfl (hb hby at_136) (by decide) (by decide) k) ?_
    show own_Go X23 (Q0 Z p0 p1 p2 p3 p4 p5 h0 n0) 3 11 183 #[.val (.int p0), .val (.int p1), .val (.int p2), .val (.int p3), .val (.int p4), .val (.int p5), .val (.int (1 : Int32)), .val (.int gg), .val (.ref b2), .val (.int d0), .val (.int d1), .val (.int d2), .val (.ref b18), .unset, .unset, .unset, .unset, .unset, .unset, .unset, .unset, .unset, .unset, .unset, .unset] []
    have q1 : (own_pw1 gg).toInt = gg.toInt := own_p1 gg
    obtain ⟨T27, h27, X27, e27, E27, A27, D27, -, st27⟩ := newO X23 hx hZ hown (hw _ (List.mem_of_getElem? (i := 3) rfl)) (hw _ (List.mem_of_getElem? (i := 4) rfl)) (hw _ (List.mem_of_getElem? (i := 5) rfl)) e23 (g := (mkF m 183 #[.val (.int p0), .val (.int p1), .val (.int p2), .val (.int p3), .val (.int p4), .val (.int p5), .val (.int (1 : Int32)), .val (.int gg), .val (.ref b2), .val (.int d0), .val (.int d1), .val (.int d2), .val (.ref b18), .unset, .unset, .unset, .unset, .unset, .unset, .unset, .unset, .unset, .unset, .unset, .unset] [])) rfl (hb hby at_183) (by decide) (by decide)
    obtain ⟨b27, g27⟩ : ∃ z, z = h23.size := ⟨_, rfl⟩
    rw [← g27] at A27 D27 st27
    refine own_st st27 ?_
    have ne_28 := Nat.ne_of_lt (Nat.lt_of_lt_of_le f_24.lt (Nat.le_of_eq g27.symm))
    have ne_29 := Nat.ne_of_lt (Nat.lt_of_lt_of_le U23.lt (Nat.le_of_eq g27.symm))
    have G_30 := Nat.le_trans Z_25 (Nat.le_of_eq g27.symm)
    have f_31 := f_24.ext E27
    have f_32 := U23.ext E27
    have Z_33 := Nat.le_trans Z_25 E27.1
    have F_rows_27 : Fld Z h27 b27 "com/example/gingham/gingham/designs/CoveringArraySpec" "rows" "I" (.int (0 : Int32)) := D27 (Or.inr (hw _ (List.mem_of_getElem? (i := 22) rfl))) (ty := .int) (by decide)
    have F_strength_27 : Fld Z h27 b27 "com/example/gingham/gingham/designs/CoveringArraySpec" "strength" "I" (.int (0 : Int32)) := D27 (Or.inr (hw _ (List.mem_of_getElem? (i := 24) rfl))) (ty := .int) (by decide)
    have F_columns_27 : Fld Z h27 b27 "com/example/gingham/gingham/designs/CoveringArraySpec" "columns" "I" (.int (0 : Int32)) := D27 (Or.inr (hw _ (List.mem_of_getElem? (i := 26) rfl))) (ty := .int) (by decide)
    have F_levels_27 : Fld Z h27 b27 "com/example/gingham/gingham/designs/CoveringArraySpec" "levels" "I" (.int (0 : Int32)) := D27 (Or.inr (hw _ (List.mem_of_getElem? (i := 28) rfl))) (ty := .int) (by decide)
    show own_Go X27 (Q0 Z p0 p1 p2 p3 p4 p5 h0 n0) 3 11 186 #[.val (.int p0), .val (.int p1), .val (.int p2), .val (.int p3), .val (.int p4), .val (.int p5), .val (.int (1 : Int32)), .val (.int gg), .val (.ref b2), .val (.int d0), .val (.int d1), .val (.int d2), .val (.ref b18), .unset, .unset, .unset, .unset, .unset, .unset, .unset, .unset, .unset, .unset, .unset, .unset] [(.ref b27)]
    refine own_st (fun _ k => XS.dup X27.here hx rfl (hb hby at_186) rfl rfl k) ?_
    show own_Go X27 (Q0 Z p0 p1 p2 p3 p4 p5 h0 n0) 3 11 187 #[.val (.int p0), .val (.int p1), .val (.int p2), .val (.int p3), .val (.int p4), .val (.int p5), .val (.int (1 : Int32)), .val (.int gg), .val (.ref b2), .val (.int d0), .val (.int d1), .val (.int d2), .val (.ref b18), .unset, .unset, .unset, .unset, .unset, .unset, .unset, .unset, .unset, .unset, .unset, .unset] [(.ref b27), (.ref b27)]
    refine own_st (fun _ k => XS.iconst X27.here hx rfl (hb hby at_187) k) ?_
    show own_Go X27 (Q0 Z p0 p1 p2 p3 p4 p5 h0 n0) 3 11 188 #[.val (.int p0), .val (.int p1), .val (.int p2), .val (.int p3), .val (.int p4), .val (.int p5), .val (.int (1 : Int32)), .val (.int gg), .val (.ref b2), .val (.int d0), .val (.int d1), .val (.int d2), .val (.ref b18), .unset, .unset, .unset, .unset, .unset, .unset, .unset, .unset, .unset, .unset, .unset, .unset] [(.int (1 : Int32)), (.ref b27), (.ref b27)]
    refine own_st (fun _ k => XS.iload X27.here hx rfl (hb hby at_188) rfl k) ?_
    show own_Go X27 (Q0 Z p0 p1 p2 p3 p4 p5 h0 n0) 3 11 190 #[.val (.int p0), .val (.int p1), .val (.int p2), .val (.int p3), .val (.int p4), .val (.int p5), .val (.int (1 : Int32)), .val (.int gg), .val (.ref b2), .val (.int d0), .val (.int d1), .val (.int d2), .val (.ref b18), .unset, .unset, .unset, .unset, .unset, .unset, .unset, .unset, .unset, .unset, .unset, .unset] [(.int (1 : Int32)), (.int (1 : Int32)), (.ref b27), (.ref b27)]
    refine own_st (fun _ k => XS.iconst X27.here hx rfl (hb hby at_190) k) ?_
    show own_Go X27 (Q0 Z p0 p1 p2 p3 p4 p5 h0 n0) 3 11 191 #[.val (.int p0), .val (.int p1), .val (.int p2), .val (.int p3), .val (.int p4), .val (.int p5), .val (.int (1 : Int32)), .val (.int gg), .val (.ref b2), .val (.int d0), .val (.int d1), .val (.int d2), .val (.ref b18), .unset, .unset, .unset, .unset, .unset, .unset, .unset, .unset, .unset, .unset, .unset, .unset] [(.int (4 : Int32)), (.int (1 : Int32)), (.int (1 : Int32)), (.ref b27), (.ref b27)]
    refine own_st (fun _ k => XS.iload X27.here hx rfl (hb hby at_191) rfl k) ?_
    show own_Go X27 (Q0 Z p0 p1 p2 p3 p4 p5 h0 n0) 3 11 193 #[.val (.int p0), .val (.int p1), .val (.int p2), .val (.int p3), .val (.int p4), .val (.int p5), .val (.int (1 : Int32)), .val (.int gg), .val (.ref b2), .val (.int d0), .val (.int d1), .val (.int d2), .val (.ref b18), .unset, .unset, .unset, .unset, .unset, .unset, .unset, .unset, .unset, .unset, .unset, .unset] [(.int gg), (.int (4 : Int32)), (.int (1 : Int32)), (.int (1 : Int32)), (.ref b27), (.ref b27)]
    refine own_callI (W := 1) X27 hx hZ hown (hw _ (List.mem_of_getElem? (i := 6) rfl)) (hw _ (List.mem_of_getElem? (i := 7) rfl)) (hw _ (List.mem_of_getElem? (i := 5) rfl)) (hw _ (List.mem_of_getElem? (i := 8) rfl)) rfl (by decide) (rm11 l Z a0 hw [] b27 gg h27 n0 Z_33 A27 G_30 F_rows_27 F_strength_27 F_columns_27 F_levels_27 (own_le64 q1 (by omega)) (own_nn32 q1 (by omega) (by omega)) (own_g2 hG.1)) (by decide) (by decide) (by rw [hml]; rfl) b27 [(.int (1 : Int32)), (.int (1 : Int32)), (.int (4 : Int32)), (.int gg)] [(.ref b27)] (lenOf pd_0_0 rfl) rfl rfl (Nat.le_of_ble_eq_true rfl) (hb hby at_193) e27 (by decide) (by decide) ?_
    rintro _ T34 L34 X34 ⟨rfl, N34q, K34q, F34_rows, F34_strength, F34_columns, F34_levels⟩
    have N_35 := Fr.app N_26 N34q
    have f_36 := f_31.keep K34q (ninS ne_28 nin0)
    have f_37 := f_32.keep K34q (ninS ne_29 nin0)
    have f_38 := A27.keep K34q
    have Z_39 := Nat.le_trans Z_33 K34q.1
    show own_Go X34 (Q0 Z p0 p1 p2 p3 p4 p5 h0 n0) 3 11 196 #[.val (.int p0), .val (.int p1), .val (.int p2), .val (.int p3), .val (.int p4), .val (.int p5), .val (.int (1 : Int32)), .val (.int gg), .val (.ref b2), .val (.int d0), .val (.int d1), .val (.int d2), .val (.ref b18), .unset, .unset, .unset, .unset, .unset, .unset, .unset, .unset, .unset, .unset, .unset, .unset] [(.ref b27)]
    refine own_st (fun _ k => XS.astore X34.here hx rfl (hb hby at_196) rfl rfl (l' := #[.val (.int p0), .val (.int p1), .val (.int p2), .val (.int p3), .val (.int p4), .val (.int p5), .val (.int (1 : Int32)), .val (.int gg), .val (.ref b2), .val (.int d0), .val (.int d1), .val (.int d2), .val (.ref b18), .val (.ref b27), .unset, .unset, .unset, .unset, .unset, .unset, .unset, .unset, .unset, .unset, .unset]) rfl k) ?_
    show own_Go X34 (Q0 Z p0 p1 p2 p3 p4 p5 h0 n0) 3 11 198 #[.val (.int p0), .val (.int p1), .val (.int p2), .val (.int p3), .val (.int p4), .val (.int p5), .val (.int (1 : Int32)), .val (.int gg), .val (.ref b2), .val (.int d0), .val (.int d1), .val (.int d2), .val (.ref b18), .val (.ref b27), .unset, .unset, .unset, .unset, .unset, .unset, .unset, .unset, .unset, .unset, .unset] []
    refine own_st (fun _ k => XS.aload X34.here hx rfl (hb hby at_198) rfl rfl k) ?_
    show own_Go X34 (Q0 Z p0 p1 p2 p3 p4 p5 h0 n0) 3 11 200 #[.val (.int p0), .val (.int p1), .val (.int p2), .val (.int p3), .val (.int p4), .val (.int p5), .val (.int (1 : Int32)), .val (.int gg), .val (.ref b2), .val (.int d0), .val (.int d1), .val (.int d2), .val (.ref b18), .val (.ref b27), .unset, .unset, .unset, .unset, .unset, .unset, .unset, .unset, .unset, .unset, .unset] [(.ref b2)]
    refine own_st (fun _ k => XS.iload X34.here hx rfl (hb hby at_200) rfl k) ?_
    show own_Go X34 (Q0 Z p0 p1 p2 p3 p4 p5 h0 n0) 3 11 202 #[.val (.int p0), .val (.int p1), .val (.int p2), .val (.int p3), .val (.int p4), .val (.int p5), .val (.int (1 : Int32)), .val (.int gg), .val (.ref b2), .val (.int d0), .val (.int d1), .val (.int d2), .val (.ref b18), .val (.ref b27), .unset, .unset, .unset, .unset, .unset, .unset, .unset, .unset, .unset, .unset, .unset] [(.int d0), (.ref b2)]
    refine own_st (fun _ k => own_ldI X34 hx hZ (Eq.refl T34.heap) f_36 (j := d0) (own_c3 hd0) (v := (.int (own_at4 y0 y1 y2 y3 d0))) (own_getD4 (own_c3 hd0)) (g := (mkF m 202 #[.val (.int p0), .val (.int p1), .val (.int p2), .val (.int p3), .val (.int p4), .val (.int p5), .val (.int (1 : Int32)), .val (.int gg), .val (.ref b2), .val (.int d0), .val (.int d1), .val (.int d2), .val (.ref b18), .val (.ref b27), .unset, .unset, .unset, .unset, .unset, .unset, .unset, .unset, .unset, .unset, .unset] [(.int d0), (.ref b2)])) rfl rfl (hb hby at_202) _ k) ?_
    show own_Go X34 (Q0 Z p0 p1 p2 p3 p4 p5 h0 n0) 3 11 203 #[.val (.int p0), .val (.int p1), .val (.int p2), .val (.int p3), .val (.int p4), .val (.int p5), .val (.int (1 : Int32)), .val (.int gg), .val (.ref b2), .val (.int d0), .val (.int d1), .val (.int d2), .val (.ref b18), .val (.ref b27), .unset, .unset, .unset, .unset, .unset, .unset, .unset, .unset, .unset, .unset, .unset] [(.int (own_at4 y0 y1 y2 y3 d0))]
    refine own_st (fun _ k => XS.i2l X34.here hx rfl (hb hby at_203) rfl k) ?_
    show own_Go X34 (Q0 Z p0 p1 p2 p3 p4 p5 h0 n0) 3 11 204 #[.val (.int p0), .val (.int p1), .val (.int p2), .val (.int p3), .val (.int p4), .val (.int p5), .val (.int (1 : Int32)), .val (.int gg), .val (.ref b2), .val (.int d0), .val (.int d1), .val (.int d2), .val (.ref b18), .val (.ref b27), .unset, .unset, .unset, .unset, .unset, .unset, .unset, .unset, .unset, .unset, .unset] [(.long ((own_at4 y0 y1 y2 y3 d0).toInt64))]
    refine own_st (fun _ k => XS.lstore X34.here hx rfl (hb hby at_204) rfl (l' := #[.val (.int p0), .val (.int p1), .val (.int p2), .val (.int p3), .val (.int p4), .val (.int p5), .val (.int (1 : Int32)), .val (.int gg), .val (.ref b2), .val (.int d0), .val (.int d1), .val (.int d2), .val (.ref b18), .val (.ref b27), .val (.long ((own_at4 y0 y1 y2 y3 d0).toInt64)), .second, .unset, .unset, .unset, .unset, .unset, .unset, .unset, .unset, .unset]) rfl k) ?_
    show own_Go X34 (Q0 Z p0 p1 p2 p3 p4 p5 h0 n0) 3 11 206 #[.val (.int p0), .val (.int p1), .val (.int p2), .val (.int p3), .val (.int p4), .val (.int p5), .val (.int (1 : Int32)), .val (.int gg), .val (.ref b2), .val (.int d0), .val (.int d1), .val (.int d2), .val (.ref b18), .val (.ref b27), .val (.long ((own_at4 y0 y1 y2 y3 d0).toInt64)), .second, .unset, .unset, .unset, .unset, .unset, .unset, .unset, .unset, .unset] []
    refine own_st (fun _ k => XS.aload X34.here hx rfl (hb hby at_206) rfl rfl k) ?_
    show own_Go X34 (Q0 Z p0 p1 p2 p3 p4 p5 h0 n0) 3 11 208 #[.val (.int p0), .val (.int p1), .val (.int p2), .val (.int p3), .val (.int p4), .val (.int p5), .val (.int (1 : Int32)), .val (.int gg), .val (.ref b2), .val (.int d0), .val (.int d1), .val (.int d2), .val (.ref b18), .val (.ref b27), .val (.long ((own_at4 y0 y1 y2 y3 d0).toInt64)), .second, .unset, .unset, .unset, .unset, .unset, .unset, .unset, .unset, .unset] [(.ref b2)]
    refine own_st (fun _ k => XS.iload X34.here hx rfl (hb hby at_208) rfl k) ?_
    show own_Go X34 (Q0 Z p0 p1 p2 p3 p4 p5 h0 n0) 3 11 210 #[.val (.int p0), .val (.int p1), .val (.int p2), .val (.int p3), .val (.int p4), .val (.int p5), .val (.int (1 : Int32)), .val (.int gg), .val (.ref b2), .val (.int d0), .val (.int d1), .val (.int d2), .val (.ref b18), .val (.ref b27), .val (.long ((own_at4 y0 y1 y2 y3 d0).toInt64)), .second, .unset, .unset, .unset, .unset, .unset, .unset, .unset, .unset, .unset] [(.int d1), (.ref b2)]
    refine own_st (fun _ k => own_ldI X34 hx hZ (Eq.refl T34.heap) f_36 (j := d1) (own_c3 hd1) (v := (.int (own_at4 y0 y1 y2 y3 d1))) (own_getD4 (own_c3 hd1)) (g := (mkF m 210 #[.val (.int p0), .val (.int p1), .val (.int p2), .val (.int p3), .val (.int p4), .val (.int p5), .val (.int (1 : Int32)), .val (.int gg), .val (.ref b2), .val (.int d0), .val (.int d1), .val (.int d2), .val (.ref b18), .val (.ref b27), .val (.long ((own_at4 y0 y1 y2 y3 d0).toInt64)), .second, .unset, .unset, .unset, .unset, .unset, .unset, .unset, .unset, .unset] [(.int d1), (.ref b2)])) rfl rfl (hb hby at_210) _ k) ?_
    show own_Go X34 (Q0 Z p0 p1 p2 p3 p4 p5 h0 n0) 3 11 211 #[.val (.int p0), .val (.int p1), .val (.int p2), .val (.int p3), .val (.int p4), .val (.int p5), .val (.int (1 : Int32)), .val (.int gg), .val (.ref b2), .val (.int d0), .val (.int d1), .val (.int d2), .val (.ref b18), .val (.ref b27), .val (.long ((own_at4 y0 y1 y2 y3 d0).toInt64)), .second, .unset, .unset, .unset, .unset, .unset, .unset, .unset, .unset, .unset] [(.int (own_at4 y0 y1 y2 y3 d1))]
    refine own_st (fun _ k => XS.i2l X34.here hx rfl (hb hby at_211) rfl k) ?_
    show own_Go X34 (Q0 Z p0 p1 p2 p3 p4 p5 h0 n0) 3 11 212 #[.val (.int p0), .val (.int p1), .val (.int p2), .val (.int p3), .val (.int p4), .val (.int p5), .val (.int (1 : Int32)), .val (.int gg), .val (.ref b2), .val (.int d0), .val (.int d1), .val (.int d2), .val (.ref b18), .val (.ref b27), .val (.long ((own_at4 y0 y1 y2 y3 d0).toInt64)), .second, .unset, .unset, .unset, .unset, .unset, .unset, .unset, .unset, .unset] [(.long ((own_at4 y0 y1 y2 y3 d1).toInt64))]
    refine own_st (fun _ k => XS.lstore X34.here hx rfl (hb hby at_212) rfl (l' := #[.val (.int p0), .val (.int p1), .val (.int p2), .val (.int p3), .val (.int p4), .val (.int p5), .val (.int (1 : Int32)), .val (.int gg), .val (.ref b2), .val (.int d0), .val (.int d1), .val (.int d2), .val (.ref b18), .val (.ref b27), .val (.long ((own_at4 y0 y1 y2 y3 d0).toInt64)), .second, .val (.long ((own_at4 y0 y1 y2 y3 d1).toInt64)), .second, .unset, .unset, .unset, .unset, .unset, .unset, .unset]) rfl k) ?_
    show own_Go X34 (Q0 Z p0 p1 p2 p3 p4 p5 h0 n0) 3 11 214 #[.val (.int p0), .val (.int p1), .val (.int p2), .val (.int p3), .val (.int p4), .val (.int p5), .val (.int (1 : Int32)), .val (.int gg), .val (.ref b2), .val (.int d0), .val (.int d1), .val (.int d2), .val (.ref b18), .val (.ref b27), .val (.long ((own_at4 y0 y1 y2 y3 d0).toInt64)), .second, .val (.long ((own_at4 y0 y1 y2 y3 d1).toInt64)), .second, .unset, .unset, .unset, .unset, .unset, .unset, .unset] []
    refine own_st (fun _ k => XS.aload X34.here hx rfl (hb hby at_214) rfl rfl k) ?_
    show own_Go X34 (Q0 Z p0 p1 p2 p3 p4 p5 h0 n0) 3 11 216 #[.val (.int p0), .val (.int p1), .val (.int p2), .val (.int p3), .val (.int p4), .val (.int p5), .val (.int (1 : Int32)), .val (.int gg), .val (.ref b2), .val (.int d0), .val (.int d1), .val (.int d2), .val (.ref b18), .val (.ref b27), .val (.long ((own_at4 y0 y1 y2 y3 d0).toInt64)), .second, .val (.long ((own_at4 y0 y1 y2 y3 d1).toInt64)), .second, .unset, .unset, .unset, .unset, .unset, .unset, .unset] [(.ref b2)]
    refine own_st (fun _ k => XS.iload X34.here hx rfl (hb hby at_216) rfl k) ?_
    show own_Go X34 (Q0 Z p0 p1 p2 p3 p4 p5 h0 n0) 3 11 218 #[.val (.int p0), .val (.int p1), .val (.int p2), .val (.int p3), .val (.int p4), .val (.int p5), .val (.int (1 : Int32)), .val (.int gg), .val (.ref b2), .val (.int d0), .val (.int d1), .val (.int d2), .val (.ref b18), .val (.ref b27), .val (.long ((own_at4 y0 y1 y2 y3 d0).toInt64)), .second, .val (.long ((own_at4 y0 y1 y2 y3 d1).toInt64)), .second, .unset, .unset, .unset, .unset, .unset, .unset, .unset] [(.int d2), (.ref b2)]
    refine own_st (fun _ k => own_ldI X34 hx hZ (Eq.refl T34.heap) f_36 (j := d2) (own_c3 hd2) (v := (.int (own_at4 y0 y1 y2 y3 d2))) (own_getD4 (own_c3 hd2)) (g := (mkF m 218 #[.val (.int p0), .val (.int p1), .val (.int p2), .val (.int p3), .val (.int p4), .val (.int p5), .val (.int (1 : Int32)), .val (.int gg), .val (.ref b2), .val (.int d0), .val (.int d1), .val (.int d2), .val (.ref b18), .val (.ref b27), .val (.long ((own_at4 y0 y1 y2 y3 d0).toInt64)), .second, .val (.long ((own_at4 y0 y1 y2 y3 d1).toInt64)), .second, .unset, .unset, .unset, .unset, .unset, .unset, .unset] [(.int d2), (.ref b2)])) rfl rfl (hb hby at_218) _ k) ?_
    show own_Go X34 (Q0 Z p0 p1 p2 p3 p4 p5 h0 n0) 3 11 219 #[.val (.int p0), .val (.int p1), .val (.int p2), .val (.int p3), .val (.int p4), .val (.int p5), .val (.int (1 : Int32)), .val (.int gg), .val (.ref b2), .val (.int d0), .val (.int d1), .val (.int d2), .val (.ref b18), .val (.ref b27), .val (.long ((own_at4 y0 y1 y2 y3 d0).toInt64)), .second, .val (.long ((own_at4 y0 y1 y2 y3 d1).toInt64)), .second, .unset, .unset, .unset, .unset, .unset, .unset, .unset] [(.int (own_at4 y0 y1 y2 y3 d2))]
    refine own_st (fun _ k => XS.i2l X34.here hx rfl (hb hby at_219) rfl k) ?_
    show own_Go X34 (Q0 Z p0 p1 p2 p3 p4 p5 h0 n0) 3 11 220 #[.val (.int p0), .val (.int p1), .val (.int p2), .val (.int p3), .val (.int p4), .val (.int p5), .val (.int (1 : Int32)), .val (.int gg), .val (.ref b2), .val (.int d0), .val (.int d1), .val (.int d2), .val (.ref b18), .val (.ref b27), .val (.long ((own_at4 y0 y1 y2 y3 d0).toInt64)), .second, .val (.long ((own_at4 y0 y1 y2 y3 d1).toInt64)), .second, .unset, .unset, .unset, .unset, .unset, .unset, .unset] [(.long ((own_at4 y0 y1 y2 y3 d2).toInt64))]
    refine own_st (fun _ k => XS.lstore X34.here hx rfl (hb hby at_220) rfl (l' := #[.val (.int p0), .val (.int p1), .val (.int p2), .val (.int p3), .val (.int p4), .val (.int p5), .val (.int (1 : Int32)), .val (.int gg), .val (.ref b2), .val (.int d0), .val (.int d1), .val (.int d2), .val (.ref b18), .val (.ref b27), .val (.long ((own_at4 y0 y1 y2 y3 d0).toInt64)), .second, .val (.long ((own_at4 y0 y1 y2 y3 d1).toInt64)), .second, .val (.long ((own_at4 y0 y1 y2 y3 d2).toInt64)), .second, .unset, .unset, .unset, .unset, .unset]) rfl k) ?_
    show own_Go X34 (Q0 Z p0 p1 p2 p3 p4 p5 h0 n0) 3 11 222 #[.val (.int p0), .val (.int p1), .val (.int p2), .val (.int p3), .val (.int p4), .val (.int p5), .val (.int (1 : Int32)), .val (.int gg), .val (.ref b2), .val (.int d0), .val (.int d1), .val (.int d2), .val (.ref b18), .val (.ref b27), .val (.long ((own_at4 y0 y1 y2 y3 d0).toInt64)), .second, .val (.long ((own_at4 y0 y1 y2 y3 d1).toInt64)), .second, .val (.long ((own_at4 y0 y1 y2 y3 d2).toInt64)), .second, .unset, .unset, .unset, .unset, .unset] []
    refine own_st (fun _ k => XS.iload X34.here hx rfl (hb hby at_222) rfl k) ?_
    show own_Go X34 (Q0 Z p0 p1 p2 p3 p4 p5 h0 n0) 3 11 224 #[.val (.int p0), .val (.int p1), .val (.int p2), .val (.int p3), .val (.int p4), .val (.int p5), .val (.int (1 : Int32)), .val (.int gg), .val (.ref b2), .val (.int d0), .val (.int d1), .val (.int d2), .val (.ref b18), .val (.ref b27), .val (.long ((own_at4 y0 y1 y2 y3 d0).toInt64)), .second, .val (.long ((own_at4 y0 y1 y2 y3 d1).toInt64)), .second, .val (.long ((own_at4 y0 y1 y2 y3 d2).toInt64)), .second, .unset, .unset, .unset, .unset, .unset] [(.int gg)]
    refine own_st (fun _ k => XS.i2l X34.here hx rfl (hb hby at_224) rfl k) ?_
    show own_Go X34 (Q0 Z p0 p1 p2 p3 p4 p5 h0 n0) 3 11 225 #[.val (.int p0), .val (.int p1), .val (.int p2), .val (.int p3), .val (.int p4), .val (.int p5), .val (.int (1 : Int32)), .val (.int gg), .val (.ref b2), .val (.int d0), .val (.int d1), .val (.int d2), .val (.ref b18), .val (.ref b27), .val (.long ((own_at4 y0 y1 y2 y3 d0).toInt64)), .second, .val (.long ((own_at4 y0 y1 y2 y3 d1).toInt64)), .second, .val (.long ((own_at4 y0 y1 y2 y3 d2).toInt64)), .second, .unset, .unset, .unset, .unset, .unset] [(.long (gg.toInt64))]
    refine own_st (fun _ k => XS.lstore X34.here hx rfl (hb hby at_225) rfl (l' := #[.val (.int p0), .val (.int p1), .val (.int p2), .val (.int p3), .val (.int p4), .val (.int p5), .val (.int (1 : Int32)), .val (.int gg), .val (.ref b2), .val (.int d0), .val (.int d1), .val (.int d2), .val (.ref b18), .val (.ref b27), .val (.long ((own_at4 y0 y1 y2 y3 d0).toInt64)), .second, .val (.long ((own_at4 y0 y1 y2 y3 d1).toInt64)), .second, .val (.long ((own_at4 y0 y1 y2 y3 d2).toInt64)), .second, .val (.long (gg.toInt64)), .second, .unset, .unset, .unset]) rfl k) ?_
    show own_Go X34 (Q0 Z p0 p1 p2 p3 p4 p5 h0 n0) 3 11 227 #[.val (.int p0), .val (.int p1), .val (.int p2), .val (.int p3), .val (.int p4), .val (.int p5), .val (.int (1 : Int32)), .val (.int gg), .val (.ref b2), .val (.int d0), .val (.int d1), .val (.int d2), .val (.ref b18), .val (.ref b27), .val (.long ((own_at4 y0 y1 y2 y3 d0).toInt64)), .second, .val (.long ((own_at4 y0 y1 y2 y3 d1).toInt64)), .second, .val (.long ((own_at4 y0 y1 y2 y3 d2).toInt64)), .second, .val (.long (gg.toInt64)), .second, .unset, .unset, .unset] []
    refine own_st (fun _ k => XS.iload X34.here hx rfl (hb hby at_227) rfl k) ?_
    show own_Go X34 (Q0 Z p0 p1 p2 p3 p4 p5 h0 n0) 3 11 229 #[.val (.int p0), .val (.int p1), .val (.int p2), .val (.int p3), .val (.int p4), .val (.int p5), .val (.int (1 : Int32)), .val (.int gg), .val (.ref b2), .val (.int d0), .val (.int d1), .val (.int d2), .val (.ref b18), .val (.ref b27), .val (.long ((own_at4 y0 y1 y2 y3 d0).toInt64)), .second, .val (.long ((own_at4 y0 y1 y2 y3 d1).toInt64)), .second, .val (.long ((own_at4 y0 y1 y2 y3 d2).toInt64)), .second, .val (.long (gg.toInt64)), .second, .unset, .unset, .unset] [(.int (1 : Int32))]
    refine own_st (fun _ k => XS.iconst X34.here hx rfl (hb hby at_229) k) ?_
    show own_Go X34 (Q0 Z p0 p1 p2 p3 p4 p5 h0 n0) 3 11 230 #[.val (.int p0), .val (.int p1), .val (.int p2), .val (.int p3), .val (.int p4), .val (.int p5), .val (.int (1 : Int32)), .val (.int gg), .val (.ref b2), .val (.int d0), .val (.int d1), .val (.int d2), .val (.ref b18), .val (.ref b27), .val (.long ((own_at4 y0 y1 y2 y3 d0).toInt64)), .second, .val (.long ((own_at4 y0 y1 y2 y3 d1).toInt64)), .second, .val (.long ((own_at4 y0 y1 y2 y3 d2).toInt64)), .second, .val (.long (gg.toInt64)), .second, .unset, .unset, .unset] [(.int (1 : Int32)), (.int (1 : Int32))]
    have c230_40 : (1 : Int32) = (1 : Int32) := (by decide)
    refine own_st (fun _ k => XS.icmpNo X34.here hx rfl (hb hby at_230) rfl (teq c230_40).2 k) ?_
    show own_Go X34 (Q0 Z p0 p1 p2 p3 p4 p5 h0 n0) 3 11 233 #[.val (.int p0), .val (.int p1), .val (.int p2), .val (.int p3), .val (.int p4), .val (.int p5), .val (.int (1 : Int32)), .val (.int gg), .val (.ref b2), .val (.int d0), .val (.int d1), .val (.int d2), .val (.ref b18), .val (.ref b27), .val (.long ((own_at4 y0 y1 y2 y3 d0).toInt64)), .second, .val (.long ((own_at4 y0 y1 y2 y3 d1).toInt64)), .second, .val (.long ((own_at4 y0 y1 y2 y3 d2).toInt64)), .second, .val (.long (gg.toInt64)), .second, .unset, .unset, .unset] []
    refine own_st (fun _ k => XS.lload X34.here hx rfl (hb hby at_233) rfl k) ?_
    show own_Go X34 (Q0 Z p0 p1 p2 p3 p4 p5 h0 n0) 3 11 235 #[.val (.int p0), .val (.int p1), .val (.int p2), .val (.int p3), .val (.int p4), .val (.int p5), .val (.int (1 : Int32)), .val (.int gg), .val (.ref b2), .val (.int d0), .val (.int d1), .val (.int d2), .val (.ref b18), .val (.ref b27), .val (.long ((own_at4 y0 y1 y2 y3 d0).toInt64)), .second, .val (.long ((own_at4 y0 y1 y2 y3 d1).toInt64)), .second, .val (.long ((own_at4 y0 y1 y2 y3 d2).toInt64)), .second, .val (.long (gg.toInt64)), .second, .unset, .unset, .unset] [(.long ((own_at4 y0 y1 y2 y3 d0).toInt64))]
    refine own_st (fun _ k => XS.lstore X34.here hx rfl (hb hby at_235) rfl (l' := #[.val (.int p0), .val (.int p1), .val (.int p2), .val (.int p3), .val (.int p4), .val (.int p5), .val (.int (1 : Int32)), .val (.int gg), .val (.ref b2), .val (.int d0), .val (.int d1), .val (.int d2), .val (.ref b18), .val (.ref b27), .val (.long ((own_at4 y0 y1 y2 y3 d0).toInt64)), .second, .val (.long ((own_at4 y0 y1 y2 y3 d1).toInt64)), .second, .val (.long ((own_at4 y0 y1 y2 y3 d2).toInt64)), .second, .val (.long (gg.toInt64)), .second, .val (.long ((own_at4 y0 y1 y2 y3 d0).toInt64)), .second, .unset]) rfl k) ?_
    show own_Go X34 (Q0 Z p0 p1 p2 p3 p4 p5 h0 n0) 3 11 237 #[.val (.int p0), .val (.int p1), .val (.int p2), .val (.int p3), .val (.int p4), .val (.int p5), .val (.int (1 : Int32)), .val (.int gg), .val (.ref b2), .val (.int d0), .val (.int d1), .val (.int d2), .val (.ref b18), .val (.ref b27), .val (.long ((own_at4 y0 y1 y2 y3 d0).toInt64)), .second, .val (.long ((own_at4 y0 y1 y2 y3 d1).toInt64)), .second, .val (.long ((own_at4 y0 y1 y2 y3 d2).toInt64)), .second, .val (.long (gg.toInt64)), .second, .val (.long ((own_at4 y0 y1 y2 y3 d0).toInt64)), .second, .unset] []
    refine own_st (fun _ k => XS.goto X34.here hx rfl (pc0 := 237) (pc' := 278) rfl (hb hby at_237) (by decide) (by decide) k) ?_
    show own_Go X34 (Q0 Z p0 p1 p2 p3 p4 p5 h0 n0) 3 11 278 #[.val (.int p0), .val (.int p1), .val (.int p2), .val (.int p3), .val (.int p4), .val (.int p5), .val (.int (1 : Int32)), .val (.int gg), .val (.ref b2), .val (.int d0), .val (.int d1), .val (.int d2), .val (.ref b18), .val (.ref b27), .val (.long ((own_at4 y0 y1 y2 y3 d0).toInt64)), .second, .val (.long ((own_at4 y0 y1 y2 y3 d1).toInt64)), .second, .val (.long ((own_at4 y0 y1 y2 y3 d2).toInt64)), .second, .val (.long (gg.toInt64)), .second, .val (.long ((own_at4 y0 y1 y2 y3 d0).toInt64)), .second, .unset] []
    refine own_st (fun _ k => XS.aload X34.here hx rfl (hb hby at_278) rfl rfl k) ?_
    show own_Go X34 (Q0 Z p0 p1 p2 p3 p4 p5 h0 n0) 3 11 280 #[.val (.int p0), .val (.int p1), .val (.int p2), .val (.int p3), .val (.int p4), .val (.int p5), .val (.int (1 : Int32)), .val (.int gg), .val (.ref b2), .val (.int d0), .val (.int d1), .val (.int d2), .val (.ref b18), .val (.ref b27), .val (.long ((own_at4 y0 y1 y2 y3 d0).toInt64)), .second, .val (.long ((own_at4 y0 y1 y2 y3 d1).toInt64)), .second, .val (.long ((own_at4 y0 y1 y2 y3 d2).toInt64)), .second, .val (.long (gg.toInt64)), .second, .val (.long ((own_at4 y0 y1 y2 y3 d0).toInt64)), .second, .unset] [(.ref b27)]
    refine own_st (fun _ k => XS.aload X34.here hx rfl (hb hby at_280) rfl rfl k) ?_
    show own_Go X34 (Q0 Z p0 p1 p2 p3 p4 p5 h0 n0) 3 11 282 #[.val (.int p0), .val (.int p1), .val (.int p2), .val (.int p3), .val (.int p4), .val (.int p5), .val (.int (1 : Int32)), .val (.int gg), .val (.ref b2), .val (.int d0), .val (.int d1), .val (.int d2), .val (.ref b18), .val (.ref b27), .val (.long ((own_at4 y0 y1 y2 y3 d0).toInt64)), .second, .val (.long ((own_at4 y0 y1 y2 y3 d1).toInt64)), .second, .val (.long ((own_at4 y0 y1 y2 y3 d2).toInt64)), .second, .val (.long (gg.toInt64)), .second, .val (.long ((own_at4 y0 y1 y2 y3 d0).toInt64)), .second, .unset] [(.ref b2), (.ref b27)]
    refine own_st (fun _ k => XS.aload X34.here hx rfl (hb hby at_282) rfl rfl k) ?_
    show own_Go X34 (Q0 Z p0 p1 p2 p3 p4 p5 h0 n0) 3 11 284 #[.val (.int p0), .val (.int p1), .val (.int p2), .val (.int p3), .val (.int p4), .val (.int p5), .val (.int (1 : Int32)), .val (.int gg), .val (.ref b2), .val (.int d0), .val (.int d1), .val (.int d2), .val (.ref b18), .val (.ref b27), .val (.long ((own_at4 y0 y1 y2 y3 d0).toInt64)), .second, .val (.long ((own_at4 y0 y1 y2 y3 d1).toInt64)), .second, .val (.long ((own_at4 y0 y1 y2 y3 d2).toInt64)), .second, .val (.long (gg.toInt64)), .second, .val (.long ((own_at4 y0 y1 y2 y3 d0).toInt64)), .second, .unset] [(.ref b18), (.ref b2), (.ref b27)]
    refine own_callV (W := 0) X34 hx hZ hown (hw _ (List.mem_of_getElem? (i := 29) rfl)) (hw _ (List.mem_of_getElem? (i := 30) rfl)) (hw _ (List.mem_of_getElem? (i := 32) rfl)) (hw _ (List.mem_of_getElem? (i := 31) rfl)) (hw _ (List.mem_of_getElem? (i := 5) rfl)) (hw _ (List.mem_of_getElem? (i := 33) rfl)) (by decide) (rm51 l Z a0 hw [] b27 b2 b18 gg k2 k18 y0 y1 y2 y3 d0 T34.heap n0 Z_39 F34_levels f_36 f_37 (own_c3 hd0)) (by decide) (by decide) (by rw [hml]; rfl) b27 [(.ref b2), (.ref b18)] [] (lenOf pd_0_1 rfl) rfl rfl (Nat.le_of_ble_eq_true rfl) (hb hby at_284) (Eq.refl T34.heap) f_38 (by decide) (by decide) ?_
    rintro _ T41 L41 X41 ⟨rfl, N41q, e41⟩
    have N_42 := Fr.app N_35 N41q
    show own_Go X41 (Q0 Z p0 p1 p2 p3 p4 p5 h0 n0) 3 11 287 #[.val (.int p0), .val (.int p1), .val (.int p2), .val (.int p3), .val (.int p4), .val (.int p5), .val (.int (1 : Int32)), .val (.int gg), .val (.ref b2), .val (.int d0), .val (.int d1), .val (.int d2), .val (.ref b18), .val (.ref b27), .val (.long ((own_at4 y0 y1 y2 y3 d0).toInt64)), .second, .val (.long ((own_at4 y0 y1 y2 y3 d1).toInt64)), .second, .val (.long ((own_at4 y0 y1 y2 y3 d2).toInt64)), .second, .val (.long (gg.toInt64)), .second, .val (.long ((own_at4 y0 y1 y2 y3 d0).toInt64)), .second, .unset] [(.int (own_tup1 gg (own_at4 y0 y1 y2 y3 d0)))]
    refine own_st (fun _ k => XS.istore X41.here hx rfl (hb hby at_287) rfl (l' := #[.val (.int p0), .val (.int p1), .val (.int p2), .val (.int p3), .val (.int p4), .val (.int p5), .val (.int (1 : Int32)), .val (.int gg), .val (.ref b2), .val (.int d0), .val (.int d1), .val (.int d2), .val (.ref b18), .val (.ref b27), .val (.long ((own_at4 y0 y1 y2 y3 d0).toInt64)), .second, .val (.long ((own_at4 y0 y1 y2 y3 d1).toInt64)), .second, .val (.long ((own_at4 y0 y1 y2 y3 d2).toInt64)), .second, .val (.long (gg.toInt64)), .second, .val (.long ((own_at4 y0 y1 y2 y3 d0).toInt64)), .second, .val (.int (own_tup1 gg (own_at4 y0 y1 y2 y3 d0)))]) rfl k) ?_
    show own_Go X41 (Q0 Z p0 p1 p2 p3 p4 p5 h0 n0) 3 11 289 #[.val (.int p0), .val (.int p1), .val (.int p2), .val (.int p3), .val (.int p4), .val (.int p5), .val (.int (1 : Int32)), .val (.int gg), .val (.ref b2), .val (.int d0), .val (.int d1), .val (.int d2), .val (.ref b18), .val (.ref b27), .val (.long ((own_at4 y0 y1 y2 y3 d0).toInt64)), .second, .val (.long ((own_at4 y0 y1 y2 y3 d1).toInt64)), .second, .val (.long ((own_at4 y0 y1 y2 y3 d2).toInt64)), .second, .val (.long (gg.toInt64)), .second, .val (.long ((own_at4 y0 y1 y2 y3 d0).toInt64)), .second, .val (.int (own_tup1 gg (own_at4 y0 y1 y2 y3 d0)))] []
    refine own_st (fun _ k => XS.iload X41.here hx rfl (hb hby at_289) rfl k) ?_
    show own_Go X41 (Q0 Z p0 p1 p2 p3 p4 p5 h0 n0) 3 11 291 #[.val (.int p0), .val (.int p1), .val (.int p2), .val (.int p3), .val (.int p4), .val (.int p5), .val (.int (1 : Int32)), .val (.int gg), .val (.ref b2), .val (.int d0), .val (.int d1), .val (.int d2), .val (.ref b18), .val (.ref b27), .val (.long ((own_at4 y0 y1 y2 y3 d0).toInt64)), .second, .val (.long ((own_at4 y0 y1 y2 y3 d1).toInt64)), .second, .val (.long ((own_at4 y0 y1 y2 y3 d2).toInt64)), .second, .val (.long (gg.toInt64)), .second, .val (.long ((own_at4 y0 y1 y2 y3 d0).toInt64)), .second, .val (.int (own_tup1 gg (own_at4 y0 y1 y2 y3 d0)))] [(.int (own_tup1 gg (own_at4 y0 y1 y2 y3 d0)))]
    refine own_st (fun _ k => XS.i2l X41.here hx rfl (hb hby at_291) rfl k) ?_
    show own_Go X41 (Q0 Z p0 p1 p2 p3 p4 p5 h0 n0) 3 11 292 #[.val (.int p0), .val (.int p1), .val (.int p2), .val (.int p3), .val (.int p4), .val (.int p5), .val (.int (1 : Int32)), .val (.int gg), .val (.ref b2), .val (.int d0), .val (.int d1), .val (.int d2), .val (.ref b18), .val (.ref b27), .val (.long ((own_at4 y0 y1 y2 y3 d0).toInt64)), .second, .val (.long ((own_at4 y0 y1 y2 y3 d1).toInt64)), .second, .val (.long ((own_at4 y0 y1 y2 y3 d2).toInt64)), .second, .val (.long (gg.toInt64)), .second, .val (.long ((own_at4 y0 y1 y2 y3 d0).toInt64)), .second, .val (.int (own_tup1 gg (own_at4 y0 y1 y2 y3 d0)))] [(.long ((own_tup1 gg (own_at4 y0 y1 y2 y3 d0)).toInt64))]
    refine own_st (fun _ k => XS.lload X41.here hx rfl (hb hby at_292) rfl k) ?_
    show own_Go X41 (Q0 Z p0 p1 p2 p3 p4 p5 h0 n0) 3 11 294 #[.val (.int p0), .val (.int p1), .val (.int p2), .val (.int p3), .val (.int p4), .val (.int p5), .val (.int (1 : Int32)), .val (.int gg), .val (.ref b2), .val (.int d0), .val (.int d1), .val (.int d2), .val (.ref b18), .val (.ref b27), .val (.long ((own_at4 y0 y1 y2 y3 d0).toInt64)), .second, .val (.long ((own_at4 y0 y1 y2 y3 d1).toInt64)), .second, .val (.long ((own_at4 y0 y1 y2 y3 d2).toInt64)), .second, .val (.long (gg.toInt64)), .second, .val (.long ((own_at4 y0 y1 y2 y3 d0).toInt64)), .second, .val (.int (own_tup1 gg (own_at4 y0 y1 y2 y3 d0)))] [(.long ((own_at4 y0 y1 y2 y3 d0).toInt64)), (.long ((own_tup1 gg (own_at4 y0 y1 y2 y3 d0)).toInt64))]
    refine own_st (fun _ k => XS.lcmp X41.here hx rfl (hb hby at_294) rfl k) ?_
    show own_Go X41 (Q0 Z p0 p1 p2 p3 p4 p5 h0 n0) 3 11 295 #[.val (.int p0), .val (.int p1), .val (.int p2), .val (.int p3), .val (.int p4), .val (.int p5), .val (.int (1 : Int32)), .val (.int gg), .val (.ref b2), .val (.int d0), .val (.int d1), .val (.int d2), .val (.ref b18), .val (.ref b27), .val (.long ((own_at4 y0 y1 y2 y3 d0).toInt64)), .second, .val (.long ((own_at4 y0 y1 y2 y3 d1).toInt64)), .second, .val (.long ((own_at4 y0 y1 y2 y3 d2).toInt64)), .second, .val (.long (gg.toInt64)), .second, .val (.long ((own_at4 y0 y1 y2 y3 d0).toInt64)), .second, .val (.int (own_tup1 gg (own_at4 y0 y1 y2 y3 d0)))] [(.int (lcmpW ((own_tup1 gg (own_at4 y0 y1 y2 y3 d0)).toInt64) ((own_at4 y0 y1 y2 y3 d0).toInt64)))]
    have c295_43 : ((own_tup1 gg (own_at4 y0 y1 y2 y3 d0)).toInt64) = ((own_at4 y0 y1 y2 y3 d0).toInt64) := own_e1 hG (own_ab (P := fun y : Int32 => 0 ≤ y.toInt ∧ y.toInt < gg.toInt) hY.1 hY.2.1 hY.2.2.1 hY.2.2.2 d0)
    refine own_st (fun _ k => XS.ifNo X41.here hx rfl (hb hby at_295) rfl ((if0 _ _).trans (teq ((lw_eq _ _).mpr c295_43)).2) k) ?_
    show own_Go X41 (Q0 Z p0 p1 p2 p3 p4 p5 h0 n0) 3 11 298 #[.val (.int p0), .val (.int p1), .val (.int p2), .val (.int p3), .val (.int p4), .val (.int p5), .val (.int (1 : Int32)), .val (.int gg), .val (.ref b2), .val (.int d0), .val (.int d1), .val (.int d2), .val (.ref b18), .val (.ref b27), .val (.long ((own_at4 y0 y1 y2 y3 d0).toInt64)), .second, .val (.long ((own_at4 y0 y1 y2 y3 d1).toInt64)), .second, .val (.long ((own_at4 y0 y1 y2 y3 d2).toInt64)), .second, .val (.long (gg.toInt64)), .second, .val (.long ((own_at4 y0 y1 y2 y3 d0).toInt64)), .second, .val (.int (own_tup1 gg (own_at4 y0 y1 y2 y3 d0)))] []
    refine own_st (fun _ k => XS.iconst X41.here hx rfl (hb hby at_298) k) ?_
    show own_Go X41 (Q0 Z p0 p1 p2 p3 p4 p5 h0 n0) 3 11 299 #[.val (.int p0), .val (.int p1), .val (.int p2), .val (.int p3), .val (.int p4), .val (.int p5), .val (.int (1 : Int32)), .val (.int gg), .val (.ref b2), .val (.int d0), .val (.int d1), .val (.int d2), .val (.ref b18), .val (.ref b27), .val (.long ((own_at4 y0 y1 y2 y3 d0).toInt64)), .second, .val (.long ((own_at4 y0 y1 y2 y3 d1).toInt64)), .second, .val (.long ((own_at4 y0 y1 y2 y3 d2).toInt64)), .second, .val (.long (gg.toInt64)), .second, .val (.long ((own_at4 y0 y1 y2 y3 d0).toInt64)), .second, .val (.int (own_tup1 gg (own_at4 y0 y1 y2 y3 d0)))] [(.int (1 : Int32))]
    refine own_st (fun _ k => XS.goto X41.here hx rfl (pc0 := 299) (pc' := 303) rfl (hb hby at_299) (by decide) (by decide) k) ?_
    show own_Go X41 (Q0 Z p0 p1 p2 p3 p4 p5 h0 n0) 3 11 303 #[.val (.int p0), .val (.int p1), .val (.int p2), .val (.int p3), .val (.int p4), .val (.int p5), .val (.int (1 : Int32)), .val (.int gg), .val (.ref b2), .val (.int d0), .val (.int d1), .val (.int d2), .val (.ref b18), .val (.ref b27), .val (.long ((own_at4 y0 y1 y2 y3 d0).toInt64)), .second, .val (.long ((own_at4 y0 y1 y2 y3 d1).toInt64)), .second, .val (.long ((own_at4 y0 y1 y2 y3 d2).toInt64)), .second, .val (.long (gg.toInt64)), .second, .val (.long ((own_at4 y0 y1 y2 y3 d0).toInt64)), .second, .val (.int (own_tup1 gg (own_at4 y0 y1 y2 y3 d0)))] [(.int (1 : Int32))]
    refine own_retN X41 hx Bd.returns (by simp) hlk e41 (hb hby at_303) (by decide) (by decide) ?_
    exact ⟨rfl, N_42⟩
  · skip
    show own_Go X0 (Q0 Z p0 p1 p2 p3 p4 p5 h0 n0) 3 11 10 #[.val (.int p0), .val (.int p1), .val (.int p2), .val (.int p3), .val (.int p4), .val (.int p5), .val (.int (2 : Int32)), .unset, .unset, .unset, .unset, .unset, .unset, .unset, .unset, .unset, .unset, .unset, .unset, .unset, .unset, .unset, .unset, .unset, .unset] []
    refine own_st (fun _ k => XS.iload X0.here hx rfl (hb hby at_10) rfl k) ?_
    show own_Go X0 (Q0 Z p0 p1 p2 p3 p4 p5 h0 n0) 3 11 12 #[.val (.int p0), .val (.int p1), .val (.int p2), .val (.int p3), .val (.int p4), .val (.int p5), .val (.int (2 : Int32)), .unset, .unset, .unset, .unset, .unset, .unset, .unset, .unset, .unset, .unset, .unset, .unset, .unset, .unset, .unset, .unset, .unset, .unset] [(.int (2 : Int32))]
    refine own_st (fun _ k => XS.iconst X0.here hx rfl (hb hby at_12) k) ?_
    show own_Go X0 (Q0 Z p0 p1 p2 p3 p4 p5 h0 n0) 3 11 13 #[.val (.int p0), .val (.int p1), .val (.int p2), .val (.int p3), .val (.int p4), .val (.int p5), .val (.int (2 : Int32)), .unset, .unset, .unset, .unset, .unset, .unset, .unset, .unset, .unset, .unset, .unset, .unset, .unset, .unset, .unset, .unset, .unset, .unset] [(.int (1 : Int32)), (.int (2 : Int32))]
    have c13_44 : ¬ ((2 : Int32) = (1 : Int32)) := (by decide)
    refine own_st (fun _ k => XS.icmpYes X0.here hx rfl (pc0 := 13) (pc' := 27) rfl (hb hby at_13) rfl (feq c13_44).2 (by decide) (by decide) k) ?_
    show own_Go X0 (Q0 Z p0 p1 p2 p3 p4 p5 h0 n0) 3 11 27 #[.val (.int p0), .val (.int p1), .val (.int p2), .val (.int p3), .val (.int p4), .val (.int p5), .val (.int (2 : Int32)), .unset, .unset, .unset, .unset, .unset, .unset, .unset, .unset, .unset, .unset, .unset, .unset, .unset, .unset, .unset, .unset, .unset, .unset] []
    refine own_st (fun _ k => XS.iload X0.here hx rfl (hb hby at_27) rfl k) ?_
    show own_Go X0 (Q0 Z p0 p1 p2 p3 p4 p5 h0 n0) 3 11 29 #[.val (.int p0), .val (.int p1), .val (.int p2), .val (.int p3), .val (.int p4), .val (.int p5), .val (.int (2 : Int32)), .unset, .unset, .unset, .unset, .unset, .unset, .unset, .unset, .unset, .unset, .unset, .unset, .unset, .unset, .unset, .unset, .unset, .unset] [(.int (2 : Int32))]
    refine own_st (fun _ k => XS.iconst X0.here hx rfl (hb hby at_29) k) ?_
    show own_Go X0 (Q0 Z p0 p1 p2 p3 p4 p5 h0 n0) 3 11 30 #[.val (.int p0), .val (.int p1), .val (.int p2), .val (.int p3), .val (.int p4), .val (.int p5), .val (.int (2 : Int32)), .unset, .unset, .unset, .unset, .unset, .unset, .unset, .unset, .unset, .unset, .unset, .unset, .unset, .unset, .unset, .unset, .unset, .unset] [(.int (2 : Int32)), (.int (2 : Int32))]
    have c30_45 : (2 : Int32) = (2 : Int32) := (by decide)
    refine own_st (fun _ k => XS.icmpNo X0.here hx rfl (hb hby at_30) rfl (teq c30_45).2 k) ?_
    show own_Go X0 (Q0 Z p0 p1 p2 p3 p4 p5 h0 n0) 3 11 33 #[.val (.int p0), .val (.int p1), .val (.int p2), .val (.int p3), .val (.int p4), .val (.int p5), .val (.int (2 : Int32)), .unset, .unset, .unset, .unset, .unset, .unset, .unset, .unset, .unset, .unset, .unset, .unset, .unset, .unset, .unset, .unset, .unset, .unset] []
    refine own_st (fun _ k => XS.iconst X0.here hx rfl (hb hby at_33) k) ?_
    show own_Go X0 (Q0 Z p0 p1 p2 p3 p4 p5 h0 n0) 3 11 34 #[.val (.int p0), .val (.int p1), .val (.int p2), .val (.int p3), .val (.int p4), .val (.int p5), .val (.int (2 : Int32)), .unset, .unset, .unset, .unset, .unset, .unset, .unset, .unset, .unset, .unset, .unset, .unset, .unset, .unset, .unset, .unset, .unset, .unset] [(.int (2 : Int32))]
    refine own_st (fun _ k => XS.iloadN X0.here hx rfl (hb hby at_34) rfl k) ?_
    show own_Go X0 (Q0 Z p0 p1 p2 p3 p4 p5 h0 n0) 3 11 35 #[.val (.int p0), .val (.int p1), .val (.int p2), .val (.int p3), .val (.int p4), .val (.int p5), .val (.int (2 : Int32)), .unset, .unset, .unset, .unset, .unset, .unset, .unset, .unset, .unset, .unset, .unset, .unset, .unset, .unset, .unset, .unset, .unset, .unset] [(.int p1), (.int (2 : Int32))]
    refine own_st (fun _ k => XS.sipush X0.here hx rfl (hb hby at_35) k) ?_
    show own_Go X0 (Q0 Z p0 p1 p2 p3 p4 p5 h0 n0) 3 11 38 #[.val (.int p0), .val (.int p1), .val (.int p2), .val (.int p3), .val (.int p4), .val (.int p5), .val (.int (2 : Int32)), .unset, .unset, .unset, .unset, .unset, .unset, .unset, .unset, .unset, .unset, .unset, .unset, .unset, .unset, .unset, .unset, .unset, .unset] [(.int (32767 : Int32)), (.int p1), (.int (2 : Int32))]
    refine own_st (fun _ k => XS.iand X0.here hx rfl (hb hby at_38) rfl k) ?_
    show own_Go X0 (Q0 Z p0 p1 p2 p3 p4 p5 h0 n0) 3 11 39 #[.val (.int p0), .val (.int p1), .val (.int p2), .val (.int p3), .val (.int p4), .val (.int p5), .val (.int (2 : Int32)), .unset, .unset, .unset, .unset, .unset, .unset, .unset, .unset, .unset, .unset, .unset, .unset, .unset, .unset, .unset, .unset, .unset, .unset] [(.int (p1 &&& (32767 : Int32))), (.int (2 : Int32))]
    refine own_st (fun _ k => XS.iadd X0.here hx rfl (hb hby at_39) rfl k) ?_
    show own_Go X0 (Q0 Z p0 p1 p2 p3 p4 p5 h0 n0) 3 11 40 #[.val (.int p0), .val (.int p1), .val (.int p2), .val (.int p3), .val (.int p4), .val (.int p5), .val (.int (2 : Int32)), .unset, .unset, .unset, .unset, .unset, .unset, .unset, .unset, .unset, .unset, .unset, .unset, .unset, .unset, .unset, .unset, .unset, .unset] [(.int ((2 : Int32) + (p1 &&& (32767 : Int32))))]
    refine own_st (fun _ k => XS.istore X0.here hx rfl (hb hby at_40) rfl (l' := #[.val (.int p0), .val (.int p1), .val (.int p2), .val (.int p3), .val (.int p4), .val (.int p5), .val (.int (2 : Int32)), .val (.int ((2 : Int32) + (p1 &&& (32767 : Int32)))), .unset, .unset, .unset, .unset, .unset, .unset, .unset, .unset, .unset, .unset, .unset, .unset, .unset, .unset, .unset, .unset, .unset]) rfl k) ?_
    show own_Go X0 (Q0 Z p0 p1 p2 p3 p4 p5 h0 n0) 3 11 42 #[.val (.int p0), .val (.int p1), .val (.int p2), .val (.int p3), .val (.int p4), .val (.int p5), .val (.int (2 : Int32)), .val (.int ((2 : Int32) + (p1 &&& (32767 : Int32)))), .unset, .unset, .unset, .unset, .unset, .unset, .unset, .unset, .unset, .unset, .unset, .unset, .unset, .unset, .unset, .unset, .unset] []
    refine own_st (fun _ k => XS.goto X0.here hx rfl (pc0 := 42) (pc' := 54) rfl (hb hby at_42) (by decide) (by decide) k) ?_
    show own_Go X0 (Q0 Z p0 p1 p2 p3 p4 p5 h0 n0) 3 11 54 #[.val (.int p0), .val (.int p1), .val (.int p2), .val (.int p3), .val (.int p4), .val (.int p5), .val (.int (2 : Int32)), .val (.int ((2 : Int32) + (p1 &&& (32767 : Int32)))), .unset, .unset, .unset, .unset, .unset, .unset, .unset, .unset, .unset, .unset, .unset, .unset, .unset, .unset, .unset, .unset, .unset] []
    generalize hgg : ((2 : Int32) + (p1 &&& (32767 : Int32))) = gg
    show own_Go X0 (Q0 Z p0 p1 p2 p3 p4 p5 h0 n0) 3 11 54 #[.val (.int p0), .val (.int p1), .val (.int p2), .val (.int p3), .val (.int p4), .val (.int p5), .val (.int (2 : Int32)), .val (.int gg), .unset, .unset, .unset, .unset, .unset, .unset, .unset, .unset, .unset, .unset, .unset, .unset, .unset, .unset, .unset, .unset, .unset] []
    have hG : 2 ≤ gg.toInt ∧ gg.toInt ≤ 32769 := own_gb 15 (by decide) (by decide) hgg
    refine own_st (fun _ k => XS.iconst X0.here hx rfl (hb hby at_54) k) ?_
    show own_Go X0 (Q0 Z p0 p1 p2 p3 p4 p5 h0 n0) 3 11 55 #[.val (.int p0), .val (.int p1), .val (.int p2), .val (.int p3), .val (.int p4), .val (.int p5), .val (.int (2 : Int32)), .val (.int gg), .unset, .unset, .unset, .unset, .unset, .unset, .unset, .unset, .unset, .unset, .unset, .unset, .unset, .unset, .unset, .unset, .unset] [(.int (4 : Int32))]
    obtain ⟨T46, h46, k46, X46, e46, E46, A46, st46⟩ := newP X0 hx hZ (hw _ (List.mem_of_getElem? (i := 1) rfl)) e0 (g := (mkF m 55 #[.val (.int p0), .val (.int p1), .val (.int p2), .val (.int p3), .val (.int p4), .val (.int p5), .val (.int (2 : Int32)), .val (.int gg), .unset, .unset, .unset, .unset, .unset, .unset, .unset, .unset, .unset, .unset, .unset, .unset, .unset, .unset, .unset, .unset, .unset] [(.int (4 : Int32))])) rfl (hb hby at_55) rfl (by decide) (cap := 4) (by decide) (by decide) (by decide) (by decide)
    obtain ⟨b46, g46⟩ : ∃ z, z = h0.size := ⟨_, rfl⟩
    rw [← g46] at A46 st46
    refine own_st st46 ?_
    have G_47 := Nat.le_trans Z0 (Nat.le_of_eq g46.symm)
    have Z_48 := Nat.le_trans Z0 E46.1
    have V46 : Arv Z h46 b46 k46 .int (4 : Int32) [(.int (0 : Int32)), (.int (0 : Int32)), (.int (0 : Int32)), (.int (0 : Int32))] (.int (0 : Int32)) := (Arv.new A46 (by decide)).pad (pad_rep [] (.int (0 : Int32)) 4)
    show own_Go X46 (Q0 Z p0 p1 p2 p3 p4 p5 h0 n0) 3 11 57 #[.val (.int p0), .val (.int p1), .val (.int p2), .val (.int p3), .val (.int p4), .val (.int p5), .val (.int (2 : Int32)), .val (.int gg), .unset, .unset, .unset, .unset, .unset, .unset, .unset, .unset, .unset, .unset, .unset, .unset, .unset, .unset, .unset, .unset, .unset] [(.ref b46)]
    refine own_st (fun _ k => XS.dup X46.here hx rfl (hb hby at_57) rfl rfl k) ?_
    show own_Go X46 (Q0 Z p0 p1 p2 p3 p4 p5 h0 n0) 3 11 58 #[.val (.int p0), .val (.int p1), .val (.int p2), .val (.int p3), .val (.int p4), .val (.int p5), .val (.int (2 : Int32)), .val (.int gg), .unset, .unset, .unset, .unset, .unset, .unset, .unset, .unset, .unset, .unset, .unset, .unset, .unset, .unset, .unset, .unset, .unset] [(.ref b46), (.ref b46)]
    refine own_st (fun _ k => XS.iconst X46.here hx rfl (hb hby at_58) k) ?_
    show own_Go X46 (Q0 Z p0 p1 p2 p3 p4 p5 h0 n0) 3 11 59 #[.val (.int p0), .val (.int p1), .val (.int p2), .val (.int p3), .val (.int p4), .val (.int p5), .val (.int (2 : Int32)), .val (.int gg), .unset, .unset, .unset, .unset, .unset, .unset, .unset, .unset, .unset, .unset, .unset, .unset, .unset, .unset, .unset, .unset, .unset] [(.int (0 : Int32)), (.ref b46), (.ref b46)]
    refine own_st (fun _ k => XS.iloadN X46.here hx rfl (hb hby at_59) rfl k) ?_
    show own_Go X46 (Q0 Z p0 p1 p2 p3 p4 p5 h0 n0) 3 11 60 #[.val (.int p0), .val (.int p1), .val (.int p2), .val (.int p3), .val (.int p4), .val (.int p5), .val (.int (2 : Int32)), .val (.int gg), .unset, .unset, .unset, .unset, .unset, .unset, .unset, .unset, .unset, .unset, .unset, .unset, .unset, .unset, .unset, .unset, .unset] [(.int p2), (.int (0 : Int32)), (.ref b46), (.ref b46)]
    refine own_st (fun t k => X46.ldcInt hx hown (mvT hZ (hw _ (List.mem_of_getElem? (i := 2) rfl))) (g := (mkF m 60 #[.val (.int p0), .val (.int p1), .val (.int p2), .val (.int p3), .val (.int p4), .val (.int p5), .val (.int (2 : Int32)), .val (.int gg), .unset, .unset, .unset, .unset, .unset, .unset, .unset, .unset, .unset, .unset, .unset, .unset, .unset, .unset, .unset, .unset, .unset] [(.int p2), (.int (0 : Int32)), (.ref b46), (.ref b46)])) rfl (hb hby at_60) t k) ?_
    show own_Go X46 (Q0 Z p0 p1 p2 p3 p4 p5 h0 n0) 3 11 62 #[.val (.int p0), .val (.int p1), .val (.int p2), .val (.int p3), .val (.int p4), .val (.int p5), .val (.int (2 : Int32)), .val (.int gg), .unset, .unset, .unset, .unset, .unset, .unset, .unset, .unset, .unset, .unset, .unset, .unset, .unset, .unset, .unset, .unset, .unset] [(.int (2147483647 : Int32)), (.int p2), (.int (0 : Int32)), (.ref b46), (.ref b46)]
    refine own_st (fun _ k => XS.iand X46.here hx rfl (hb hby at_62) rfl k) ?_
    show own_Go X46 (Q0 Z p0 p1 p2 p3 p4 p5 h0 n0) 3 11 63 #[.val (.int p0), .val (.int p1), .val (.int p2), .val (.int p3), .val (.int p4), .val (.int p5), .val (.int (2 : Int32)), .val (.int gg), .unset, .unset, .unset, .unset, .unset, .unset, .unset, .unset, .unset, .unset, .unset, .unset, .unset, .unset, .unset, .unset, .unset] [(.int (p2 &&& (2147483647 : Int32))), (.int (0 : Int32)), (.ref b46), (.ref b46)]
    refine own_st (fun _ k => XS.iload X46.here hx rfl (hb hby at_63) rfl k) ?_
    show own_Go X46 (Q0 Z p0 p1 p2 p3 p4 p5 h0 n0) 3 11 65 #[.val (.int p0), .val (.int p1), .val (.int p2), .val (.int p3), .val (.int p4), .val (.int p5), .val (.int (2 : Int32)), .val (.int gg), .unset, .unset, .unset, .unset, .unset, .unset, .unset, .unset, .unset, .unset, .unset, .unset, .unset, .unset, .unset, .unset, .unset] [(.int gg), (.int (p2 &&& (2147483647 : Int32))), (.int (0 : Int32)), (.ref b46), (.ref b46)]
    refine own_st (fun _ k => iremM X46 hx rfl (hb hby at_65) rfl (own_gnz hG.1) k) ?_
    show own_Go X46 (Q0 Z p0 p1 p2 p3 p4 p5 h0 n0) 3 11 66 #[.val (.int p0), .val (.int p1), .val (.int p2), .val (.int p3), .val (.int p4), .val (.int p5), .val (.int (2 : Int32)), .val (.int gg), .unset, .unset, .unset, .unset, .unset, .unset, .unset, .unset, .unset, .unset, .unset, .unset, .unset, .unset, .unset, .unset, .unset] [(.int ((p2 &&& (2147483647 : Int32)) % gg)), (.int (0 : Int32)), (.ref b46), (.ref b46)]
    obtain ⟨T49, h49, X49, e49, W49, V49, st49⟩ := own_stI X46 hx hZ e46 V46 (j := (0 : Int32)) ⟨by decide, by decide⟩ (Nat.le_of_ble_eq_true rfl) (g := (mkF m 66 #[.val (.int p0), .val (.int p1), .val (.int p2), .val (.int p3), .val (.int p4), .val (.int p5), .val (.int (2 : Int32)), .val (.int gg), .unset, .unset, .unset, .unset, .unset, .unset, .unset, .unset, .unset, .unset, .unset, .unset, .unset, .unset, .unset, .unset, .unset] [(.int ((p2 &&& (2147483647 : Int32)) % gg)), (.int (0 : Int32)), (.ref b46), (.ref b46)])) rfl rfl (hb hby at_66)
    refine own_st st49 ?_
    have Z_50 := Nat.le_trans Z_48 (Nat.le_of_eq W49.size.symm)
    have U49 : Arv Z h49 b46 k46 .int (4 : Int32) [(.int ((p2 &&& (2147483647 : Int32)) % gg)), (.int (0 : Int32)), (.int (0 : Int32)), (.int (0 : Int32))] (.int (0 : Int32)) := V49
    have N_51 := Fr.snoc X49 N0 G_47
    show own_Go X49 (Q0 Z p0 p1 p2 p3 p4 p5 h0 n0) 3 11 67 #[.val (.int p0), .val (.int p1), .val (.int p2), .val (.int p3), .val (.int p4), .val (.int p5), .val (.int (2 : Int32)), .val (.int gg), .unset, .unset, .unset, .unset, .unset, .unset, .unset, .unset, .unset, .unset, .unset, .unset, .unset, .unset, .unset, .unset, .unset] [(.ref b46)]
    refine own_st (fun _ k => XS.dup X49.here hx rfl (hb hby at_67) rfl rfl k) ?_
    show own_Go X49 (Q0 Z p0 p1 p2 p3 p4 p5 h0 n0) 3 11 68 #[.val (.int p0), .val (.int p1), .val (.int p2), .val (.int p3), .val (.int p4), .val (.int p5), .val (.int (2 : Int32)), .val (.int gg), .unset, .unset, .unset, .unset, .unset, .unset, .unset, .unset, .unset, .unset, .unset, .unset, .unset, .unset, .unset, .unset, .unset] [(.ref b46), (.ref b46)]
    refine own_st (fun _ k => XS.iconst X49.here hx rfl (hb hby at_68) k) ?_
    show own_Go X49 (Q0 Z p0 p1 p2 p3 p4 p5 h0 n0) 3 11 69 #[.val (.int p0), .val (.int p1), .val (.int p2), .val (.int p3), .val (.int p4), .val (.int p5), .val (.int (2 : Int32)), .val (.int gg), .unset, .unset, .unset, .unset, .unset, .unset, .unset, .unset, .unset, .unset, .unset, .unset, .unset, .unset, .unset, .unset, .unset] [(.int (1 : Int32)), (.ref b46), (.ref b46)]
    refine own_st (fun _ k => XS.iloadN X49.here hx rfl (hb hby at_69) rfl k) ?_
    show own_Go X49 (Q0 Z p0 p1 p2 p3 p4 p5 h0 n0) 3 11 70 #[.val (.int p0), .val (.int p1), .val (.int p2), .val (.int p3), .val (.int p4), .val (.int p5), .val (.int (2 : Int32)), .val (.int gg), .unset, .unset, .unset, .unset, .unset, .unset, .unset, .unset, .unset, .unset, .unset, .unset, .unset, .unset, .unset, .unset, .unset] [(.int p3), (.int (1 : Int32)), (.ref b46), (.ref b46)]
    refine own_st (fun t k => X49.ldcInt hx hown (mvT hZ (hw _ (List.mem_of_getElem? (i := 2) rfl))) (g := (mkF m 70 #[.val (.int p0), .val (.int p1), .val (.int p2), .val (.int p3), .val (.int p4), .val (.int p5), .val (.int (2 : Int32)), .val (.int gg), .unset, .unset, .unset, .unset, .unset, .unset, .unset, .unset, .unset, .unset, .unset, .unset, .unset, .unset, .unset, .unset, .unset] [(.int p3), (.int (1 : Int32)), (.ref b46), (.ref b46)])) rfl (hb hby at_70) t k) ?_
    show own_Go X49 (Q0 Z p0 p1 p2 p3 p4 p5 h0 n0) 3 11 72 #[.val (.int p0), .val (.int p1), .val (.int p2), .val (.int p3), .val (.int p4), .val (.int p5), .val (.int (2 : Int32)), .val (.int gg), .unset, .unset, .unset, .unset, .unset, .unset, .unset, .unset, .unset, .unset, .unset, .unset, .unset, .unset, .unset, .unset, .unset] [(.int (2147483647 : Int32)), (.int p3), (.int (1 : Int32)), (.ref b46), (.ref b46)]
    refine own_st (fun _ k => XS.iand X49.here hx rfl (hb hby at_72) rfl k) ?_
    show own_Go X49 (Q0 Z p0 p1 p2 p3 p4 p5 h0 n0) 3 11 73 #[.val (.int p0), .val (.int p1), .val (.int p2), .val (.int p3), .val (.int p4), .val (.int p5), .val (.int (2 : Int32)), .val (.int gg), .unset, .unset, .unset, .unset, .unset, .unset, .unset, .unset, .unset, .unset, .unset, .unset, .unset, .unset, .unset, .unset, .unset] [(.int (p3 &&& (2147483647 : Int32))), (.int (1 : Int32)), (.ref b46), (.ref b46)]
    refine own_st (fun _ k => XS.iload X49.here hx rfl (hb hby at_73) rfl k) ?_
    show own_Go X49 (Q0 Z p0 p1 p2 p3 p4 p5 h0 n0) 3 11 75 #[.val (.int p0), .val (.int p1), .val (.int p2), .val (.int p3), .val (.int p4), .val (.int p5), .val (.int (2 : Int32)), .val (.int gg), .unset, .unset, .unset, .unset, .unset, .unset, .unset, .unset, .unset, .unset, .unset, .unset, .unset, .unset, .unset, .unset, .unset] [(.int gg), (.int (p3 &&& (2147483647 : Int32))), (.int (1 : Int32)), (.ref b46), (.ref b46)]
    refine own_st (fun _ k => iremM X49 hx rfl (hb hby at_75) rfl (own_gnz hG.1) k) ?_
    show own_Go X49 (Q0 Z p0 p1 p2 p3 p4 p5 h0 n0) 3 11 76 #[.val (.int p0), .val (.int p1), .val (.int p2), .val (.int p3), .val (.int p4), .val (.int p5), .val (.int (2 : Int32)), .val (.int gg), .unset, .unset, .unset, .unset, .unset, .unset, .unset, .unset, .unset, .unset, .unset, .unset, .unset, .unset, .unset, .unset, .unset] [(.int ((p3 &&& (2147483647 : Int32)) % gg)), (.int (1 : Int32)), (.ref b46), (.ref b46)]
    obtain ⟨T52, h52, X52, e52, W52, V52, st52⟩ := own_stI X49 hx hZ e49 U49 (j := (1 : Int32)) ⟨by decide, by decide⟩ (Nat.le_of_ble_eq_true rfl) (g := (mkF m 76 #[.val (.int p0), .val (.int p1), .val (.int p2), .val (.int p3), .val (.int p4), .val (.int p5), .val (.int (2 : Int32)), .val (.int gg), .unset, .unset, .unset, .unset, .unset, .unset, .unset, .unset, .unset, .unset, .unset, .unset, .unset, .unset, .unset, .unset, .unset] [(.int ((p3 &&& (2147483647 : Int32)) % gg)), (.int (1 : Int32)), (.ref b46), (.ref b46)])) rfl rfl (hb hby at_76)
    refine own_st st52 ?_
    have Z_53 := Nat.le_trans Z_50 (Nat.le_of_eq W52.size.symm)
    have U52 : Arv Z h52 b46 k46 .int (4 : Int32) [(.int ((p2 &&& (2147483647 : Int32)) % gg)), (.int ((p3 &&& (2147483647 : Int32)) % gg)), (.int (0 : Int32)), (.int (0 : Int32))] (.int (0 : Int32)) := V52
    have N_54 := Fr.snoc X52 N_51 G_47
    show own_Go X52 (Q0 Z p0 p1 p2 p3 p4 p5 h0 n0) 3 11 77 #[.val (.int p0), .val (.int p1), .val (.int p2), .val (.int p3), .val (.int p4), .val (.int p5), .val (.int (2 : Int32)), .val (.int gg), .unset, .unset, .unset, .unset, .unset, .unset, .unset, .unset, .unset, .unset, .unset, .unset, .unset, .unset, .unset, .unset, .unset] [(.ref b46)]
    refine own_st (fun _ k => XS.dup X52.here hx rfl (hb hby at_77) rfl rfl k) ?_
    show own_Go X52 (Q0 Z p0 p1 p2 p3 p4 p5 h0 n0) 3 11 78 #[.val (.int p0), .val (.int p1), .val (.int p2), .val (.int p3), .val (.int p4), .val (.int p5), .val (.int (2 : Int32)), .val (.int gg), .unset, .unset, .unset, .unset, .unset, .unset, .unset, .unset, .unset, .unset, .unset, .unset, .unset, .unset, .unset, .unset, .unset] [(.ref b46), (.ref b46)]
    refine own_st (fun _ k => XS.iconst X52.here hx rfl (hb hby at_78) k) ?_
    show own_Go X52 (Q0 Z p0 p1 p2 p3 p4 p5 h0 n0) 3 11 79 #[.val (.int p0), .val (.int p1), .val (.int p2), .val (.int p3), .val (.int p4), .val (.int p5), .val (.int (2 : Int32)), .val (.int gg), .unset, .unset, .unset, .unset, .unset, .unset, .unset, .unset, .unset, .unset, .unset, .unset, .unset, .unset, .unset, .unset, .unset] [(.int (2 : Int32)), (.ref b46), (.ref b46)]
    refine own_st (fun _ k => XS.iload X52.here hx rfl (hb hby at_79) rfl k) ?_
    show own_Go X52 (Q0 Z p0 p1 p2 p3 p4 p5 h0 n0) 3 11 81 #[.val (.int p0), .val (.int p1), .val (.int p2), .val (.int p3), .val (.int p4), .val (.int p5), .val (.int (2 : Int32)), .val (.int gg), .unset, .unset, .unset, .unset, .unset, .unset, .unset, .unset, .unset, .unset, .unset, .unset, .unset, .unset, .unset, .unset, .unset] [(.int p4), (.int (2 : Int32)), (.ref b46), (.ref b46)]
    refine own_st (fun t k => X52.ldcInt hx hown (mvT hZ (hw _ (List.mem_of_getElem? (i := 2) rfl))) (g := (mkF m 81 #[.val (.int p0), .val (.int p1), .val (.int p2), .val (.int p3), .val (.int p4), .val (.int p5), .val (.int (2 : Int32)), .val (.int gg), .unset, .unset, .unset, .unset, .unset, .unset, .unset, .unset, .unset, .unset, .unset, .unset, .unset, .unset, .unset, .unset, .unset] [(.int p4), (.int (2 : Int32)), (.ref b46), (.ref b46)])) rfl (hb hby at_81) t k) ?_
    show own_Go X52 (Q0 Z p0 p1 p2 p3 p4 p5 h0 n0) 3 11 83 #[.val (.int p0), .val (.int p1), .val (.int p2), .val (.int p3), .val (.int p4), .val (.int p5), .val (.int (2 : Int32)), .val (.int gg), .unset, .unset, .unset, .unset, .unset, .unset, .unset, .unset, .unset, .unset, .unset, .unset, .unset, .unset, .unset, .unset, .unset] [(.int (2147483647 : Int32)), (.int p4), (.int (2 : Int32)), (.ref b46), (.ref b46)]
    refine own_st (fun _ k => XS.iand X52.here hx rfl (hb hby at_83) rfl k) ?_
    show own_Go X52 (Q0 Z p0 p1 p2 p3 p4 p5 h0 n0) 3 11 84 #[.val (.int p0), .val (.int p1), .val (.int p2), .val (.int p3), .val (.int p4), .val (.int p5), .val (.int (2 : Int32)), .val (.int gg), .unset, .unset, .unset, .unset, .unset, .unset, .unset, .unset, .unset, .unset, .unset, .unset, .unset, .unset, .unset, .unset, .unset] [(.int (p4 &&& (2147483647 : Int32))), (.int (2 : Int32)), (.ref b46), (.ref b46)]
    refine own_st (fun _ k => XS.iload X52.here hx rfl (hb hby at_84) rfl k) ?_
    show own_Go X52 (Q0 Z p0 p1 p2 p3 p4 p5 h0 n0) 3 11 86 #[.val (.int p0), .val (.int p1), .val (.int p2), .val (.int p3), .val (.int p4), .val (.int p5), .val (.int (2 : Int32)), .val (.int gg), .unset, .unset, .unset, .unset, .unset, .unset, .unset, .unset, .unset, .unset, .unset, .unset, .unset, .unset, .unset, .unset, .unset] [(.int gg), (.int (p4 &&& (2147483647 : Int32))), (.int (2 : Int32)), (.ref b46), (.ref b46)]
    refine own_st (fun _ k => iremM X52 hx rfl (hb hby at_86) rfl (own_gnz hG.1) k) ?_
    show own_Go X52 (Q0 Z p0 p1 p2 p3 p4 p5 h0 n0) 3 11 87 #[.val (.int p0), .val (.int p1), .val (.int p2), .val (.int p3), .val (.int p4), .val (.int p5), .val (.int (2 : Int32)), .val (.int gg), .unset, .unset, .unset, .unset, .unset, .unset, .unset, .unset, .unset, .unset, .unset, .unset, .unset, .unset, .unset, .unset, .unset] [(.int ((p4 &&& (2147483647 : Int32)) % gg)), (.int (2 : Int32)), (.ref b46), (.ref b46)]
    obtain ⟨T55, h55, X55, e55, W55, V55, st55⟩ := own_stI X52 hx hZ e52 U52 (j := (2 : Int32)) ⟨by decide, by decide⟩ (Nat.le_of_ble_eq_true rfl) (g := (mkF m 87 #[.val (.int p0), .val (.int p1), .val (.int p2), .val (.int p3), .val (.int p4), .val (.int p5), .val (.int (2 : Int32)), .val (.int gg), .unset, .unset, .unset, .unset, .unset, .unset, .unset, .unset, .unset, .unset, .unset, .unset, .unset, .unset, .unset, .unset, .unset] [(.int ((p4 &&& (2147483647 : Int32)) % gg)), (.int (2 : Int32)), (.ref b46), (.ref b46)])) rfl rfl (hb hby at_87)
    refine own_st st55 ?_
    have Z_56 := Nat.le_trans Z_53 (Nat.le_of_eq W55.size.symm)
    have U55 : Arv Z h55 b46 k46 .int (4 : Int32) [(.int ((p2 &&& (2147483647 : Int32)) % gg)), (.int ((p3 &&& (2147483647 : Int32)) % gg)), (.int ((p4 &&& (2147483647 : Int32)) % gg)), (.int (0 : Int32))] (.int (0 : Int32)) := V55
    have N_57 := Fr.snoc X55 N_54 G_47
    show own_Go X55 (Q0 Z p0 p1 p2 p3 p4 p5 h0 n0) 3 11 88 #[.val (.int p0), .val (.int p1), .val (.int p2), .val (.int p3), .val (.int p4), .val (.int p5), .val (.int (2 : Int32)), .val (.int gg), .unset, .unset, .unset, .unset, .unset, .unset, .unset, .unset, .unset, .unset, .unset, .unset, .unset, .unset, .unset, .unset, .unset] [(.ref b46)]
    refine own_st (fun _ k => XS.dup X55.here hx rfl (hb hby at_88) rfl rfl k) ?_
    show own_Go X55 (Q0 Z p0 p1 p2 p3 p4 p5 h0 n0) 3 11 89 #[.val (.int p0), .val (.int p1), .val (.int p2), .val (.int p3), .val (.int p4), .val (.int p5), .val (.int (2 : Int32)), .val (.int gg), .unset, .unset, .unset, .unset, .unset, .unset, .unset, .unset, .unset, .unset, .unset, .unset, .unset, .unset, .unset, .unset, .unset] [(.ref b46), (.ref b46)]
    refine own_st (fun _ k => XS.iconst X55.here hx rfl (hb hby at_89) k) ?_
    show own_Go X55 (Q0 Z p0 p1 p2 p3 p4 p5 h0 n0) 3 11 90 #[.val (.int p0), .val (.int p1), .val (.int p2), .val (.int p3), .val (.int p4), .val (.int p5), .val (.int (2 : Int32)), .val (.int gg), .unset, .unset, .unset, .unset, .unset, .unset, .unset, .unset, .unset, .unset, .unset, .unset, .unset, .unset, .unset, .unset, .unset] [(.int (3 : Int32)), (.ref b46), (.ref b46)]
    refine own_st (fun _ k => XS.iload X55.here hx rfl (hb hby at_90) rfl k) ?_
    show own_Go X55 (Q0 Z p0 p1 p2 p3 p4 p5 h0 n0) 3 11 92 #[.val (.int p0), .val (.int p1), .val (.int p2), .val (.int p3), .val (.int p4), .val (.int p5), .val (.int (2 : Int32)), .val (.int gg), .unset, .unset, .unset, .unset, .unset, .unset, .unset, .unset, .unset, .unset, .unset, .unset, .unset, .unset, .unset, .unset, .unset] [(.int p5), (.int (3 : Int32)), (.ref b46), (.ref b46)]
    refine own_st (fun t k => X55.ldcInt hx hown (mvT hZ (hw _ (List.mem_of_getElem? (i := 2) rfl))) (g := (mkF m 92 #[.val (.int p0), .val (.int p1), .val (.int p2), .val (.int p3), .val (.int p4), .val (.int p5), .val (.int (2 : Int32)), .val (.int gg), .unset, .unset, .unset, .unset, .unset, .unset, .unset, .unset, .unset, .unset, .unset, .unset, .unset, .unset, .unset, .unset, .unset] [(.int p5), (.int (3 : Int32)), (.ref b46), (.ref b46)])) rfl (hb hby at_92) t k) ?_
    show own_Go X55 (Q0 Z p0 p1 p2 p3 p4 p5 h0 n0) 3 11 94 #[.val (.int p0), .val (.int p1), .val (.int p2), .val (.int p3), .val (.int p4), .val (.int p5), .val (.int (2 : Int32)), .val (.int gg), .unset, .unset, .unset, .unset, .unset, .unset, .unset, .unset, .unset, .unset, .unset, .unset, .unset, .unset, .unset, .unset, .unset] [(.int (2147483647 : Int32)), (.int p5), (.int (3 : Int32)), (.ref b46), (.ref b46)]
    refine own_st (fun _ k => XS.iand X55.here hx rfl (hb hby at_94) rfl k) ?_
    show own_Go X55 (Q0 Z p0 p1 p2 p3 p4 p5 h0 n0) 3 11 95 #[.val (.int p0), .val (.int p1), .val (.int p2), .val (.int p3), .val (.int p4), .val (.int p5), .val (.int (2 : Int32)), .val (.int gg), .unset, .unset, .unset, .unset, .unset, .unset, .unset, .unset, .unset, .unset, .unset, .unset, .unset, .unset, .unset, .unset, .unset] [(.int (p5 &&& (2147483647 : Int32))), (.int (3 : Int32)), (.ref b46), (.ref b46)]
    refine own_st (fun _ k => XS.iload X55.here hx rfl (hb hby at_95) rfl k) ?_
    show own_Go X55 (Q0 Z p0 p1 p2 p3 p4 p5 h0 n0) 3 11 97 #[.val (.int p0), .val (.int p1), .val (.int p2), .val (.int p3), .val (.int p4), .val (.int p5), .val (.int (2 : Int32)), .val (.int gg), .unset, .unset, .unset, .unset, .unset, .unset, .unset, .unset, .unset, .unset, .unset, .unset, .unset, .unset, .unset, .unset, .unset] [(.int gg), (.int (p5 &&& (2147483647 : Int32))), (.int (3 : Int32)), (.ref b46), (.ref b46)]
    refine own_st (fun _ k => iremM X55 hx rfl (hb hby at_97) rfl (own_gnz hG.1) k) ?_
    show own_Go X55 (Q0 Z p0 p1 p2 p3 p4 p5 h0 n0) 3 11 98 #[.val (.int p0), .val (.int p1), .val (.int p2), .val (.int p3), .val (.int p4), .val (.int p5), .val (.int (2 : Int32)), .val (.int gg), .unset, .unset, .unset, .unset, .unset, .unset, .unset, .unset, .unset, .unset, .unset, .unset, .unset, .unset, .unset, .unset, .unset] [(.int ((p5 &&& (2147483647 : Int32)) % gg)), (.int (3 : Int32)), (.ref b46), (.ref b46)]
    obtain ⟨T58, h58, X58, e58, W58, V58, st58⟩ := own_stI X55 hx hZ e55 U55 (j := (3 : Int32)) ⟨by decide, by decide⟩ (Nat.le_of_ble_eq_true rfl) (g := (mkF m 98 #[.val (.int p0), .val (.int p1), .val (.int p2), .val (.int p3), .val (.int p4), .val (.int p5), .val (.int (2 : Int32)), .val (.int gg), .unset, .unset, .unset, .unset, .unset, .unset, .unset, .unset, .unset, .unset, .unset, .unset, .unset, .unset, .unset, .unset, .unset] [(.int ((p5 &&& (2147483647 : Int32)) % gg)), (.int (3 : Int32)), (.ref b46), (.ref b46)])) rfl rfl (hb hby at_98)
    refine own_st st58 ?_
    have Z_59 := Nat.le_trans Z_56 (Nat.le_of_eq W58.size.symm)
    have U58 : Arv Z h58 b46 k46 .int (4 : Int32) [(.int ((p2 &&& (2147483647 : Int32)) % gg)), (.int ((p3 &&& (2147483647 : Int32)) % gg)), (.int ((p4 &&& (2147483647 : Int32)) % gg)), (.int ((p5 &&& (2147483647 : Int32)) % gg))] (.int (0 : Int32)) := V58
    have N_60 := Fr.snoc X58 N_57 G_47
    show own_Go X58 (Q0 Z p0 p1 p2 p3 p4 p5 h0 n0) 3 11 99 #[.val (.int p0), .val (.int p1), .val (.int p2), .val (.int p3), .val (.int p4), .val (.int p5), .val (.int (2 : Int32)), .val (.int gg), .unset, .unset, .unset, .unset, .unset, .unset, .unset, .unset, .unset, .unset, .unset, .unset, .unset, .unset, .unset, .unset, .unset] [(.ref b46)]
    refine own_st (fun _ k => XS.astore X58.here hx rfl (hb hby at_99) rfl rfl (l' := #[.val (.int p0), .val (.int p1), .val (.int p2), .val (.int p3), .val (.int p4), .val (.int p5), .val (.int (2 : Int32)), .val (.int gg), .val (.ref b46), .unset, .unset, .unset, .unset, .unset, .unset, .unset, .unset, .unset, .unset, .unset, .unset, .unset, .unset, .unset, .unset]) rfl k) ?_
    show own_Go X58 (Q0 Z p0 p1 p2 p3 p4 p5 h0 n0) 3 11 101 #[.val (.int p0), .val (.int p1), .val (.int p2), .val (.int p3), .val (.int p4), .val (.int p5), .val (.int (2 : Int32)), .val (.int gg), .val (.ref b46), .unset, .unset, .unset, .unset, .unset, .unset, .unset, .unset, .unset, .unset, .unset, .unset, .unset, .unset, .unset, .unset] []
    obtain ⟨y0, hy0⟩ : ∃ z, z = ((p2 &&& (2147483647 : Int32)) % gg) := ⟨_, rfl⟩
    obtain ⟨y1, hy1⟩ : ∃ z, z = ((p3 &&& (2147483647 : Int32)) % gg) := ⟨_, rfl⟩
    obtain ⟨y2, hy2⟩ : ∃ z, z = ((p4 &&& (2147483647 : Int32)) % gg) := ⟨_, rfl⟩
    obtain ⟨y3, hy3⟩ : ∃ z, z = ((p5 &&& (2147483647 : Int32)) % gg) := ⟨_, rfl⟩
    have hY : (0 ≤ y0.toInt ∧ y0.toInt < gg.toInt) ∧ (0 ≤ y1.toInt ∧ y1.toInt < gg.toInt) ∧ (0 ≤ y2.toInt ∧ y2.toInt < gg.toInt) ∧ (0 ≤ y3.toInt ∧ y3.toInt < gg.toInt) := by subst hy0 hy1 hy2 hy3; exact ⟨own_rb hG.1, own_rb hG.1, own_rb hG.1, own_rb hG.1⟩
    have VR : Arv Z h58 b46 k46 .int (4 : Int32) [(.int y0), (.int y1), (.int y2), (.int y3)] (.int (0 : Int32)) := by rw [hy0, hy1, hy2, hy3]; exact U58
    refine own_st (fun _ k => XS.iloadN X58.here hx rfl (hb hby at_101) rfl k) ?_
    show own_Go X58 (Q0 Z p0 p1 p2 p3 p4 p5 h0 n0) 3 11 102 #[.val (.int p0), .val (.int p1), .val (.int p2), .val (.int p3), .val (.int p4), .val (.int p5), .val (.int (2 : Int32)), .val (.int gg), .val (.ref b46), .unset, .unset, .unset, .unset, .unset, .unset, .unset, .unset, .unset, .unset, .unset, .unset, .unset, .unset, .unset, .unset] [(.int p0)]
    refine own_st (fun _ k => XS.iconst X58.here hx rfl (hb hby at_102) k) ?_
    show own_Go X58 (Q0 Z p0 p1 p2 p3 p4 p5 h0 n0) 3 11 103 #[.val (.int p0), .val (.int p1), .val (.int p2), .val (.int p3), .val (.int p4), .val (.int p5), .val (.int (2 : Int32)), .val (.int gg), .val (.ref b46), .unset, .unset, .unset, .unset, .unset, .unset, .unset, .unset, .unset, .unset, .unset, .unset, .unset, .unset, .unset, .unset] [(.int (3 : Int32)), (.int p0)]
    refine own_st (fun _ k => XS.iand X58.here hx rfl (hb hby at_103) rfl k) ?_
    show own_Go X58 (Q0 Z p0 p1 p2 p3 p4 p5 h0 n0) 3 11 104 #[.val (.int p0), .val (.int p1), .val (.int p2), .val (.int p3), .val (.int p4), .val (.int p5), .val (.int (2 : Int32)), .val (.int gg), .val (.ref b46), .unset, .unset, .unset, .unset, .unset, .unset, .unset, .unset, .unset, .unset, .unset, .unset, .unset, .unset, .unset, .unset] [(.int (p0 &&& (3 : Int32)))]
    refine own_st (fun _ k => XS.istore X58.here hx rfl (hb hby at_104) rfl (l' := #[.val (.int p0), .val (.int p1), .val (.int p2), .val (.int p3), .val (.int p4), .val (.int p5), .val (.int (2 : Int32)), .val (.int gg), .val (.ref b46), .val (.int (p0 &&& (3 : Int32))), .unset, .unset, .unset, .unset, .unset, .unset, .unset, .unset, .unset, .unset, .unset, .unset, .unset, .unset, .unset]) rfl k) ?_
    show own_Go X58 (Q0 Z p0 p1 p2 p3 p4 p5 h0 n0) 3 11 106 #[.val (.int p0), .val (.int p1), .val (.int p2), .val (.int p3), .val (.int p4), .val (.int p5), .val (.int (2 : Int32)), .val (.int gg), .val (.ref b46), .val (.int (p0 &&& (3 : Int32))), .unset, .unset, .unset, .unset, .unset, .unset, .unset, .unset, .unset, .unset, .unset, .unset, .unset, .unset, .unset] []
    generalize hd0 : (p0 &&& (3 : Int32)) = d0
    show own_Go X58 (Q0 Z p0 p1 p2 p3 p4 p5 h0 n0) 3 11 106 #[.val (.int p0), .val (.int p1), .val (.int p2), .val (.int p3), .val (.int p4), .val (.int p5), .val (.int (2 : Int32)), .val (.int gg), .val (.ref b46), .val (.int d0), .unset, .unset, .unset, .unset, .unset, .unset, .unset, .unset, .unset, .unset, .unset, .unset, .unset, .unset, .unset] []
    refine own_st (fun _ k => XS.iloadN X58.here hx rfl (hb hby at_106) rfl k) ?_
    show own_Go X58 (Q0 Z p0 p1 p2 p3 p4 p5 h0 n0) 3 11 107 #[.val (.int p0), .val (.int p1), .val (.int p2), .val (.int p3), .val (.int p4), .val (.int p5), .val (.int (2 : Int32)), .val (.int gg), .val (.ref b46), .val (.int d0), .unset, .unset, .unset, .unset, .unset, .unset, .unset, .unset, .unset, .unset, .unset, .unset, .unset, .unset, .unset] [(.int p0)]
    refine own_st (fun _ k => XS.iconst X58.here hx rfl (hb hby at_107) k) ?_
    show own_Go X58 (Q0 Z p0 p1 p2 p3 p4 p5 h0 n0) 3 11 108 #[.val (.int p0), .val (.int p1), .val (.int p2), .val (.int p3), .val (.int p4), .val (.int p5), .val (.int (2 : Int32)), .val (.int gg), .val (.ref b46), .val (.int d0), .unset, .unset, .unset, .unset, .unset, .unset, .unset, .unset, .unset, .unset, .unset, .unset, .unset, .unset, .unset] [(.int (2 : Int32)), (.int p0)]
    refine own_st (fun _ k => XS.iushr X58.here hx rfl (hb hby at_108) rfl k) ?_
    show own_Go X58 (Q0 Z p0 p1 p2 p3 p4 p5 h0 n0) 3 11 109 #[.val (.int p0), .val (.int p1), .val (.int p2), .val (.int p3), .val (.int p4), .val (.int p5), .val (.int (2 : Int32)), .val (.int gg), .val (.ref b46), .val (.int d0), .unset, .unset, .unset, .unset, .unset, .unset, .unset, .unset, .unset, .unset, .unset, .unset, .unset, .unset, .unset] [(.int ((p0.toUInt32 >>> ((2 : Int32) &&& 31).toUInt32).toInt32))]
    refine own_st (fun _ k => XS.iconst X58.here hx rfl (hb hby at_109) k) ?_
    show own_Go X58 (Q0 Z p0 p1 p2 p3 p4 p5 h0 n0) 3 11 110 #[.val (.int p0), .val (.int p1), .val (.int p2), .val (.int p3), .val (.int p4), .val (.int p5), .val (.int (2 : Int32)), .val (.int gg), .val (.ref b46), .val (.int d0), .unset, .unset, .unset, .unset, .unset, .unset, .unset, .unset, .unset, .unset, .unset, .unset, .unset, .unset, .unset] [(.int (3 : Int32)), (.int ((p0.toUInt32 >>> ((2 : Int32) &&& 31).toUInt32).toInt32))]
    refine own_st (fun _ k => XS.iand X58.here hx rfl (hb hby at_110) rfl k) ?_
    show own_Go X58 (Q0 Z p0 p1 p2 p3 p4 p5 h0 n0) 3 11 111 #[.val (.int p0), .val (.int p1), .val (.int p2), .val (.int p3), .val (.int p4), .val (.int p5), .val (.int (2 : Int32)), .val (.int gg), .val (.ref b46), .val (.int d0), .unset, .unset, .unset, .unset, .unset, .unset, .unset, .unset, .unset, .unset, .unset, .unset, .unset, .unset, .unset] [(.int (((p0.toUInt32 >>> ((2 : Int32) &&& 31).toUInt32).toInt32) &&& (3 : Int32)))]
    refine own_st (fun _ k => XS.istore X58.here hx rfl (hb hby at_111) rfl (l' := #[.val (.int p0), .val (.int p1), .val (.int p2), .val (.int p3), .val (.int p4), .val (.int p5), .val (.int (2 : Int32)), .val (.int gg), .val (.ref b46), .val (.int d0), .val (.int (((p0.toUInt32 >>> ((2 : Int32) &&& 31).toUInt32).toInt32) &&& (3 : Int32))), .unset, .unset, .unset, .unset, .unset, .unset, .unset, .unset, .unset, .unset, .unset, .unset, .unset, .unset]) rfl k) ?_
    show own_Go X58 (Q0 Z p0 p1 p2 p3 p4 p5 h0 n0) 3 11 113 #[.val (.int p0), .val (.int p1), .val (.int p2), .val (.int p3), .val (.int p4), .val (.int p5), .val (.int (2 : Int32)), .val (.int gg), .val (.ref b46), .val (.int d0), .val (.int (((p0.toUInt32 >>> ((2 : Int32) &&& 31).toUInt32).toInt32) &&& (3 : Int32))), .unset, .unset, .unset, .unset, .unset, .unset, .unset, .unset, .unset, .unset, .unset, .unset, .unset, .unset] []
    generalize hd1 : (((p0.toUInt32 >>> ((2 : Int32) &&& 31).toUInt32).toInt32) &&& (3 : Int32)) = d1
    show own_Go X58 (Q0 Z p0 p1 p2 p3 p4 p5 h0 n0) 3 11 113 #[.val (.int p0), .val (.int p1), .val (.int p2), .val (.int p3), .val (.int p4), .val (.int p5), .val (.int (2 : Int32)), .val (.int gg), .val (.ref b46), .val (.int d0), .val (.int d1), .unset, .unset, .unset, .unset, .unset, .unset, .unset, .unset, .unset, .unset, .unset, .unset, .unset, .unset] []
    refine own_st (fun _ k => XS.iloadN X58.here hx rfl (hb hby at_113) rfl k) ?_
    show own_Go X58 (Q0 Z p0 p1 p2 p3 p4 p5 h0 n0) 3 11 114 #[.val (.int p0), .val (.int p1), .val (.int p2), .val (.int p3), .val (.int p4), .val (.int p5), .val (.int (2 : Int32)), .val (.int gg), .val (.ref b46), .val (.int d0), .val (.int d1), .unset, .unset, .unset, .unset, .unset, .unset, .unset, .unset, .unset, .unset, .unset, .unset, .unset, .unset] [(.int p0)]
    refine own_st (fun _ k => XS.iconst X58.here hx rfl (hb hby at_114) k) ?_
    show own_Go X58 (Q0 Z p0 p1 p2 p3 p4 p5 h0 n0) 3 11 115 #[.val (.int p0), .val (.int p1), .val (.int p2), .val (.int p3), .val (.int p4), .val (.int p5), .val (.int (2 : Int32)), .val (.int gg), .val (.ref b46), .val (.int d0), .val (.int d1), .unset, .unset, .unset, .unset, .unset, .unset, .unset, .unset, .unset, .unset, .unset, .unset, .unset, .unset] [(.int (4 : Int32)), (.int p0)]
    refine own_st (fun _ k => XS.iushr X58.here hx rfl (hb hby at_115) rfl k) ?_
    show own_Go X58 (Q0 Z p0 p1 p2 p3 p4 p5 h0 n0) 3 11 116 #[.val (.int p0), .val (.int p1), .val (.int p2), .val (.int p3), .val (.int p4), .val (.int p5), .val (.int (2 : Int32)), .val (.int gg), .val (.ref b46), .val (.int d0), .val (.int d1), .unset, .unset, .unset, .unset, .unset, .unset, .unset, .unset, .unset, .unset, .unset, .unset, .unset, .unset] [(.int ((p0.toUInt32 >>> ((4 : Int32) &&& 31).toUInt32).toInt32))]
    refine own_st (fun _ k => XS.iconst X58.here hx rfl (hb hby at_116) k) ?_
    show own_Go X58 (Q0 Z p0 p1 p2 p3 p4 p5 h0 n0) 3 11 117 #[.val (.int p0), .val (.int p1), .val (.int p2), .val (.int p3), .val (.int p4), .val (.int p5), .val (.int (2 : Int32)), .val (.int gg), .val (.ref b46), .val (.int d0), .val (.int d1), .unset, .unset, .unset, .unset, .unset, .unset, .unset, .unset, .unset, .unset, .unset, .unset, .unset, .unset] [(.int (3 : Int32)), (.int ((p0.toUInt32 >>> ((4 : Int32) &&& 31).toUInt32).toInt32))]
    refine own_st (fun _ k => XS.iand X58.here hx rfl (hb hby at_117) rfl k) ?_
    show own_Go X58 (Q0 Z p0 p1 p2 p3 p4 p5 h0 n0) 3 11 118 #[.val (.int p0), .val (.int p1), .val (.int p2), .val (.int p3), .val (.int p4), .val (.int p5), .val (.int (2 : Int32)), .val (.int gg), .val (.ref b46), .val (.int d0), .val (.int d1), .unset, .unset, .unset, .unset, .unset, .unset, .unset, .unset, .unset, .unset, .unset, .unset, .unset, .unset] [(.int (((p0.toUInt32 >>> ((4 : Int32) &&& 31).toUInt32).toInt32) &&& (3 : Int32)))]
    refine own_st (fun _ k => XS.istore X58.here hx rfl (hb hby at_118) rfl (l' := #[.val (.int p0), .val (.int p1), .val (.int p2), .val (.int p3), .val (.int p4), .val (.int p5), .val (.int (2 : Int32)), .val (.int gg), .val (.ref b46), .val (.int d0), .val (.int d1), .val (.int (((p0.toUInt32 >>> ((4 : Int32) &&& 31).toUInt32).toInt32) &&& (3 : Int32))), .unset, .unset, .unset, .unset, .unset, .unset, .unset, .unset, .unset, .unset, .unset, .unset, .unset]) rfl k) ?_
    show own_Go X58 (Q0 Z p0 p1 p2 p3 p4 p5 h0 n0) 3 11 120 #[.val (.int p0), .val (.int p1), .val (.int p2), .val (.int p3), .val (.int p4), .val (.int p5), .val (.int (2 : Int32)), .val (.int gg), .val (.ref b46), .val (.int d0), .val (.int d1), .val (.int (((p0.toUInt32 >>> ((4 : Int32) &&& 31).toUInt32).toInt32) &&& (3 : Int32))), .unset, .unset, .unset, .unset, .unset, .unset, .unset, .unset, .unset, .unset, .unset, .unset, .unset] []
    generalize hd2 : (((p0.toUInt32 >>> ((4 : Int32) &&& 31).toUInt32).toInt32) &&& (3 : Int32)) = d2
    show own_Go X58 (Q0 Z p0 p1 p2 p3 p4 p5 h0 n0) 3 11 120 #[.val (.int p0), .val (.int p1), .val (.int p2), .val (.int p3), .val (.int p4), .val (.int p5), .val (.int (2 : Int32)), .val (.int gg), .val (.ref b46), .val (.int d0), .val (.int d1), .val (.int d2), .unset, .unset, .unset, .unset, .unset, .unset, .unset, .unset, .unset, .unset, .unset, .unset, .unset] []
    refine own_st (fun _ k => XS.iload X58.here hx rfl (hb hby at_120) rfl k) ?_
    show own_Go X58 (Q0 Z p0 p1 p2 p3 p4 p5 h0 n0) 3 11 122 #[.val (.int p0), .val (.int p1), .val (.int p2), .val (.int p3), .val (.int p4), .val (.int p5), .val (.int (2 : Int32)), .val (.int gg), .val (.ref b46), .val (.int d0), .val (.int d1), .val (.int d2), .unset, .unset, .unset, .unset, .unset, .unset, .unset, .unset, .unset, .unset, .unset, .unset, .unset] [(.int (2 : Int32))]
    refine own_st (fun _ k => XS.iconst X58.here hx rfl (hb hby at_122) k) ?_
    show own_Go X58 (Q0 Z p0 p1 p2 p3 p4 p5 h0 n0) 3 11 123 #[.val (.int p0), .val (.int p1), .val (.int p2), .val (.int p3), .val (.int p4), .val (.int p5), .val (.int (2 : Int32)), .val (.int gg), .val (.ref b46), .val (.int d0), .val (.int d1), .val (.int d2), .unset, .unset, .unset, .unset, .unset, .unset, .unset, .unset, .unset, .unset, .unset, .unset, .unset] [(.int (1 : Int32)), (.int (2 : Int32))]
    have c123_61 : ¬ ((2 : Int32) = (1 : Int32)) := (by decide)
    refine own_st (fun _ k => XS.icmpYes X58.here hx rfl (pc0 := 123) (pc' := 139) rfl (hb hby at_123) rfl (feq c123_61).2 (by decide) (by decide) k) ?_
    show own_Go X58 (Q0 Z p0 p1 p2 p3 p4 p5 h0 n0) 3 11 139 #[.val (.int p0), .val (.int p1), .val (.int p2), .val (.int p3), .val (.int p4), .val (.int p5), .val (.int (2 : Int32)), .val (.int gg), .val (.ref b46), .val (.int d0), .val (.int d1), .val (.int d2), .unset, .unset, .unset, .unset, .unset, .unset, .unset, .unset, .unset, .unset, .unset, .unset, .unset] []
    refine own_st (fun _ k => XS.iload X58.here hx rfl (hb hby at_139) rfl k) ?_
    show own_Go X58 (Q0 Z p0 p1 p2 p3 p4 p5 h0 n0) 3 11 141 #[.val (.int p0), .val (.int p1), .val (.int p2), .val (.int p3), .val (.int p4), .val (.int p5), .val (.int (2 : Int32)), .val (.int gg), .val (.ref b46), .val (.int d0), .val (.int d1), .val (.int d2), .unset, .unset, .unset, .unset, .unset, .unset, .unset, .unset, .unset, .unset, .unset, .unset, .unset] [(.int (2 : Int32))]
    refine own_st (fun _ k => XS.iconst X58.here hx rfl (hb hby at_141) k) ?_
    show own_Go X58 (Q0 Z p0 p1 p2 p3 p4 p5 h0 n0) 3 11 142 #[.val (.int p0), .val (.int p1), .val (.int p2), .val (.int p3), .val (.int p4), .val (.int p5), .val (.int (2 : Int32)), .val (.int gg), .val (.ref b46), .val (.int d0), .val (.int d1), .val (.int d2), .unset, .unset, .unset, .unset, .unset, .unset, .unset, .unset, .unset, .unset, .unset, .unset, .unset] [(.int (2 : Int32)), (.int (2 : Int32))]
    have c142_62 : (2 : Int32) = (2 : Int32) := (by decide)
    refine own_st (fun _ k => XS.icmpNo X58.here hx rfl (hb hby at_142) rfl (teq c142_62).2 k) ?_
    show own_Go X58 (Q0 Z p0 p1 p2 p3 p4 p5 h0 n0) 3 11 145 #[.val (.int p0), .val (.int p1), .val (.int p2), .val (.int p3), .val (.int p4), .val (.int p5), .val (.int (2 : Int32)), .val (.int gg), .val (.ref b46), .val (.int d0), .val (.int d1), .val (.int d2), .unset, .unset, .unset, .unset, .unset, .unset, .unset, .unset, .unset, .unset, .unset, .unset, .unset] []
    refine own_st (fun _ k => XS.iconst X58.here hx rfl (hb hby at_145) k) ?_
    show own_Go X58 (Q0 Z p0 p1 p2 p3 p4 p5 h0 n0) 3 11 146 #[.val (.int p0), .val (.int p1), .val (.int p2), .val (.int p3), .val (.int p4), .val (.int p5), .val (.int (2 : Int32)), .val (.int gg), .val (.ref b46), .val (.int d0), .val (.int d1), .val (.int d2), .unset, .unset, .unset, .unset, .unset, .unset, .unset, .unset, .unset, .unset, .unset, .unset, .unset] [(.int (2 : Int32))]
    obtain ⟨T63, h63, k63, X63, e63, E63, A63, st63⟩ := newP X58 hx hZ (hw _ (List.mem_of_getElem? (i := 1) rfl)) e58 (g := (mkF m 146 #[.val (.int p0), .val (.int p1), .val (.int p2), .val (.int p3), .val (.int p4), .val (.int p5), .val (.int (2 : Int32)), .val (.int gg), .val (.ref b46), .val (.int d0), .val (.int d1), .val (.int d2), .unset, .unset, .unset, .unset, .unset, .unset, .unset, .unset, .unset, .unset, .unset, .unset, .unset] [(.int (2 : Int32))])) rfl (hb hby at_146) rfl (by decide) (cap := 2) (by decide) (by decide) (by decide) (by decide)
    obtain ⟨b63, g63⟩ : ∃ z, z = h58.size := ⟨_, rfl⟩
    rw [← g63] at A63 st63
    refine own_st st63 ?_
    have ne_64 := Nat.ne_of_lt (Nat.lt_of_lt_of_le VR.lt (Nat.le_of_eq g63.symm))
    have G_65 := Nat.le_trans Z_59 (Nat.le_of_eq g63.symm)
    have f_66 := VR.ext E63
    have Z_67 := Nat.le_trans Z_59 E63.1
    have V63 : Arv Z h63 b63 k63 .int (2 : Int32) [(.int (0 : Int32)), (.int (0 : Int32))] (.int (0 : Int32)) := (Arv.new A63 (by decide)).pad (pad_rep [] (.int (0 : Int32)) 2)
    show own_Go X63 (Q0 Z p0 p1 p2 p3 p4 p5 h0 n0) 3 11 148 #[.val (.int p0), .val (.int p1), .val (.int p2), .val (.int p3), .val (.int p4), .val (.int p5), .val (.int (2 : Int32)), .val (.int gg), .val (.ref b46), .val (.int d0), .val (.int d1), .val (.int d2), .unset, .unset, .unset, .unset, .unset, .unset, .unset, .unset, .unset, .unset, .unset, .unset, .unset] [(.ref b63)]
    refine own_st (fun _ k => XS.dup X63.here hx rfl (hb hby at_148) rfl rfl k) ?_
    show own_Go X63 (Q0 Z p0 p1 p2 p3 p4 p5 h0 n0) 3 11 149 #[.val (.int p0), .val (.int p1), .val (.int p2), .val (.int p3), .val (.int p4), .val (.int p5), .val (.int (2 : Int32)), .val (.int gg), .val (.ref b46), .val (.int d0), .val (.int d1), .val (.int d2), .unset, .unset, .unset, .unset, .unset, .unset, .unset, .unset, .unset, .unset, .unset, .unset, .unset] [(.ref b63), (.ref b63)]
    refine own_st (fun _ k => XS.iconst X63.here hx rfl (hb hby at_149) k) ?_
    show own_Go X63 (Q0 Z p0 p1 p2 p3 p4 p5 h0 n0) 3 11 150 #[.val (.int p0), .val (.int p1), .val (.int p2), .val (.int p3), .val (.int p4), .val (.int p5), .val (.int (2 : Int32)), .val (.int gg), .val (.ref b46), .val (.int d0), .val (.int d1), .val (.int d2), .unset, .unset, .unset, .unset, .unset, .unset, .unset, .unset, .unset, .unset, .unset, .unset, .unset] [(.int (0 : Int32)), (.ref b63), (.ref b63)]
    refine own_st (fun _ k => XS.iload X63.here hx rfl (hb hby at_150) rfl k) ?_
    show own_Go X63 (Q0 Z p0 p1 p2 p3 p4 p5 h0 n0) 3 11 152 #[.val (.int p0), .val (.int p1), .val (.int p2), .val (.int p3), .val (.int p4), .val (.int p5), .val (.int (2 : Int32)), .val (.int gg), .val (.ref b46), .val (.int d0), .val (.int d1), .val (.int d2), .unset, .unset, .unset, .unset, .unset, .unset, .unset, .unset, .unset, .unset, .unset, .unset, .unset] [(.int d0), (.int (0 : Int32)), (.ref b63), (.ref b63)]
    obtain ⟨T68, h68, X68, e68, W68, V68, st68⟩ := own_stI X63 hx hZ e63 V63 (j := (0 : Int32)) ⟨by decide, by decide⟩ (Nat.le_of_ble_eq_true rfl) (g := (mkF m 152 #[.val (.int p0), .val (.int p1), .val (.int p2), .val (.int p3), .val (.int p4), .val (.int p5), .val (.int (2 : Int32)), .val (.int gg), .val (.ref b46), .val (.int d0), .val (.int d1), .val (.int d2), .unset, .unset, .unset, .unset, .unset, .unset, .unset, .unset, .unset, .unset, .unset, .unset, .unset] [(.int d0), (.int (0 : Int32)), (.ref b63), (.ref b63)])) rfl rfl (hb hby at_152)
    refine own_st st68 ?_
    have f_69 := f_66.other W68 ne_64
    have Z_70 := Nat.le_trans Z_67 (Nat.le_of_eq W68.size.symm)
    have U68 : Arv Z h68 b63 k63 .int (2 : Int32) [(.int d0), (.int (0 : Int32))] (.int (0 : Int32)) := V68
    have N_71 := Fr.snoc X68 N_60 G_65
    show own_Go X68 (Q0 Z p0 p1 p2 p3 p4 p5 h0 n0) 3 11 153 #[.val (.int p0), .val (.int p1), .val (.int p2), .val (.int p3), .val (.int p4), .val (.int p5), .val (.int (2 : Int32)), .val (.int gg), .val (.ref b46), .val (.int d0), .val (.int d1), .val (.int d2), .unset, .unset, .unset, .unset, .unset, .unset, .unset, .unset, .unset, .unset, .unset, .unset, .unset] [(.ref b63)]
    refine own_st (fun _ k => XS.dup X68.here hx rfl (hb hby at_153) rfl rfl k) ?_
    show own_Go X68 (Q0 Z p0 p1 p2 p3 p4 p5 h0 n0) 3 11 154 #[.val (.int p0), .val (.int p1), .val (.int p2), .val (.int p3), .val (.int p4), .val (.int p5), .val (.int (2 : Int32)), .val (.int gg), .val (.ref b46), .val (.int d0), .val (.int d1), .val (.int d2), .unset, .unset, .unset, .unset, .unset, .unset, .unset, .unset, .unset, .unset, .unset, .unset, .unset] [(.ref b63), (.ref b63)]
    refine own_st (fun _ k => XS.iconst X68.here hx rfl (hb hby at_154) k) ?_
    show own_Go X68 (Q0 Z p0 p1 p2 p3 p4 p5 h0 n0) 3 11 155 #[.val (.int p0), .val (.int p1), .val (.int p2), .val (.int p3), .val (.int p4), .val (.int p5), .val (.int (2 : Int32)), .val (.int gg), .val (.ref b46), .val (.int d0), .val (.int d1), .val (.int d2), .unset, .unset, .unset, .unset, .unset, .unset, .unset, .unset, .unset, .unset, .unset, .unset, .unset] [(.int (1 : Int32)), (.ref b63), (.ref b63)]
    refine own_st (fun _ k => XS.iload X68.here hx rfl (hb hby at_155) rfl k) ?_
    show own_Go X68 (Q0 Z p0 p1 p2 p3 p4 p5 h0 n0) 3 11 157 #[.val (.int p0), .val (.int p1), .val (.int p2), .val (.int p3), .val (.int p4), .val (.int p5), .val (.int (2 : Int32)), .val (.int gg), .val (.ref b46), .val (.int d0), .val (.int d1), .val (.int d2), .unset, .unset, .unset, .unset, .unset, .unset, .unset, .unset, .unset, .unset, .unset, .unset, .unset] [(.int d1), (.int (1 : Int32)), (.ref b63), (.ref b63)]
    obtain ⟨T72, h72, X72, e72, W72, V72, st72⟩ := own_stI X68 hx hZ e68 U68 (j := (1 : Int32)) ⟨by decide, by decide⟩ (Nat.le_of_ble_eq_true rfl) (g := (mkF m 157 #[.val (.int p0), .val (.int p1), .val (.int p2), .val (.int p3), .val (.int p4), .val (.int p5), .val (.int (2 : Int32)), .val (.int gg), .val (.ref b46), .val (.int d0), .val (.int d1), .val (.int d2), .unset, .unset, .unset, .unset, .unset, .unset, .unset, .unset, .unset, .unset, .unset, .unset, .unset] [(.int d1), (.int (1 : Int32)), (.ref b63), (.ref b63)])) rfl rfl (hb hby at_157)
    refine own_st st72 ?_
    have f_73 := f_69.other W72 ne_64
    have Z_74 := Nat.le_trans Z_70 (Nat.le_of_eq W72.size.symm)
    have U72 : Arv Z h72 b63 k63 .int (2 : Int32) [(.int d0), (.int d1)] (.int (0 : Int32)) := V72
    have N_75 := Fr.snoc X72 N_71 G_65
    show own_Go X72 (Q0 Z p0 p1 p2 p3 p4 p5 h0 n0) 3 11 158 #[.val (.int p0), .val (.int p1), .val (.int p2), .val (.int p3), .val (.int p4), .val (.int p5), .val (.int (2 : Int32)), .val (.int gg), .val (.ref b46), .val (.int d0), .val (.int d1), .val (.int d2), .unset, .unset, .unset, .unset, .unset, .unset, .unset, .unset, .unset, .unset, .unset, .unset, .unset] [(.ref b63)]
    refine own_st (fun _ k => XS.astore X72.here hx rfl (hb hby at_158) rfl rfl (l' := #[.val (.int p0), .val (.int p1), .val (.int p2), .val (.int p3), .val (.int p4), .val (.int p5), .val (.int (2 : Int32)), .val (.int gg), .val (.ref b46), .val (.int d0), .val (.int d1), .val (.int d2), .val (.ref b63), .unset, .unset, .unset, .unset, .unset, .unset, .unset, .unset, .unset, .unset, .unset, .unset]) rfl k) ?_
    show own_Go X72 (Q0 Z p0 p1 p2 p3 p4 p5 h0 n0) 3 11 160 #[.val (.int p0), .val (.int p1), .val (.int p2), .val (.int p3), .val (.int p4), .val (.int p5), .val (.int (2 : Int32)), .val (.int gg), .val (.ref b46), .val (.int d0), .val (.int d1), .val (.int d2), .val (.ref b63), .unset, .unset, .unset, .unset, .unset, .unset, .unset, .unset, .unset, .unset, .unset, .unset] []
    refine own_st (fun _ k => XS.goto X72.here hx rfl (pc0 := 160) (pc' := 183) rfl (hb hby at_160) (by decide) (by decide) k) ?_
    show own_Go X72 (Q0 Z p0 p1 p2 p3 p4 p5 h0 n0) 3 11 183 #[.val (.int p0), .val (.int p1), .val (.int p2), .val (.int p3), .val (.int p4), .val (.int p5), .val (.int (2 : Int32)), .val (.int gg), .val (.ref b46), .val (.int d0), .val (.int d1), .val (.int d2), .val (.ref b63), .unset, .unset, .unset, .unset, .unset, .unset, .unset, .unset, .unset, .unset, .unset, .unset] []
    have q1 : (own_pw1 gg).toInt = gg.toInt := own_p1 gg
    have u2 := own_ub2 (a := gg.toInt) (b := gg.toInt) (A := 32769) (B := 32769) (by omega) (by omega) hG.2 hG.2
    have v2 := own_pos2 (a := gg.toInt) (b := gg.toInt) (by omega) (by omega)
    have q2 : (own_pw2 gg).toInt = gg.toInt * gg.toInt := own_mulx q1 v2 (by omega)
    obtain ⟨T76, h76, X76, e76, E76, A76, D76, -, st76⟩ := newO X72 hx hZ hown (hw _ (List.mem_of_getElem? (i := 3) rfl)) (hw _ (List.mem_of_getElem? (i := 4) rfl)) (hw _ (List.mem_of_getElem? (i := 5) rfl)) e72 (g := (mkF m 183 #[.val (.int p0), .val (.int p1), .val (.int p2), .val (.int p3), .val (.int p4), .val (.int p5), .val (.int (2 : Int32)), .val (.int gg), .val (.ref b46), .val (.int d0), .val (.int d1), .val (.int d2), .val (.ref b63), .unset, .unset, .unset, .unset, .unset, .unset, .unset, .unset, .unset, .unset, .unset, .unset] [])) rfl (hb hby at_183) (by decide) (by decide)
    obtain ⟨b76, g76⟩ : ∃ z, z = h72.size := ⟨_, rfl⟩
    rw [← g76] at A76 D76 st76
    refine own_st st76 ?_
    have ne_77 := Nat.ne_of_lt (Nat.lt_of_lt_of_le f_73.lt (Nat.le_of_eq g76.symm))
    have ne_78 := Nat.ne_of_lt (Nat.lt_of_lt_of_le U72.lt (Nat.le_of_eq g76.symm))
    have G_79 := Nat.le_trans Z_74 (Nat.le_of_eq g76.symm)
    have f_80 := f_73.ext E76
    have f_81 := U72.ext E76
    have Z_82 := Nat.le_trans Z_74 E76.1
    have F_rows_76 : Fld Z h76 b76 "com/example/gingham/gingham/designs/CoveringArraySpec" "rows" "I" (.int (0 : Int32)) := D76 (Or.inr (hw _ (List.mem_of_getElem? (i := 22) rfl))) (ty := .int) (by decide)
    have F_strength_76 : Fld Z h76 b76 "com/example/gingham/gingham/designs/CoveringArraySpec" "strength" "I" (.int (0 : Int32)) := D76 (Or.inr (hw _ (List.mem_of_getElem? (i := 24) rfl))) (ty := .int) (by decide)
    have F_columns_76 : Fld Z h76 b76 "com/example/gingham/gingham/designs/CoveringArraySpec" "columns" "I" (.int (0 : Int32)) := D76 (Or.inr (hw _ (List.mem_of_getElem? (i := 26) rfl))) (ty := .int) (by decide)
    have F_levels_76 : Fld Z h76 b76 "com/example/gingham/gingham/designs/CoveringArraySpec" "levels" "I" (.int (0 : Int32)) := D76 (Or.inr (hw _ (List.mem_of_getElem? (i := 28) rfl))) (ty := .int) (by decide)
    show own_Go X76 (Q0 Z p0 p1 p2 p3 p4 p5 h0 n0) 3 11 186 #[.val (.int p0), .val (.int p1), .val (.int p2), .val (.int p3), .val (.int p4), .val (.int p5), .val (.int (2 : Int32)), .val (.int gg), .val (.ref b46), .val (.int d0), .val (.int d1), .val (.int d2), .val (.ref b63), .unset, .unset, .unset, .unset, .unset, .unset, .unset, .unset, .unset, .unset, .unset, .unset] [(.ref b76)]
    refine own_st (fun _ k => XS.dup X76.here hx rfl (hb hby at_186) rfl rfl k) ?_
    show own_Go X76 (Q0 Z p0 p1 p2 p3 p4 p5 h0 n0) 3 11 187 #[.val (.int p0), .val (.int p1), .val (.int p2), .val (.int p3), .val (.int p4), .val (.int p5), .val (.int (2 : Int32)), .val (.int gg), .val (.ref b46), .val (.int d0), .val (.int d1), .val (.int d2), .val (.ref b63), .unset, .unset, .unset, .unset, .unset, .unset, .unset, .unset, .unset, .unset, .unset, .unset] [(.ref b76), (.ref b76)]
    refine own_st (fun _ k => XS.iconst X76.here hx rfl (hb hby at_187) k) ?_
    show own_Go X76 (Q0 Z p0 p1 p2 p3 p4 p5 h0 n0) 3 11 188 #[.val (.int p0), .val (.int p1), .val (.int p2), .val (.int p3), .val (.int p4), .val (.int p5), .val (.int (2 : Int32)), .val (.int gg), .val (.ref b46), .val (.int d0), .val (.int d1), .val (.int d2), .val (.ref b63), .unset, .unset, .unset, .unset, .unset, .unset, .unset, .unset, .unset, .unset, .unset, .unset] [(.int (1 : Int32)), (.ref b76), (.ref b76)]
    refine own_st (fun _ k => XS.iload X76.here hx rfl (hb hby at_188) rfl k) ?_
    show own_Go X76 (Q0 Z p0 p1 p2 p3 p4 p5 h0 n0) 3 11 190 #[.val (.int p0), .val (.int p1), .val (.int p2), .val (.int p3), .val (.int p4), .val (.int p5), .val (.int (2 : Int32)), .val (.int gg), .val (.ref b46), .val (.int d0), .val (.int d1), .val (.int d2), .val (.ref b63), .unset, .unset, .unset, .unset, .unset, .unset, .unset, .unset, .unset, .unset, .unset, .unset] [(.int (2 : Int32)), (.int (1 : Int32)), (.ref b76), (.ref b76)]
    refine own_st (fun _ k => XS.iconst X76.here hx rfl (hb hby at_190) k) ?_
    show own_Go X76 (Q0 Z p0 p1 p2 p3 p4 p5 h0 n0) 3 11 191 #[.val (.int p0), .val (.int p1), .val (.int p2), .val (.int p3), .val (.int p4), .val (.int p5), .val (.int (2 : Int32)), .val (.int gg), .val (.ref b46), .val (.int d0), .val (.int d1), .val (.int d2), .val (.ref b63), .unset, .unset, .unset, .unset, .unset, .unset, .unset, .unset, .unset, .unset, .unset, .unset] [(.int (4 : Int32)), (.int (2 : Int32)), (.int (1 : Int32)), (.ref b76), (.ref b76)]
    refine own_st (fun _ k => XS.iload X76.here hx rfl (hb hby at_191) rfl k) ?_
    show own_Go X76 (Q0 Z p0 p1 p2 p3 p4 p5 h0 n0) 3 11 193 #[.val (.int p0), .val (.int p1), .val (.int p2), .val (.int p3), .val (.int p4), .val (.int p5), .val (.int (2 : Int32)), .val (.int gg), .val (.ref b46), .val (.int d0), .val (.int d1), .val (.int d2), .val (.ref b63), .unset, .unset, .unset, .unset, .unset, .unset, .unset, .unset, .unset, .unset, .unset, .unset] [(.int gg), (.int (4 : Int32)), (.int (2 : Int32)), (.int (1 : Int32)), (.ref b76), (.ref b76)]
    refine own_callI (W := 1) X76 hx hZ hown (hw _ (List.mem_of_getElem? (i := 6) rfl)) (hw _ (List.mem_of_getElem? (i := 7) rfl)) (hw _ (List.mem_of_getElem? (i := 5) rfl)) (hw _ (List.mem_of_getElem? (i := 8) rfl)) rfl (by decide) (rm12 l Z a0 hw [] b76 gg h76 n0 Z_82 A76 G_79 F_rows_76 F_strength_76 F_columns_76 F_levels_76 (own_le64 q1 (by omega)) (own_le64 q2 (by omega)) (own_nn32 q2 (by omega) (by omega)) (own_g2 hG.1)) (by decide) (by decide) (by rw [hml]; rfl) b76 [(.int (1 : Int32)), (.int (2 : Int32)), (.int (4 : Int32)), (.int gg)] [(.ref b76)] (lenOf pd_0_0 rfl) rfl rfl (Nat.le_of_ble_eq_true rfl) (hb hby at_193) e76 (by decide) (by decide) ?_
    rintro _ T83 L83 X83 ⟨rfl, N83q, K83q, F83_rows, F83_strength, F83_columns, F83_levels⟩
    have N_84 := Fr.app N_75 N83q
    have f_85 := f_80.keep K83q (ninS ne_77 nin0)
    have f_86 := f_81.keep K83q (ninS ne_78 nin0)
    have f_87 := A76.keep K83q
    have Z_88 := Nat.le_trans Z_82 K83q.1
    show own_Go X83 (Q0 Z p0 p1 p2 p3 p4 p5 h0 n0) 3 11 196 #[.val (.int p0), .val (.int p1), .val (.int p2), .val (.int p3), .val (.int p4), .val (.int p5), .val (.int (2 : Int32)), .val (.int gg), .val (.ref b46), .val (.int d0), .val (.int d1), .val (.int d2), .val (.ref b63), .unset, .unset, .unset, .unset, .unset, .unset, .unset, .unset, .unset, .unset, .unset, .unset] [(.ref b76)]
    refine own_st (fun _ k => XS.astore X83.here hx rfl (hb hby at_196) rfl rfl (l' := #[.val (.int p0), .val (.int p1), .val (.int p2), .val (.int p3), .val (.int p4), .val (.int p5), .val (.int (2 : Int32)), .val (.int gg), .val (.ref b46), .val (.int d0), .val (.int d1), .val (.int d2), .val (.ref b63), .val (.ref b76), .unset, .unset, .unset, .unset, .unset, .unset, .unset, .unset, .unset, .unset, .unset]) rfl k) ?_
    show own_Go X83 (Q0 Z p0 p1 p2 p3 p4 p5 h0 n0) 3 11 198 #[.val (.int p0), .val (.int p1), .val (.int p2), .val (.int p3), .val (.int p4), .val (.int p5), .val (.int (2 : Int32)), .val (.int gg), .val (.ref b46), .val (.int d0), .val (.int d1), .val (.int d2), .val (.ref b63), .val (.ref b76), .unset, .unset, .unset, .unset, .unset, .unset, .unset, .unset, .unset, .unset, .unset] []
    refine own_st (fun _ k => XS.aload X83.here hx rfl (hb hby at_198) rfl rfl k) ?_
    show own_Go X83 (Q0 Z p0 p1 p2 p3 p4 p5 h0 n0) 3 11 200 #[.val (.int p0), .val (.int p1), .val (.int p2), .val (.int p3), .val (.int p4), .val (.int p5), .val (.int (2 : Int32)), .val (.int gg), .val (.ref b46), .val (.int d0), .val (.int d1), .val (.int d2), .val (.ref b63), .val (.ref b76), .unset, .unset, .unset, .unset, .unset, .unset, .unset, .unset, .unset, .unset, .unset] [(.ref b46)]
    refine own_st (fun _ k => XS.iload X83.here hx rfl (hb hby at_200) rfl k) ?_
    show own_Go X83 (Q0 Z p0 p1 p2 p3 p4 p5 h0 n0) 3 11 202 #[.val (.int p0), .val (.int p1), .val (.int p2), .val (.int p3), .val (.int p4), .val (.int p5), .val (.int (2 : Int32)), .val (.int gg), .val (.ref b46), .val (.int d0), .val (.int d1), .val (.int d2), .val (.ref b63), .val (.ref b76), .unset, .unset, .unset, .unset, .unset, .unset, .unset, .unset, .unset, .unset, .unset] [(.int d0), (.ref b46)]
    refine own_st (fun _ k => own_ldI X83 hx hZ (Eq.refl T83.heap) f_85 (j := d0) (own_c3 hd0) (v := (.int (own_at4 y0 y1 y2 y3 d0))) (own_getD4 (own_c3 hd0)) (g := (mkF m 202 #[.val (.int p0), .val (.int p1), .val (.int p2), .val (.int p3), .val (.int p4), .val (.int p5), .val (.int (2 : Int32)), .val (.int gg), .val (.ref b46), .val (.int d0), .val (.int d1), .val (.int d2), .val (.ref b63), .val (.ref b76), .unset, .unset, .unset, .unset, .unset, .unset, .unset, .unset, .unset, .unset, .unset] [(.int d0), (.ref b46)])) rfl rfl (hb hby at_202) _ k) ?_
    show own_Go X83 (Q0 Z p0 p1 p2 p3 p4 p5 h0 n0) 3 11 203 #[.val (.int p0), .val (.int p1), .val (.int p2), .val (.int p3), .val (.int p4), .val (.int p5), .val (.int (2 : Int32)), .val (.int gg), .val (.ref b46), .val (.int d0), .val (.int d1), .val (.int d2), .val (.ref b63), .val (.ref b76), .unset, .unset, .unset, .unset, .unset, .unset, .unset, .unset, .unset, .unset, .unset] [(.int (own_at4 y0 y1 y2 y3 d0))]
    refine own_st (fun _ k => XS.i2l X83.here hx rfl (hb hby at_203) rfl k) ?_
    show own_Go X83 (Q0 Z p0 p1 p2 p3 p4 p5 h0 n0) 3 11 204 #[.val (.int p0), .val (.int p1), .val (.int p2), .val (.int p3), .val (.int p4), .val (.int p5), .val (.int (2 : Int32)), .val (.int gg), .val (.ref b46), .val (.int d0), .val (.int d1), .val (.int d2), .val (.ref b63), .val (.ref b76), .unset, .unset, .unset, .unset, .unset, .unset, .unset, .unset, .unset, .unset, .unset] [(.long ((own_at4 y0 y1 y2 y3 d0).toInt64))]
    refine own_st (fun _ k => XS.lstore X83.here hx rfl (hb hby at_204) rfl (l' := #[.val (.int p0), .val (.int p1), .val (.int p2), .val (.int p3), .val (.int p4), .val (.int p5), .val (.int (2 : Int32)), .val (.int gg), .val (.ref b46), .val (.int d0), .val (.int d1), .val (.int d2), .val (.ref b63), .val (.ref b76), .val (.long ((own_at4 y0 y1 y2 y3 d0).toInt64)), .second, .unset, .unset, .unset, .unset, .unset, .unset, .unset, .unset, .unset]) rfl k) ?_
    show own_Go X83 (Q0 Z p0 p1 p2 p3 p4 p5 h0 n0) 3 11 206 #[.val (.int p0), .val (.int p1), .val (.int p2), .val (.int p3), .val (.int p4), .val (.int p5), .val (.int (2 : Int32)), .val (.int gg), .val (.ref b46), .val (.int d0), .val (.int d1), .val (.int d2), .val (.ref b63), .val (.ref b76), .val (.long ((own_at4 y0 y1 y2 y3 d0).toInt64)), .second, .unset, .unset, .unset, .unset, .unset, .unset, .unset, .unset, .unset] []
    refine own_st (fun _ k => XS.aload X83.here hx rfl (hb hby at_206) rfl rfl k) ?_
    show own_Go X83 (Q0 Z p0 p1 p2 p3 p4 p5 h0 n0) 3 11 208 #[.val (.int p0), .val (.int p1), .val (.int p2), .val (.int p3), .val (.int p4), .val (.int p5), .val (.int (2 : Int32)), .val (.int gg), .val (.ref b46), .val (.int d0), .val (.int d1), .val (.int d2), .val (.ref b63), .val (.ref b76), .val (.long ((own_at4 y0 y1 y2 y3 d0).toInt64)), .second, .unset, .unset, .unset, .unset, .unset, .unset, .unset, .unset, .unset] [(.ref b46)]
    refine own_st (fun _ k => XS.iload X83.here hx rfl (hb hby at_208) rfl k) ?_
    show own_Go X83 (Q0 Z p0 p1 p2 p3 p4 p5 h0 n0) 3 11 210 #[.val (.int p0), .val (.int p1), .val (.int p2), .val (.int p3), .val (.int p4), .val (.int p5), .val (.int (2 : Int32)), .val (.int gg), .val (.ref b46), .val (.int d0), .val (.int d1), .val (.int d2), .val (.ref b63), .val (.ref b76), .val (.long ((own_at4 y0 y1 y2 y3 d0).toInt64)), .second, .unset, .unset, .unset, .unset, .unset, .unset, .unset, .unset, .unset] [(.int d1), (.ref b46)]
    refine own_st (fun _ k => own_ldI X83 hx hZ (Eq.refl T83.heap) f_85 (j := d1) (own_c3 hd1) (v := (.int (own_at4 y0 y1 y2 y3 d1))) (own_getD4 (own_c3 hd1)) (g := (mkF m 210 #[.val (.int p0), .val (.int p1), .val (.int p2), .val (.int p3), .val (.int p4), .val (.int p5), .val (.int (2 : Int32)), .val (.int gg), .val (.ref b46), .val (.int d0), .val (.int d1), .val (.int d2), .val (.ref b63), .val (.ref b76), .val (.long ((own_at4 y0 y1 y2 y3 d0).toInt64)), .second, .unset, .unset, .unset, .unset, .unset, .unset, .unset, .unset, .unset] [(.int d1), (.ref b46)])) rfl rfl (hb hby at_210) _ k) ?_
    show own_Go X83 (Q0 Z p0 p1 p2 p3 p4 p5 h0 n0) 3 11 211 #[.val (.int p0), .val (.int p1), .val (.int p2), .val (.int p3), .val (.int p4), .val (.int p5), .val (.int (2 : Int32)), .val (.int gg), .val (.ref b46), .val (.int d0), .val (.int d1), .val (.int d2), .val (.ref b63), .val (.ref b76), .val (.long ((own_at4 y0 y1 y2 y3 d0).toInt64)), .second, .unset, .unset, .unset, .unset, .unset, .unset, .unset, .unset, .unset] [(.int (own_at4 y0 y1 y2 y3 d1))]
    refine own_st (fun _ k => XS.i2l X83.here hx rfl (hb hby at_211) rfl k) ?_
    show own_Go X83 (Q0 Z p0 p1 p2 p3 p4 p5 h0 n0) 3 11 212 #[.val (.int p0), .val (.int p1), .val (.int p2), .val (.int p3), .val (.int p4), .val (.int p5), .val (.int (2 : Int32)), .val (.int gg), .val (.ref b46), .val (.int d0), .val (.int d1), .val (.int d2), .val (.ref b63), .val (.ref b76), .val (.long ((own_at4 y0 y1 y2 y3 d0).toInt64)), .second, .unset, .unset, .unset, .unset, .unset, .unset, .unset, .unset, .unset] [(.long ((own_at4 y0 y1 y2 y3 d1).toInt64))]
    refine own_st (fun _ k => XS.lstore X83.here hx rfl (hb hby at_212) rfl (l' := #[.val (.int p0), .val (.int p1), .val (.int p2), .val (.int p3), .val (.int p4), .val (.int p5), .val (.int (2 : Int32)), .val (.int gg), .val (.ref b46), .val (.int d0), .val (.int d1), .val (.int d2), .val (.ref b63), .val (.ref b76), .val (.long ((own_at4 y0 y1 y2 y3 d0).toInt64)), .second, .val (.long ((own_at4 y0 y1 y2 y3 d1).toInt64)), .second, .unset, .unset, .unset, .unset, .unset, .unset, .unset]) rfl k) ?_
    show own_Go X83 (Q0 Z p0 p1 p2 p3 p4 p5 h0 n0) 3 11 214 #[.val (.int p0), .val (.int p1), .val (.int p2), .val (.int p3), .val (.int p4), .val (.int p5), .val (.int (2 : Int32)), .val (.int gg), .val (.ref b46), .val (.int d0), .val (.int d1), .val (.int d2), .val (.ref b63), .val (.ref b76), .val (.long ((own_at4 y0 y1 y2 y3 d0).toInt64)), .second, .val (.long ((own_at4 y0 y1 y2 y3 d1).toInt64)), .second, .unset, .unset, .unset, .unset, .unset, .unset, .unset] []
    refine own_st (fun _ k => XS.aload X83.here hx rfl (hb hby at_214) rfl rfl k) ?_
    show own_Go X83 (Q0 Z p0 p1 p2 p3 p4 p5 h0 n0) 3 11 216 #[.val (.int p0), .val (.int p1), .val (.int p2), .val (.int p3), .val (.int p4), .val (.int p5), .val (.int (2 : Int32)), .val (.int gg), .val (.ref b46), .val (.int d0), .val (.int d1), .val (.int d2), .val (.ref b63), .val (.ref b76), .val (.long ((own_at4 y0 y1 y2 y3 d0).toInt64)), .second, .val (.long ((own_at4 y0 y1 y2 y3 d1).toInt64)), .second, .unset, .unset, .unset, .unset, .unset, .unset, .unset] [(.ref b46)]
    refine own_st (fun _ k => XS.iload X83.here hx rfl (hb hby at_216) rfl k) ?_
    show own_Go X83 (Q0 Z p0 p1 p2 p3 p4 p5 h0 n0) 3 11 218 #[.val (.int p0), .val (.int p1), .val (.int p2), .val (.int p3), .val (.int p4), .val (.int p5), .val (.int (2 : Int32)), .val (.int gg), .val (.ref b46), .val (.int d0), .val (.int d1), .val (.int d2), .val (.ref b63), .val (.ref b76), .val (.long ((own_at4 y0 y1 y2 y3 d0).toInt64)), .second, .val (.long ((own_at4 y0 y1 y2 y3 d1).toInt64)), .second, .unset, .unset, .unset, .unset, .unset, .unset, .unset] [(.int d2), (.ref b46)]
    refine own_st (fun _ k => own_ldI X83 hx hZ (Eq.refl T83.heap) f_85 (j := d2) (own_c3 hd2) (v := (.int (own_at4 y0 y1 y2 y3 d2))) (own_getD4 (own_c3 hd2)) (g := (mkF m 218 #[.val (.int p0), .val (.int p1), .val (.int p2), .val (.int p3), .val (.int p4), .val (.int p5), .val (.int (2 : Int32)), .val (.int gg), .val (.ref b46), .val (.int d0), .val (.int d1), .val (.int d2), .val (.ref b63), .val (.ref b76), .val (.long ((own_at4 y0 y1 y2 y3 d0).toInt64)), .second, .val (.long ((own_at4 y0 y1 y2 y3 d1).toInt64)), .second, .unset, .unset, .unset, .unset, .unset, .unset, .unset] [(.int d2), (.ref b46)])) rfl rfl (hb hby at_218) _ k) ?_
    show own_Go X83 (Q0 Z p0 p1 p2 p3 p4 p5 h0 n0) 3 11 219 #[.val (.int p0), .val (.int p1), .val (.int p2), .val (.int p3), .val (.int p4), .val (.int p5), .val (.int (2 : Int32)), .val (.int gg), .val (.ref b46), .val (.int d0), .val (.int d1), .val (.int d2), .val (.ref b63), .val (.ref b76), .val (.long ((own_at4 y0 y1 y2 y3 d0).toInt64)), .second, .val (.long ((own_at4 y0 y1 y2 y3 d1).toInt64)), .second, .unset, .unset, .unset, .unset, .unset, .unset, .unset] [(.int (own_at4 y0 y1 y2 y3 d2))]
    refine own_st (fun _ k => XS.i2l X83.here hx rfl (hb hby at_219) rfl k) ?_
    show own_Go X83 (Q0 Z p0 p1 p2 p3 p4 p5 h0 n0) 3 11 220 #[.val (.int p0), .val (.int p1), .val (.int p2), .val (.int p3), .val (.int p4), .val (.int p5), .val (.int (2 : Int32)), .val (.int gg), .val (.ref b46), .val (.int d0), .val (.int d1), .val (.int d2), .val (.ref b63), .val (.ref b76), .val (.long ((own_at4 y0 y1 y2 y3 d0).toInt64)), .second, .val (.long ((own_at4 y0 y1 y2 y3 d1).toInt64)), .second, .unset, .unset, .unset, .unset, .unset, .unset, .unset] [(.long ((own_at4 y0 y1 y2 y3 d2).toInt64))]
    refine own_st (fun _ k => XS.lstore X83.here hx rfl (hb hby at_220) rfl (l' := #[.val (.int p0), .val (.int p1), .val (.int p2), .val (.int p3), .val (.int p4), .val (.int p5), .val (.int (2 : Int32)), .val (.int gg), .val (.ref b46), .val (.int d0), .val (.int d1), .val (.int d2), .val (.ref b63), .val (.ref b76), .val (.long ((own_at4 y0 y1 y2 y3 d0).toInt64)), .second, .val (.long ((own_at4 y0 y1 y2 y3 d1).toInt64)), .second, .val (.long ((own_at4 y0 y1 y2 y3 d2).toInt64)), .second, .unset, .unset, .unset, .unset, .unset]) rfl k) ?_
    show own_Go X83 (Q0 Z p0 p1 p2 p3 p4 p5 h0 n0) 3 11 222 #[.val (.int p0), .val (.int p1), .val (.int p2), .val (.int p3), .val (.int p4), .val (.int p5), .val (.int (2 : Int32)), .val (.int gg), .val (.ref b46), .val (.int d0), .val (.int d1), .val (.int d2), .val (.ref b63), .val (.ref b76), .val (.long ((own_at4 y0 y1 y2 y3 d0).toInt64)), .second, .val (.long ((own_at4 y0 y1 y2 y3 d1).toInt64)), .second, .val (.long ((own_at4 y0 y1 y2 y3 d2).toInt64)), .second, .unset, .unset, .unset, .unset, .unset] []
    refine own_st (fun _ k => XS.iload X83.here hx rfl (hb hby at_222) rfl k) ?_
    show own_Go X83 (Q0 Z p0 p1 p2 p3 p4 p5 h0 n0) 3 11 224 #[.val (.int p0), .val (.int p1), .val (.int p2), .val (.int p3), .val (.int p4), .val (.int p5), .val (.int (2 : Int32)), .val (.int gg), .val (.ref b46), .val (.int d0), .val (.int d1), .val (.int d2), .val (.ref b63), .val (.ref b76), .val (.long ((own_at4 y0 y1 y2 y3 d0).toInt64)), .second, .val (.long ((own_at4 y0 y1 y2 y3 d1).toInt64)), .second, .val (.long ((own_at4 y0 y1 y2 y3 d2).toInt64)), .second, .unset, .unset, .unset, .unset, .unset] [(.int gg)]
    refine own_st (fun _ k => XS.i2l X83.here hx rfl (hb hby at_224) rfl k) ?_
    show own_Go X83 (Q0 Z p0 p1 p2 p3 p4 p5 h0 n0) 3 11 225 #[.val (.int p0), .val (.int p1), .val (.int p2), .val (.int p3), .val (.int p4), .val (.int p5), .val (.int (2 : Int32)), .val (.int gg), .val (.ref b46), .val (.int d0), .val (.int d1), .val (.int d2), .val (.ref b63), .val (.ref b76), .val (.long ((own_at4 y0 y1 y2 y3 d0).toInt64)), .second, .val (.long ((own_at4 y0 y1 y2 y3 d1).toInt64)), .second, .val (.long ((own_at4 y0 y1 y2 y3 d2).toInt64)), .second, .unset, .unset, .unset, .unset, .unset] [(.long (gg.toInt64))]
    refine own_st (fun _ k => XS.lstore X83.here hx rfl (hb hby at_225) rfl (l' := #[.val (.int p0), .val (.int p1), .val (.int p2), .val (.int p3), .val (.int p4), .val (.int p5), .val (.int (2 : Int32)), .val (.int gg), .val (.ref b46), .val (.int d0), .val (.int d1), .val (.int d2), .val (.ref b63), .val (.ref b76), .val (.long ((own_at4 y0 y1 y2 y3 d0).toInt64)), .second, .val (.long ((own_at4 y0 y1 y2 y3 d1).toInt64)), .second, .val (.long ((own_at4 y0 y1 y2 y3 d2).toInt64)), .second, .val (.long (gg.toInt64)), .second, .unset, .unset, .unset]) rfl k) ?_
    show own_Go X83 (Q0 Z p0 p1 p2 p3 p4 p5 h0 n0) 3 11 227 #[.val (.int p0), .val (.int p1), .val (.int p2), .val (.int p3), .val (.int p4), .val (.int p5), .val (.int (2 : Int32)), .val (.int gg), .val (.ref b46), .val (.int d0), .val (.int d1), .val (.int d2), .val (.ref b63), .val (.ref b76), .val (.long ((own_at4 y0 y1 y2 y3 d0).toInt64)), .second, .val (.long ((own_at4 y0 y1 y2 y3 d1).toInt64)), .second, .val (.long ((own_at4 y0 y1 y2 y3 d2).toInt64)), .second, .val (.long (gg.toInt64)), .second, .unset, .unset, .unset] []
    refine own_st (fun _ k => XS.iload X83.here hx rfl (hb hby at_227) rfl k) ?_
    show own_Go X83 (Q0 Z p0 p1 p2 p3 p4 p5 h0 n0) 3 11 229 #[.val (.int p0), .val (.int p1), .val (.int p2), .val (.int p3), .val (.int p4), .val (.int p5), .val (.int (2 : Int32)), .val (.int gg), .val (.ref b46), .val (.int d0), .val (.int d1), .val (.int d2), .val (.ref b63), .val (.ref b76), .val (.long ((own_at4 y0 y1 y2 y3 d0).toInt64)), .second, .val (.long ((own_at4 y0 y1 y2 y3 d1).toInt64)), .second, .val (.long ((own_at4 y0 y1 y2 y3 d2).toInt64)), .second, .val (.long (gg.toInt64)), .second, .unset, .unset, .unset] [(.int (2 : Int32))]
    refine own_st (fun _ k => XS.iconst X83.here hx rfl (hb hby at_229) k) ?_
    show own_Go X83 (Q0 Z p0 p1 p2 p3 p4 p5 h0 n0) 3 11 230 #[.val (.int p0), .val (.int p1), .val (.int p2), .val (.int p3), .val (.int p4), .val (.int p5), .val (.int (2 : Int32)), .val (.int gg), .val (.ref b46), .val (.int d0), .val (.int d1), .val (.int d2), .val (.ref b63), .val (.ref b76), .val (.long ((own_at4 y0 y1 y2 y3 d0).toInt64)), .second, .val (.long ((own_at4 y0 y1 y2 y3 d1).toInt64)), .second, .val (.long ((own_at4 y0 y1 y2 y3 d2).toInt64)), .second, .val (.long (gg.toInt64)), .second, .unset, .unset, .unset] [(.int (1 : Int32)), (.int (2 : Int32))]
    have c230_89 : ¬ ((2 : Int32) = (1 : Int32)) := (by decide)
    refine own_st (fun _ k => XS.icmpYes X83.here hx rfl (pc0 := 230) (pc' := 240) rfl (hb hby at_230) rfl (feq c230_89).2 (by decide) (by decide) k) ?_
    show own_Go X83 (Q0 Z p0 p1 p2 p3 p4 p5 h0 n0) 3 11 240 #[.val (.int p0), .val (.int p1), .val (.int p2), .val (.int p3), .val (.int p4), .val (.int p5), .val (.int (2 : Int32)), .val (.int gg), .val (.ref b46), .val (.int d0), .val (.int d1), .val (.int d2), .val (.ref b63), .val (.ref b76), .val (.long ((own_at4 y0 y1 y2 y3 d0).toInt64)), .second, .val (.long ((own_at4 y0 y1 y2 y3 d1).toInt64)), .second, .val (.long ((own_at4 y0 y1 y2 y3 d2).toInt64)), .second, .val (.long (gg.toInt64)), .second, .unset, .unset, .unset] []
    refine own_st (fun _ k => XS.iload X83.here hx rfl (hb hby at_240) rfl k) ?_
    show own_Go X83 (Q0 Z p0 p1 p2 p3 p4 p5 h0 n0) 3 11 242 #[.val (.int p0), .val (.int p1), .val (.int p2), .val (.int p3), .val (.int p4), .val (.int p5), .val (.int (2 : Int32)), .val (.int gg), .val (.ref b46), .val (.int d0), .val (.int d1), .val (.int d2), .val (.ref b63), .val (.ref b76), .val (.long ((own_at4 y0 y1 y2 y3 d0).toInt64)), .second, .val (.long ((own_at4 y0 y1 y2 y3 d1).toInt64)), .second, .val (.long ((own_at4 y0 y1 y2 y3 d2).toInt64)), .second, .val (.long (gg.toInt64)), .second, .unset, .unset, .unset] [(.int (2 : Int32))]
    refine own_st (fun _ k => XS.iconst X83.here hx rfl (hb hby at_242) k) ?_
    show own_Go X83 (Q0 Z p0 p1 p2 p3 p4 p5 h0 n0) 3 11 243 #[.val (.int p0), .val (.int p1), .val (.int p2), .val (.int p3), .val (.int p4), .val (.int p5), .val (.int (2 : Int32)), .val (.int gg), .val (.ref b46), .val (.int d0), .val (.int d1), .val (.int d2), .val (.ref b63), .val (.ref b76), .val (.long ((own_at4 y0 y1 y2 y3 d0).toInt64)), .second, .val (.long ((own_at4 y0 y1 y2 y3 d1).toInt64)), .second, .val (.long ((own_at4 y0 y1 y2 y3 d2).toInt64)), .second, .val (.long (gg.toInt64)), .second, .unset, .unset, .unset] [(.int (2 : Int32)), (.int (2 : Int32))]
    have c243_90 : (2 : Int32) = (2 : Int32) := (by decide)
    refine own_st (fun _ k => XS.icmpNo X83.here hx rfl (hb hby at_243) rfl (teq c243_90).2 k) ?_
    show own_Go X83 (Q0 Z p0 p1 p2 p3 p4 p5 h0 n0) 3 11 246 #[.val (.int p0), .val (.int p1), .val (.int p2), .val (.int p3), .val (.int p4), .val (.int p5), .val (.int (2 : Int32)), .val (.int gg), .val (.ref b46), .val (.int d0), .val (.int d1), .val (.int d2), .val (.ref b63), .val (.ref b76), .val (.long ((own_at4 y0 y1 y2 y3 d0).toInt64)), .second, .val (.long ((own_at4 y0 y1 y2 y3 d1).toInt64)), .second, .val (.long ((own_at4 y0 y1 y2 y3 d2).toInt64)), .second, .val (.long (gg.toInt64)), .second, .unset, .unset, .unset] []
    refine own_st (fun _ k => XS.lload X83.here hx rfl (hb hby at_246) rfl k) ?_
    show own_Go X83 (Q0 Z p0 p1 p2 p3 p4 p5 h0 n0) 3 11 248 #[.val (.int p0), .val (.int p1), .val (.int p2), .val (.int p3), .val (.int p4), .val (.int p5), .val (.int (2 : Int32)), .val (.int gg), .val (.ref b46), .val (.int d0), .val (.int d1), .val (.int d2), .val (.ref b63), .val (.ref b76), .val (.long ((own_at4 y0 y1 y2 y3 d0).toInt64)), .second, .val (.long ((own_at4 y0 y1 y2 y3 d1).toInt64)), .second, .val (.long ((own_at4 y0 y1 y2 y3 d2).toInt64)), .second, .val (.long (gg.toInt64)), .second, .unset, .unset, .unset] [(.long ((own_at4 y0 y1 y2 y3 d0).toInt64))]
    refine own_st (fun _ k => XS.lload X83.here hx rfl (hb hby at_248) rfl k) ?_
    show own_Go X83 (Q0 Z p0 p1 p2 p3 p4 p5 h0 n0) 3 11 250 #[.val (.int p0), .val (.int p1), .val (.int p2), .val (.int p3), .val (.int p4), .val (.int p5), .val (.int (2 : Int32)), .val (.int gg), .val (.ref b46), .val (.int d0), .val (.int d1), .val (.int d2), .val (.ref b63), .val (.ref b76), .val (.long ((own_at4 y0 y1 y2 y3 d0).toInt64)), .second, .val (.long ((own_at4 y0 y1 y2 y3 d1).toInt64)), .second, .val (.long ((own_at4 y0 y1 y2 y3 d2).toInt64)), .second, .val (.long (gg.toInt64)), .second, .unset, .unset, .unset] [(.long (gg.toInt64)), (.long ((own_at4 y0 y1 y2 y3 d0).toInt64))]
    refine own_st (fun _ k => XS.lmul X83.here hx rfl (hb hby at_250) rfl k) ?_
    show own_Go X83 (Q0 Z p0 p1 p2 p3 p4 p5 h0 n0) 3 11 251 #[.val (.int p0), .val (.int p1), .val (.int p2), .val (.int p3), .val (.int p4), .val (.int p5), .val (.int (2 : Int32)), .val (.int gg), .val (.ref b46), .val (.int d0), .val (.int d1), .val (.int d2), .val (.ref b63), .val (.ref b76), .val (.long ((own_at4 y0 y1 y2 y3 d0).toInt64)), .second, .val (.long ((own_at4 y0 y1 y2 y3 d1).toInt64)), .second, .val (.long ((own_at4 y0 y1 y2 y3 d2).toInt64)), .second, .val (.long (gg.toInt64)), .second, .unset, .unset, .unset] [(.long (((own_at4 y0 y1 y2 y3 d0).toInt64) * (gg.toInt64)))]
    refine own_st (fun _ k => XS.lload X83.here hx rfl (hb hby at_251) rfl k) ?_
    show own_Go X83 (Q0 Z p0 p1 p2 p3 p4 p5 h0 n0) 3 11 253 #[.val (.int p0), .val (.int p1), .val (.int p2), .val (.int p3), .val (.int p4), .val (.int p5), .val (.int (2 : Int32)), .val (.int gg), .val (.ref b46), .val (.int d0), .val (.int d1), .val (.int d2), .val (.ref b63), .val (.ref b76), .val (.long ((own_at4 y0 y1 y2 y3 d0).toInt64)), .second, .val (.long ((own_at4 y0 y1 y2 y3 d1).toInt64)), .second, .val (.long ((own_at4 y0 y1 y2 y3 d2).toInt64)), .second, .val (.long (gg.toInt64)), .second, .unset, .unset, .unset] [(.long ((own_at4 y0 y1 y2 y3 d1).toInt64)), (.long (((own_at4 y0 y1 y2 y3 d0).toInt64) * (gg.toInt64)))]
    refine own_st (fun _ k => XS.ladd X83.here hx rfl (hb hby at_253) rfl k) ?_
    show own_Go X83 (Q0 Z p0 p1 p2 p3 p4 p5 h0 n0) 3 11 254 #[.val (.int p0), .val (.int p1), .val (.int p2), .val (.int p3), .val (.int p4), .val (.int p5), .val (.int (2 : Int32)), .val (.int gg), .val (.ref b46), .val (.int d0), .val (.int d1), .val (.int d2), .val (.ref b63), .val (.ref b76), .val (.long ((own_at4 y0 y1 y2 y3 d0).toInt64)), .second, .val (.long ((own_at4 y0 y1 y2 y3 d1).toInt64)), .second, .val (.long ((own_at4 y0 y1 y2 y3 d2).toInt64)), .second, .val (.long (gg.toInt64)), .second, .unset, .unset, .unset] [(.long ((((own_at4 y0 y1 y2 y3 d0).toInt64) * (gg.toInt64)) + ((own_at4 y0 y1 y2 y3 d1).toInt64)))]
    refine own_st (fun _ k => XS.lstore X83.here hx rfl (hb hby at_254) rfl (l' := #[.val (.int p0), .val (.int p1), .val (.int p2), .val (.int p3), .val (.int p4), .val (.int p5), .val (.int (2 : Int32)), .val (.int gg), .val (.ref b46), .val (.int d0), .val (.int d1), .val (.int d2), .val (.ref b63), .val (.ref b76), .val (.long ((own_at4 y0 y1 y2 y3 d0).toInt64)), .second, .val (.long ((own_at4 y0 y1 y2 y3 d1).toInt64)), .second, .val (.long ((own_at4 y0 y1 y2 y3 d2).toInt64)), .second, .val (.long (gg.toInt64)), .second, .val (.long ((((own_at4 y0 y1 y2 y3 d0).toInt64) * (gg.toInt64)) + ((own_at4 y0 y1 y2 y3 d1).toInt64))), .second, .unset]) rfl k) ?_
    show own_Go X83 (Q0 Z p0 p1 p2 p3 p4 p5 h0 n0) 3 11 256 #[.val (.int p0), .val (.int p1), .val (.int p2), .val (.int p3), .val (.int p4), .val (.int p5), .val (.int (2 : Int32)), .val (.int gg), .val (.ref b46), .val (.int d0), .val (.int d1), .val (.int d2), .val (.ref b63), .val (.ref b76), .val (.long ((own_at4 y0 y1 y2 y3 d0).toInt64)), .second, .val (.long ((own_at4 y0 y1 y2 y3 d1).toInt64)), .second, .val (.long ((own_at4 y0 y1 y2 y3 d2).toInt64)), .second, .val (.long (gg.toInt64)), .second, .val (.long ((((own_at4 y0 y1 y2 y3 d0).toInt64) * (gg.toInt64)) + ((own_at4 y0 y1 y2 y3 d1).toInt64))), .second, .unset] []
    refine own_st (fun _ k => XS.goto X83.here hx rfl (pc0 := 256) (pc' := 278) rfl (hb hby at_256) (by decide) (by decide) k) ?_
    show own_Go X83 (Q0 Z p0 p1 p2 p3 p4 p5 h0 n0) 3 11 278 #[.val (.int p0), .val (.int p1), .val (.int p2), .val (.int p3), .val (.int p4), .val (.int p5), .val (.int (2 : Int32)), .val (.int gg), .val (.ref b46), .val (.int d0), .val (.int d1), .val (.int d2), .val (.ref b63), .val (.ref b76), .val (.long ((own_at4 y0 y1 y2 y3 d0).toInt64)), .second, .val (.long ((own_at4 y0 y1 y2 y3 d1).toInt64)), .second, .val (.long ((own_at4 y0 y1 y2 y3 d2).toInt64)), .second, .val (.long (gg.toInt64)), .second, .val (.long ((((own_at4 y0 y1 y2 y3 d0).toInt64) * (gg.toInt64)) + ((own_at4 y0 y1 y2 y3 d1).toInt64))), .second, .unset] []
    refine own_st (fun _ k => XS.aload X83.here hx rfl (hb hby at_278) rfl rfl k) ?_
    show own_Go X83 (Q0 Z p0 p1 p2 p3 p4 p5 h0 n0) 3 11 280 #[.val (.int p0), .val (.int p1), .val (.int p2), .val (.int p3), .val (.int p4), .val (.int p5), .val (.int (2 : Int32)), .val (.int gg), .val (.ref b46), .val (.int d0), .val (.int d1), .val (.int d2), .val (.ref b63), .val (.ref b76), .val (.long ((own_at4 y0 y1 y2 y3 d0).toInt64)), .second, .val (.long ((own_at4 y0 y1 y2 y3 d1).toInt64)), .second, .val (.long ((own_at4 y0 y1 y2 y3 d2).toInt64)), .second, .val (.long (gg.toInt64)), .second, .val (.long ((((own_at4 y0 y1 y2 y3 d0).toInt64) * (gg.toInt64)) + ((own_at4 y0 y1 y2 y3 d1).toInt64))), .second, .unset] [(.ref b76)]
    refine own_st (fun _ k => XS.aload X83.here hx rfl (hb hby at_280) rfl rfl k) ?_
    show own_Go X83 (Q0 Z p0 p1 p2 p3 p4 p5 h0 n0) 3 11 282 #[.val (.int p0), .val (.int p1), .val (.int p2), .val (.int p3), .val (.int p4), .val (.int p5), .val (.int (2 : Int32)), .val (.int gg), .val (.ref b46), .val (.int d0), .val (.int d1), .val (.int d2), .val (.ref b63), .val (.ref b76), .val (.long ((own_at4 y0 y1 y2 y3 d0).toInt64)), .second, .val (.long ((own_at4 y0 y1 y2 y3 d1).toInt64)), .second, .val (.long ((own_at4 y0 y1 y2 y3 d2).toInt64)), .second, .val (.long (gg.toInt64)), .second, .val (.long ((((own_at4 y0 y1 y2 y3 d0).toInt64) * (gg.toInt64)) + ((own_at4 y0 y1 y2 y3 d1).toInt64))), .second, .unset] [(.ref b46), (.ref b76)]
    refine own_st (fun _ k => XS.aload X83.here hx rfl (hb hby at_282) rfl rfl k) ?_
    show own_Go X83 (Q0 Z p0 p1 p2 p3 p4 p5 h0 n0) 3 11 284 #[.val (.int p0), .val (.int p1), .val (.int p2), .val (.int p3), .val (.int p4), .val (.int p5), .val (.int (2 : Int32)), .val (.int gg), .val (.ref b46), .val (.int d0), .val (.int d1), .val (.int d2), .val (.ref b63), .val (.ref b76), .val (.long ((own_at4 y0 y1 y2 y3 d0).toInt64)), .second, .val (.long ((own_at4 y0 y1 y2 y3 d1).toInt64)), .second, .val (.long ((own_at4 y0 y1 y2 y3 d2).toInt64)), .second, .val (.long (gg.toInt64)), .second, .val (.long ((((own_at4 y0 y1 y2 y3 d0).toInt64) * (gg.toInt64)) + ((own_at4 y0 y1 y2 y3 d1).toInt64))), .second, .unset] [(.ref b63), (.ref b46), (.ref b76)]
    refine own_callV (W := 0) X83 hx hZ hown (hw _ (List.mem_of_getElem? (i := 29) rfl)) (hw _ (List.mem_of_getElem? (i := 30) rfl)) (hw _ (List.mem_of_getElem? (i := 32) rfl)) (hw _ (List.mem_of_getElem? (i := 31) rfl)) (hw _ (List.mem_of_getElem? (i := 5) rfl)) (hw _ (List.mem_of_getElem? (i := 33) rfl)) (by decide) (rm52 l Z a0 hw [] b76 b46 b63 gg k46 k63 y0 y1 y2 y3 d0 d1 T83.heap n0 Z_88 F83_levels f_85 f_86 (own_c3 hd0) (own_c3 hd1)) (by decide) (by decide) (by rw [hml]; rfl) b76 [(.ref b46), (.ref b63)] [] (lenOf pd_0_1 rfl) rfl rfl (Nat.le_of_ble_eq_true rfl) (hb hby at_284) (Eq.refl T83.heap) f_87 (by decide) (by decide) ?_
    rintro _ T91 L91 X91 ⟨rfl, N91q, e91⟩
    have N_92 := Fr.app N_84 N91q
    show own_Go X91 (Q0 Z p0 p1 p2 p3 p4 p5 h0 n0) 3 11 287 #[.val (.int p0), .val (.int p1), .val (.int p2), .val (.int p3), .val (.int p4), .val (.int p5), .val (.int (2 : Int32)), .val (.int gg), .val (.ref b46), .val (.int d0), .val (.int d1), .val (.int d2), .val (.ref b63), .val (.ref b76), .val (.long ((own_at4 y0 y1 y2 y3 d0).toInt64)), .second, .val (.long ((own_at4 y0 y1 y2 y3 d1).toInt64)), .second, .val (.long ((own_at4 y0 y1 y2 y3 d2).toInt64)), .second, .val (.long (gg.toInt64)), .second, .val (.long ((((own_at4 y0 y1 y2 y3 d0).toInt64) * (gg.toInt64)) + ((own_at4 y0 y1 y2 y3 d1).toInt64))), .second, .unset] [(.int (own_tup2 gg (own_at4 y0 y1 y2 y3 d0) (own_at4 y0 y1 y2 y3 d1)))]
    refine own_st (fun _ k => XS.istore X91.here hx rfl (hb hby at_287) rfl (l' := #[.val (.int p0), .val (.int p1), .val (.int p2), .val (.int p3), .val (.int p4), .val (.int p5), .val (.int (2 : Int32)), .val (.int gg), .val (.ref b46), .val (.int d0), .val (.int d1), .val (.int d2), .val (.ref b63), .val (.ref b76), .val (.long ((own_at4 y0 y1 y2 y3 d0).toInt64)), .second, .val (.long ((own_at4 y0 y1 y2 y3 d1).toInt64)), .second, .val (.long ((own_at4 y0 y1 y2 y3 d2).toInt64)), .second, .val (.long (gg.toInt64)), .second, .val (.long ((((own_at4 y0 y1 y2 y3 d0).toInt64) * (gg.toInt64)) + ((own_at4 y0 y1 y2 y3 d1).toInt64))), .second, .val (.int (own_tup2 gg (own_at4 y0 y1 y2 y3 d0) (own_at4 y0 y1 y2 y3 d1)))]) rfl k) ?_
    show own_Go X91 (Q0 Z p0 p1 p2 p3 p4 p5 h0 n0) 3 11 289 #[.val (.int p0), .val (.int p1), .val (.int p2), .val (.int p3), .val (.int p4), .val (.int p5), .val (.int (2 : Int32)), .val (.int gg), .val (.ref b46), .val (.int d0), .val (.int d1), .val (.int d2), .val (.ref b63), .val (.ref b76), .val (.long ((own_at4 y0 y1 y2 y3 d0).toInt64)), .second, .val (.long ((own_at4 y0 y1 y2 y3 d1).toInt64)), .second, .val (.long ((own_at4 y0 y1 y2 y3 d2).toInt64)), .second, .val (.long (gg.toInt64)), .second, .val (.long ((((own_at4 y0 y1 y2 y3 d0).toInt64) * (gg.toInt64)) + ((own_at4 y0 y1 y2 y3 d1).toInt64))), .second, .val (.int (own_tup2 gg (own_at4 y0 y1 y2 y3 d0) (own_at4 y0 y1 y2 y3 d1)))] []
    refine own_st (fun _ k => XS.iload X91.here hx rfl (hb hby at_289) rfl k) ?_
    show own_Go X91 (Q0 Z p0 p1 p2 p3 p4 p5 h0 n0) 3 11 291 #[.val (.int p0), .val (.int p1), .val (.int p2), .val (.int p3), .val (.int p4), .val (.int p5), .val (.int (2 : Int32)), .val (.int gg), .val (.ref b46), .val (.int d0), .val (.int d1), .val (.int d2), .val (.ref b63), .val (.ref b76), .val (.long ((own_at4 y0 y1 y2 y3 d0).toInt64)), .second, .val (.long ((own_at4 y0 y1 y2 y3 d1).toInt64)), .second, .val (.long ((own_at4 y0 y1 y2 y3 d2).toInt64)), .second, .val (.long (gg.toInt64)), .second, .val (.long ((((own_at4 y0 y1 y2 y3 d0).toInt64) * (gg.toInt64)) + ((own_at4 y0 y1 y2 y3 d1).toInt64))), .second, .val (.int (own_tup2 gg (own_at4 y0 y1 y2 y3 d0) (own_at4 y0 y1 y2 y3 d1)))] [(.int (own_tup2 gg (own_at4 y0 y1 y2 y3 d0) (own_at4 y0 y1 y2 y3 d1)))]
    refine own_st (fun _ k => XS.i2l X91.here hx rfl (hb hby at_291) rfl k) ?_
    show own_Go X91 (Q0 Z p0 p1 p2 p3 p4 p5 h0 n0) 3 11 292 #[.val (.int p0), .val (.int p1), .val (.int p2), .val (.int p3), .val (.int p4), .val (.int p5), .val (.int (2 : Int32)), .val (.int gg), .val (.ref b46), .val (.int d0), .val (.int d1), .val (.int d2), .val (.ref b63), .val (.ref b76), .val (.long ((own_at4 y0 y1 y2 y3 d0).toInt64)), .second, .val (.long ((own_at4 y0 y1 y2 y3 d1).toInt64)), .second, .val (.long ((own_at4 y0 y1 y2 y3 d2).toInt64)), .second, .val (.long (gg.toInt64)), .second, .val (.long ((((own_at4 y0 y1 y2 y3 d0).toInt64) * (gg.toInt64)) + ((own_at4 y0 y1 y2 y3 d1).toInt64))), .second, .val (.int (own_tup2 gg (own_at4 y0 y1 y2 y3 d0) (own_at4 y0 y1 y2 y3 d1)))] [(.long ((own_tup2 gg (own_at4 y0 y1 y2 y3 d0) (own_at4 y0 y1 y2 y3 d1)).toInt64))]
    refine own_st (fun _ k => XS.lload X91.here hx rfl (hb hby at_292) rfl k) ?_
    show own_Go X91 (Q0 Z p0 p1 p2 p3 p4 p5 h0 n0) 3 11 294 #[.val (.int p0), .val (.int p1), .val (.int p2), .val (.int p3), .val (.int p4), .val (.int p5), .val (.int (2 : Int32)), .val (.int gg), .val (.ref b46), .val (.int d0), .val (.int d1), .val (.int d2), .val (.ref b63), .val (.ref b76), .val (.long ((own_at4 y0 y1 y2 y3 d0).toInt64)), .second, .val (.long ((own_at4 y0 y1 y2 y3 d1).toInt64)), .second, .val (.long ((own_at4 y0 y1 y2 y3 d2).toInt64)), .second, .val (.long (gg.toInt64)), .second, .val (.long ((((own_at4 y0 y1 y2 y3 d0).toInt64) * (gg.toInt64)) + ((own_at4 y0 y1 y2 y3 d1).toInt64))), .second, .val (.int (own_tup2 gg (own_at4 y0 y1 y2 y3 d0) (own_at4 y0 y1 y2 y3 d1)))] [(.long ((((own_at4 y0 y1 y2 y3 d0).toInt64) * (gg.toInt64)) + ((own_at4 y0 y1 y2 y3 d1).toInt64))), (.long ((own_tup2 gg (own_at4 y0 y1 y2 y3 d0) (own_at4 y0 y1 y2 y3 d1)).toInt64))]
    refine own_st (fun _ k => XS.lcmp X91.here hx rfl (hb hby at_294) rfl k) ?_
    show own_Go X91 (Q0 Z p0 p1 p2 p3 p4 p5 h0 n0) 3 11 295 #[.val (.int p0), .val (.int p1), .val (.int p2), .val (.int p3), .val (.int p4), .val (.int p5), .val (.int (2 : Int32)), .val (.int gg), .val (.ref b46), .val (.int d0), .val (.int d1), .val (.int d2), .val (.ref b63), .val (.ref b76), .val (.long ((own_at4 y0 y1 y2 y3 d0).toInt64)), .second, .val (.long ((own_at4 y0 y1 y2 y3 d1).toInt64)), .second, .val (.long ((own_at4 y0 y1 y2 y3 d2).toInt64)), .second, .val (.long (gg.toInt64)), .second, .val (.long ((((own_at4 y0 y1 y2 y3 d0).toInt64) * (gg.toInt64)) + ((own_at4 y0 y1 y2 y3 d1).toInt64))), .second, .val (.int (own_tup2 gg (own_at4 y0 y1 y2 y3 d0) (own_at4 y0 y1 y2 y3 d1)))] [(.int (lcmpW ((own_tup2 gg (own_at4 y0 y1 y2 y3 d0) (own_at4 y0 y1 y2 y3 d1)).toInt64) ((((own_at4 y0 y1 y2 y3 d0).toInt64) * (gg.toInt64)) + ((own_at4 y0 y1 y2 y3 d1).toInt64))))]
    have c295_93 : ((own_tup2 gg (own_at4 y0 y1 y2 y3 d0) (own_at4 y0 y1 y2 y3 d1)).toInt64) = ((((own_at4 y0 y1 y2 y3 d0).toInt64) * (gg.toInt64)) + ((own_at4 y0 y1 y2 y3 d1).toInt64)) := own_e2 hG (own_ab (P := fun y : Int32 => 0 ≤ y.toInt ∧ y.toInt < gg.toInt) hY.1 hY.2.1 hY.2.2.1 hY.2.2.2 d0) (own_ab (P := fun y : Int32 => 0 ≤ y.toInt ∧ y.toInt < gg.toInt) hY.1 hY.2.1 hY.2.2.1 hY.2.2.2 d1)
    refine own_st (fun _ k => XS.ifNo X91.here hx rfl (hb hby at_295) rfl ((if0 _ _).trans (teq ((lw_eq _ _).mpr c295_93)).2) k) ?_
    show own_Go X91 (Q0 Z p0 p1 p2 p3 p4 p5 h0 n0) 3 11 298 #[.val (.int p0), .val (.int p1), .val (.int p2), .val (.int p3), .val (.int p4), .val (.int p5), .val (.int (2 : Int32)), .val (.int gg), .val (.ref b46), .val (.int d0), .val (.int d1), .val (.int d2), .val (.ref b63), .val (.ref b76), .val (.long ((own_at4 y0 y1 y2 y3 d0).toInt64)), .second, .val (.long ((own_at4 y0 y1 y2 y3 d1).toInt64)), .second, .val (.long ((own_at4 y0 y1 y2 y3 d2).toInt64)), .second, .val (.long (gg.toInt64)), .second, .val (.long ((((own_at4 y0 y1 y2 y3 d0).toInt64) * (gg.toInt64)) + ((own_at4 y0 y1 y2 y3 d1).toInt64))), .second, .val (.int (own_tup2 gg (own_at4 y0 y1 y2 y3 d0) (own_at4 y0 y1 y2 y3 d1)))] []
    refine own_st (fun _ k => XS.iconst X91.here hx rfl (hb hby at_298) k) ?_
    show own_Go X91 (Q0 Z p0 p1 p2 p3 p4 p5 h0 n0) 3 11 299 #[.val (.int p0), .val (.int p1), .val (.int p2), .val (.int p3), .val (.int p4), .val (.int p5), .val (.int (2 : Int32)), .val (.int gg), .val (.ref b46), .val (.int d0), .val (.int d1), .val (.int d2), .val (.ref b63), .val (.ref b76), .val (.long ((own_at4 y0 y1 y2 y3 d0).toInt64)), .second, .val (.long ((own_at4 y0 y1 y2 y3 d1).toInt64)), .second, .val (.long ((own_at4 y0 y1 y2 y3 d2).toInt64)), .second, .val (.long (gg.toInt64)), .second, .val (.long ((((own_at4 y0 y1 y2 y3 d0).toInt64) * (gg.toInt64)) + ((own_at4 y0 y1 y2 y3 d1).toInt64))), .second, .val (.int (own_tup2 gg (own_at4 y0 y1 y2 y3 d0) (own_at4 y0 y1 y2 y3 d1)))] [(.int (1 : Int32))]
    refine own_st (fun _ k => XS.goto X91.here hx rfl (pc0 := 299) (pc' := 303) rfl (hb hby at_299) (by decide) (by decide) k) ?_
    show own_Go X91 (Q0 Z p0 p1 p2 p3 p4 p5 h0 n0) 3 11 303 #[.val (.int p0), .val (.int p1), .val (.int p2), .val (.int p3), .val (.int p4), .val (.int p5), .val (.int (2 : Int32)), .val (.int gg), .val (.ref b46), .val (.int d0), .val (.int d1), .val (.int d2), .val (.ref b63), .val (.ref b76), .val (.long ((own_at4 y0 y1 y2 y3 d0).toInt64)), .second, .val (.long ((own_at4 y0 y1 y2 y3 d1).toInt64)), .second, .val (.long ((own_at4 y0 y1 y2 y3 d2).toInt64)), .second, .val (.long (gg.toInt64)), .second, .val (.long ((((own_at4 y0 y1 y2 y3 d0).toInt64) * (gg.toInt64)) + ((own_at4 y0 y1 y2 y3 d1).toInt64))), .second, .val (.int (own_tup2 gg (own_at4 y0 y1 y2 y3 d0) (own_at4 y0 y1 y2 y3 d1)))] [(.int (1 : Int32))]
    refine own_retN X91 hx Bd.returns (by simp) hlk e91 (hb hby at_303) (by decide) (by decide) ?_
    exact ⟨rfl, N_92⟩
  · skip
    show own_Go X0 (Q0 Z p0 p1 p2 p3 p4 p5 h0 n0) 3 11 10 #[.val (.int p0), .val (.int p1), .val (.int p2), .val (.int p3), .val (.int p4), .val (.int p5), .val (.int (3 : Int32)), .unset, .unset, .unset, .unset, .unset, .unset, .unset, .unset, .unset, .unset, .unset, .unset, .unset, .unset, .unset, .unset, .unset, .unset] []
    refine own_st (fun _ k => XS.iload X0.here hx rfl (hb hby at_10) rfl k) ?_
    show own_Go X0 (Q0 Z p0 p1 p2 p3 p4 p5 h0 n0) 3 11 12 #[.val (.int p0), .val (.int p1), .val (.int p2), .val (.int p3), .val (.int p4), .val (.int p5), .val (.int (3 : Int32)), .unset, .unset, .unset, .unset, .unset, .unset, .unset, .unset, .unset, .unset, .unset, .unset, .unset, .unset, .unset, .unset, .unset, .unset] [(.int (3 : Int32))]
    refine own_st (fun _ k => XS.iconst X0.here hx rfl (hb hby at_12) k) ?_
    show own_Go X0 (Q0 Z p0 p1 p2 p3 p4 p5 h0 n0) 3 11 13 #[.val (.int p0), .val (.int p1), .val (.int p2), .val (.int p3), .val (.int p4), .val (.int p5), .val (.int (3 : Int32)), .unset, .unset, .unset, .unset, .unset, .unset, .unset, .unset, .unset, .unset, .unset, .unset, .unset, .unset, .unset, .unset, .unset, .unset] [(.int (1 : Int32)), (.int (3 : Int32))]
    have c13_94 : ¬ ((3 : Int32) = (1 : Int32)) := (by decide)
    refine own_st (fun _ k => XS.icmpYes X0.here hx rfl (pc0 := 13) (pc' := 27) rfl (hb hby at_13) rfl (feq c13_94).2 (by decide) (by decide) k) ?_
    show own_Go X0 (Q0 Z p0 p1 p2 p3 p4 p5 h0 n0) 3 11 27 #[.val (.int p0), .val (.int p1), .val (.int p2), .val (.int p3), .val (.int p4), .val (.int p5), .val (.int (3 : Int32)), .unset, .unset, .unset, .unset, .unset, .unset, .unset, .unset, .unset, .unset, .unset, .unset, .unset, .unset, .unset, .unset, .unset, .unset] []
    refine own_st (fun _ k => XS.iload X0.here hx rfl (hb hby at_27) rfl k) ?_
    show own_Go X0 (Q0 Z p0 p1 p2 p3 p4 p5 h0 n0) 3 11 29 #[.val (.int p0), .val (.int p1), .val (.int p2), .val (.int p3), .val (.int p4), .val (.int p5), .val (.int (3 : Int32)), .unset, .unset, .unset, .unset, .unset, .unset, .unset, .unset, .unset, .unset, .unset, .unset, .unset, .unset, .unset, .unset, .unset, .unset] [(.int (3 : Int32))]
    refine own_st (fun _ k => XS.iconst X0.here hx rfl (hb hby at_29) k) ?_
    show own_Go X0 (Q0 Z p0 p1 p2 p3 p4 p5 h0 n0) 3 11 30 #[.val (.int p0), .val (.int p1), .val (.int p2), .val (.int p3), .val (.int p4), .val (.int p5), .val (.int (3 : Int32)), .unset, .unset, .unset, .unset, .unset, .unset, .unset, .unset, .unset, .unset, .unset, .unset, .unset, .unset, .unset, .unset, .unset, .unset] [(.int (2 : Int32)), (.int (3 : Int32))]
    have c30_95 : ¬ ((3 : Int32) = (2 : Int32)) := (by decide)
    refine own_st (fun _ k => XS.icmpYes X0.here hx rfl (pc0 := 30) (pc' := 45) rfl (hb hby at_30) rfl (feq c30_95).2 (by decide) (by decide) k) ?_
    show own_Go X0 (Q0 Z p0 p1 p2 p3 p4 p5 h0 n0) 3 11 45 #[.val (.int p0), .val (.int p1), .val (.int p2), .val (.int p3), .val (.int p4), .val (.int p5), .val (.int (3 : Int32)), .unset, .unset, .unset, .unset, .unset, .unset, .unset, .unset, .unset, .unset, .unset, .unset, .unset, .unset, .unset, .unset, .unset, .unset] []
    refine own_st (fun _ k => XS.iconst X0.here hx rfl (hb hby at_45) k) ?_
    show own_Go X0 (Q0 Z p0 p1 p2 p3 p4 p5 h0 n0) 3 11 46 #[.val (.int p0), .val (.int p1), .val (.int p2), .val (.int p3), .val (.int p4), .val (.int p5), .val (.int (3 : Int32)), .unset, .unset, .unset, .unset, .unset, .unset, .unset, .unset, .unset, .unset, .unset, .unset, .unset, .unset, .unset, .unset, .unset, .unset] [(.int (2 : Int32))]
    refine own_st (fun _ k => XS.iloadN X0.here hx rfl (hb hby at_46) rfl k) ?_
    show own_Go X0 (Q0 Z p0 p1 p2 p3 p4 p5 h0 n0) 3 11 47 #[.val (.int p0), .val (.int p1), .val (.int p2), .val (.int p3), .val (.int p4), .val (.int p5), .val (.int (3 : Int32)), .unset, .unset, .unset, .unset, .unset, .unset, .unset, .unset, .unset, .unset, .unset, .unset, .unset, .unset, .unset, .unset, .unset, .unset] [(.int p1), (.int (2 : Int32))]
    refine own_st (fun _ k => XS.sipush X0.here hx rfl (hb hby at_47) k) ?_
    show own_Go X0 (Q0 Z p0 p1 p2 p3 p4 p5 h0 n0) 3 11 50 #[.val (.int p0), .val (.int p1), .val (.int p2), .val (.int p3), .val (.int p4), .val (.int p5), .val (.int (3 : Int32)), .unset, .unset, .unset, .unset, .unset, .unset, .unset, .unset, .unset, .unset, .unset, .unset, .unset, .unset, .unset, .unset, .unset, .unset] [(.int (1023 : Int32)), (.int p1), (.int (2 : Int32))]
    refine own_st (fun _ k => XS.iand X0.here hx rfl (hb hby at_50) rfl k) ?_
    show own_Go X0 (Q0 Z p0 p1 p2 p3 p4 p5 h0 n0) 3 11 51 #[.val (.int p0), .val (.int p1), .val (.int p2), .val (.int p3), .val (.int p4), .val (.int p5), .val (.int (3 : Int32)), .unset, .unset, .unset, .unset, .unset, .unset, .unset, .unset, .unset, .unset, .unset, .unset, .unset, .unset, .unset, .unset, .unset, .unset] [(.int (p1 &&& (1023 : Int32))), (.int (2 : Int32))]
    refine own_st (fun _ k => XS.iadd X0.here hx rfl (hb hby at_51) rfl k) ?_
    show own_Go X0 (Q0 Z p0 p1 p2 p3 p4 p5 h0 n0) 3 11 52 #[.val (.int p0), .val (.int p1), .val (.int p2), .val (.int p3), .val (.int p4), .val (.int p5), .val (.int (3 : Int32)), .unset, .unset, .unset, .unset, .unset, .unset, .unset, .unset, .unset, .unset, .unset, .unset, .unset, .unset, .unset, .unset, .unset, .unset] [(.int ((2 : Int32) + (p1 &&& (1023 : Int32))))]
    refine own_st (fun _ k => XS.istore X0.here hx rfl (hb hby at_52) rfl (l' := #[.val (.int p0), .val (.int p1), .val (.int p2), .val (.int p3), .val (.int p4), .val (.int p5), .val (.int (3 : Int32)), .val (.int ((2 : Int32) + (p1 &&& (1023 : Int32)))), .unset, .unset, .unset, .unset, .unset, .unset, .unset, .unset, .unset, .unset, .unset, .unset, .unset, .unset, .unset, .unset, .unset]) rfl k) ?_
    show own_Go X0 (Q0 Z p0 p1 p2 p3 p4 p5 h0 n0) 3 11 54 #[.val (.int p0), .val (.int p1), .val (.int p2), .val (.int p3), .val (.int p4), .val (.int p5), .val (.int (3 : Int32)), .val (.int ((2 : Int32) + (p1 &&& (1023 : Int32)))), .unset, .unset, .unset, .unset, .unset, .unset, .unset, .unset, .unset, .unset, .unset, .unset, .unset, .unset, .unset, .unset, .unset] []
    generalize hgg : ((2 : Int32) + (p1 &&& (1023 : Int32))) = gg
    show own_Go X0 (Q0 Z p0 p1 p2 p3 p4 p5 h0 n0) 3 11 54 #[.val (.int p0), .val (.int p1), .val (.int p2), .val (.int p3), .val (.int p4), .val (.int p5), .val (.int (3 : Int32)), .val (.int gg), .unset, .unset, .unset, .unset, .unset, .unset, .unset, .unset, .unset, .unset, .unset, .unset, .unset, .unset, .unset, .unset, .unset] []
    have hG : 2 ≤ gg.toInt ∧ gg.toInt ≤ 1025 := own_gb 10 (by decide) (by decide) hgg
    refine own_st (fun _ k => XS.iconst X0.here hx rfl (hb hby at_54) k) ?_
    show own_Go X0 (Q0 Z p0 p1 p2 p3 p4 p5 h0 n0) 3 11 55 #[.val (.int p0), .val (.int p1), .val (.int p2), .val (.int p3), .val (.int p4), .val (.int p5), .val (.int (3 : Int32)), .val (.int gg), .unset, .unset, .unset, .unset, .unset, .unset, .unset, .unset, .unset, .unset, .unset, .unset, .unset, .unset, .unset, .unset, .unset] [(.int (4 : Int32))]
    obtain ⟨T96, h96, k96, X96, e96, E96, A96, st96⟩ := newP X0 hx hZ (hw _ (List.mem_of_getElem? (i := 1) rfl)) e0 (g := (mkF m 55 #[.val (.int p0), .val (.int p1), .val (.int p2), .val (.int p3), .val (.int p4), .val (.int p5), .val (.int (3 : Int32)), .val (.int gg), .unset, .unset, .unset, .unset, .unset, .unset, .unset, .unset, .unset, .unset, .unset, .unset, .unset, .unset, .unset, .unset, .unset] [(.int (4 : Int32))])) rfl (hb hby at_55) rfl (by decide) (cap := 4) (by decide) (by decide) (by decide) (by decide)
    obtain ⟨b96, g96⟩ : ∃ z, z = h0.size := ⟨_, rfl⟩
    rw [← g96] at A96 st96
    refine own_st st96 ?_
    have G_97 := Nat.le_trans Z0 (Nat.le_of_eq g96.symm)
    have Z_98 := Nat.le_trans Z0 E96.1
    have V96 : Arv Z h96 b96 k96 .int (4 : Int32) [(.int (0 : Int32)), (.int (0 : Int32)), (.int (0 : Int32)), (.int (0 : Int32))] (.int (0 : Int32)) := (Arv.new A96 (by decide)).pad (pad_rep [] (.int (0 : Int32)) 4)
    show own_Go X96 (Q0 Z p0 p1 p2 p3 p4 p5 h0 n0) 3 11 57 #[.val (.int p0), .val (.int p1), .val (.int p2), .val (.int p3), .val (.int p4), .val (.int p5), .val (.int (3 : Int32)), .val (.int gg), .unset, .unset, .unset, .unset, .unset, .unset, .unset, .unset, .unset, .unset, .unset, .unset, .unset, .unset, .unset, .unset, .unset] [(.ref b96)]
    refine own_st (fun _ k => XS.dup X96.here hx rfl (hb hby at_57) rfl rfl k) ?_
    show own_Go X96 (Q0 Z p0 p1 p2 p3 p4 p5 h0 n0) 3 11 58 #[.val (.int p0), .val (.int p1), .val (.int p2), .val (.int p3), .val (.int p4), .val (.int p5), .val (.int (3 : Int32)), .val (.int gg), .unset, .unset, .unset, .unset, .unset, .unset, .unset, .unset, .unset, .unset, .unset, .unset, .unset, .unset, .unset, .unset, .unset] [(.ref b96), (.ref b96)]
    refine own_st (fun _ k => XS.iconst X96.here hx rfl (hb hby at_58) k) ?_
    show own_Go X96 (Q0 Z p0 p1 p2 p3 p4 p5 h0 n0) 3 11 59 #[.val (.int p0), .val (.int p1), .val (.int p2), .val (.int p3), .val (.int p4), .val (.int p5), .val (.int (3 : Int32)), .val (.int gg), .unset, .unset, .unset, .unset, .unset, .unset, .unset, .unset, .unset, .unset, .unset, .unset, .unset, .unset, .unset, .unset, .unset] [(.int (0 : Int32)), (.ref b96), (.ref b96)]
    refine own_st (fun _ k => XS.iloadN X96.here hx rfl (hb hby at_59) rfl k) ?_
    show own_Go X96 (Q0 Z p0 p1 p2 p3 p4 p5 h0 n0) 3 11 60 #[.val (.int p0), .val (.int p1), .val (.int p2), .val (.int p3), .val (.int p4), .val (.int p5), .val (.int (3 : Int32)), .val (.int gg), .unset, .unset, .unset, .unset, .unset, .unset, .unset, .unset, .unset, .unset, .unset, .unset, .unset, .unset, .unset, .unset, .unset] [(.int p2), (.int (0 : Int32)), (.ref b96), (.ref b96)]
    refine own_st (fun t k => X96.ldcInt hx hown (mvT hZ (hw _ (List.mem_of_getElem? (i := 2) rfl))) (g := (mkF m 60 #[.val (.int p0), .val (.int p1), .val (.int p2), .val (.int p3), .val (.int p4), .val (.int p5), .val (.int (3 : Int32)), .val (.int gg), .unset, .unset, .unset, .unset, .unset, .unset, .unset, .unset, .unset, .unset, .unset, .unset, .unset, .unset, .unset, .unset, .unset] [(.int p2), (.int (0 : Int32)), (.ref b96), (.ref b96)])) rfl (hb hby at_60) t k) ?_
    show own_Go X96 (Q0 Z p0 p1 p2 p3 p4 p5 h0 n0) 3 11 62 #[.val (.int p0), .val (.int p1), .val (.int p2), .val (.int p3), .val (.int p4), .val (.int p5), .val (.int (3 : Int32)), .val (.int gg), .unset, .unset, .unset, .unset, .unset, .unset, .unset, .unset, .unset, .unset, .unset, .unset, .unset, .unset, .unset, .unset, .unset] [(.int (2147483647 : Int32)), (.int p2), (.int (0 : Int32)), (.ref b96), (.ref b96)]
    refine own_st (fun _ k => XS.iand X96.here hx rfl (hb hby at_62) rfl k) ?_
    show own_Go X96 (Q0 Z p0 p1 p2 p3 p4 p5 h0 n0) 3 11 63 #[.val (.int p0), .val (.int p1), .val (.int p2), .val (.int p3), .val (.int p4), .val (.int p5), .val (.int (3 : Int32)), .val (.int gg), .unset, .unset, .unset, .unset, .unset, .unset, .unset, .unset, .unset, .unset, .unset, .unset, .unset, .unset, .unset, .unset, .unset] [(.int (p2 &&& (2147483647 : Int32))), (.int (0 : Int32)), (.ref b96), (.ref b96)]
    refine own_st (fun _ k => XS.iload X96.here hx rfl (hb hby at_63) rfl k) ?_
    show own_Go X96 (Q0 Z p0 p1 p2 p3 p4 p5 h0 n0) 3 11 65 #[.val (.int p0), .val (.int p1), .val (.int p2), .val (.int p3), .val (.int p4), .val (.int p5), .val (.int (3 : Int32)), .val (.int gg), .unset, .unset, .unset, .unset, .unset, .unset, .unset, .unset, .unset, .unset, .unset, .unset, .unset, .unset, .unset, .unset, .unset] [(.int gg), (.int (p2 &&& (2147483647 : Int32))), (.int (0 : Int32)), (.ref b96), (.ref b96)]
    refine own_st (fun _ k => iremM X96 hx rfl (hb hby at_65) rfl (own_gnz hG.1) k) ?_
    show own_Go X96 (Q0 Z p0 p1 p2 p3 p4 p5 h0 n0) 3 11 66 #[.val (.int p0), .val (.int p1), .val (.int p2), .val (.int p3), .val (.int p4), .val (.int p5), .val (.int (3 : Int32)), .val (.int gg), .unset, .unset, .unset, .unset, .unset, .unset, .unset, .unset, .unset, .unset, .unset, .unset, .unset, .unset, .unset, .unset, .unset] [(.int ((p2 &&& (2147483647 : Int32)) % gg)), (.int (0 : Int32)), (.ref b96), (.ref b96)]
    obtain ⟨T99, h99, X99, e99, W99, V99, st99⟩ := own_stI X96 hx hZ e96 V96 (j := (0 : Int32)) ⟨by decide, by decide⟩ (Nat.le_of_ble_eq_true rfl) (g := (mkF m 66 #[.val (.int p0), .val (.int p1), .val (.int p2), .val (.int p3), .val (.int p4), .val (.int p5), .val (.int (3 : Int32)), .val (.int gg), .unset, .unset, .unset, .unset, .unset, .unset, .unset, .unset, .unset, .unset, .unset, .unset, .unset, .unset, .unset, .unset, .unset] [(.int ((p2 &&& (2147483647 : Int32)) % gg)), (.int (0 : Int32)), (.ref b96), (.ref b96)])) rfl rfl (hb hby at_66)
    refine own_st st99 ?_
    have Z_100 := Nat.le_trans Z_98 (Nat.le_of_eq W99.size.symm)
    have U99 : Arv Z h99 b96 k96 .int (4 : Int32) [(.int ((p2 &&& (2147483647 : Int32)) % gg)), (.int (0 : Int32)), (.int (0 : Int32)), (.int (0 : Int32))] (.int (0 : Int32)) := V99
    have N_101 := Fr.snoc X99 N0 G_97
    show own_Go X99 (Q0 Z p0 p1 p2 p3 p4 p5 h0 n0) 3 11 67 #[.val (.int p0), .val (.int p1), .val (.int p2), .val (.int p3), .val (.int p4), .val (.int p5), .val (.int (3 : Int32)), .val (.int gg), .unset, .unset, .unset, .unset, .unset, .unset, .unset, .unset, .unset, .unset, .unset, .unset, .unset, .unset, .unset, .unset, .unset] [(.ref b96)]
    refine own_st (fun _ k => XS.dup X99.here hx rfl (hb hby at_67) rfl rfl k) ?_
    show own_Go X99 (Q0 Z p0 p1 p2 p3 p4 p5 h0 n0) 3 11 68 #[.val (.int p0), .val (.int p1), .val (.int p2), .val (.int p3), .val (.int p4), .val (.int p5), .val (.int (3 : Int32)), .val (.int gg), .unset, .unset, .unset, .unset, .unset, .unset, .unset, .unset, .unset, .unset, .unset, .unset, .unset, .unset, .unset, .unset, .unset] [(.ref b96), (.ref b96)]
    refine own_st (fun _ k => XS.iconst X99.here hx rfl (hb hby at_68) k) ?_
    show own_Go X99 (Q0 Z p0 p1 p2 p3 p4 p5 h0 n0) 3 11 69 #[.val (.int p0), .val (.int p1), .val (.int p2), .val (.int p3), .val (.int p4), .val (.int p5), .val (.int (3 : Int32)), .val (.int gg), .unset, .unset, .unset, .unset, .unset, .unset, .unset, .unset, .unset, .unset, .unset, .unset, .unset, .unset, .unset, .unset, .unset] [(.int (1 : Int32)), (.ref b96), (.ref b96)]
    refine own_st (fun _ k => XS.iloadN X99.here hx rfl (hb hby at_69) rfl k) ?_
    show own_Go X99 (Q0 Z p0 p1 p2 p3 p4 p5 h0 n0) 3 11 70 #[.val (.int p0), .val (.int p1), .val (.int p2), .val (.int p3), .val (.int p4), .val (.int p5), .val (.int (3 : Int32)), .val (.int gg), .unset, .unset, .unset, .unset, .unset, .unset, .unset, .unset, .unset, .unset, .unset, .unset, .unset, .unset, .unset, .unset, .unset] [(.int p3), (.int (1 : Int32)), (.ref b96), (.ref b96)]
    refine own_st (fun t k => X99.ldcInt hx hown (mvT hZ (hw _ (List.mem_of_getElem? (i := 2) rfl))) (g := (mkF m 70 #[.val (.int p0), .val (.int p1), .val (.int p2), .val (.int p3), .val (.int p4), .val (.int p5), .val (.int (3 : Int32)), .val (.int gg), .unset, .unset, .unset, .unset, .unset, .unset, .unset, .unset, .unset, .unset, .unset, .unset, .unset, .unset, .unset, .unset, .unset] [(.int p3), (.int (1 : Int32)), (.ref b96), (.ref b96)])) rfl (hb hby at_70) t k) ?_
    show own_Go X99 (Q0 Z p0 p1 p2 p3 p4 p5 h0 n0) 3 11 72 #[.val (.int p0), .val (.int p1), .val (.int p2), .val (.int p3), .val (.int p4), .val (.int p5), .val (.int (3 : Int32)), .val (.int gg), .unset, .unset, .unset, .unset, .unset, .unset, .unset, .unset, .unset, .unset, .unset, .unset, .unset, .unset, .unset, .unset, .unset] [(.int (2147483647 : Int32)), (.int p3), (.int (1 : Int32)), (.ref b96), (.ref b96)]
    refine own_st (fun _ k => XS.iand X99.here hx rfl (hb hby at_72) rfl k) ?_
    show own_Go X99 (Q0 Z p0 p1 p2 p3 p4 p5 h0 n0) 3 11 73 #[.val (.int p0), .val (.int p1), .val (.int p2), .val (.int p3), .val (.int p4), .val (.int p5), .val (.int (3 : Int32)), .val (.int gg), .unset, .unset, .unset, .unset, .unset, .unset, .unset, .unset, .unset, .unset, .unset, .unset, .unset, .unset, .unset, .unset, .unset] [(.int (p3 &&& (2147483647 : Int32))), (.int (1 : Int32)), (.ref b96), (.ref b96)]
    refine own_st (fun _ k => XS.iload X99.here hx rfl (hb hby at_73) rfl k) ?_
    show own_Go X99 (Q0 Z p0 p1 p2 p3 p4 p5 h0 n0) 3 11 75 #[.val (.int p0), .val (.int p1), .val (.int p2), .val (.int p3), .val (.int p4), .val (.int p5), .val (.int (3 : Int32)), .val (.int gg), .unset, .unset, .unset, .unset, .unset, .unset, .unset, .unset, .unset, .unset, .unset, .unset, .unset, .unset, .unset, .unset, .unset] [(.int gg), (.int (p3 &&& (2147483647 : Int32))), (.int (1 : Int32)), (.ref b96), (.ref b96)]
    refine own_st (fun _ k => iremM X99 hx rfl (hb hby at_75) rfl (own_gnz hG.1) k) ?_
    show own_Go X99 (Q0 Z p0 p1 p2 p3 p4 p5 h0 n0) 3 11 76 #[.val (.int p0), .val (.int p1), .val (.int p2), .val (.int p3), .val (.int p4), .val (.int p5), .val (.int (3 : Int32)), .val (.int gg), .unset, .unset, .unset, .unset, .unset, .unset, .unset, .unset, .unset, .unset, .unset, .unset, .unset, .unset, .unset, .unset, .unset] [(.int ((p3 &&& (2147483647 : Int32)) % gg)), (.int (1 : Int32)), (.ref b96), (.ref b96)]
    obtain ⟨T102, h102, X102, e102, W102, V102, st102⟩ := own_stI X99 hx hZ e99 U99 (j := (1 : Int32)) ⟨by decide, by decide⟩ (Nat.le_of_ble_eq_true rfl) (g := (mkF m 76 #[.val (.int p0), .val (.int p1), .val (.int p2), .val (.int p3), .val (.int p4), .val (.int p5), .val (.int (3 : Int32)), .val (.int gg), .unset, .unset, .unset, .unset, .unset, .unset, .unset, .unset, .unset, .unset, .unset, .unset, .unset, .unset, .unset, .unset, .unset] [(.int ((p3 &&& (2147483647 : Int32)) % gg)), (.int (1 : Int32)), (.ref b96), (.ref b96)])) rfl rfl (hb hby at_76)
    refine own_st st102 ?_
    have Z_103 := Nat.le_trans Z_100 (Nat.le_of_eq W102.size.symm)
    have U102 : Arv Z h102 b96 k96 .int (4 : Int32) [(.int ((p2 &&& (2147483647 : Int32)) % gg)), (.int ((p3 &&& (2147483647 : Int32)) % gg)), (.int (0 : Int32)), (.int (0 : Int32))] (.int (0 : Int32)) := V102
    have N_104 := Fr.snoc X102 N_101 G_97
    show own_Go X102 (Q0 Z p0 p1 p2 p3 p4 p5 h0 n0) 3 11 77 #[.val (.int p0), .val (.int p1), .val (.int p2), .val (.int p3), .val (.int p4), .val (.int p5), .val (.int (3 : Int32)), .val (.int gg), .unset, .unset, .unset, .unset, .unset, .unset, .unset, .unset, .unset, .unset, .unset, .unset, .unset, .unset, .unset, .unset, .unset] [(.ref b96)]
    refine own_st (fun _ k => XS.dup X102.here hx rfl (hb hby at_77) rfl rfl k) ?_
    show own_Go X102 (Q0 Z p0 p1 p2 p3 p4 p5 h0 n0) 3 11 78 #[.val (.int p0), .val (.int p1), .val (.int p2), .val (.int p3), .val (.int p4), .val (.int p5), .val (.int (3 : Int32)), .val (.int gg), .unset, .unset, .unset, .unset, .unset, .unset, .unset, .unset, .unset, .unset, .unset, .unset, .unset, .unset, .unset, .unset, .unset] [(.ref b96), (.ref b96)]
    refine own_st (fun _ k => XS.iconst X102.here hx rfl (hb hby at_78) k) ?_
    show own_Go X102 (Q0 Z p0 p1 p2 p3 p4 p5 h0 n0) 3 11 79 #[.val (.int p0), .val (.int p1), .val (.int p2), .val (.int p3), .val (.int p4), .val (.int p5), .val (.int (3 : Int32)), .val (.int gg), .unset, .unset, .unset, .unset, .unset, .unset, .unset, .unset, .unset, .unset, .unset, .unset, .unset, .unset, .unset, .unset, .unset] [(.int (2 : Int32)), (.ref b96), (.ref b96)]
    refine own_st (fun _ k => XS.iload X102.here hx rfl (hb hby at_79) rfl k) ?_
    show own_Go X102 (Q0 Z p0 p1 p2 p3 p4 p5 h0 n0) 3 11 81 #[.val (.int p0), .val (.int p1), .val (.int p2), .val (.int p3), .val (.int p4), .val (.int p5), .val (.int (3 : Int32)), .val (.int gg), .unset, .unset, .unset, .unset, .unset, .unset, .unset, .unset, .unset, .unset, .unset, .unset, .unset, .unset, .unset, .unset, .unset] [(.int p4), (.int (2 : Int32)), (.ref b96), (.ref b96)]
    refine own_st (fun t k => X102.ldcInt hx hown (mvT hZ (hw _ (List.mem_of_getElem? (i := 2) rfl))) (g := (mkF m 81 #[.val (.int p0), .val (.int p1), .val (.int p2), .val (.int p3), .val (.int p4), .val (.int p5), .val (.int (3 : Int32)), .val (.int gg), .unset, .unset, .unset, .unset, .unset, .unset, .unset, .unset, .unset, .unset, .unset, .unset, .unset, .unset, .unset, .unset, .unset] [(.int p4), (.int (2 : Int32)), (.ref b96), (.ref b96)])) rfl (hb hby at_81) t k) ?_
    show own_Go X102 (Q0 Z p0 p1 p2 p3 p4 p5 h0 n0) 3 11 83 #[.val (.int p0), .val (.int p1), .val (.int p2), .val (.int p3), .val (.int p4), .val (.int p5), .val (.int (3 : Int32)), .val (.int gg), .unset, .unset, .unset, .unset, .unset, .unset, .unset, .unset, .unset, .unset, .unset, .unset, .unset, .unset, .unset, .unset, .unset] [(.int (2147483647 : Int32)), (.int p4), (.int (2 : Int32)), (.ref b96), (.ref b96)]
    refine own_st (fun _ k => XS.iand X102.here hx rfl (hb hby at_83) rfl k) ?_
    show own_Go X102 (Q0 Z p0 p1 p2 p3 p4 p5 h0 n0) 3 11 84 #[.val (.int p0), .val (.int p1), .val (.int p2), .val (.int p3), .val (.int p4), .val (.int p5), .val (.int (3 : Int32)), .val (.int gg), .unset, .unset, .unset, .unset, .unset, .unset, .unset, .unset, .unset, .unset, .unset, .unset, .unset, .unset, .unset, .unset, .unset] [(.int (p4 &&& (2147483647 : Int32))), (.int (2 : Int32)), (.ref b96), (.ref b96)]
    refine own_st (fun _ k => XS.iload X102.here hx rfl (hb hby at_84) rfl k) ?_
    show own_Go X102 (Q0 Z p0 p1 p2 p3 p4 p5 h0 n0) 3 11 86 #[.val (.int p0), .val (.int p1), .val (.int p2), .val (.int p3), .val (.int p4), .val (.int p5), .val (.int (3 : Int32)), .val (.int gg), .unset, .unset, .unset, .unset, .unset, .unset, .unset, .unset, .unset, .unset, .unset, .unset, .unset, .unset, .unset, .unset, .unset] [(.int gg), (.int (p4 &&& (2147483647 : Int32))), (.int (2 : Int32)), (.ref b96), (.ref b96)]
    refine own_st (fun _ k => iremM X102 hx rfl (hb hby at_86) rfl (own_gnz hG.1) k) ?_
    show own_Go X102 (Q0 Z p0 p1 p2 p3 p4 p5 h0 n0) 3 11 87 #[.val (.int p0), .val (.int p1), .val (.int p2), .val (.int p3), .val (.int p4), .val (.int p5), .val (.int (3 : Int32)), .val (.int gg), .unset, .unset, .unset, .unset, .unset, .unset, .unset, .unset, .unset, .unset, .unset, .unset, .unset, .unset, .unset, .unset, .unset] [(.int ((p4 &&& (2147483647 : Int32)) % gg)), (.int (2 : Int32)), (.ref b96), (.ref b96)]
    obtain ⟨T105, h105, X105, e105, W105, V105, st105⟩ := own_stI X102 hx hZ e102 U102 (j := (2 : Int32)) ⟨by decide, by decide⟩ (Nat.le_of_ble_eq_true rfl) (g := (mkF m 87 #[.val (.int p0), .val (.int p1), .val (.int p2), .val (.int p3), .val (.int p4), .val (.int p5), .val (.int (3 : Int32)), .val (.int gg), .unset, .unset, .unset, .unset, .unset, .unset, .unset, .unset, .unset, .unset, .unset, .unset, .unset, .unset, .unset, .unset, .unset] [(.int ((p4 &&& (2147483647 : Int32)) % gg)), (.int (2 : Int32)), (.ref b96), (.ref b96)])) rfl rfl (hb hby at_87)
    refine own_st st105 ?_
    have Z_106 := Nat.le_trans Z_103 (Nat.le_of_eq W105.size.symm)
    have U105 : Arv Z h105 b96 k96 .int (4 : Int32) [(.int ((p2 &&& (2147483647 : Int32)) % gg)), (.int ((p3 &&& (2147483647 : Int32)) % gg)), (.int ((p4 &&& (2147483647 : Int32)) % gg)), (.int (0 : Int32))] (.int (0 : Int32)) := V105
    have N_107 := Fr.snoc X105 N_104 G_97
    show own_Go X105 (Q0 Z p0 p1 p2 p3 p4 p5 h0 n0) 3 11 88 #[.val (.int p0), .val (.int p1), .val (.int p2), .val (.int p3), .val (.int p4), .val (.int p5), .val (.int (3 : Int32)), .val (.int gg), .unset, .unset, .unset, .unset, .unset, .unset, .unset, .unset, .unset, .unset, .unset, .unset, .unset, .unset, .unset, .unset, .unset] [(.ref b96)]
    refine own_st (fun _ k => XS.dup X105.here hx rfl (hb hby at_88) rfl rfl k) ?_
    show own_Go X105 (Q0 Z p0 p1 p2 p3 p4 p5 h0 n0) 3 11 89 #[.val (.int p0), .val (.int p1), .val (.int p2), .val (.int p3), .val (.int p4), .val (.int p5), .val (.int (3 : Int32)), .val (.int gg), .unset, .unset, .unset, .unset, .unset, .unset, .unset, .unset, .unset, .unset, .unset, .unset, .unset, .unset, .unset, .unset, .unset] [(.ref b96), (.ref b96)]
    refine own_st (fun _ k => XS.iconst X105.here hx rfl (hb hby at_89) k) ?_
    show own_Go X105 (Q0 Z p0 p1 p2 p3 p4 p5 h0 n0) 3 11 90 #[.val (.int p0), .val (.int p1), .val (.int p2), .val (.int p3), .val (.int p4), .val (.int p5), .val (.int (3 : Int32)), .val (.int gg), .unset, .unset, .unset, .unset, .unset, .unset, .unset, .unset, .unset, .unset, .unset, .unset, .unset, .unset, .unset, .unset, .unset] [(.int (3 : Int32)), (.ref b96), (.ref b96)]
    refine own_st (fun _ k => XS.iload X105.here hx rfl (hb hby at_90) rfl k) ?_
    show own_Go X105 (Q0 Z p0 p1 p2 p3 p4 p5 h0 n0) 3 11 92 #[.val (.int p0), .val (.int p1), .val (.int p2), .val (.int p3), .val (.int p4), .val (.int p5), .val (.int (3 : Int32)), .val (.int gg), .unset, .unset, .unset, .unset, .unset, .unset, .unset, .unset, .unset, .unset, .unset, .unset, .unset, .unset, .unset, .unset, .unset] [(.int p5), (.int (3 : Int32)), (.ref b96), (.ref b96)]
    refine own_st (fun t k => X105.ldcInt hx hown (mvT hZ (hw _ (List.mem_of_getElem? (i := 2) rfl))) (g := (mkF m 92 #[.val (.int p0), .val (.int p1), .val (.int p2), .val (.int p3), .val (.int p4), .val (.int p5), .val (.int (3 : Int32)), .val (.int gg), .unset, .unset, .unset, .unset, .unset, .unset, .unset, .unset, .unset, .unset, .unset, .unset, .unset, .unset, .unset, .unset, .unset] [(.int p5), (.int (3 : Int32)), (.ref b96), (.ref b96)])) rfl (hb hby at_92) t k) ?_
    show own_Go X105 (Q0 Z p0 p1 p2 p3 p4 p5 h0 n0) 3 11 94 #[.val (.int p0), .val (.int p1), .val (.int p2), .val (.int p3), .val (.int p4), .val (.int p5), .val (.int (3 : Int32)), .val (.int gg), .unset, .unset, .unset, .unset, .unset, .unset, .unset, .unset, .unset, .unset, .unset, .unset, .unset, .unset, .unset, .unset, .unset] [(.int (2147483647 : Int32)), (.int p5), (.int (3 : Int32)), (.ref b96), (.ref b96)]
    refine own_st (fun _ k => XS.iand X105.here hx rfl (hb hby at_94) rfl k) ?_
    show own_Go X105 (Q0 Z p0 p1 p2 p3 p4 p5 h0 n0) 3 11 95 #[.val (.int p0), .val (.int p1), .val (.int p2), .val (.int p3), .val (.int p4), .val (.int p5), .val (.int (3 : Int32)), .val (.int gg), .unset, .unset, .unset, .unset, .unset, .unset, .unset, .unset, .unset, .unset, .unset, .unset, .unset, .unset, .unset, .unset, .unset] [(.int (p5 &&& (2147483647 : Int32))), (.int (3 : Int32)), (.ref b96), (.ref b96)]
    refine own_st (fun _ k => XS.iload X105.here hx rfl (hb hby at_95) rfl k) ?_
    show own_Go X105 (Q0 Z p0 p1 p2 p3 p4 p5 h0 n0) 3 11 97 #[.val (.int p0), .val (.int p1), .val (.int p2), .val (.int p3), .val (.int p4), .val (.int p5), .val (.int (3 : Int32)), .val (.int gg), .unset, .unset, .unset, .unset, .unset, .unset, .unset, .unset, .unset, .unset, .unset, .unset, .unset, .unset, .unset, .unset, .unset] [(.int gg), (.int (p5 &&& (2147483647 : Int32))), (.int (3 : Int32)), (.ref b96), (.ref b96)]
    refine own_st (fun _ k => iremM X105 hx rfl (hb hby at_97) rfl (own_gnz hG.1) k) ?_
    show own_Go X105 (Q0 Z p0 p1 p2 p3 p4 p5 h0 n0) 3 11 98 #[.val (.int p0), .val (.int p1), .val (.int p2), .val (.int p3), .val (.int p4), .val (.int p5), .val (.int (3 : Int32)), .val (.int gg), .unset, .unset, .unset, .unset, .unset, .unset, .unset, .unset, .unset, .unset, .unset, .unset, .unset, .unset, .unset, .unset, .unset] [(.int ((p5 &&& (2147483647 : Int32)) % gg)), (.int (3 : Int32)), (.ref b96), (.ref b96)]
    obtain ⟨T108, h108, X108, e108, W108, V108, st108⟩ := own_stI X105 hx hZ e105 U105 (j := (3 : Int32)) ⟨by decide, by decide⟩ (Nat.le_of_ble_eq_true rfl) (g := (mkF m 98 #[.val (.int p0), .val (.int p1), .val (.int p2), .val (.int p3), .val (.int p4), .val (.int p5), .val (.int (3 : Int32)), .val (.int gg), .unset, .unset, .unset, .unset, .unset, .unset, .unset, .unset, .unset, .unset, .unset, .unset, .unset, .unset, .unset, .unset, .unset] [(.int ((p5 &&& (2147483647 : Int32)) % gg)), (.int (3 : Int32)), (.ref b96), (.ref b96)])) rfl rfl (hb hby at_98)
    refine own_st st108 ?_
    have Z_109 := Nat.le_trans Z_106 (Nat.le_of_eq W108.size.symm)
    have U108 : Arv Z h108 b96 k96 .int (4 : Int32) [(.int ((p2 &&& (2147483647 : Int32)) % gg)), (.int ((p3 &&& (2147483647 : Int32)) % gg)), (.int ((p4 &&& (2147483647 : Int32)) % gg)), (.int ((p5 &&& (2147483647 : Int32)) % gg))] (.int (0 : Int32)) := V108
    have N_110 := Fr.snoc X108 N_107 G_97
    show own_Go X108 (Q0 Z p0 p1 p2 p3 p4 p5 h0 n0) 3 11 99 #[.val (.int p0), .val (.int p1), .val (.int p2), .val (.int p3), .val (.int p4), .val (.int p5), .val (.int (3 : Int32)), .val (.int gg), .unset, .unset, .unset, .unset, .unset, .unset, .unset, .unset, .unset, .unset, .unset, .unset, .unset, .unset, .unset, .unset, .unset] [(.ref b96)]
    refine own_st (fun _ k => XS.astore X108.here hx rfl (hb hby at_99) rfl rfl (l' := #[.val (.int p0), .val (.int p1), .val (.int p2), .val (.int p3), .val (.int p4), .val (.int p5), .val (.int (3 : Int32)), .val (.int gg), .val (.ref b96), .unset, .unset, .unset, .unset, .unset, .unset, .unset, .unset, .unset, .unset, .unset, .unset, .unset, .unset, .unset, .unset]) rfl k) ?_
    show own_Go X108 (Q0 Z p0 p1 p2 p3 p4 p5 h0 n0) 3 11 101 #[.val (.int p0), .val (.int p1), .val (.int p2), .val (.int p3), .val (.int p4), .val (.int p5), .val (.int (3 : Int32)), .val (.int gg), .val (.ref b96), .unset, .unset, .unset, .unset, .unset, .unset, .unset, .unset, .unset, .unset, .unset, .unset, .unset, .unset, .unset, .unset] []
    obtain ⟨y0, hy0⟩ : ∃ z, z = ((p2 &&& (2147483647 : Int32)) % gg) := ⟨_, rfl⟩
    obtain ⟨y1, hy1⟩ : ∃ z, z = ((p3 &&& (2147483647 : Int32)) % gg) := ⟨_, rfl⟩
    obtain ⟨y2, hy2⟩ : ∃ z, z = ((p4 &&& (2147483647 : Int32)) % gg) := ⟨_, rfl⟩
    obtain ⟨y3, hy3⟩ : ∃ z, z = ((p5 &&& (2147483647 : Int32)) % gg) := ⟨_, rfl⟩
    have hY : (0 ≤ y0.toInt ∧ y0.toInt < gg.toInt) ∧ (0 ≤ y1.toInt ∧ y1.toInt < gg.toInt) ∧ (0 ≤ y2.toInt ∧ y2.toInt < gg.toInt) ∧ (0 ≤ y3.toInt ∧ y3.toInt < gg.toInt) := by subst hy0 hy1 hy2 hy3; exact ⟨own_rb hG.1, own_rb hG.1, own_rb hG.1, own_rb hG.1⟩
    have VR : Arv Z h108 b96 k96 .int (4 : Int32) [(.int y0), (.int y1), (.int y2), (.int y3)] (.int (0 : Int32)) := by rw [hy0, hy1, hy2, hy3]; exact U108
    refine own_st (fun _ k => XS.iloadN X108.here hx rfl (hb hby at_101) rfl k) ?_
    show own_Go X108 (Q0 Z p0 p1 p2 p3 p4 p5 h0 n0) 3 11 102 #[.val (.int p0), .val (.int p1), .val (.int p2), .val (.int p3), .val (.int p4), .val (.int p5), .val (.int (3 : Int32)), .val (.int gg), .val (.ref b96), .unset, .unset, .unset, .unset, .unset, .unset, .unset, .unset, .unset, .unset, .unset, .unset, .unset, .unset, .unset, .unset] [(.int p0)]
    refine own_st (fun _ k => XS.iconst X108.here hx rfl (hb hby at_102) k) ?_
    show own_Go X108 (Q0 Z p0 p1 p2 p3 p4 p5 h0 n0) 3 11 103 #[.val (.int p0), .val (.int p1), .val (.int p2), .val (.int p3), .val (.int p4), .val (.int p5), .val (.int (3 : Int32)), .val (.int gg), .val (.ref b96), .unset, .unset, .unset, .unset, .unset, .unset, .unset, .unset, .unset, .unset, .unset, .unset, .unset, .unset, .unset, .unset] [(.int (3 : Int32)), (.int p0)]
    refine own_st (fun _ k => XS.iand X108.here hx rfl (hb hby at_103) rfl k) ?_
    show own_Go X108 (Q0 Z p0 p1 p2 p3 p4 p5 h0 n0) 3 11 104 #[.val (.int p0), .val (.int p1), .val (.int p2), .val (.int p3), .val (.int p4), .val (.int p5), .val (.int (3 : Int32)), .val (.int gg), .val (.ref b96), .unset, .unset, .unset, .unset, .unset, .unset, .unset, .unset, .unset, .unset, .unset, .unset, .unset, .unset, .unset, .unset] [(.int (p0 &&& (3 : Int32)))]
    refine own_st (fun _ k => XS.istore X108.here hx rfl (hb hby at_104) rfl (l' := #[.val (.int p0), .val (.int p1), .val (.int p2), .val (.int p3), .val (.int p4), .val (.int p5), .val (.int (3 : Int32)), .val (.int gg), .val (.ref b96), .val (.int (p0 &&& (3 : Int32))), .unset, .unset, .unset, .unset, .unset, .unset, .unset, .unset, .unset, .unset, .unset, .unset, .unset, .unset, .unset]) rfl k) ?_
    show own_Go X108 (Q0 Z p0 p1 p2 p3 p4 p5 h0 n0) 3 11 106 #[.val (.int p0), .val (.int p1), .val (.int p2), .val (.int p3), .val (.int p4), .val (.int p5), .val (.int (3 : Int32)), .val (.int gg), .val (.ref b96), .val (.int (p0 &&& (3 : Int32))), .unset, .unset, .unset, .unset, .unset, .unset, .unset, .unset, .unset, .unset, .unset, .unset, .unset, .unset, .unset] []
    generalize hd0 : (p0 &&& (3 : Int32)) = d0
    show own_Go X108 (Q0 Z p0 p1 p2 p3 p4 p5 h0 n0) 3 11 106 #[.val (.int p0), .val (.int p1), .val (.int p2), .val (.int p3), .val (.int p4), .val (.int p5), .val (.int (3 : Int32)), .val (.int gg), .val (.ref b96), .val (.int d0), .unset, .unset, .unset, .unset, .unset, .unset, .unset, .unset, .unset, .unset, .unset, .unset, .unset, .unset, .unset] []
    refine own_st (fun _ k => XS.iloadN X108.here hx rfl (hb hby at_106) rfl k) ?_
    show own_Go X108 (Q0 Z p0 p1 p2 p3 p4 p5 h0 n0) 3 11 107 #[.val (.int p0), .val (.int p1), .val (.int p2), .val (.int p3), .val (.int p4), .val (.int p5), .val (.int (3 : Int32)), .val (.int gg), .val (.ref b96), .val (.int d0), .unset, .unset, .unset, .unset, .unset, .unset, .unset, .unset, .unset, .unset, .unset, .unset, .unset, .unset, .unset] [(.int p0)]
    refine own_st (fun _ k => XS.iconst X108.here hx rfl (hb hby at_107) k) ?_
    show own_Go X108 (Q0 Z p0 p1 p2 p3 p4 p5 h0 n0) 3 11 108 #[.val (.int p0), .val (.int p1), .val (.int p2), .val (.int p3), .val (.int p4), .val (.int p5), .val (.int (3 : Int32)), .val (.int gg), .val (.ref b96), .val (.int d0), .unset, .unset, .unset, .unset, .unset, .unset, .unset, .unset, .unset, .unset, .unset, .unset, .unset, .unset, .unset] [(.int (2 : Int32)), (.int p0)]
    refine own_st (fun _ k => XS.iushr X108.here hx rfl (hb hby at_108) rfl k) ?_
    show own_Go X108 (Q0 Z p0 p1 p2 p3 p4 p5 h0 n0) 3 11 109 #[.val (.int p0), .val (.int p1), .val (.int p2), .val (.int p3), .val (.int p4), .val (.int p5), .val (.int (3 : Int32)), .val (.int gg), .val (.ref b96), .val (.int d0), .unset, .unset, .unset, .unset, .unset, .unset, .unset, .unset, .unset, .unset, .unset, .unset, .unset, .unset, .unset] [(.int ((p0.toUInt32 >>> ((2 : Int32) &&& 31).toUInt32).toInt32))]
    refine own_st (fun _ k => XS.iconst X108.here hx rfl (hb hby at_109) k) ?_
    show own_Go X108 (Q0 Z p0 p1 p2 p3 p4 p5 h0 n0) 3 11 110 #[.val (.int p0), .val (.int p1), .val (.int p2), .val (.int p3), .val (.int p4), .val (.int p5), .val (.int (3 : Int32)), .val (.int gg), .val (.ref b96), .val (.int d0), .unset, .unset, .unset, .unset, .unset, .unset, .unset, .unset, .unset, .unset, .unset, .unset, .unset, .unset, .unset] [(.int (3 : Int32)), (.int ((p0.toUInt32 >>> ((2 : Int32) &&& 31).toUInt32).toInt32))]
    refine own_st (fun _ k => XS.iand X108.here hx rfl (hb hby at_110) rfl k) ?_
    show own_Go X108 (Q0 Z p0 p1 p2 p3 p4 p5 h0 n0) 3 11 111 #[.val (.int p0), .val (.int p1), .val (.int p2), .val (.int p3), .val (.int p4), .val (.int p5), .val (.int (3 : Int32)), .val (.int gg), .val (.ref b96), .val (.int d0), .unset, .unset, .unset, .unset, .unset, .unset, .unset, .unset, .unset, .unset, .unset, .unset, .unset, .unset, .unset] [(.int (((p0.toUInt32 >>> ((2 : Int32) &&& 31).toUInt32).toInt32) &&& (3 : Int32)))]
    refine own_st (fun _ k => XS.istore X108.here hx rfl (hb hby at_111) rfl (l' := #[.val (.int p0), .val (.int p1), .val (.int p2), .val (.int p3), .val (.int p4), .val (.int p5), .val (.int (3 : Int32)), .val (.int gg), .val (.ref b96), .val (.int d0), .val (.int (((p0.toUInt32 >>> ((2 : Int32) &&& 31).toUInt32).toInt32) &&& (3 : Int32))), .unset, .unset, .unset, .unset, .unset, .unset, .unset, .unset, .unset, .unset, .unset, .unset, .unset, .unset]) rfl k) ?_
    show own_Go X108 (Q0 Z p0 p1 p2 p3 p4 p5 h0 n0) 3 11 113 #[.val (.int p0), .val (.int p1), .val (.int p2), .val (.int p3), .val (.int p4), .val (.int p5), .val (.int (3 : Int32)), .val (.int gg), .val (.ref b96), .val (.int d0), .val (.int (((p0.toUInt32 >>> ((2 : Int32) &&& 31).toUInt32).toInt32) &&& (3 : Int32))), .unset, .unset, .unset, .unset, .unset, .unset, .unset, .unset, .unset, .unset, .unset, .unset, .unset, .unset] []
    generalize hd1 : (((p0.toUInt32 >>> ((2 : Int32) &&& 31).toUInt32).toInt32) &&& (3 : Int32)) = d1
    show own_Go X108 (Q0 Z p0 p1 p2 p3 p4 p5 h0 n0) 3 11 113 #[.val (.int p0), .val (.int p1), .val (.int p2), .val (.int p3), .val (.int p4), .val (.int p5), .val (.int (3 : Int32)), .val (.int gg), .val (.ref b96), .val (.int d0), .val (.int d1), .unset, .unset, .unset, .unset, .unset, .unset, .unset, .unset, .unset, .unset, .unset, .unset, .unset, .unset] []
    refine own_st (fun _ k => XS.iloadN X108.here hx rfl (hb hby at_113) rfl k) ?_
    show own_Go X108 (Q0 Z p0 p1 p2 p3 p4 p5 h0 n0) 3 11 114 #[.val (.int p0), .val (.int p1), .val (.int p2), .val (.int p3), .val (.int p4), .val (.int p5), .val (.int (3 : Int32)), .val (.int gg), .val (.ref b96), .val (.int d0), .val (.int d1), .unset, .unset, .unset, .unset, .unset, .unset, .unset, .unset, .unset, .unset, .unset, .unset, .unset, .unset] [(.int p0)]
    refine own_st (fun _ k => XS.iconst X108.here hx rfl (hb hby at_114) k) ?_
    show own_Go X108 (Q0 Z p0 p1 p2 p3 p4 p5 h0 n0) 3 11 115 #[.val (.int p0), .val (.int p1), .val (.int p2), .val (.int p3), .val (.int p4), .val (.int p5), .val (.int (3 : Int32)), .val (.int gg), .val (.ref b96), .val (.int d0), .val (.int d1), .unset, .unset, .unset, .unset, .unset, .unset, .unset, .unset, .unset, .unset, .unset, .unset, .unset, .unset] [(.int (4 : Int32)), (.int p0)]
    refine own_st (fun _ k => XS.iushr X108.here hx rfl (hb hby at_115) rfl k) ?_
    show own_Go X108 (Q0 Z p0 p1 p2 p3 p4 p5 h0 n0) 3 11 116 #[.val (.int p0), .val (.int p1), .val (.int p2), .val (.int p3), .val (.int p4), .val (.int p5), .val (.int (3 : Int32)), .val (.int gg), .val (.ref b96), .val (.int d0), .val (.int d1), .unset, .unset, .unset, .unset, .unset, .unset, .unset, .unset, .unset, .unset, .unset, .unset, .unset, .unset] [(.int ((p0.toUInt32 >>> ((4 : Int32) &&& 31).toUInt32).toInt32))]
    refine own_st (fun _ k => XS.iconst X108.here hx rfl (hb hby at_116) k) ?_
    show own_Go X108 (Q0 Z p0 p1 p2 p3 p4 p5 h0 n0) 3 11 117 #[.val (.int p0), .val (.int p1), .val (.int p2), .val (.int p3), .val (.int p4), .val (.int p5), .val (.int (3 : Int32)), .val (.int gg), .val (.ref b96), .val (.int d0), .val (.int d1), .unset, .unset, .unset, .unset, .unset, .unset, .unset, .unset, .unset, .unset, .unset, .unset, .unset, .unset] [(.int (3 : Int32)), (.int ((p0.toUInt32 >>> ((4 : Int32) &&& 31).toUInt32).toInt32))]
    refine own_st (fun _ k => XS.iand X108.here hx rfl (hb hby at_117) rfl k) ?_
    show own_Go X108 (Q0 Z p0 p1 p2 p3 p4 p5 h0 n0) 3 11 118 #[.val (.int p0), .val (.int p1), .val (.int p2), .val (.int p3), .val (.int p4), .val (.int p5), .val (.int (3 : Int32)), .val (.int gg), .val (.ref b96), .val (.int d0), .val (.int d1), .unset, .unset, .unset, .unset, .unset, .unset, .unset, .unset, .unset, .unset, .unset, .unset, .unset, .unset] [(.int (((p0.toUInt32 >>> ((4 : Int32) &&& 31).toUInt32).toInt32) &&& (3 : Int32)))]
    refine own_st (fun _ k => XS.istore X108.here hx rfl (hb hby at_118) rfl (l' := #[.val (.int p0), .val (.int p1), .val (.int p2), .val (.int p3), .val (.int p4), .val (.int p5), .val (.int (3 : Int32)), .val (.int gg), .val (.ref b96), .val (.int d0), .val (.int d1), .val (.int (((p0.toUInt32 >>> ((4 : Int32) &&& 31).toUInt32).toInt32) &&& (3 : Int32))), .unset, .unset, .unset, .unset, .unset, .unset, .unset, .unset, .unset, .unset, .unset, .unset, .unset]) rfl k) ?_
    show own_Go X108 (Q0 Z p0 p1 p2 p3 p4 p5 h0 n0) 3 11 120 #[.val (.int p0), .val (.int p1), .val (.int p2), .val (.int p3), .val (.int p4), .val (.int p5), .val (.int (3 : Int32)), .val (.int gg), .val (.ref b96), .val (.int d0), .val (.int d1), .val (.int (((p0.toUInt32 >>> ((4 : Int32) &&& 31).toUInt32).toInt32) &&& (3 : Int32))), .unset, .unset, .unset, .unset, .unset, .unset, .unset, .unset, .unset, .unset, .unset, .unset, .unset] []
    generalize hd2 : (((p0.toUInt32 >>> ((4 : Int32) &&& 31).toUInt32).toInt32) &&& (3 : Int32)) = d2
    show own_Go X108 (Q0 Z p0 p1 p2 p3 p4 p5 h0 n0) 3 11 120 #[.val (.int p0), .val (.int p1), .val (.int p2), .val (.int p3), .val (.int p4), .val (.int p5), .val (.int (3 : Int32)), .val (.int gg), .val (.ref b96), .val (.int d0), .val (.int d1), .val (.int d2), .unset, .unset, .unset, .unset, .unset, .unset, .unset, .unset, .unset, .unset, .unset, .unset, .unset] []
    refine own_st (fun _ k => XS.iload X108.here hx rfl (hb hby at_120) rfl k) ?_
    show own_Go X108 (Q0 Z p0 p1 p2 p3 p4 p5 h0 n0) 3 11 122 #[.val (.int p0), .val (.int p1), .val (.int p2), .val (.int p3), .val (.int p4), .val (.int p5), .val (.int (3 : Int32)), .val (.int gg), .val (.ref b96), .val (.int d0), .val (.int d1), .val (.int d2), .unset, .unset, .unset, .unset, .unset, .unset, .unset, .unset, .unset, .unset, .unset, .unset, .unset] [(.int (3 : Int32))]
    refine own_st (fun _ k => XS.iconst X108.here hx rfl (hb hby at_122) k) ?_
    show own_Go X108 (Q0 Z p0 p1 p2 p3 p4 p5 h0 n0) 3 11 123 #[.val (.int p0), .val (.int p1), .val (.int p2), .val (.int p3), .val (.int p4), .val (.int p5), .val (.int (3 : Int32)), .val (.int gg), .val (.ref b96), .val (.int d0), .val (.int d1), .val (.int d2), .unset, .unset, .unset, .unset, .unset, .unset, .unset, .unset, .unset, .unset, .unset, .unset, .unset] [(.int (1 : Int32)), (.int (3 : Int32))]
    have c123_111 : ¬ ((3 : Int32) = (1 : Int32)) := (by decide)
    refine own_st (fun _ k => XS.icmpYes X108.here hx rfl (pc0 := 123) (pc' := 139) rfl (hb hby at_123) rfl (feq c123_111).2 (by decide) (by decide) k) ?_
    show own_Go X108 (Q0 Z p0 p1 p2 p3 p4 p5 h0 n0) 3 11 139 #[.val (.int p0), .val (.int p1), .val (.int p2), .val (.int p3), .val (.int p4), .val (.int p5), .val (.int (3 : Int32)), .val (.int gg), .val (.ref b96), .val (.int d0), .val (.int d1), .val (.int d2), .unset, .unset, .unset, .unset, .unset, .unset, .unset, .unset, .unset, .unset, .unset, .unset, .unset] []
    refine own_st (fun _ k => XS.iload X108.here hx rfl (hb hby at_139) rfl k) ?_
    show own_Go X108 (Q0 Z p0 p1 p2 p3 p4 p5 h0 n0) 3 11 141 #[.val (.int p0), .val (.int p1), .val (.int p2), .val (.int p3), .val (.int p4), .val (.int p5), .val (.int (3 : Int32)), .val (.int gg), .val (.ref b96), .val (.int d0), .val (.int d1), .val (.int d2), .unset, .unset, .unset, .unset, .unset, .unset, .unset, .unset, .unset, .unset, .unset, .unset, .unset] [(.int (3 : Int32))]
    refine own_st (fun _ k => XS.iconst X108.here hx rfl (hb hby at_141) k) ?_
    show own_Go X108 (Q0 Z p0 p1 p2 p3 p4 p5 h0 n0) 3 11 142 #[.val (.int p0), .val (.int p1), .val (.int p2), .val (.int p3), .val (.int p4), .val (.int p5), .val (.int (3 : Int32)), .val (.int gg), .val (.ref b96), .val (.int d0), .val (.int d1), .val (.int d2), .unset, .unset, .unset, .unset, .unset, .unset, .unset, .unset, .unset, .unset, .unset, .unset, .unset] [(.int (2 : Int32)), (.int (3 : Int32))]
    have c142_112 : ¬ ((3 : Int32) = (2 : Int32)) := (by decide)
    refine own_st (fun _ k => XS.icmpYes X108.here hx rfl (pc0 := 142) (pc' := 163) rfl (hb hby at_142) rfl (feq c142_112).2 (by decide) (by decide) k) ?_
    show own_Go X108 (Q0 Z p0 p1 p2 p3 p4 p5 h0 n0) 3 11 163 #[.val (.int p0), .val (.int p1), .val (.int p2), .val (.int p3), .val (.int p4), .val (.int p5), .val (.int (3 : Int32)), .val (.int gg), .val (.ref b96), .val (.int d0), .val (.int d1), .val (.int d2), .unset, .unset, .unset, .unset, .unset, .unset, .unset, .unset, .unset, .unset, .unset, .unset, .unset] []
    refine own_st (fun _ k => XS.iconst X108.here hx rfl (hb hby at_163) k) ?_
    show own_Go X108 (Q0 Z p0 p1 p2 p3 p4 p5 h0 n0) 3 11 164 #[.val (.int p0), .val (.int p1), .val (.int p2), .val (.int p3), .val (.int p4), .val (.int p5), .val (.int (3 : Int32)), .val (.int gg), .val (.ref b96), .val (.int d0), .val (.int d1), .val (.int d2), .unset, .unset, .unset, .unset, .unset, .unset, .unset, .unset, .unset, .unset, .unset, .unset, .unset] [(.int (3 : Int32))]
    obtain ⟨T113, h113, k113, X113, e113, E113, A113, st113⟩ := newP X108 hx hZ (hw _ (List.mem_of_getElem? (i := 1) rfl)) e108 (g := (mkF m 164 #[.val (.int p0), .val (.int p1), .val (.int p2), .val (.int p3), .val (.int p4), .val (.int p5), .val (.int (3 : Int32)), .val (.int gg), .val (.ref b96), .val (.int d0), .val (.int d1), .val (.int d2), .unset, .unset, .unset, .unset, .unset, .unset, .unset, .unset, .unset, .unset, .unset, .unset, .unset] [(.int (3 : Int32))])) rfl (hb hby at_164) rfl (by decide) (cap := 3) (by decide) (by decide) (by decide) (by decide)
    obtain ⟨b113, g113⟩ : ∃ z, z = h108.size := ⟨_, rfl⟩
    rw [← g113] at A113 st113
    refine own_st st113 ?_
    have ne_114 := Nat.ne_of_lt (Nat.lt_of_lt_of_le VR.lt (Nat.le_of_eq g113.symm))
    have G_115 := Nat.le_trans Z_109 (Nat.le_of_eq g113.symm)
    have f_116 := VR.ext E113
    have Z_117 := Nat.le_trans Z_109 E113.1
    have V113 : Arv Z h113 b113 k113 .int (3 : Int32) [(.int (0 : Int32)), (.int (0 : Int32)), (.int (0 : Int32))] (.int (0 : Int32)) := (Arv.new A113 (by decide)).pad (pad_rep [] (.int (0 : Int32)) 3)
    show own_Go X113 (Q0 Z p0 p1 p2 p3 p4 p5 h0 n0) 3 11 166 #[.val (.int p0), .val (.int p1), .val (.int p2), .val (.int p3), .val (.int p4), .val (.int p5), .val (.int (3 : Int32)), .val (.int gg), .val (.ref b96), .val (.int d0), .val (.int d1), .val (.int d2), .unset, .unset, .unset, .unset, .unset, .unset, .unset, .unset, .unset, .unset, .unset, .unset, .unset] [(.ref b113)]
    refine own_st (fun _ k => XS.dup X113.here hx rfl (hb hby at_166) rfl rfl k) ?_
    show own_Go X113 (Q0 Z p0 p1 p2 p3 p4 p5 h0 n0) 3 11 167 #[.val (.int p0), .val (.int p1), .val (.int p2), .val (.int p3), .val (.int p4), .val (.int p5), .val (.int (3 : Int32)), .val (.int gg), .val (.ref b96), .val (.int d0), .val (.int d1), .val (.int d2), .unset, .unset, .unset, .unset, .unset, .unset, .unset, .unset, .unset, .unset, .unset, .unset, .unset] [(.ref b113), (.ref b113)]
    refine own_st (fun _ k => XS.iconst X113.here hx rfl (hb hby at_167) k) ?_
    show own_Go X113 (Q0 Z p0 p1 p2 p3 p4 p5 h0 n0) 3 11 168 #[.val (.int p0), .val (.int p1), .val (.int p2), .val (.int p3), .val (.int p4), .val (.int p5), .val (.int (3 : Int32)), .val (.int gg), .val (.ref b96), .val (.int d0), .val (.int d1), .val (.int d2), .unset, .unset, .unset, .unset, .unset, .unset, .unset, .unset, .unset, .unset, .unset, .unset, .unset] [(.int (0 : Int32)), (.ref b113), (.ref b113)]
    refine own_st (fun _ k => XS.iload X113.here hx rfl (hb hby at_168) rfl k) ?_
    show own_Go X113 (Q0 Z p0 p1 p2 p3 p4 p5 h0 n0) 3 11 170 #[.val (.int p0), .val (.int p1), .val (.int p2), .val (.int p3), .val (.int p4), .val (.int p5), .val (.int (3 : Int32)), .val (.int gg), .val (.ref b96), .val (.int d0), .val (.int d1), .val (.int d2), .unset, .unset, .unset, .unset, .unset, .unset, .unset, .unset, .unset, .unset, .unset, .unset, .unset] [(.int d0), (.int (0 : Int32)), (.ref b113), (.ref b113)]
    obtain ⟨T118, h118, X118, e118, W118, V118, st118⟩ := own_stI X113 hx hZ e113 V113 (j := (0 : Int32)) ⟨by decide, by decide⟩ (Nat.le_of_ble_eq_true rfl) (g := (mkF m 170 #[.val (.int p0), .val (.int p1), .val (.int p2), .val (.int p3), .val (.int p4), .val (.int p5), .val (.int (3 : Int32)), .val (.int gg), .val (.ref b96), .val (.int d0), .val (.int d1), .val (.int d2), .unset, .unset, .unset, .unset, .unset, .unset, .unset, .unset, .unset, .unset, .unset, .unset, .unset] [(.int d0), (.int (0 : Int32)), (.ref b113), (.ref b113)])) rfl rfl (hb hby at_170)
    refine own_st st118 ?_
    have f_119 := f_116.other W118 ne_114
    have Z_120 := Nat.le_trans Z_117 (Nat.le_of_eq W118.size.symm)
    have U118 : Arv Z h118 b113 k113 .int (3 : Int32) [(.int d0), (.int (0 : Int32)), (.int (0 : Int32))] (.int (0 : Int32)) := V118
    have N_121 := Fr.snoc X118 N_110 G_115
    show own_Go X118 (Q0 Z p0 p1 p2 p3 p4 p5 h0 n0) 3 11 171 #[.val (.int p0), .val (.int p1), .val (.int p2), .val (.int p3), .val (.int p4), .val (.int p5), .val (.int (3 : Int32)), .val (.int gg), .val (.ref b96), .val (.int d0), .val (.int d1), .val (.int d2), .unset, .unset, .unset, .unset, .unset, .unset, .unset, .unset, .unset, .unset, .unset, .unset, .unset] [(.ref b113)]
    refine own_st (fun _ k => XS.dup X118.here hx rfl (hb hby at_171) rfl rfl k) ?_
    show own_Go X118 (Q0 Z p0 p1 p2 p3 p4 p5 h0 n0) 3 11 172 #[.val (.int p0), .val (.int p1), .val (.int p2), .val (.int p3), .val (.int p4), .val (.int p5), .val (.int (3 : Int32)), .val (.int gg), .val (.ref b96), .val (.int d0), .val (.int d1), .val (.int d2), .unset, .unset, .unset, .unset, .unset, .unset, .unset, .unset, .unset, .unset, .unset, .unset, .unset] [(.ref b113), (.ref b113)]
    refine own_st (fun _ k => XS.iconst X118.here hx rfl (hb hby at_172) k) ?_
    show own_Go X118 (Q0 Z p0 p1 p2 p3 p4 p5 h0 n0) 3 11 173 #[.val (.int p0), .val (.int p1), .val (.int p2), .val (.int p3), .val (.int p4), .val (.int p5), .val (.int (3 : Int32)), .val (.int gg), .val (.ref b96), .val (.int d0), .val (.int d1), .val (.int d2), .unset, .unset, .unset, .unset, .unset, .unset, .unset, .unset, .unset, .unset, .unset, .unset, .unset] [(.int (1 : Int32)), (.ref b113), (.ref b113)]
    refine own_st (fun _ k => XS.iload X118.here hx rfl (hb hby at_173) rfl k) ?_
    show own_Go X118 (Q0 Z p0 p1 p2 p3 p4 p5 h0 n0) 3 11 175 #[.val (.int p0), .val (.int p1), .val (.int p2), .val (.int p3), .val (.int p4), .val (.int p5), .val (.int (3 : Int32)), .val (.int gg), .val (.ref b96), .val (.int d0), .val (.int d1), .val (.int d2), .unset, .unset, .unset, .unset, .unset, .unset, .unset, .unset, .unset, .unset, .unset, .unset, .unset] [(.int d1), (.int (1 : Int32)), (.ref b113), (.ref b113)]
    obtain ⟨T122, h122, X122, e122, W122, V122, st122⟩ := own_stI X118 hx hZ e118 U118 (j := (1 : Int32)) ⟨by decide, by decide⟩ (Nat.le_of_ble_eq_true rfl) (g := (mkF m 175 #[.val (.int p0), .val (.int p1), .val (.int p2), .val (.int p3), .val (.int p4), .val (.int p5), .val (.int (3 : Int32)), .val (.int gg), .val (.ref b96), .val (.int d0), .val (.int d1), .val (.int d2), .unset, .unset, .unset, .unset, .unset, .unset, .unset, .unset, .unset, .unset, .unset, .unset, .unset] [(.int d1), (.int (1 : Int32)), (.ref b113), (.ref b113)])) rfl rfl (hb hby at_175)
    refine own_st st122 ?_
    have f_123 := f_119.other W122 ne_114
    have Z_124 := Nat.le_trans Z_120 (Nat.le_of_eq W122.size.symm)
    have U122 : Arv Z h122 b113 k113 .int (3 : Int32) [(.int d0), (.int d1), (.int (0 : Int32))] (.int (0 : Int32)) := V122
    have N_125 := Fr.snoc X122 N_121 G_115
    show own_Go X122 (Q0 Z p0 p1 p2 p3 p4 p5 h0 n0) 3 11 176 #[.val (.int p0), .val (.int p1), .val (.int p2), .val (.int p3), .val (.int p4), .val (.int p5), .val (.int (3 : Int32)), .val (.int gg), .val (.ref b96), .val (.int d0), .val (.int d1), .val (.int d2), .unset, .unset, .unset, .unset, .unset, .unset, .unset, .unset, .unset, .unset, .unset, .unset, .unset] [(.ref b113)]
    refine own_st (fun _ k => XS.dup X122.here hx rfl (hb hby at_176) rfl rfl k) ?_
    show own_Go X122 (Q0 Z p0 p1 p2 p3 p4 p5 h0 n0) 3 11 177 #[.val (.int p0), .val (.int p1), .val (.int p2), .val (.int p3), .val (.int p4), .val (.int p5), .val (.int (3 : Int32)), .val (.int gg), .val (.ref b96), .val (.int d0), .val (.int d1), .val (.int d2), .unset, .unset, .unset, .unset, .unset, .unset, .unset, .unset, .unset, .unset, .unset, .unset, .unset] [(.ref b113), (.ref b113)]
    refine own_st (fun _ k => XS.iconst X122.here hx rfl (hb hby at_177) k) ?_
    show own_Go X122 (Q0 Z p0 p1 p2 p3 p4 p5 h0 n0) 3 11 178 #[.val (.int p0), .val (.int p1), .val (.int p2), .val (.int p3), .val (.int p4), .val (.int p5), .val (.int (3 : Int32)), .val (.int gg), .val (.ref b96), .val (.int d0), .val (.int d1), .val (.int d2), .unset, .unset, .unset, .unset, .unset, .unset, .unset, .unset, .unset, .unset, .unset, .unset, .unset] [(.int (2 : Int32)), (.ref b113), (.ref b113)]
    refine own_st (fun _ k => XS.iload X122.here hx rfl (hb hby at_178) rfl k) ?_
    show own_Go X122 (Q0 Z p0 p1 p2 p3 p4 p5 h0 n0) 3 11 180 #[.val (.int p0), .val (.int p1), .val (.int p2), .val (.int p3), .val (.int p4), .val (.int p5), .val (.int (3 : Int32)), .val (.int gg), .val (.ref b96), .val (.int d0), .val (.int d1), .val (.int d2), .unset, .unset, .unset, .unset, .unset, .unset, .unset, .unset, .unset, .unset, .unset, .unset, .unset] [(.int d2), (.int (2 : Int32)), (.ref b113), (.ref b113)]
    obtain ⟨T126, h126, X126, e126, W126, V126, st126⟩ := own_stI X122 hx hZ e122 U122 (j := (2 : Int32)) ⟨by decide, by decide⟩ (Nat.le_of_ble_eq_true rfl) (g := (mkF m 180 #[.val (.int p0), .val (.int p1), .val (.int p2), .val (.int p3), .val (.int p4), .val (.int p5), .val (.int (3 : Int32)), .val (.int gg), .val (.ref b96), .val (.int d0), .val (.int d1), .val (.int d2), .unset, .unset, .unset, .unset, .unset, .unset, .unset, .unset, .unset, .unset, .unset, .unset, .unset] [(.int d2), (.int (2 : Int32)), (.ref b113), (.ref b113)])) rfl rfl (hb hby at_180)
    refine own_st st126 ?_
    have f_127 := f_123.other W126 ne_114
    have Z_128 := Nat.le_trans Z_124 (Nat.le_of_eq W126.size.symm)
    have U126 : Arv Z h126 b113 k113 .int (3 : Int32) [(.int d0), (.int d1), (.int d2)] (.int (0 : Int32)) := V126
    have N_129 := Fr.snoc X126 N_125 G_115
    show own_Go X126 (Q0 Z p0 p1 p2 p3 p4 p5 h0 n0) 3 11 181 #[.val (.int p0), .val (.int p1), .val (.int p2), .val (.int p3), .val (.int p4), .val (.int p5), .val (.int (3 : Int32)), .val (.int gg), .val (.ref b96), .val (.int d0), .val (.int d1), .val (.int d2), .unset, .unset, .unset, .unset, .unset, .unset, .unset, .unset, .unset, .unset, .unset, .unset, .unset] [(.ref b113)]
    refine own_st (fun _ k => XS.astore X126.here hx rfl (hb hby at_181) rfl rfl (l' := #[.val (.int p0), .val (.int p1), .val (.int p2), .val (.int p3), .val (.int p4), .val (.int p5), .val (.int (3 : Int32)), .val (.int gg), .val (.ref b96), .val (.int d0), .val (.int d1), .val (.int d2), .val (.ref b113), .unset, .unset, .unset, .unset, .unset, .unset, .unset, .unset, .unset, .unset, .unset, .unset]) rfl k) ?_
    show own_Go X126 (Q0 Z p0 p1 p2 p3 p4 p5 h0 n0) 3 11 183 #[.val (.int p0), .val (.int p1), .val (.int p2), .val (.int p3), .val (.int p4), .val (.int p5), .val (.int (3 : Int32)), .val (.int gg), .val (.ref b96), .val (.int d0), .val (.int d1), .val (.int d2), .val (.ref b113), .unset, .unset, .unset, .unset, .unset, .unset, .unset, .unset, .unset, .unset, .unset, .unset] []
    have q1 : (own_pw1 gg).toInt = gg.toInt := own_p1 gg
    have u2 := own_ub2 (a := gg.toInt) (b := gg.toInt) (A := 1025) (B := 1025) (by omega) (by omega) hG.2 hG.2
    have v2 := own_pos2 (a := gg.toInt) (b := gg.toInt) (by omega) (by omega)
    have q2 : (own_pw2 gg).toInt = gg.toInt * gg.toInt := own_mulx q1 v2 (by omega)
    have u3 := own_ub2 (a := gg.toInt * gg.toInt) (b := gg.toInt) (A := 1025 * 1025) (B := 1025) v2 (by omega) u2 hG.2
    have v3 := own_pos2 (a := gg.toInt * gg.toInt) (b := gg.toInt) v2 (by omega)
    have q3 : (own_pw3 gg).toInt = gg.toInt * gg.toInt * gg.toInt := own_mulx q2 v3 (by omega)
    obtain ⟨T130, h130, X130, e130, E130, A130, D130, -, st130⟩ := newO X126 hx hZ hown (hw _ (List.mem_of_getElem? (i := 3) rfl)) (hw _ (List.mem_of_getElem? (i := 4) rfl)) (hw _ (List.mem_of_getElem? (i := 5) rfl)) e126 (g := (mkF m 183 #[.val (.int p0), .val (.int p1), .val (.int p2), .val (.int p3), .val (.int p4), .val (.int p5), .val (.int (3 : Int32)), .val (.int gg), .val (.ref b96), .val (.int d0), .val (.int d1), .val (.int d2), .val (.ref b113), .unset, .unset, .unset, .unset, .unset, .unset, .unset, .unset, .unset, .unset, .unset, .unset] [])) rfl (hb hby at_183) (by decide) (by decide)
    obtain ⟨b130, g130⟩ : ∃ z, z = h126.size := ⟨_, rfl⟩
    rw [← g130] at A130 D130 st130
    refine own_st st130 ?_
    have ne_131 := Nat.ne_of_lt (Nat.lt_of_lt_of_le f_127.lt (Nat.le_of_eq g130.symm))
    have ne_132 := Nat.ne_of_lt (Nat.lt_of_lt_of_le U126.lt (Nat.le_of_eq g130.symm))
    have G_133 := Nat.le_trans Z_128 (Nat.le_of_eq g130.symm)
    have f_134 := f_127.ext E130
    have f_135 := U126.ext E130
    have Z_136 := Nat.le_trans Z_128 E130.1
    have F_rows_130 : Fld Z h130 b130 "com/example/gingham/gingham/designs/CoveringArraySpec" "rows" "I" (.int (0 : Int32)) := D130 (Or.inr (hw _ (List.mem_of_getElem? (i := 22) rfl))) (ty := .int) (by decide)
    have F_strength_130 : Fld Z h130 b130 "com/example/gingham/gingham/designs/CoveringArraySpec" "strength" "I" (.int (0 : Int32)) := D130 (Or.inr (hw _ (List.mem_of_getElem? (i := 24) rfl))) (ty := .int) (by decide)
    have F_columns_130 : Fld Z h130 b130 "com/example/gingham/gingham/designs/CoveringArraySpec" "columns" "I" (.int (0 : Int32)) := D130 (Or.inr (hw _ (List.mem_of_getElem? (i := 26) rfl))) (ty := .int) (by decide)
    have F_levels_130 : Fld Z h130 b130 "com/example/gingham/gingham/designs/CoveringArraySpec" "levels" "I" (.int (0 : Int32)) := D130 (Or.inr (hw _ (List.mem_of_getElem? (i := 28) rfl))) (ty := .int) (by decide)
    show own_Go X130 (Q0 Z p0 p1 p2 p3 p4 p5 h0 n0) 3 11 186 #[.val (.int p0), .val (.int p1), .val (.int p2), .val (.int p3), .val (.int p4), .val (.int p5), .val (.int (3 : Int32)), .val (.int gg), .val (.ref b96), .val (.int d0), .val (.int d1), .val (.int d2), .val (.ref b113), .unset, .unset, .unset, .unset, .unset, .unset, .unset, .unset, .unset, .unset, .unset, .unset] [(.ref b130)]
    refine own_st (fun _ k => XS.dup X130.here hx rfl (hb hby at_186) rfl rfl k) ?_
    show own_Go X130 (Q0 Z p0 p1 p2 p3 p4 p5 h0 n0) 3 11 187 #[.val (.int p0), .val (.int p1), .val (.int p2), .val (.int p3), .val (.int p4), .val (.int p5), .val (.int (3 : Int32)), .val (.int gg), .val (.ref b96), .val (.int d0), .val (.int d1), .val (.int d2), .val (.ref b113), .unset, .unset, .unset, .unset, .unset, .unset, .unset, .unset, .unset, .unset, .unset, .unset] [(.ref b130), (.ref b130)]
    refine own_st (fun _ k => XS.iconst X130.here hx rfl (hb hby at_187) k) ?_
    show own_Go X130 (Q0 Z p0 p1 p2 p3 p4 p5 h0 n0) 3 11 188 #[.val (.int p0), .val (.int p1), .val (.int p2), .val (.int p3), .val (.int p4), .val (.int p5), .val (.int (3 : Int32)), .val (.int gg), .val (.ref b96), .val (.int d0), .val (.int d1), .val (.int d2), .val (.ref b113), .unset, .unset, .unset, .unset, .unset, .unset, .unset, .unset, .unset, .unset, .unset, .unset] [(.int (1 : Int32)), (.ref b130), (.ref b130)]
    refine own_st (fun _ k => XS.iload X130.here hx rfl (hb hby at_188) rfl k) ?_
    show own_Go X130 (Q0 Z p0 p1 p2 p3 p4 p5 h0 n0) 3 11 190 #[.val (.int p0), .val (.int p1), .val (.int p2), .val (.int p3), .val (.int p4), .val (.int p5), .val (.int (3 : Int32)), .val (.int gg), .val (.ref b96), .val (.int d0), .val (.int d1), .val (.int d2), .val (.ref b113), .unset, .unset, .unset, .unset, .unset, .unset, .unset, .unset, .unset, .unset, .unset, .unset] [(.int (3 : Int32)), (.int (1 : Int32)), (.ref b130), (.ref b130)]
    refine own_st (fun _ k => XS.iconst X130.here hx rfl (hb hby at_190) k) ?_
    show own_Go X130 (Q0 Z p0 p1 p2 p3 p4 p5 h0 n0) 3 11 191 #[.val (.int p0), .val (.int p1), .val (.int p2), .val (.int p3), .val (.int p4), .val (.int p5), .val (.int (3 : Int32)), .val (.int gg), .val (.ref b96), .val (.int d0), .val (.int d1), .val (.int d2), .val (.ref b113), .unset, .unset, .unset, .unset, .unset, .unset, .unset, .unset, .unset, .unset, .unset, .unset] [(.int (4 : Int32)), (.int (3 : Int32)), (.int (1 : Int32)), (.ref b130), (.ref b130)]
    refine own_st (fun _ k => XS.iload X130.here hx rfl (hb hby at_191) rfl k) ?_
    show own_Go X130 (Q0 Z p0 p1 p2 p3 p4 p5 h0 n0) 3 11 193 #[.val (.int p0), .val (.int p1), .val (.int p2), .val (.int p3), .val (.int p4), .val (.int p5), .val (.int (3 : Int32)), .val (.int gg), .val (.ref b96), .val (.int d0), .val (.int d1), .val (.int d2), .val (.ref b113), .unset, .unset, .unset, .unset, .unset, .unset, .unset, .unset, .unset, .unset, .unset, .unset] [(.int gg), (.int (4 : Int32)), (.int (3 : Int32)), (.int (1 : Int32)), (.ref b130), (.ref b130)]
    refine own_callI (W := 1) X130 hx hZ hown (hw _ (List.mem_of_getElem? (i := 6) rfl)) (hw _ (List.mem_of_getElem? (i := 7) rfl)) (hw _ (List.mem_of_getElem? (i := 5) rfl)) (hw _ (List.mem_of_getElem? (i := 8) rfl)) rfl (by decide) (rm13 l Z a0 hw [] b130 gg h130 n0 Z_136 A130 G_133 F_rows_130 F_strength_130 F_columns_130 F_levels_130 (own_le64 q1 (by omega)) (own_le64 q2 (by omega)) (own_le64 q3 (by omega)) (own_nn32 q3 (by omega) (by omega)) (own_g2 hG.1)) (by decide) (by decide) (by rw [hml]; rfl) b130 [(.int (1 : Int32)), (.int (3 : Int32)), (.int (4 : Int32)), (.int gg)] [(.ref b130)] (lenOf pd_0_0 rfl) rfl rfl (Nat.le_of_ble_eq_true rfl) (hb hby at_193) e130 (by decide) (by decide) ?_
    rintro _ T137 L137 X137 ⟨rfl, N137q, K137q, F137_rows, F137_strength, F137_columns, F137_levels⟩
    have N_138 := Fr.app N_129 N137q
    have f_139 := f_134.keep K137q (ninS ne_131 nin0)
    have f_140 := f_135.keep K137q (ninS ne_132 nin0)
    have f_141 := A130.keep K137q
    have Z_142 := Nat.le_trans Z_136 K137q.1
    show own_Go X137 (Q0 Z p0 p1 p2 p3 p4 p5 h0 n0) 3 11 196 #[.val (.int p0), .val (.int p1), .val (.int p2), .val (.int p3), .val (.int p4), .val (.int p5), .val (.int (3 : Int32)), .val (.int gg), .val (.ref b96), .val (.int d0), .val (.int d1), .val (.int d2), .val (.ref b113), .unset, .unset, .unset, .unset, .unset, .unset, .unset, .unset, .unset, .unset, .unset, .unset] [(.ref b130)]
    refine own_st (fun _ k => XS.astore X137.here hx rfl (hb hby at_196) rfl rfl (l' := #[.val (.int p0), .val (.int p1), .val (.int p2), .val (.int p3), .val (.int p4), .val (.int p5), .val (.int (3 : Int32)), .val (.int gg), .val (.ref b96), .val (.int d0), .val (.int d1), .val (.int d2), .val (.ref b113), .val (.ref b130), .unset, .unset, .unset, .unset, .unset, .unset, .unset, .unset, .unset, .unset, .unset]) rfl k) ?_
    show own_Go X137 (Q0 Z p0 p1 p2 p3 p4 p5 h0 n0) 3 11 198 #[.val (.int p0), .val (.int p1), .val (.int p2), .val (.int p3), .val (.int p4), .val (.int p5), .val (.int (3 : Int32)), .val (.int gg), .val (.ref b96), .val (.int d0), .val (.int d1), .val (.int d2), .val (.ref b113), .val (.ref b130), .unset, .unset, .unset, .unset, .unset, .unset, .unset, .unset, .unset, .unset, .unset] []
    refine own_st (fun _ k => XS.aload X137.here hx rfl (hb hby at_198) rfl rfl k) ?_
    show own_Go X137 (Q0 Z p0 p1 p2 p3 p4 p5 h0 n0) 3 11 200 #[.val (.int p0), .val (.int p1), .val (.int p2), .val (.int p3), .val (.int p4), .val (.int p5), .val (.int (3 : Int32)), .val (.int gg), .val (.ref b96), .val (.int d0), .val (.int d1), .val (.int d2), .val (.ref b113), .val (.ref b130), .unset, .unset, .unset, .unset, .unset, .unset, .unset, .unset, .unset, .unset, .unset] [(.ref b96)]
    refine own_st (fun _ k => XS.iload X137.here hx rfl (hb hby at_200) rfl k) ?_
    show own_Go X137 (Q0 Z p0 p1 p2 p3 p4 p5 h0 n0) 3 11 202 #[.val (.int p0), .val (.int p1), .val (.int p2), .val (.int p3), .val (.int p4), .val (.int p5), .val (.int (3 : Int32)), .val (.int gg), .val (.ref b96), .val (.int d0), .val (.int d1), .val (.int d2), .val (.ref b113), .val (.ref b130), .unset, .unset, .unset, .unset, .unset, .unset, .unset, .unset, .unset, .unset, .unset] [(.int d0), (.ref b96)]
    refine own_st (fun _ k => own_ldI X137 hx hZ (Eq.refl T137.heap) f_139 (j := d0) (own_c3 hd0) (v := (.int (own_at4 y0 y1 y2 y3 d0))) (own_getD4 (own_c3 hd0)) (g := (mkF m 202 #[.val (.int p0), .val (.int p1), .val (.int p2), .val (.int p3), .val (.int p4), .val (.int p5), .val (.int (3 : Int32)), .val (.int gg), .val (.ref b96), .val (.int d0), .val (.int d1), .val (.int d2), .val (.ref b113), .val (.ref b130), .unset, .unset, .unset, .unset, .unset, .unset, .unset, .unset, .unset, .unset, .unset] [(.int d0), (.ref b96)])) rfl rfl (hb hby at_202) _ k) ?_
    show own_Go X137 (Q0 Z p0 p1 p2 p3 p4 p5 h0 n0) 3 11 203 #[.val (.int p0), .val (.int p1), .val (.int p2), .val (.int p3), .val (.int p4), .val (.int p5), .val (.int (3 : Int32)), .val (.int gg), .val (.ref b96), .val (.int d0), .val (.int d1), .val (.int d2), .val (.ref b113), .val (.ref b130), .unset, .unset, .unset, .unset, .unset, .unset, .unset, .unset, .unset, .unset, .unset] [(.int (own_at4 y0 y1 y2 y3 d0))]
    refine own_st (fun _ k => XS.i2l X137.here hx rfl (hb hby at_203) rfl k) ?_
    show own_Go X137 (Q0 Z p0 p1 p2 p3 p4 p5 h0 n0) 3 11 204 #[.val (.int p0), .val (.int p1), .val (.int p2), .val (.int p3), .val (.int p4), .val (.int p5), .val (.int (3 : Int32)), .val (.int gg), .val (.ref b96), .val (.int d0), .val (.int d1), .val (.int d2), .val (.ref b113), .val (.ref b130), .unset, .unset, .unset, .unset, .unset, .unset, .unset, .unset, .unset, .unset, .unset] [(.long ((own_at4 y0 y1 y2 y3 d0).toInt64))]
    refine own_st (fun _ k => XS.lstore X137.here hx rfl (hb hby at_204) rfl (l' := #[.val (.int p0), .val (.int p1), .val (.int p2), .val (.int p3), .val (.int p4), .val (.int p5), .val (.int (3 : Int32)), .val (.int gg), .val (.ref b96), .val (.int d0), .val (.int d1), .val (.int d2), .val (.ref b113), .val (.ref b130), .val (.long ((own_at4 y0 y1 y2 y3 d0).toInt64)), .second, .unset, .unset, .unset, .unset, .unset, .unset, .unset, .unset, .unset]) rfl k) ?_
    show own_Go X137 (Q0 Z p0 p1 p2 p3 p4 p5 h0 n0) 3 11 206 #[.val (.int p0), .val (.int p1), .val (.int p2), .val (.int p3), .val (.int p4), .val (.int p5), .val (.int (3 : Int32)), .val (.int gg), .val (.ref b96), .val (.int d0), .val (.int d1), .val (.int d2), .val (.ref b113), .val (.ref b130), .val (.long ((own_at4 y0 y1 y2 y3 d0).toInt64)), .second, .unset, .unset, .unset, .unset, .unset, .unset, .unset, .unset, .unset] []
    refine own_st (fun _ k => XS.aload X137.here hx rfl (hb hby at_206) rfl rfl k) ?_
    show own_Go X137 (Q0 Z p0 p1 p2 p3 p4 p5 h0 n0) 3 11 208 #[.val (.int p0), .val (.int p1), .val (.int p2), .val (.int p3), .val (.int p4), .val (.int p5), .val (.int (3 : Int32)), .val (.int gg), .val (.ref b96), .val (.int d0), .val (.int d1), .val (.int d2), .val (.ref b113), .val (.ref b130), .val (.long ((own_at4 y0 y1 y2 y3 d0).toInt64)), .second, .unset, .unset, .unset, .unset, .unset, .unset, .unset, .unset, .unset] [(.ref b96)]
    refine own_st (fun _ k => XS.iload X137.here hx rfl (hb hby at_208) rfl k) ?_
    show own_Go X137 (Q0 Z p0 p1 p2 p3 p4 p5 h0 n0) 3 11 210 #[.val (.int p0), .val (.int p1), .val (.int p2), .val (.int p3), .val (.int p4), .val (.int p5), .val (.int (3 : Int32)), .val (.int gg), .val (.ref b96), .val (.int d0), .val (.int d1), .val (.int d2), .val (.ref b113), .val (.ref b130), .val (.long ((own_at4 y0 y1 y2 y3 d0).toInt64)), .second, .unset, .unset, .unset, .unset, .unset, .unset, .unset, .unset, .unset] [(.int d1), (.ref b96)]
    refine own_st (fun _ k => own_ldI X137 hx hZ (Eq.refl T137.heap) f_139 (j := d1) (own_c3 hd1) (v := (.int (own_at4 y0 y1 y2 y3 d1))) (own_getD4 (own_c3 hd1)) (g := (mkF m 210 #[.val (.int p0), .val (.int p1), .val (.int p2), .val (.int p3), .val (.int p4), .val (.int p5), .val (.int (3 : Int32)), .val (.int gg), .val (.ref b96), .val (.int d0), .val (.int d1), .val (.int d2), .val (.ref b113), .val (.ref b130), .val (.long ((own_at4 y0 y1 y2 y3 d0).toInt64)), .second, .unset, .unset, .unset, .unset, .unset, .unset, .unset, .unset, .unset] [(.int d1), (.ref b96)])) rfl rfl (hb hby at_210) _ k) ?_
    show own_Go X137 (Q0 Z p0 p1 p2 p3 p4 p5 h0 n0) 3 11 211 #[.val (.int p0), .val (.int p1), .val (.int p2), .val (.int p3), .val (.int p4), .val (.int p5), .val (.int (3 : Int32)), .val (.int gg), .val (.ref b96), .val (.int d0), .val (.int d1), .val (.int d2), .val (.ref b113), .val (.ref b130), .val (.long ((own_at4 y0 y1 y2 y3 d0).toInt64)), .second, .unset, .unset, .unset, .unset, .unset, .unset, .unset, .unset, .unset] [(.int (own_at4 y0 y1 y2 y3 d1))]
    refine own_st (fun _ k => XS.i2l X137.here hx rfl (hb hby at_211) rfl k) ?_
    show own_Go X137 (Q0 Z p0 p1 p2 p3 p4 p5 h0 n0) 3 11 212 #[.val (.int p0), .val (.int p1), .val (.int p2), .val (.int p3), .val (.int p4), .val (.int p5), .val (.int (3 : Int32)), .val (.int gg), .val (.ref b96), .val (.int d0), .val (.int d1), .val (.int d2), .val (.ref b113), .val (.ref b130), .val (.long ((own_at4 y0 y1 y2 y3 d0).toInt64)), .second, .unset, .unset, .unset, .unset, .unset, .unset, .unset, .unset, .unset] [(.long ((own_at4 y0 y1 y2 y3 d1).toInt64))]
    refine own_st (fun _ k => XS.lstore X137.here hx rfl (hb hby at_212) rfl (l' := #[.val (.int p0), .val (.int p1), .val (.int p2), .val (.int p3), .val (.int p4), .val (.int p5), .val (.int (3 : Int32)), .val (.int gg), .val (.ref b96), .val (.int d0), .val (.int d1), .val (.int d2), .val (.ref b113), .val (.ref b130), .val (.long ((own_at4 y0 y1 y2 y3 d0).toInt64)), .second, .val (.long ((own_at4 y0 y1 y2 y3 d1).toInt64)), .second, .unset, .unset, .unset, .unset, .unset, .unset, .unset]) rfl k) ?_
    show own_Go X137 (Q0 Z p0 p1 p2 p3 p4 p5 h0 n0) 3 11 214 #[.val (.int p0), .val (.int p1), .val (.int p2), .val (.int p3), .val (.int p4), .val (.int p5), .val (.int (3 : Int32)), .val (.int gg), .val (.ref b96), .val (.int d0), .val (.int d1), .val (.int d2), .val (.ref b113), .val (.ref b130), .val (.long ((own_at4 y0 y1 y2 y3 d0).toInt64)), .second, .val (.long ((own_at4 y0 y1 y2 y3 d1).toInt64)), .second, .unset, .unset, .unset, .unset, .unset, .unset, .unset] []
    refine own_st (fun _ k => XS.aload X137.here hx rfl (hb hby at_214) rfl rfl k) ?_
    show own_Go X137 (Q0 Z p0 p1 p2 p3 p4 p5 h0 n0) 3 11 216 #[.val (.int p0), .val (.int p1), .val (.int p2), .val (.int p3), .val (.int p4), .val (.int p5), .val (.int (3 : Int32)), .val (.int gg), .val (.ref b96), .val (.int d0), .val (.int d1), .val (.int d2), .val (.ref b113), .val (.ref b130), .val (.long ((own_at4 y0 y1 y2 y3 d0).toInt64)), .second, .val (.long ((own_at4 y0 y1 y2 y3 d1).toInt64)), .second, .unset, .unset, .unset, .unset, .unset, .unset, .unset] [(.ref b96)]
    refine own_st (fun _ k => XS.iload X137.here hx rfl (hb hby at_216) rfl k) ?_
    show own_Go X137 (Q0 Z p0 p1 p2 p3 p4 p5 h0 n0) 3 11 218 #[.val (.int p0), .val (.int p1), .val (.int p2), .val (.int p3), .val (.int p4), .val (.int p5), .val (.int (3 : Int32)), .val (.int gg), .val (.ref b96), .val (.int d0), .val (.int d1), .val (.int d2), .val (.ref b113), .val (.ref b130), .val (.long ((own_at4 y0 y1 y2 y3 d0).toInt64)), .second, .val (.long ((own_at4 y0 y1 y2 y3 d1).toInt64)), .second, .unset, .unset, .unset, .unset, .unset, .unset, .unset] [(.int d2), (.ref b96)]
    refine own_st (fun _ k => own_ldI X137 hx hZ (Eq.refl T137.heap) f_139 (j := d2) (own_c3 hd2) (v := (.int (own_at4 y0 y1 y2 y3 d2))) (own_getD4 (own_c3 hd2)) (g := (mkF m 218 #[.val (.int p0), .val (.int p1), .val (.int p2), .val (.int p3), .val (.int p4), .val (.int p5), .val (.int (3 : Int32)), .val (.int gg), .val (.ref b96), .val (.int d0), .val (.int d1), .val (.int d2), .val (.ref b113), .val (.ref b130), .val (.long ((own_at4 y0 y1 y2 y3 d0).toInt64)), .second, .val (.long ((own_at4 y0 y1 y2 y3 d1).toInt64)), .second, .unset, .unset, .unset, .unset, .unset, .unset, .unset] [(.int d2), (.ref b96)])) rfl rfl (hb hby at_218) _ k) ?_
    show own_Go X137 (Q0 Z p0 p1 p2 p3 p4 p5 h0 n0) 3 11 219 #[.val (.int p0), .val (.int p1), .val (.int p2), .val (.int p3), .val (.int p4), .val (.int p5), .val (.int (3 : Int32)), .val (.int gg), .val (.ref b96), .val (.int d0), .val (.int d1), .val (.int d2), .val (.ref b113), .val (.ref b130), .val (.long ((own_at4 y0 y1 y2 y3 d0).toInt64)), .second, .val (.long ((own_at4 y0 y1 y2 y3 d1).toInt64)), .second, .unset, .unset, .unset, .unset, .unset, .unset, .unset] [(.int (own_at4 y0 y1 y2 y3 d2))]
    refine own_st (fun _ k => XS.i2l X137.here hx rfl (hb hby at_219) rfl k) ?_
    show own_Go X137 (Q0 Z p0 p1 p2 p3 p4 p5 h0 n0) 3 11 220 #[.val (.int p0), .val (.int p1), .val (.int p2), .val (.int p3), .val (.int p4), .val (.int p5), .val (.int (3 : Int32)), .val (.int gg), .val (.ref b96), .val (.int d0), .val (.int d1), .val (.int d2), .val (.ref b113), .val (.ref b130), .val (.long ((own_at4 y0 y1 y2 y3 d0).toInt64)), .second, .val (.long ((own_at4 y0 y1 y2 y3 d1).toInt64)), .second, .unset, .unset, .unset, .unset, .unset, .unset, .unset] [(.long ((own_at4 y0 y1 y2 y3 d2).toInt64))]
    refine own_st (fun _ k => XS.lstore X137.here hx rfl (hb hby at_220) rfl (l' := #[.val (.int p0), .val (.int p1), .val (.int p2), .val (.int p3), .val (.int p4), .val (.int p5), .val (.int (3 : Int32)), .val (.int gg), .val (.ref b96), .val (.int d0), .val (.int d1), .val (.int d2), .val (.ref b113), .val (.ref b130), .val (.long ((own_at4 y0 y1 y2 y3 d0).toInt64)), .second, .val (.long ((own_at4 y0 y1 y2 y3 d1).toInt64)), .second, .val (.long ((own_at4 y0 y1 y2 y3 d2).toInt64)), .second, .unset, .unset, .unset, .unset, .unset]) rfl k) ?_
    show own_Go X137 (Q0 Z p0 p1 p2 p3 p4 p5 h0 n0) 3 11 222 #[.val (.int p0), .val (.int p1), .val (.int p2), .val (.int p3), .val (.int p4), .val (.int p5), .val (.int (3 : Int32)), .val (.int gg), .val (.ref b96), .val (.int d0), .val (.int d1), .val (.int d2), .val (.ref b113), .val (.ref b130), .val (.long ((own_at4 y0 y1 y2 y3 d0).toInt64)), .second, .val (.long ((own_at4 y0 y1 y2 y3 d1).toInt64)), .second, .val (.long ((own_at4 y0 y1 y2 y3 d2).toInt64)), .second, .unset, .unset, .unset, .unset, .unset] []
    refine own_st (fun _ k => XS.iload X137.here hx rfl (hb hby at_222) rfl k) ?_
    show own_Go X137 (Q0 Z p0 p1 p2 p3 p4 p5 h0 n0) 3 11 224 #[.val (.int p0), .val (.int p1), .val (.int p2), .val (.int p3), .val (.int p4), .val (.int p5), .val (.int (3 : Int32)), .val (.int gg), .val (.ref b96), .val (.int d0), .val (.int d1), .val (.int d2), .val (.ref b113), .val (.ref b130), .val (.long ((own_at4 y0 y1 y2 y3 d0).toInt64)), .second, .val (.long ((own_at4 y0 y1 y2 y3 d1).toInt64)), .second, .val (.long ((own_at4 y0 y1 y2 y3 d2).toInt64)), .second, .unset, .unset, .unset, .unset, .unset] [(.int gg)]
    refine own_st (fun _ k => XS.i2l X137.here hx rfl (hb hby at_224) rfl k) ?_
    show own_Go X137 (Q0 Z p0 p1 p2 p3 p4 p5 h0 n0) 3 11 225 #[.val (.int p0), .val (.int p1), .val (.int p2), .val (.int p3), .val (.int p4), .val (.int p5), .val (.int (3 : Int32)), .val (.int gg), .val (.ref b96), .val (.int d0), .val (.int d1), .val (.int d2), .val (.ref b113), .val (.ref b130), .val (.long ((own_at4 y0 y1 y2 y3 d0).toInt64)), .second, .val (.long ((own_at4 y0 y1 y2 y3 d1).toInt64)), .second, .val (.long ((own_at4 y0 y1 y2 y3 d2).toInt64)), .second, .unset, .unset, .unset, .unset, .unset] [(.long (gg.toInt64))]
    refine own_st (fun _ k => XS.lstore X137.here hx rfl (hb hby at_225) rfl (l' := #[.val (.int p0), .val (.int p1), .val (.int p2), .val (.int p3), .val (.int p4), .val (.int p5), .val (.int (3 : Int32)), .val (.int gg), .val (.ref b96), .val (.int d0), .val (.int d1), .val (.int d2), .val (.ref b113), .val (.ref b130), .val (.long ((own_at4 y0 y1 y2 y3 d0).toInt64)), .second, .val (.long ((own_at4 y0 y1 y2 y3 d1).toInt64)), .second, .val (.long ((own_at4 y0 y1 y2 y3 d2).toInt64)), .second, .val (.long (gg.toInt64)), .second, .unset, .unset, .unset]) rfl k) ?_
    show own_Go X137 (Q0 Z p0 p1 p2 p3 p4 p5 h0 n0) 3 11 227 #[.val (.int p0), .val (.int p1), .val (.int p2), .val (.int p3), .val (.int p4), .val (.int p5), .val (.int (3 : Int32)), .val (.int gg), .val (.ref b96), .val (.int d0), .val (.int d1), .val (.int d2), .val (.ref b113), .val (.ref b130), .val (.long ((own_at4 y0 y1 y2 y3 d0).toInt64)), .second, .val (.long ((own_at4 y0 y1 y2 y3 d1).toInt64)), .second, .val (.long ((own_at4 y0 y1 y2 y3 d2).toInt64)), .second, .val (.long (gg.toInt64)), .second, .unset, .unset, .unset] []
    refine own_st (fun _ k => XS.iload X137.here hx rfl (hb hby at_227) rfl k) ?_
    show own_Go X137 (Q0 Z p0 p1 p2 p3 p4 p5 h0 n0) 3 11 229 #[.val (.int p0), .val (.int p1), .val (.int p2), .val (.int p3), .val (.int p4), .val (.int p5), .val (.int (3 : Int32)), .val (.int gg), .val (.ref b96), .val (.int d0), .val (.int d1), .val (.int d2), .val (.ref b113), .val (.ref b130), .val (.long ((own_at4 y0 y1 y2 y3 d0).toInt64)), .second, .val (.long ((own_at4 y0 y1 y2 y3 d1).toInt64)), .second, .val (.long ((own_at4 y0 y1 y2 y3 d2).toInt64)), .second, .val (.long (gg.toInt64)), .second, .unset, .unset, .unset] [(.int (3 : Int32))]
    refine own_st (fun _ k => XS.iconst X137.here hx rfl (hb hby at_229) k) ?_
    show own_Go X137 (Q0 Z p0 p1 p2 p3 p4 p5 h0 n0) 3 11 230 #[.val (.int p0), .val (.int p1), .val (.int p2), .val (.int p3), .val (.int p4), .val (.int p5), .val (.int (3 : Int32)), .val (.int gg), .val (.ref b96), .val (.int d0), .val (.int d1), .val (.int d2), .val (.ref b113), .val (.ref b130), .val (.long ((own_at4 y0 y1 y2 y3 d0).toInt64)), .second, .val (.long ((own_at4 y0 y1 y2 y3 d1).toInt64)), .second, .val (.long ((own_at4 y0 y1 y2 y3 d2).toInt64)), .second, .val (.long (gg.toInt64)), .second, .unset, .unset, .unset] [(.int (1 : Int32)), (.int (3 : Int32))]
    have c230_143 : ¬ ((3 : Int32) = (1 : Int32)) := (by decide)
    refine own_st (fun _ k => XS.icmpYes X137.here hx rfl (pc0 := 230) (pc' := 240) rfl (hb hby at_230) rfl (feq c230_143).2 (by decide) (by decide) k) ?_
    show own_Go X137 (Q0 Z p0 p1 p2 p3 p4 p5 h0 n0) 3 11 240 #[.val (.int p0), .val (.int p1), .val (.int p2), .val (.int p3), .val (.int p4), .val (.int p5), .val (.int (3 : Int32)), .val (.int gg), .val (.ref b96), .val (.int d0), .val (.int d1), .val (.int d2), .val (.ref b113), .val (.ref b130), .val (.long ((own_at4 y0 y1 y2 y3 d0).toInt64)), .second, .val (.long ((own_at4 y0 y1 y2 y3 d1).toInt64)), .second, .val (.long ((own_at4 y0 y1 y2 y3 d2).toInt64)), .second, .val (.long (gg.toInt64)), .second, .unset, .unset, .unset] []
    refine own_st (fun _ k => XS.iload X137.here hx rfl (hb hby at_240) rfl k) ?_
    show own_Go X137 (Q0 Z p0 p1 p2 p3 p4 p5 h0 n0) 3 11 242 #[.val (.int p0), .val (.int p1), .val (.int p2), .val (.int p3), .val (.int p4), .val (.int p5), .val (.int (3 : Int32)), .val (.int gg), .val (.ref b96), .val (.int d0), .val (.int d1), .val (.int d2), .val (.ref b113), .val (.ref b130), .val (.long ((own_at4 y0 y1 y2 y3 d0).toInt64)), .second, .val (.long ((own_at4 y0 y1 y2 y3 d1).toInt64)), .second, .val (.long ((own_at4 y0 y1 y2 y3 d2).toInt64)), .second, .val (.long (gg.toInt64)), .second, .unset, .unset, .unset] [(.int (3 : Int32))]
    refine own_st (fun _ k => XS.iconst X137.here hx rfl (hb hby at_242) k) ?_
    show own_Go X137 (Q0 Z p0 p1 p2 p3 p4 p5 h0 n0) 3 11 243 #[.val (.int p0), .val (.int p1), .val (.int p2), .val (.int p3), .val (.int p4), .val (.int p5), .val (.int (3 : Int32)), .val (.int gg), .val (.ref b96), .val (.int d0), .val (.int d1), .val (.int d2), .val (.ref b113), .val (.ref b130), .val (.long ((own_at4 y0 y1 y2 y3 d0).toInt64)), .second, .val (.long ((own_at4 y0 y1 y2 y3 d1).toInt64)), .second, .val (.long ((own_at4 y0 y1 y2 y3 d2).toInt64)), .second, .val (.long (gg.toInt64)), .second, .unset, .unset, .unset] [(.int (2 : Int32)), (.int (3 : Int32))]
    have c243_144 : ¬ ((3 : Int32) = (2 : Int32)) := (by decide)
    refine own_st (fun _ k => XS.icmpYes X137.here hx rfl (pc0 := 243) (pc' := 259) rfl (hb hby at_243) rfl (feq c243_144).2 (by decide) (by decide) k) ?_
    show own_Go X137 (Q0 Z p0 p1 p2 p3 p4 p5 h0 n0) 3 11 259 #[.val (.int p0), .val (.int p1), .val (.int p2), .val (.int p3), .val (.int p4), .val (.int p5), .val (.int (3 : Int32)), .val (.int gg), .val (.ref b96), .val (.int d0), .val (.int d1), .val (.int d2), .val (.ref b113), .val (.ref b130), .val (.long ((own_at4 y0 y1 y2 y3 d0).toInt64)), .second, .val (.long ((own_at4 y0 y1 y2 y3 d1).toInt64)), .second, .val (.long ((own_at4 y0 y1 y2 y3 d2).toInt64)), .second, .val (.long (gg.toInt64)), .second, .unset, .unset, .unset] []
    refine own_st (fun _ k => XS.lload X137.here hx rfl (hb hby at_259) rfl k) ?_
    show own_Go X137 (Q0 Z p0 p1 p2 p3 p4 p5 h0 n0) 3 11 261 #[.val (.int p0), .val (.int p1), .val (.int p2), .val (.int p3), .val (.int p4), .val (.int p5), .val (.int (3 : Int32)), .val (.int gg), .val (.ref b96), .val (.int d0), .val (.int d1), .val (.int d2), .val (.ref b113), .val (.ref b130), .val (.long ((own_at4 y0 y1 y2 y3 d0).toInt64)), .second, .val (.long ((own_at4 y0 y1 y2 y3 d1).toInt64)), .second, .val (.long ((own_at4 y0 y1 y2 y3 d2).toInt64)), .second, .val (.long (gg.toInt64)), .second, .unset, .unset, .unset] [(.long ((own_at4 y0 y1 y2 y3 d0).toInt64))]
    refine own_st (fun _ k => XS.lload X137.here hx rfl (hb hby at_261) rfl k) ?_
    show own_Go X137 (Q0 Z p0 p1 p2 p3 p4 p5 h0 n0) 3 11 263 #[.val (.int p0), .val (.int p1), .val (.int p2), .val (.int p3), .val (.int p4), .val (.int p5), .val (.int (3 : Int32)), .val (.int gg), .val (.ref b96), .val (.int d0), .val (.int d1), .val (.int d2), .val (.ref b113), .val (.ref b130), .val (.long ((own_at4 y0 y1 y2 y3 d0).toInt64)), .second, .val (.long ((own_at4 y0 y1 y2 y3 d1).toInt64)), .second, .val (.long ((own_at4 y0 y1 y2 y3 d2).toInt64)), .second, .val (.long (gg.toInt64)), .second, .unset, .unset, .unset] [(.long (gg.toInt64)), (.long ((own_at4 y0 y1 y2 y3 d0).toInt64))]
    refine own_st (fun _ k => XS.lmul X137.here hx rfl (hb hby at_263) rfl k) ?_
    show own_Go X137 (Q0 Z p0 p1 p2 p3 p4 p5 h0 n0) 3 11 264 #[.val (.int p0), .val (.int p1), .val (.int p2), .val (.int p3), .val (.int p4), .val (.int p5), .val (.int (3 : Int32)), .val (.int gg), .val (.ref b96), .val (.int d0), .val (.int d1), .val (.int d2), .val (.ref b113), .val (.ref b130), .val (.long ((own_at4 y0 y1 y2 y3 d0).toInt64)), .second, .val (.long ((own_at4 y0 y1 y2 y3 d1).toInt64)), .second, .val (.long ((own_at4 y0 y1 y2 y3 d2).toInt64)), .second, .val (.long (gg.toInt64)), .second, .unset, .unset, .unset] [(.long (((own_at4 y0 y1 y2 y3 d0).toInt64) * (gg.toInt64)))]
    refine own_st (fun _ k => XS.lload X137.here hx rfl (hb hby at_264) rfl k) ?_
    show own_Go X137 (Q0 Z p0 p1 p2 p3 p4 p5 h0 n0) 3 11 266 #[.val (.int p0), .val (.int p1), .val (.int p2), .val (.int p3), .val (.int p4), .val (.int p5), .val (.int (3 : Int32)), .val (.int gg), .val (.ref b96), .val (.int d0), .val (.int d1), .val (.int d2), .val (.ref b113), .val (.ref b130), .val (.long ((own_at4 y0 y1 y2 y3 d0).toInt64)), .second, .val (.long ((own_at4 y0 y1 y2 y3 d1).toInt64)), .second, .val (.long ((own_at4 y0 y1 y2 y3 d2).toInt64)), .second, .val (.long (gg.toInt64)), .second, .unset, .unset, .unset] [(.long (gg.toInt64)), (.long (((own_at4 y0 y1 y2 y3 d0).toInt64) * (gg.toInt64)))]
    refine own_st (fun _ k => XS.lmul X137.here hx rfl (hb hby at_266) rfl k) ?_
    show own_Go X137 (Q0 Z p0 p1 p2 p3 p4 p5 h0 n0) 3 11 267 #[.val (.int p0), .val (.int p1), .val (.int p2), .val (.int p3), .val (.int p4), .val (.int p5), .val (.int (3 : Int32)), .val (.int gg), .val (.ref b96), .val (.int d0), .val (.int d1), .val (.int d2), .val (.ref b113), .val (.ref b130), .val (.long ((own_at4 y0 y1 y2 y3 d0).toInt64)), .second, .val (.long ((own_at4 y0 y1 y2 y3 d1).toInt64)), .second, .val (.long ((own_at4 y0 y1 y2 y3 d2).toInt64)), .second, .val (.long (gg.toInt64)), .second, .unset, .unset, .unset] [(.long ((((own_at4 y0 y1 y2 y3 d0).toInt64) * (gg.toInt64)) * (gg.toInt64)))]
    refine own_st (fun _ k => XS.lload X137.here hx rfl (hb hby at_267) rfl k) ?_
    show own_Go X137 (Q0 Z p0 p1 p2 p3 p4 p5 h0 n0) 3 11 269 #[.val (.int p0), .val (.int p1), .val (.int p2), .val (.int p3), .val (.int p4), .val (.int p5), .val (.int (3 : Int32)), .val (.int gg), .val (.ref b96), .val (.int d0), .val (.int d1), .val (.int d2), .val (.ref b113), .val (.ref b130), .val (.long ((own_at4 y0 y1 y2 y3 d0).toInt64)), .second, .val (.long ((own_at4 y0 y1 y2 y3 d1).toInt64)), .second, .val (.long ((own_at4 y0 y1 y2 y3 d2).toInt64)), .second, .val (.long (gg.toInt64)), .second, .unset, .unset, .unset] [(.long ((own_at4 y0 y1 y2 y3 d1).toInt64)), (.long ((((own_at4 y0 y1 y2 y3 d0).toInt64) * (gg.toInt64)) * (gg.toInt64)))]
    refine own_st (fun _ k => XS.lload X137.here hx rfl (hb hby at_269) rfl k) ?_
    show own_Go X137 (Q0 Z p0 p1 p2 p3 p4 p5 h0 n0) 3 11 271 #[.val (.int p0), .val (.int p1), .val (.int p2), .val (.int p3), .val (.int p4), .val (.int p5), .val (.int (3 : Int32)), .val (.int gg), .val (.ref b96), .val (.int d0), .val (.int d1), .val (.int d2), .val (.ref b113), .val (.ref b130), .val (.long ((own_at4 y0 y1 y2 y3 d0).toInt64)), .second, .val (.long ((own_at4 y0 y1 y2 y3 d1).toInt64)), .second, .val (.long ((own_at4 y0 y1 y2 y3 d2).toInt64)), .second, .val (.long (gg.toInt64)), .second, .unset, .unset, .unset] [(.long (gg.toInt64)), (.long ((own_at4 y0 y1 y2 y3 d1).toInt64)), (.long ((((own_at4 y0 y1 y2 y3 d0).toInt64) * (gg.toInt64)) * (gg.toInt64)))]
    refine own_st (fun _ k => XS.lmul X137.here hx rfl (hb hby at_271) rfl k) ?_
    show own_Go X137 (Q0 Z p0 p1 p2 p3 p4 p5 h0 n0) 3 11 272 #[.val (.int p0), .val (.int p1), .val (.int p2), .val (.int p3), .val (.int p4), .val (.int p5), .val (.int (3 : Int32)), .val (.int gg), .val (.ref b96), .val (.int d0), .val (.int d1), .val (.int d2), .val (.ref b113), .val (.ref b130), .val (.long ((own_at4 y0 y1 y2 y3 d0).toInt64)), .second, .val (.long ((own_at4 y0 y1 y2 y3 d1).toInt64)), .second, .val (.long ((own_at4 y0 y1 y2 y3 d2).toInt64)), .second, .val (.long (gg.toInt64)), .second, .unset, .unset, .unset] [(.long (((own_at4 y0 y1 y2 y3 d1).toInt64) * (gg.toInt64))), (.long ((((own_at4 y0 y1 y2 y3 d0).toInt64) * (gg.toInt64)) * (gg.toInt64)))]
    refine own_st (fun _ k => XS.ladd X137.here hx rfl (hb hby at_272) rfl k) ?_
    show own_Go X137 (Q0 Z p0 p1 p2 p3 p4 p5 h0 n0) 3 11 273 #[.val (.int p0), .val (.int p1), .val (.int p2), .val (.int p3), .val (.int p4), .val (.int p5), .val (.int (3 : Int32)), .val (.int gg), .val (.ref b96), .val (.int d0), .val (.int d1), .val (.int d2), .val (.ref b113), .val (.ref b130), .val (.long ((own_at4 y0 y1 y2 y3 d0).toInt64)), .second, .val (.long ((own_at4 y0 y1 y2 y3 d1).toInt64)), .second, .val (.long ((own_at4 y0 y1 y2 y3 d2).toInt64)), .second, .val (.long (gg.toInt64)), .second, .unset, .unset, .unset] [(.long (((((own_at4 y0 y1 y2 y3 d0).toInt64) * (gg.toInt64)) * (gg.toInt64)) + (((own_at4 y0 y1 y2 y3 d1).toInt64) * (gg.toInt64))))]
    refine own_st (fun _ k => XS.lload X137.here hx rfl (hb hby at_273) rfl k) ?_
    show own_Go X137 (Q0 Z p0 p1 p2 p3 p4 p5 h0 n0) 3 11 275 #[.val (.int p0), .val (.int p1), .val (.int p2), .val (.int p3), .val (.int p4), .val (.int p5), .val (.int (3 : Int32)), .val (.int gg), .val (.ref b96), .val (.int d0), .val (.int d1), .val (.int d2), .val (.ref b113), .val (.ref b130), .val (.long ((own_at4 y0 y1 y2 y3 d0).toInt64)), .second, .val (.long ((own_at4 y0 y1 y2 y3 d1).toInt64)), .second, .val (.long ((own_at4 y0 y1 y2 y3 d2).toInt64)), .second, .val (.long (gg.toInt64)), .second, .unset, .unset, .unset] [(.long ((own_at4 y0 y1 y2 y3 d2).toInt64)), (.long (((((own_at4 y0 y1 y2 y3 d0).toInt64) * (gg.toInt64)) * (gg.toInt64)) + (((own_at4 y0 y1 y2 y3 d1).toInt64) * (gg.toInt64))))]
    refine own_st (fun _ k => XS.ladd X137.here hx rfl (hb hby at_275) rfl k) ?_
    show own_Go X137 (Q0 Z p0 p1 p2 p3 p4 p5 h0 n0) 3 11 276 #[.val (.int p0), .val (.int p1), .val (.int p2), .val (.int p3), .val (.int p4), .val (.int p5), .val (.int (3 : Int32)), .val (.int gg), .val (.ref b96), .val (.int d0), .val (.int d1), .val (.int d2), .val (.ref b113), .val (.ref b130), .val (.long ((own_at4 y0 y1 y2 y3 d0).toInt64)), .second, .val (.long ((own_at4 y0 y1 y2 y3 d1).toInt64)), .second, .val (.long ((own_at4 y0 y1 y2 y3 d2).toInt64)), .second, .val (.long (gg.toInt64)), .second, .unset, .unset, .unset] [(.long ((((((own_at4 y0 y1 y2 y3 d0).toInt64) * (gg.toInt64)) * (gg.toInt64)) + (((own_at4 y0 y1 y2 y3 d1).toInt64) * (gg.toInt64))) + ((own_at4 y0 y1 y2 y3 d2).toInt64)))]
    refine own_st (fun _ k => XS.lstore X137.here hx rfl (hb hby at_276) rfl (l' := #[.val (.int p0), .val (.int p1), .val (.int p2), .val (.int p3), .val (.int p4), .val (.int p5), .val (.int (3 : Int32)), .val (.int gg), .val (.ref b96), .val (.int d0), .val (.int d1), .val (.int d2), .val (.ref b113), .val (.ref b130), .val (.long ((own_at4 y0 y1 y2 y3 d0).toInt64)), .second, .val (.long ((own_at4 y0 y1 y2 y3 d1).toInt64)), .second, .val (.long ((own_at4 y0 y1 y2 y3 d2).toInt64)), .second, .val (.long (gg.toInt64)), .second, .val (.long ((((((own_at4 y0 y1 y2 y3 d0).toInt64) * (gg.toInt64)) * (gg.toInt64)) + (((own_at4 y0 y1 y2 y3 d1).toInt64) * (gg.toInt64))) + ((own_at4 y0 y1 y2 y3 d2).toInt64))), .second, .unset]) rfl k) ?_
    show own_Go X137 (Q0 Z p0 p1 p2 p3 p4 p5 h0 n0) 3 11 278 #[.val (.int p0), .val (.int p1), .val (.int p2), .val (.int p3), .val (.int p4), .val (.int p5), .val (.int (3 : Int32)), .val (.int gg), .val (.ref b96), .val (.int d0), .val (.int d1), .val (.int d2), .val (.ref b113), .val (.ref b130), .val (.long ((own_at4 y0 y1 y2 y3 d0).toInt64)), .second, .val (.long ((own_at4 y0 y1 y2 y3 d1).toInt64)), .second, .val (.long ((own_at4 y0 y1 y2 y3 d2).toInt64)), .second, .val (.long (gg.toInt64)), .second, .val (.long ((((((own_at4 y0 y1 y2 y3 d0).toInt64) * (gg.toInt64)) * (gg.toInt64)) + (((own_at4 y0 y1 y2 y3 d1).toInt64) * (gg.toInt64))) + ((own_at4 y0 y1 y2 y3 d2).toInt64))), .second, .unset] []
    refine own_st (fun _ k => XS.aload X137.here hx rfl (hb hby at_278) rfl rfl k) ?_
    show own_Go X137 (Q0 Z p0 p1 p2 p3 p4 p5 h0 n0) 3 11 280 #[.val (.int p0), .val (.int p1), .val (.int p2), .val (.int p3), .val (.int p4), .val (.int p5), .val (.int (3 : Int32)), .val (.int gg), .val (.ref b96), .val (.int d0), .val (.int d1), .val (.int d2), .val (.ref b113), .val (.ref b130), .val (.long ((own_at4 y0 y1 y2 y3 d0).toInt64)), .second, .val (.long ((own_at4 y0 y1 y2 y3 d1).toInt64)), .second, .val (.long ((own_at4 y0 y1 y2 y3 d2).toInt64)), .second, .val (.long (gg.toInt64)), .second, .val (.long ((((((own_at4 y0 y1 y2 y3 d0).toInt64) * (gg.toInt64)) * (gg.toInt64)) + (((own_at4 y0 y1 y2 y3 d1).toInt64) * (gg.toInt64))) + ((own_at4 y0 y1 y2 y3 d2).toInt64))), .second, .unset] [(.ref b130)]
    refine own_st (fun _ k => XS.aload X137.here hx rfl (hb hby at_280) rfl rfl k) ?_
    show own_Go X137 (Q0 Z p0 p1 p2 p3 p4 p5 h0 n0) 3 11 282 #[.val (.int p0), .val (.int p1), .val (.int p2), .val (.int p3), .val (.int p4), .val (.int p5), .val (.int (3 : Int32)), .val (.int gg), .val (.ref b96), .val (.int d0), .val (.int d1), .val (.int d2), .val (.ref b113), .val (.ref b130), .val (.long ((own_at4 y0 y1 y2 y3 d0).toInt64)), .second, .val (.long ((own_at4 y0 y1 y2 y3 d1).toInt64)), .second, .val (.long ((own_at4 y0 y1 y2 y3 d2).toInt64)), .second, .val (.long (gg.toInt64)), .second, .val (.long ((((((own_at4 y0 y1 y2 y3 d0).toInt64) * (gg.toInt64)) * (gg.toInt64)) + (((own_at4 y0 y1 y2 y3 d1).toInt64) * (gg.toInt64))) + ((own_at4 y0 y1 y2 y3 d2).toInt64))), .second, .unset] [(.ref b96), (.ref b130)]
    refine own_st (fun _ k => XS.aload X137.here hx rfl (hb hby at_282) rfl rfl k) ?_
    show own_Go X137 (Q0 Z p0 p1 p2 p3 p4 p5 h0 n0) 3 11 284 #[.val (.int p0), .val (.int p1), .val (.int p2), .val (.int p3), .val (.int p4), .val (.int p5), .val (.int (3 : Int32)), .val (.int gg), .val (.ref b96), .val (.int d0), .val (.int d1), .val (.int d2), .val (.ref b113), .val (.ref b130), .val (.long ((own_at4 y0 y1 y2 y3 d0).toInt64)), .second, .val (.long ((own_at4 y0 y1 y2 y3 d1).toInt64)), .second, .val (.long ((own_at4 y0 y1 y2 y3 d2).toInt64)), .second, .val (.long (gg.toInt64)), .second, .val (.long ((((((own_at4 y0 y1 y2 y3 d0).toInt64) * (gg.toInt64)) * (gg.toInt64)) + (((own_at4 y0 y1 y2 y3 d1).toInt64) * (gg.toInt64))) + ((own_at4 y0 y1 y2 y3 d2).toInt64))), .second, .unset] [(.ref b113), (.ref b96), (.ref b130)]
    refine own_callV (W := 0) X137 hx hZ hown (hw _ (List.mem_of_getElem? (i := 29) rfl)) (hw _ (List.mem_of_getElem? (i := 30) rfl)) (hw _ (List.mem_of_getElem? (i := 32) rfl)) (hw _ (List.mem_of_getElem? (i := 31) rfl)) (hw _ (List.mem_of_getElem? (i := 5) rfl)) (hw _ (List.mem_of_getElem? (i := 33) rfl)) (by decide) (rm53 l Z a0 hw [] b130 b96 b113 gg k96 k113 y0 y1 y2 y3 d0 d1 d2 T137.heap n0 Z_142 F137_levels f_139 f_140 (own_c3 hd0) (own_c3 hd1) (own_c3 hd2)) (by decide) (by decide) (by rw [hml]; rfl) b130 [(.ref b96), (.ref b113)] [] (lenOf pd_0_1 rfl) rfl rfl (Nat.le_of_ble_eq_true rfl) (hb hby at_284) (Eq.refl T137.heap) f_141 (by decide) (by decide) ?_
    rintro _ T145 L145 X145 ⟨rfl, N145q, e145⟩
    have N_146 := Fr.app N_138 N145q
    show own_Go X145 (Q0 Z p0 p1 p2 p3 p4 p5 h0 n0) 3 11 287 #[.val (.int p0), .val (.int p1), .val (.int p2), .val (.int p3), .val (.int p4), .val (.int p5), .val (.int (3 : Int32)), .val (.int gg), .val (.ref b96), .val (.int d0), .val (.int d1), .val (.int d2), .val (.ref b113), .val (.ref b130), .val (.long ((own_at4 y0 y1 y2 y3 d0).toInt64)), .second, .val (.long ((own_at4 y0 y1 y2 y3 d1).toInt64)), .second, .val (.long ((own_at4 y0 y1 y2 y3 d2).toInt64)), .second, .val (.long (gg.toInt64)), .second, .val (.long ((((((own_at4 y0 y1 y2 y3 d0).toInt64) * (gg.toInt64)) * (gg.toInt64)) + (((own_at4 y0 y1 y2 y3 d1).toInt64) * (gg.toInt64))) + ((own_at4 y0 y1 y2 y3 d2).toInt64))), .second, .unset] [(.int (own_tup3 gg (own_at4 y0 y1 y2 y3 d0) (own_at4 y0 y1 y2 y3 d1) (own_at4 y0 y1 y2 y3 d2)))]
    refine own_st (fun _ k => XS.istore X145.here hx rfl (hb hby at_287) rfl (l' := #[.val (.int p0), .val (.int p1), .val (.int p2), .val (.int p3), .val (.int p4), .val (.int p5), .val (.int (3 : Int32)), .val (.int gg), .val (.ref b96), .val (.int d0), .val (.int d1), .val (.int d2), .val (.ref b113), .val (.ref b130), .val (.long ((own_at4 y0 y1 y2 y3 d0).toInt64)), .second, .val (.long ((own_at4 y0 y1 y2 y3 d1).toInt64)), .second, .val (.long ((own_at4 y0 y1 y2 y3 d2).toInt64)), .second, .val (.long (gg.toInt64)), .second, .val (.long ((((((own_at4 y0 y1 y2 y3 d0).toInt64) * (gg.toInt64)) * (gg.toInt64)) + (((own_at4 y0 y1 y2 y3 d1).toInt64) * (gg.toInt64))) + ((own_at4 y0 y1 y2 y3 d2).toInt64))), .second, .val (.int (own_tup3 gg (own_at4 y0 y1 y2 y3 d0) (own_at4 y0 y1 y2 y3 d1) (own_at4 y0 y1 y2 y3 d2)))]) rfl k) ?_
    show own_Go X145 (Q0 Z p0 p1 p2 p3 p4 p5 h0 n0) 3 11 289 #[.val (.int p0), .val (.int p1), .val (.int p2), .val (.int p3), .val (.int p4), .val (.int p5), .val (.int (3 : Int32)), .val (.int gg), .val (.ref b96), .val (.int d0), .val (.int d1), .val (.int d2), .val (.ref b113), .val (.ref b130), .val (.long ((own_at4 y0 y1 y2 y3 d0).toInt64)), .second, .val (.long ((own_at4 y0 y1 y2 y3 d1).toInt64)), .second, .val (.long ((own_at4 y0 y1 y2 y3 d2).toInt64)), .second, .val (.long (gg.toInt64)), .second, .val (.long ((((((own_at4 y0 y1 y2 y3 d0).toInt64) * (gg.toInt64)) * (gg.toInt64)) + (((own_at4 y0 y1 y2 y3 d1).toInt64) * (gg.toInt64))) + ((own_at4 y0 y1 y2 y3 d2).toInt64))), .second, .val (.int (own_tup3 gg (own_at4 y0 y1 y2 y3 d0) (own_at4 y0 y1 y2 y3 d1) (own_at4 y0 y1 y2 y3 d2)))] []
    refine own_st (fun _ k => XS.iload X145.here hx rfl (hb hby at_289) rfl k) ?_
    show own_Go X145 (Q0 Z p0 p1 p2 p3 p4 p5 h0 n0) 3 11 291 #[.val (.int p0), .val (.int p1), .val (.int p2), .val (.int p3), .val (.int p4), .val (.int p5), .val (.int (3 : Int32)), .val (.int gg), .val (.ref b96), .val (.int d0), .val (.int d1), .val (.int d2), .val (.ref b113), .val (.ref b130), .val (.long ((own_at4 y0 y1 y2 y3 d0).toInt64)), .second, .val (.long ((own_at4 y0 y1 y2 y3 d1).toInt64)), .second, .val (.long ((own_at4 y0 y1 y2 y3 d2).toInt64)), .second, .val (.long (gg.toInt64)), .second, .val (.long ((((((own_at4 y0 y1 y2 y3 d0).toInt64) * (gg.toInt64)) * (gg.toInt64)) + (((own_at4 y0 y1 y2 y3 d1).toInt64) * (gg.toInt64))) + ((own_at4 y0 y1 y2 y3 d2).toInt64))), .second, .val (.int (own_tup3 gg (own_at4 y0 y1 y2 y3 d0) (own_at4 y0 y1 y2 y3 d1) (own_at4 y0 y1 y2 y3 d2)))] [(.int (own_tup3 gg (own_at4 y0 y1 y2 y3 d0) (own_at4 y0 y1 y2 y3 d1) (own_at4 y0 y1 y2 y3 d2)))]
    refine own_st (fun _ k => XS.i2l X145.here hx rfl (hb hby at_291) rfl k) ?_
    show own_Go X145 (Q0 Z p0 p1 p2 p3 p4 p5 h0 n0) 3 11 292 #[.val (.int p0), .val (.int p1), .val (.int p2), .val (.int p3), .val (.int p4), .val (.int p5), .val (.int (3 : Int32)), .val (.int gg), .val (.ref b96), .val (.int d0), .val (.int d1), .val (.int d2), .val (.ref b113), .val (.ref b130), .val (.long ((own_at4 y0 y1 y2 y3 d0).toInt64)), .second, .val (.long ((own_at4 y0 y1 y2 y3 d1).toInt64)), .second, .val (.long ((own_at4 y0 y1 y2 y3 d2).toInt64)), .second, .val (.long (gg.toInt64)), .second, .val (.long ((((((own_at4 y0 y1 y2 y3 d0).toInt64) * (gg.toInt64)) * (gg.toInt64)) + (((own_at4 y0 y1 y2 y3 d1).toInt64) * (gg.toInt64))) + ((own_at4 y0 y1 y2 y3 d2).toInt64))), .second, .val (.int (own_tup3 gg (own_at4 y0 y1 y2 y3 d0) (own_at4 y0 y1 y2 y3 d1) (own_at4 y0 y1 y2 y3 d2)))] [(.long ((own_tup3 gg (own_at4 y0 y1 y2 y3 d0) (own_at4 y0 y1 y2 y3 d1) (own_at4 y0 y1 y2 y3 d2)).toInt64))]
    refine own_st (fun _ k => XS.lload X145.here hx rfl (hb hby at_292) rfl k) ?_
    show own_Go X145 (Q0 Z p0 p1 p2 p3 p4 p5 h0 n0) 3 11 294 #[.val (.int p0), .val (.int p1), .val (.int p2), .val (.int p3), .val (.int p4), .val (.int p5), .val (.int (3 : Int32)), .val (.int gg), .val (.ref b96), .val (.int d0), .val (.int d1), .val (.int d2), .val (.ref b113), .val (.ref b130), .val (.long ((own_at4 y0 y1 y2 y3 d0).toInt64)), .second, .val (.long ((own_at4 y0 y1 y2 y3 d1).toInt64)), .second, .val (.long ((own_at4 y0 y1 y2 y3 d2).toInt64)), .second, .val (.long (gg.toInt64)), .second, .val (.long ((((((own_at4 y0 y1 y2 y3 d0).toInt64) * (gg.toInt64)) * (gg.toInt64)) + (((own_at4 y0 y1 y2 y3 d1).toInt64) * (gg.toInt64))) + ((own_at4 y0 y1 y2 y3 d2).toInt64))), .second, .val (.int (own_tup3 gg (own_at4 y0 y1 y2 y3 d0) (own_at4 y0 y1 y2 y3 d1) (own_at4 y0 y1 y2 y3 d2)))] [(.long ((((((own_at4 y0 y1 y2 y3 d0).toInt64) * (gg.toInt64)) * (gg.toInt64)) + (((own_at4 y0 y1 y2 y3 d1).toInt64) * (gg.toInt64))) + ((own_at4 y0 y1 y2 y3 d2).toInt64))), (.long ((own_tup3 gg (own_at4 y0 y1 y2 y3 d0) (own_at4 y0 y1 y2 y3 d1) (own_at4 y0 y1 y2 y3 d2)).toInt64))]
    refine own_st (fun _ k => XS.lcmp X145.here hx rfl (hb hby at_294) rfl k) ?_
    show own_Go X145 (Q0 Z p0 p1 p2 p3 p4 p5 h0 n0) 3 11 295 #[.val (.int p0), .val (.int p1), .val (.int p2), .val (.int p3), .val (.int p4), .val (.int p5), .val (.int (3 : Int32)), .val (.int gg), .val (.ref b96), .val (.int d0), .val (.int d1), .val (.int d2), .val (.ref b113), .val (.ref b130), .val (.long ((own_at4 y0 y1 y2 y3 d0).toInt64)), .second, .val (.long ((own_at4 y0 y1 y2 y3 d1).toInt64)), .second, .val (.long ((own_at4 y0 y1 y2 y3 d2).toInt64)), .second, .val (.long (gg.toInt64)), .second, .val (.long ((((((own_at4 y0 y1 y2 y3 d0).toInt64) * (gg.toInt64)) * (gg.toInt64)) + (((own_at4 y0 y1 y2 y3 d1).toInt64) * (gg.toInt64))) + ((own_at4 y0 y1 y2 y3 d2).toInt64))), .second, .val (.int (own_tup3 gg (own_at4 y0 y1 y2 y3 d0) (own_at4 y0 y1 y2 y3 d1) (own_at4 y0 y1 y2 y3 d2)))] [(.int (lcmpW ((own_tup3 gg (own_at4 y0 y1 y2 y3 d0) (own_at4 y0 y1 y2 y3 d1) (own_at4 y0 y1 y2 y3 d2)).toInt64) ((((((own_at4 y0 y1 y2 y3 d0).toInt64) * (gg.toInt64)) * (gg.toInt64)) + (((own_at4 y0 y1 y2 y3 d1).toInt64) * (gg.toInt64))) + ((own_at4 y0 y1 y2 y3 d2).toInt64))))]
    have c295_147 : ((own_tup3 gg (own_at4 y0 y1 y2 y3 d0) (own_at4 y0 y1 y2 y3 d1) (own_at4 y0 y1 y2 y3 d2)).toInt64) = ((((((own_at4 y0 y1 y2 y3 d0).toInt64) * (gg.toInt64)) * (gg.toInt64)) + (((own_at4 y0 y1 y2 y3 d1).toInt64) * (gg.toInt64))) + ((own_at4 y0 y1 y2 y3 d2).toInt64)) := own_e3 hG (own_ab (P := fun y : Int32 => 0 ≤ y.toInt ∧ y.toInt < gg.toInt) hY.1 hY.2.1 hY.2.2.1 hY.2.2.2 d0) (own_ab (P := fun y : Int32 => 0 ≤ y.toInt ∧ y.toInt < gg.toInt) hY.1 hY.2.1 hY.2.2.1 hY.2.2.2 d1) (own_ab (P := fun y : Int32 => 0 ≤ y.toInt ∧ y.toInt < gg.toInt) hY.1 hY.2.1 hY.2.2.1 hY.2.2.2 d2)
    refine own_st (fun _ k => XS.ifNo X145.here hx rfl (hb hby at_295) rfl ((if0 _ _).trans (teq ((lw_eq _ _).mpr c295_147)).2) k) ?_
    show own_Go X145 (Q0 Z p0 p1 p2 p3 p4 p5 h0 n0) 3 11 298 #[.val (.int p0), .val (.int p1), .val (.int p2), .val (.int p3), .val (.int p4), .val (.int p5), .val (.int (3 : Int32)), .val (.int gg), .val (.ref b96), .val (.int d0), .val (.int d1), .val (.int d2), .val (.ref b113), .val (.ref b130), .val (.long ((own_at4 y0 y1 y2 y3 d0).toInt64)), .second, .val (.long ((own_at4 y0 y1 y2 y3 d1).toInt64)), .second, .val (.long ((own_at4 y0 y1 y2 y3 d2).toInt64)), .second, .val (.long (gg.toInt64)), .second, .val (.long ((((((own_at4 y0 y1 y2 y3 d0).toInt64) * (gg.toInt64)) * (gg.toInt64)) + (((own_at4 y0 y1 y2 y3 d1).toInt64) * (gg.toInt64))) + ((own_at4 y0 y1 y2 y3 d2).toInt64))), .second, .val (.int (own_tup3 gg (own_at4 y0 y1 y2 y3 d0) (own_at4 y0 y1 y2 y3 d1) (own_at4 y0 y1 y2 y3 d2)))] []
    refine own_st (fun _ k => XS.iconst X145.here hx rfl (hb hby at_298) k) ?_
    show own_Go X145 (Q0 Z p0 p1 p2 p3 p4 p5 h0 n0) 3 11 299 #[.val (.int p0), .val (.int p1), .val (.int p2), .val (.int p3), .val (.int p4), .val (.int p5), .val (.int (3 : Int32)), .val (.int gg), .val (.ref b96), .val (.int d0), .val (.int d1), .val (.int d2), .val (.ref b113), .val (.ref b130), .val (.long ((own_at4 y0 y1 y2 y3 d0).toInt64)), .second, .val (.long ((own_at4 y0 y1 y2 y3 d1).toInt64)), .second, .val (.long ((own_at4 y0 y1 y2 y3 d2).toInt64)), .second, .val (.long (gg.toInt64)), .second, .val (.long ((((((own_at4 y0 y1 y2 y3 d0).toInt64) * (gg.toInt64)) * (gg.toInt64)) + (((own_at4 y0 y1 y2 y3 d1).toInt64) * (gg.toInt64))) + ((own_at4 y0 y1 y2 y3 d2).toInt64))), .second, .val (.int (own_tup3 gg (own_at4 y0 y1 y2 y3 d0) (own_at4 y0 y1 y2 y3 d1) (own_at4 y0 y1 y2 y3 d2)))] [(.int (1 : Int32))]
    refine own_st (fun _ k => XS.goto X145.here hx rfl (pc0 := 299) (pc' := 303) rfl (hb hby at_299) (by decide) (by decide) k) ?_
    show own_Go X145 (Q0 Z p0 p1 p2 p3 p4 p5 h0 n0) 3 11 303 #[.val (.int p0), .val (.int p1), .val (.int p2), .val (.int p3), .val (.int p4), .val (.int p5), .val (.int (3 : Int32)), .val (.int gg), .val (.ref b96), .val (.int d0), .val (.int d1), .val (.int d2), .val (.ref b113), .val (.ref b130), .val (.long ((own_at4 y0 y1 y2 y3 d0).toInt64)), .second, .val (.long ((own_at4 y0 y1 y2 y3 d1).toInt64)), .second, .val (.long ((own_at4 y0 y1 y2 y3 d2).toInt64)), .second, .val (.long (gg.toInt64)), .second, .val (.long ((((((own_at4 y0 y1 y2 y3 d0).toInt64) * (gg.toInt64)) * (gg.toInt64)) + (((own_at4 y0 y1 y2 y3 d1).toInt64) * (gg.toInt64))) + ((own_at4 y0 y1 y2 y3 d2).toInt64))), .second, .val (.int (own_tup3 gg (own_at4 y0 y1 y2 y3 d0) (own_at4 y0 y1 y2 y3 d1) (own_at4 y0 y1 y2 y3 d2)))] [(.int (1 : Int32))]
    refine own_retN X145 hx Bd.returns (by simp) hlk e145 (hb hby at_303) (by decide) (by decide) ?_
    exact ⟨rfl, N_146⟩
set_option maxRecDepth 65536 in
set_option maxHeartbeats 40000000 in
theorem comes_1 {Post : Tables → Env → Array Value → State → Outcome → State → Prop} (hpost : ∀ tb e args s v u, (limb_1_1.after args s (.returned v) u = true ∧ limb_1_2.after args s (.returned v) u = true ∧ True) → FrameEnd s (.returned v) u (Jvm.fieldLocs frame_1_writes args s ++ Jvm.arrayLocs frame_1_arrays args s ++ Jvm.staticLocs frame_1_statics s) 16 128 → Post tb e args s (.returned v) u) :
    ArmFor flags0 classFile x code maxLocals ret World_1 tables_1 room_1 Calls_1 rest_1 Pre_1 Post := by
  intro l hfl _ _ p e ha hc hk s m args below hf hA hF happ hP
  obtain ⟨hcalls, hrest, hpre⟩ := hP
  obtain ⟨-, -, -, hnamed, -, -, -, hat⟩ := (Spec.applies_iff hf).mp happ
  obtain ⟨hg, hn⟩ := and_e (Cond.before_iff.mp (show (Jvm.Cond.and given_1 narrow_1).before args s = true from hpre))
  obtain ⟨g1, g2⟩ := and_e hg
  obtain ⟨g3, g4⟩ := and_e g2
  obtain ⟨g5, g6⟩ := and_e g4
  obtain ⟨g7, g8⟩ := and_e g6
  obtain ⟨g9, g10⟩ := and_e g8
  obtain ⟨g11, g12⟩ := and_e g10
  obtain ⟨w0, w1, w2, w3, w4, w5, rfl⟩ : ∃ w0 w1 w2 w3 w4 w5 : Value, args = #[w0, w1, w2, w3, w4, w5] := by
    have hs : args.size = 6 := by simpa [Cond.value, given_1] using g1
    obtain ⟨L⟩ := args
    match L, hs with
    | [w0, w1, w2, w3, w4, w5], _ => exact ⟨w0, w1, w2, w3, w4, w5, rfl⟩
  have hw := fun d (hd : d ∈ tables_1) => atoms_spec (ws := Jvm.Cond.code x code maxLocals ret :: tables_1) hat d (List.mem_cons_of_mem _ hd)
  obtain ⟨i0, ei0⟩ := is_v g3
  obtain rfl : w0 = (.int i0) := Option.some.inj ei0
  obtain ⟨i1, ei1⟩ := is_v g5
  obtain rfl : w1 = (.int i1) := Option.some.inj ei1
  obtain ⟨i2, ei2⟩ := is_v g7
  obtain rfl : w2 = (.int i2) := Option.some.inj ei2
  obtain ⟨i3, ei3⟩ := is_v g9
  obtain rfl : w3 = (.int i3) := Option.some.inj ei3
  obtain ⟨i4, ei4⟩ := is_v g11
  obtain rfl : w4 = (.int i4) := Option.some.inj ei4
  obtain ⟨i5, ei5⟩ := is_v g12
  obtain rfl : w5 = (.int i5) := Option.some.inj ei5
  obtain ⟨n, o, h1, h2, h3, _, L, rfl, ⟨rfl, N⟩, hq⟩ := rm0 l s _ hw tables_1 i0 i1 i2 i3 i4 i5 s.heap s.heap.size (Nat.le_refl _) p e ha hc hk s m _ below hf ((Spec.applies_iff_loose hf).mp happ).1 ⟨rfl, State.Warmed39.refl s, rfl⟩ trivial
  refine ⟨n, _, h1, h2, h3, hpost _ _ _ _ _ _ ⟨Cond.after_iff.mpr rfl, Cond.after_iff.mpr (eq_i res_at (Term.int_eval (1)) rfl), trivial⟩ ⟨hq.1, hq.2.1, (hq.2.2.sift fun y hy => Or.inr (N y hy)).mono (by decide) (by decide)⟩⟩
theorem main_1_1 : Claimed_1_1 := comes_1 fun _ _ _ _ _ _ h hF => ⟨h.1, hF⟩
theorem main_1_2 : Claimed_1_2 := comes_1 fun _ _ _ _ _ _ h hF => ⟨h.2.1, hF⟩
end Jvm.Pilot.@@N@@
namespace Jvm.Pilot.@@N@@
open Jvm Jvm.ClassFile Sem Op Lib Jvm.Free Jvm.Stand Jvm.Pilot.@@N@@.Jvm.D
/-! MADE BY PROGRAM (witnessworld.py) out of the Statement's table words and the real class files: 10 classes; the members and pool entries that the words name. The judged class is class 1, her method 1. -/
namespace start1
open Jvm.ClassFile
def u (s : String) : CpInfo := .utf8 (stringToUtf16 s)
/-- a pool by its gaps: so many unusable entries, then the entry; so many at the end -/
def gap : Nat → List CpInfo → List CpInfo
  | 0, r => r
  | n + 1, r => .unusable :: gap n r
def poolList (es : List (Nat × CpInfo)) (last : Nat) : List CpInfo := es.foldr (fun e r => gap e.1 (e.2 :: r)) (gap last [])
def pool (es : List (Nat × CpInfo)) (last : Nat) : Array CpInfo := ⟨poolList es last⟩
def fileOf (pool : Array CpInfo) (this : Nat) (attrs : Array Attribute := #[]) (ms : Array MethodInfo := #[]) (fl : Nat := 33) (sup : Nat := 0) (ifs : Array Nat := #[]) (fds : Array FieldInfo := #[]) : ClassFile where
  minorVersion := 0
  majorVersion := 65
  constantPool := pool
  accessFlags := fl
  thisClass := this
  superClass := sup
  interfaces := ifs
  fields := fds
  methods := ms
  attributes := attrs
def plain (name : String) (sup : Option ClassId) : Class where
  name := name
  kind := .ordinary
  loader := none
  accessFlags := 33
  super := sup
  interfaces := #[]
  cf := none
  fields := #[]
  methods := #[]
  instanceTypes := #[]
  staticTypes := #[]
  resolved := #[]
  callSites := []
  init := .initialized
  statics := none
  mirror := none

def pool0 : Array CpInfo := pool [(5, u "<init>"), (0, u "()V"), (1, .class_ 10), (1, u "java/lang/Object")] 113

def k0c0 : Code := { maxStack := 0, maxLocals := 1, code := object_method_1_code, exceptionTable := #[], attributes := #[] }
def k0m0 : Method := { name := "<init>", desc := "()V", sig := { parameters := [], returnType := none }, accessFlags := 1, code := some k0c0 }
/-- java/lang/Object -/
def k0 : Class := { plain "java/lang/Object" none with
  accessFlags := 33
  interfaces := #[]
  cf := some (fileOf pool0 8 #[] #[{ accessFlags := 1, nameIndex := 5, descriptorIndex := 6, attributes := #[] }] 33 0 #[] #[])
  fields := #[]
  methods := #[k0m0]
  instanceTypes := #[]
  staticTypes := #[]
  resolved := Array.replicate 124 none
  statics := none }

def pool1 : Array CpInfo := pool [(2, .class_ 4), (1, u "java/lang/Object"), (0, u "<init>"), (0, u "()V"), (0, .integer 1073741823), (0, .integer 2147483647), (0, .class_ 10), (0, u "com/example/gingham/gingham/designs/CoveringArraySpec"), (0, .methodref 9 12), (0, .nameAndType 5 13), (0, u "(IIII)V"), (0, .methodref 9 15), (0, .nameAndType 16 17), (0, u "tupleOf"), (0, u "([I[I)I"), (0, .class_ 19), (0, u "com/example/gingham/gingham/designs/CoveringArraySpecTupleOfPinLaw"), (2, u "law"), (0, u "(IIIIII)Z")] 5

def k1m0 : Method := { name := "<init>", desc := "()V", sig := { parameters := [], returnType := none }, accessFlags := 2, code := none }
def k1c1 : Code := { maxStack := 6, maxLocals := 25, code := code, exceptionTable := #[], attributes := #[] }
def k1m1 : Method := { name := "law", desc := "(IIIIII)Z", sig := { parameters := [.int, .int, .int, .int, .int, .int], returnType := some .boolean }, accessFlags := 9, code := some k1c1 }
/-- com/example/gingham/gingham/designs/CoveringArraySpecTupleOfPinLaw -/
def k1 : Class := { plain "com/example/gingham/gingham/designs/CoveringArraySpecTupleOfPinLaw" (some 0) with
  accessFlags := 49
  interfaces := #[]
  cf := some (fileOf pool1 18 #[] #[{ accessFlags := 2, nameIndex := 5, descriptorIndex := 6, attributes := #[] }, { accessFlags := 9, nameIndex := 22, descriptorIndex := 23, attributes := #[] }] 49 2 #[] #[])
  fields := #[]
  methods := #[k1m0, k1m1]
  instanceTypes := #[]
  staticTypes := #[]
  resolved := Array.replicate 29 none
  statics := none }

def pool2 : Array CpInfo := pool [(1, .methodref 2 3), (0, .class_ 4), (0, .nameAndType 5 6), (0, u "java/lang/Object"), (0, u "<init>"), (0, u "()V"), (0, .class_ 8), (0, u "java/lang/Record")] 13

def k2c0 : Code := { maxStack := 1, maxLocals := 1, code := jdk_30_method_1_code, exceptionTable := #[], attributes := #[] }
def k2m0 : Method := { name := "<init>", desc := "()V", sig := { parameters := [], returnType := none }, accessFlags := 4, code := some k2c0 }
/-- java/lang/Record -/
def k2 : Class := { plain "java/lang/Record" (some 0) with
  accessFlags := 1057
  interfaces := #[]
  cf := some (fileOf pool2 7 #[] #[{ accessFlags := 4, nameIndex := 5, descriptorIndex := 6, attributes := #[] }] 1057 2 #[] #[])
  fields := #[]
  methods := #[k2m0]
  instanceTypes := #[]
  staticTypes := #[]
  resolved := Array.replicate 22 none
  statics := none }

def pool3 : Array CpInfo := pool [(1, .methodref 2 3), (0, .class_ 4), (0, .nameAndType 5 6), (0, u "java/lang/Record"), (0, u "<init>"), (0, u "()V"), (1, u "rows"), (7, u "columns"), (1, u "strength"), (8, u "levels"), (0, .methodref 29 30), (0, .class_ 31), (0, .nameAndType 32 33), (0, u "com/example/gingham/gingham/designs/CoveringArraySpec"), (0, u "tupleCount"), (0, u "(II)I"), (3, .fieldref 29 38), (0, .nameAndType 8 39), (0, u "I"), (0, .fieldref 29 41), (0, .nameAndType 18 39), (0, .fieldref 29 43), (0, .nameAndType 16 39), (0, .fieldref 29 45), (0, .nameAndType 27 39), (44, u "tupleOf"), (0, u "([I[I)I"), (41, .long 2147483639), (13, u "(IIII)V")] 50

def k3c0 : Code := { maxStack := 6, maxLocals := 5, code := prog_55_method_1_code, exceptionTable := #[], attributes := #[] }
def k3m0 : Method := { name := "<init>", desc := "(IIII)V", sig := { parameters := [.int, .int, .int, .int], returnType := none }, accessFlags := 1, code := some k3c0 }
def k3c1 : Code := { maxStack := 3, maxLocals := 8, code := prog_55_method_5_code, exceptionTable := #[], attributes := #[] }
def k3m1 : Method := { name := "tupleOf", desc := "([I[I)I", sig := { parameters := [(.array .int), (.array .int)], returnType := some .int }, accessFlags := 0, code := some k3c1 }
def k3c2 : Code := { maxStack := 4, maxLocals := 5, code := prog_55_method_7_code, exceptionTable := #[], attributes := #[] }
def k3m2 : Method := { name := "tupleCount", desc := "(II)I", sig := { parameters := [.int, .int], returnType := some .int }, accessFlags := 10, code := some k3c2 }
/-- com/example/gingham/gingham/designs/CoveringArraySpec -/
def k3 : Class := { plain "com/example/gingham/gingham/designs/CoveringArraySpec" (some 2) with
  accessFlags := 49
  interfaces := #[]
  cf := some (fileOf pool3 29 #[] #[{ accessFlags := 1, nameIndex := 5, descriptorIndex := 147, attributes := #[] }, { accessFlags := 0, nameIndex := 90, descriptorIndex := 91, attributes := #[] }, { accessFlags := 10, nameIndex := 32, descriptorIndex := 33, attributes := #[] }] 49 2 #[] #[{ accessFlags := 18, nameIndex := 8, descriptorIndex := 39, attributes := #[] }, { accessFlags := 18, nameIndex := 18, descriptorIndex := 39, attributes := #[] }, { accessFlags := 18, nameIndex := 16, descriptorIndex := 39, attributes := #[] }, { accessFlags := 18, nameIndex := 27, descriptorIndex := 39, attributes := #[] }])
  fields := #[{ name := "rows", type := .int, accessFlags := 18, slot := 0, constantValue := 0 }, { name := "strength", type := .int, accessFlags := 18, slot := 1, constantValue := 0 }, { name := "columns", type := .int, accessFlags := 18, slot := 2, constantValue := 0 }, { name := "levels", type := .int, accessFlags := 18, slot := 3, constantValue := 0 }]
  methods := #[k3m0, k3m1, k3m2]
  instanceTypes := #[.int, .int, .int, .int]
  staticTypes := #[]
  resolved := Array.replicate 198 none
  statics := none }

def pool4 : Array CpInfo := pool [(1, u "java/lang/Cloneable"), (0, .class_ 1), (0, u "java/lang/Object"), (0, .class_ 3)] 3

/-- java/lang/Cloneable -/
def k4 : Class := { plain "java/lang/Cloneable" (some 0) with
  accessFlags := 1537
  interfaces := #[]
  cf := some (fileOf pool4 2 #[] #[] 1537 4 #[] #[])
  fields := #[]
  methods := #[]
  instanceTypes := #[]
  staticTypes := #[]
  resolved := Array.replicate 8 none
  statics := none }

def pool5 : Array CpInfo := pool [(1, u "java/io/Serializable"), (0, .class_ 1), (0, u "java/lang/Object"), (0, .class_ 3)] 3

/-- java/io/Serializable -/
def k5 : Class := { plain "java/io/Serializable" (some 0) with
  accessFlags := 1537
  interfaces := #[]
  cf := some (fileOf pool5 2 #[] #[] 1537 4 #[] #[])
  fields := #[]
  methods := #[]
  instanceTypes := #[]
  staticTypes := #[]
  resolved := Array.replicate 8 none
  statics := none }

/-- the primitive byte -/
def k6 : Class := { plain "byte" none with kind := .primitive 'B', accessFlags := 0x411 }
/-- [B -/
def k7 : Class := { plain "[B" (some 0) with kind := .array 6 .byte, interfaces := #[4, 5], accessFlags := 1041 }

/-- the primitive int -/
def k8 : Class := { plain "int" none with kind := .primitive 'I', accessFlags := 0x411 }
/-- [I -/
def k9 : Class := { plain "[I" (some 0) with kind := .array 8 .int, interfaces := #[4, 5], accessFlags := 1041 }

def heap : Heap := #[]
def classes : Array Class := #[k0, k1, k2, k3, k4, k5, k6, k7, k8, k9]
def interned : List (Array UInt16 × Addr) := []
def slotsUsed : Nat := 0
def theMethod : MethodId := ⟨1, 1⟩
def args0 : Array Value := #[.int 5, .int 7, .int 9, .int 11, .int 13, .int 15]
def aboutOver (below : List Frame) : State where
  vm := { classes := classes, interned := interned.toArray }
  heap := heap
  slotsUsed := slotsUsed
  threads := #[{ frames := .invoking theMethod args0 :: below }]
def below0 : List Frame := [.native { method := ⟨0, 0⟩, args := #[] }]
def about1 : State := aboutOver below0
def p0 : Program := .bare "" "" ""
def e0 : Env := launch0.env 0 0 0
theorem w_frames : about1.frames = Frame.invoking theMethod args0 :: below0 := rfl
set_option maxRecDepth 65536 in
theorem w_args : argsFit about1.vm theMethod args0 = true := by decide +kernel
set_option maxRecDepth 65536 in
theorem w_heap : heapFits about1 = true := by decide +kernel
set_option maxRecDepth 65536 in
theorem w_runnable : about1.curStatus? = some .runnable := by decide +kernel
set_option maxRecDepth 65536 in
theorem w_alone : about1.alone = true := by decide +kernel
set_option maxRecDepth 65536 in
theorem w_named : about1.methodNamed? x = some theMethod := by decide +kernel
set_option maxRecDepth 65536 in
theorem w_hears : about1.hears theMethod below0 = true := by decide +kernel
set_option maxRecDepth 65536 in
theorem w_ripe : about1.ripe theMethod args0 below0 = true := by decide +kernel
theorem w_running : about1.status = .running := rfl
set_option maxRecDepth 65536 in
theorem w_room : about1.hasRoom e0.platform room_1 = true :=
  launch0.hasRoom_least _ room_1 (by decide +kernel) (by decide +kernel) (by decide +kernel) (by decide +kernel) (by decide +kernel) (by decide +kernel)
theorem allAtoms_all (ts : List Jvm.Cond) (a : Array Jvm.Value) (st : Jvm.State) : (allAtoms ts).before a st = ts.all (fun c => c.before a st) := by
  induction ts with
  | nil => rfl
  | cons c t ih =>
    show (Jvm.Cond.and c (allAtoms t)).before a st = _
    rw [Jvm.Cond.before_and, ih, List.all_cons]
def words1 : List Jvm.Cond := Jvm.Cond.code x code maxLocals ret :: tables_1
/-- a 'code' word, met by the world's own term for the bytes: nothing is compared byte by byte -/
theorem code_word {y : MethodName} {bytes : ByteArray} {mx : Nat} {rt : Option FieldType} {a : Array Value} {s : State} {m : MethodId} {meth : Method} {c : Code} (h1 : s.methodNamed? y = some m) (h2 : s.vm.method? m = some meth) (h3 : meth.code = some c) (h4 : c.code = bytes)
    (h5 : (c.maxLocals == mx && c.exceptionTable.isEmpty && decide (c.maxStack ≤ mostOperands) && decide (meth.sig.returnType = rt) && !meth.locks && decide (parseMethodDescriptor y.desc = some meth.sig)) = true) : (Jvm.Cond.code y bytes mx rt).before a s = true := by
  simp only [Bool.and_eq_true, beq_iff_eq, Bool.not_eq_true', decide_eq_true_eq] at h5
  obtain ⟨⟨⟨⟨⟨g1, g2⟩, g3⟩, g4⟩, g5⟩, g6⟩ := h5
  simp [Cond.before, Cond.holds, Cond.value, h1, h2, h3, h4, g1, g2, g3, g4, g5, g6]
def isCode : Jvm.Cond → Bool
  | .code _ _ _ _ => true
  | _ => false
theorem all_split {L : List Jvm.Cond} {P : Jvm.Cond → Bool} (h1 : L.all (fun c => isCode c || P c) = true) (h2 : ∀ c ∈ L.filter isCode, P c = true) : L.all P = true := by
  refine List.all_eq_true.mpr fun c hc => ?_
  have h := List.all_eq_true.mp h1 c hc
  rcases Bool.eq_false_or_eq_true (isCode c) with hi | hi
  · exact h2 c (List.mem_filter.mpr ⟨hc, hi⟩)
  · simpa [hi] using h
set_option maxRecDepth 65536 in
theorem w_c0 : (Jvm.Cond.code x code maxLocals ret).before args0 about1 = true := code_word (m := ⟨1, 1⟩) (meth := k1m1) (c := k1c1) (by decide +kernel) rfl rfl rfl (by decide +kernel)
set_option maxRecDepth 65536 in
theorem w_c1 : (Jvm.Cond.code ({ cls := "com/example/gingham/gingham/designs/CoveringArraySpec", name := "<init>", desc := "(IIII)V" } : Jvm.MethodName) prog_55_method_1_code (5 : Nat) (Option.none : Option Jvm.ClassFile.FieldType)).before args0 about1 = true := code_word (m := ⟨3, 0⟩) (meth := k3m0) (c := k3c0) (by decide +kernel) rfl rfl rfl (by decide +kernel)
set_option maxRecDepth 65536 in
theorem w_c2 : (Jvm.Cond.code ({ cls := "java/lang/Record", name := "<init>", desc := "()V" } : Jvm.MethodName) jdk_30_method_1_code (1 : Nat) (Option.none : Option Jvm.ClassFile.FieldType)).before args0 about1 = true := code_word (m := ⟨2, 0⟩) (meth := k2m0) (c := k2c0) (by decide +kernel) rfl rfl rfl (by decide +kernel)
set_option maxRecDepth 65536 in
theorem w_c3 : (Jvm.Cond.code ({ cls := "java/lang/Object", name := "<init>", desc := "()V" } : Jvm.MethodName) object_method_1_code (1 : Nat) (Option.none : Option Jvm.ClassFile.FieldType)).before args0 about1 = true := code_word (m := ⟨0, 0⟩) (meth := k0m0) (c := k0c0) (by decide +kernel) rfl rfl rfl (by decide +kernel)
set_option maxRecDepth 65536 in
theorem w_c4 : (Jvm.Cond.code ({ cls := "com/example/gingham/gingham/designs/CoveringArraySpec", name := "tupleCount", desc := "(II)I" } : Jvm.MethodName) prog_55_method_7_code (5 : Nat) (Option.some Jvm.ClassFile.FieldType.int)).before args0 about1 = true := code_word (m := ⟨3, 2⟩) (meth := k3m2) (c := k3c2) (by decide +kernel) rfl rfl rfl (by decide +kernel)
set_option maxRecDepth 65536 in
theorem w_c5 : (Jvm.Cond.code ({ cls := "com/example/gingham/gingham/designs/CoveringArraySpec", name := "tupleOf", desc := "([I[I)I" } : Jvm.MethodName) prog_55_method_5_code (8 : Nat) (Option.some Jvm.ClassFile.FieldType.int)).before args0 about1 = true := code_word (m := ⟨3, 1⟩) (meth := k3m1) (c := k3c1) (by decide +kernel) rfl rfl rfl (by decide +kernel)
def codes1 : List Jvm.Cond := [Jvm.Cond.code x code maxLocals ret, Jvm.Cond.code ({ cls := "com/example/gingham/gingham/designs/CoveringArraySpec", name := "<init>", desc := "(IIII)V" } : Jvm.MethodName) prog_55_method_1_code (5 : Nat) (Option.none : Option Jvm.ClassFile.FieldType), Jvm.Cond.code ({ cls := "java/lang/Record", name := "<init>", desc := "()V" } : Jvm.MethodName) jdk_30_method_1_code (1 : Nat) (Option.none : Option Jvm.ClassFile.FieldType), Jvm.Cond.code ({ cls := "java/lang/Object", name := "<init>", desc := "()V" } : Jvm.MethodName) object_method_1_code (1 : Nat) (Option.none : Option Jvm.ClassFile.FieldType), Jvm.Cond.code ({ cls := "com/example/gingham/gingham/designs/CoveringArraySpec", name := "tupleCount", desc := "(II)I" } : Jvm.MethodName) prog_55_method_7_code (5 : Nat) (Option.some Jvm.ClassFile.FieldType.int), Jvm.Cond.code ({ cls := "com/example/gingham/gingham/designs/CoveringArraySpec", name := "tupleOf", desc := "([I[I)I" } : Jvm.MethodName) prog_55_method_5_code (8 : Nat) (Option.some Jvm.ClassFile.FieldType.int)]
set_option maxRecDepth 65536 in
theorem codes_eq : words1.filter isCode = codes1 := rfl
theorem w_codes : ∀ c ∈ words1.filter isCode, c.before args0 about1 = true := by
  rw [codes_eq]
  intro c hc
  simp only [codes1, List.mem_cons, List.not_mem_nil, or_false] at hc
  rcases hc with rfl | rfl | rfl | rfl | rfl | rfl
  · exact w_c0
  · exact w_c1
  · exact w_c2
  · exact w_c3
  · exact w_c4
  · exact w_c5
set_option maxRecDepth 65536 in
theorem w_t1 : (words1.take 24).all (fun c => isCode c || c.before args0 about1) = true := by decide +kernel
set_option maxRecDepth 65536 in
theorem w_t2 : (words1.drop 24).all (fun c => isCode c || c.before args0 about1) = true := by decide +kernel
theorem w_tables : (allAtoms (Jvm.Cond.code x code maxLocals ret :: tables_1)).before args0 about1 = true := by
  rw [allAtoms_all]
  show words1.all (fun c => c.before args0 about1) = true
  refine all_split ?_ w_codes
  rw [← List.take_append_drop 24 words1, List.all_append, w_t1, w_t2]
  rfl
set_option maxRecDepth 65536 in
theorem w_case : (Jvm.Cond.and given_1 narrow_1).before args0 about1 = true := by decide +kernel
theorem w_applies : (headSpec (Jvm.Cond.code x code maxLocals ret :: tables_1) room_1).applies x e0.platform about1 = true :=
  (Spec.applies_iff w_frames).mpr ⟨w_running, w_runnable, w_alone, w_named, w_hears, w_ripe, w_room, w_tables⟩
theorem atStart : AtStart classFile x code maxLocals ret World_1 tables_1 room_1 Calls_1 rest_1 Pre_1 launch0 p0 e0 about1 theMethod args0 below0 :=
  ⟨lists_1, trivial, launch0.admits_env _ _ _, launch0.least_env, fairChoices_fair.cas, fairChoices_fair.clock, w_frames, w_args, w_heap, w_applies, trivial, trivial, w_case⟩
end start1
theorem witness_1 : WitnessClaimed_1 := ⟨start1.p0, start1.e0, start1.about1, start1.theMethod, start1.args0, start1.below0, start1.atStart⟩
end Jvm.Pilot.@@N@@
