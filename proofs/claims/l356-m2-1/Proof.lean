import JvmDerived
import JvmDerived.Pilot.@@N@@Statement
import JvmDerived.Pilot.@@N@@Code
set_option linter.unusedVariables false
set_option linter.unusedSimpArgs false
namespace Jvm.Pilot.@@N@@
open Jvm Jvm.ClassFile Sem Op Lib Jvm.Free Jvm.Stand Jvm.LawKit Jvm.RoadKit Bundle Jvm.Pilot.@@N@@.Jvm.D
abbrev oU : Slot := .unset
abbrev oS : Slot := .second
abbrev oN : Slot := .val .null
abbrev oI (x : Int32) : Slot := .val (.int x)
abbrev oJ (x : Int64) : Slot := .val (.long x)
abbrev oR (a : Addr) : Slot := .val (.ref a)
section Own
variable {p : Program} {l : Launch} {e : Env} {R : Room} {s : State} {m : MethodId} {args : Array Value} {below : List Frame} {meth : Method} {c : Code} {T : State} {locs : List Loc} {cells slots : Nat} {Q : Option Value → Heap → List Loc → Prop} {kc ks : Nat} {Z : State} {a0 : Array Value} {h : Heap}
/-- from the state st the body comes to its end, and Q holds there -/
def own_Fin (p : Program) (e : Env) (below : List Frame) (s : State) (Q : Option Value → Heap → List Loc → Prop) (kc ks : Nat) (st : State) : Prop :=
  ∃ s₂ o, Steps p.tables e below st s₂ ∧ s₂.status = .running ∧ Ended s₂ below o ∧ ∃ v L, o = .returned v ∧ Q v s₂.heap L ∧ FrameEnd s o s₂ L kc ks
abbrev own_Go (X : Stand p l e R s m args below meth c T locs cells slots) (Q : Option Value → Heap → List Loc → Prop) (kc ks : Nat) (pc : Nat) (Ls : Array Slot) (S : List Value) : Prop := own_Fin p e below s Q kc ks (T.setTop (mkF m pc Ls S))
theorem own_st {a b : State} (hst : ∀ t, Steps p.tables e below b t → Steps p.tables e below a t) (k : own_Fin p e below s Q kc ks b) : own_Fin p e below s Q kc ks a := by
  obtain ⟨s₂, o, h1, r⟩ := k
  exact ⟨s₂, o, hst _ h1, r⟩
theorem own_cast {g g' : JFrame} (q : g = g') (k : own_Fin p e below s Q kc ks (T.setTop g')) : own_Fin p e below s Q kc ks (T.setTop g) := q ▸ k
theorem own_end (X : Stand p l e R s m args below meth c T locs cells slots) {v : Option Value} {a : State} (hv : meth.sig.returnType = none → v = none) (hlocks : meth.locks = false) (eT : T.heap = h)
    (hs : ∀ fs, (∀ (f : JFrame) (acts : List Action), f.method = m → f.locked = none → f.entered = [] → (doReturn e (T.setTop f) acts v).1 = T.setFrames fs) → Steps p.tables e below a (T.setFrames fs))
    (hc : cells ≤ kc) (hl : slots ≤ ks) (hq : Q v h locs) : own_Fin p e below s Q kc ks a := by
  obtain ⟨fs, hr, hrun, hended, hW, hsame⟩ := X.leave hv hlocks
  exact ⟨_, _, hs fs hr, hrun, hended, _, _, rfl, by show Q v T.heap locs; rw [eT]; exact hq, ⟨_, rfl⟩, hW, hsame.mono hc hl⟩
theorem own_retV (X : Stand p l e R s m args below meth c T locs cells slots) (hx : p.tables.exec = Jvm.exec) (hret : meth.sig.returnType = none) (hlocks : meth.locks = false) (eT : T.heap = h) {pc : Nat} {Ls : Array Slot} (hd : decode c.code pc = .ok (.return_, 1)) (hc : cells ≤ kc) (hl : slots ≤ ks) (hq : Q none h locs) :
    own_Fin p e below s Q kc ks (T.setTop (mkF m pc Ls [])) := own_end X (fun _ => rfl) hlocks eT (fun _ hr => X.returnOut hx hret hd hr) hc hl hq
theorem own_retN (X : Stand p l e R s m args below meth c T locs cells slots) (hx : p.tables.exec = Jvm.exec) {t : FieldType} (hret : meth.sig.returnType = some t) (ht : t = .boolean ∨ t = .byte ∨ t = .char ∨ t = .short) (hlocks : meth.locks = false) (eT : T.heap = h) {pc : Nat} {Ls : Array Slot} {z : Int32} {rest : List Value} (hd : decode c.code pc = .ok (.ireturn, 1)) (hc : cells ≤ kc) (hl : slots ≤ ks) (hq : Q (some (.int (nar t z))) h locs) :
    own_Fin p e below s Q kc ks (T.setTop (mkF m pc Ls (.int z :: rest))) := own_end X (fun h => by rw [hret] at h; cases h) hlocks eT (fun _ hr => retN X hx hret ht hd hr) hc hl hq
theorem own_retI (X : Stand p l e R s m args below meth c T locs cells slots) (hx : p.tables.exec = Jvm.exec) (hret : meth.sig.returnType = some .int) (hlocks : meth.locks = false) (eT : T.heap = h) {pc : Nat} {Ls : Array Slot} {z : Int32} {rest : List Value} (hd : decode c.code pc = .ok (.ireturn, 1)) (hc : cells ≤ kc) (hl : slots ≤ ks) (hq : Q (some (.int z)) h locs) :
    own_Fin p e below s Q kc ks (T.setTop (mkF m pc Ls (.int z :: rest))) := own_end X (fun h => by rw [hret] at h; cases h) hlocks eT (fun _ hr => retOut X hx hret rfl (Or.inl ⟨rfl, Or.inl rfl, _, rfl⟩) hd hr) hc hl hq
theorem own_retJ (X : Stand p l e R s m args below meth c T locs cells slots) (hx : p.tables.exec = Jvm.exec) (hret : meth.sig.returnType = some .long) (hlocks : meth.locks = false) (eT : T.heap = h) {pc : Nat} {Ls : Array Slot} {z : Int64} {rest : List Value} (hd : decode c.code pc = .ok (.lreturn, 1)) (hc : cells ≤ kc) (hl : slots ≤ ks) (hq : Q (some (.long z)) h locs) :
    own_Fin p e below s Q kc ks (T.setTop (mkF m pc Ls (.long z :: rest))) := own_end X (fun h => by rw [hret] at h; cases h) hlocks eT (fun _ hr => retOut X hx hret rfl (Or.inr (Or.inl ⟨rfl, rfl, _, rfl⟩)) hd hr) hc hl hq
theorem own_retA (X : Stand p l e R s m args below meth c T locs cells slots) (hx : p.tables.exec = Jvm.exec) {t : FieldType} (hret : meth.sig.returnType = some t) (ht : t.isReference = true) (hlocks : meth.locks = false) (eT : T.heap = h) {pc : Nat} {Ls : Array Slot} {a : Addr} {rest : List Value} (hd : decode c.code pc = .ok (.areturn, 1)) (hc : cells ≤ kc) (hl : slots ≤ ks) (hq : Q (some (.ref a)) h locs) :
    own_Fin p e below s Q kc ks (T.setTop (mkF m pc Ls (.ref a :: rest))) := own_end X (fun h => by rw [hret] at h; cases h) hlocks eT (fun _ hr => retOut X hx hret (by cases t <;> first | rfl | cases ht) (Or.inr (Or.inr (Or.inr (Or.inr ⟨rfl, ht, rfl⟩)))) hd hr) hc hl hq
theorem own_nar1 : nar .boolean 1 = 1 := by decide
theorem own_nar0 : nar .boolean 0 = 0 := by decide
theorem own_lrem {g : JFrame} {target : State} (X : Stand p l e R s m args below meth c T locs cells slots) (hx : p.tables.exec = Jvm.exec) (hg : g.method = m) {x y : Int64} {rest : List Value} (hd : decode c.code g.pc = .ok (.lrem, 1)) (hs : g.stack = .long y :: .long x :: rest) (hy : y ≠ 0)
    (hr : Steps p.tables e below (T.setTop { g with pc := g.pc + 1, stack := .long (x % y) :: rest }) target) : Steps p.tables e below (T.setTop g) target := by
  have q : x - x / y * y = x % y := lrem_mod x y
  exact XS.lrem X.here hx hg hd hs hy (by rw [q]; exact hr)
/-! the calls -/
variable {y z : MethodName} {bytes : ByteArray} {maxL : Nat} {ret : Option FieldType} {rm : Room} {W : Nat} {as' : Array Value} {Qc : Option Value → Heap → List Loc → Prop} {own C : String} {index : Nat}
theorem own_callS (X : Stand p l e R s m args below meth c T locs cells slots) (hx : p.tables.exec = Jvm.exec) (hZ : Z.Warmed39 s.vm) (hown : s.vm.findClass own = some m.cls)
    (wl : (Cond.methodLink own index y).before a0 Z = true) (ws : (Cond.static y).before a0 Z = true) (wz : (Cond.initialized y.cls).before a0 Z = true) (wc : (Cond.code y bytes maxL ret).before a0 Z = true)
    (hy : y.cls ≠ "java/lang/invoke/MethodHandle" ∧ y.cls ≠ "java/lang/invoke/VarHandle")
    (hM : MetFree l y (head1 [Cond.code y bytes maxL ret] rm) (fun a U => a = as' ∧ Z.Warmed39 U.vm ∧ U.heap = h) (fun _ _ _ _ _ => True) (fun _ U o U' => ∃ v L, o = .returned v ∧ Qc v U'.heap L ∧ FrameEnd U o U' L rm.cells rm.slots))
    (hf : rm.frames + 1 ≤ R.frames) (hl : W + (maxL + 11) + rm.locals ≤ R.locals) {pc : Nat} {Ls : Array Slot} {S : List Value} (hsize : Ls.size = c.maxLocals) (argsL rest : List Value)
    (hlen : ∀ sig, parseMethodDescriptor y.desc = some sig → argsL.length = sig.parameters.length) (hS : S = argsL.reverse ++ rest) (ha : argsL.toArray = as') (hW : (rest.map fun v => v.category).sum ≤ W)
    (hd : decode c.code pc = .ok (.invokestatic index, 3)) (eT : T.heap = h) (hcl : cells + rm.cells ≤ R.cells) (hsl : slots + rm.slots ≤ R.slots)
    (k : ∀ (v : Option Value) (T' : State) (L' : List Loc) (X' : Stand p l e R s m args below meth c T' (locs ++ L') (cells + rm.cells) (slots + rm.slots)), Qc v T'.heap L' → own_Fin p e below s Q kc ks (T'.setTop (mkF m (pc + 3) Ls (v.toList ++ rest)))) :
    own_Fin p e below s Q kc ks (T.setTop (mkF m pc Ls S)) := by
  subst hS
  obtain ⟨v, _, ⟨T', L1, k1, n1⟩, -, X', ⟨L', hQ, l1, y1, z1⟩, st⟩ := Jvm.LawKit.callS X hx (y := y) hown (mvT hZ wl) (mvT hZ ws) (mvT hZ wz) (mvT hZ wc) hy (backOf (W := W) hM hZ wc wz hf hl) (g := mkF m pc Ls (argsL.reverse ++ rest)) rfl hsize (argsL := argsL) (rest := rest) hlen rfl (by show 2 * 0 + _ ≤ _; omega) hd (fun _ _ => ⟨ha, eT, hcl, hsl⟩)
  dsimp only [Pt.U, Pt.locs, Pt.cells, Pt.slots] at X' l1 y1 z1 st hQ
  subst l1 y1 z1
  exact own_st (fun t => st t) (k v T' L' X' hQ)
theorem own_callI (X : Stand p l e R s m args below meth c T locs cells slots) (hx : p.tables.exec = Jvm.exec) (hZ : Z.Warmed39 s.vm) (hown : s.vm.findClass own = some m.cls)
    (wl : (Cond.methodLink own index y).before a0 Z = true) (ws : (Cond.instanceMethod y).before a0 Z = true) (wz : (Cond.initialized y.cls).before a0 Z = true) (wc : (Cond.code y bytes maxL none).before a0 Z = true)
    (hn : y.name = "<init>") (hy : y.cls ≠ "java/lang/invoke/MethodHandle" ∧ y.cls ≠ "java/lang/invoke/VarHandle")
    (hM : MetFree l y (head1 [Cond.code y bytes maxL none] rm) (fun a U => a = as' ∧ Z.Warmed39 U.vm ∧ U.heap = h) (fun _ _ _ _ _ => True) (fun _ U o U' => ∃ v L, o = .returned v ∧ Qc v U'.heap L ∧ FrameEnd U o U' L rm.cells rm.slots))
    (hf : rm.frames + 1 ≤ R.frames) (hl : W + (maxL + 11) + rm.locals ≤ R.locals) {pc : Nat} {Ls : Array Slot} {S : List Value} (hsize : Ls.size = c.maxLocals) (a : Addr) (argsL rest : List Value)
    (hlen : ∀ sig, parseMethodDescriptor y.desc = some sig → argsL.length = sig.parameters.length) (hS : S = argsL.reverse ++ .ref a :: rest) (ha : (Value.ref a :: argsL).toArray = as') (hW : (rest.map fun v => v.category).sum ≤ W)
    (hd : decode c.code pc = .ok (.invokespecial index, 3)) (eT : T.heap = h) (hcl : cells + rm.cells ≤ R.cells) (hsl : slots + rm.slots ≤ R.slots)
    (k : ∀ (v : Option Value) (T' : State) (L' : List Loc) (X' : Stand p l e R s m args below meth c T' (locs ++ L') (cells + rm.cells) (slots + rm.slots)), Qc v T'.heap L' → own_Fin p e below s Q kc ks (T'.setTop (mkF m (pc + 3) Ls (v.toList ++ rest)))) :
    own_Fin p e below s Q kc ks (T.setTop (mkF m pc Ls S)) := by
  subst hS
  obtain ⟨v, _, ⟨T', L1, k1, n1⟩, -, X', ⟨L', hQ, l1, y1, z1⟩, st⟩ := X.specialBack hx (y := y) hn hown (mvT hZ wl) (mvT hZ ws) (mvT hZ wc) hy (backOf (W := W) hM hZ wc wz hf hl) (g := mkF m pc Ls (argsL.reverse ++ .ref a :: rest)) rfl hsize (Steps.refl _) (a := a) (argsL := argsL) (rest := rest) hlen rfl (by show 2 * 0 + _ ≤ _; omega) hd (fun _ _ => ⟨ha, eT, hcl, hsl⟩)
  dsimp only [Pt.U, Pt.locs, Pt.cells, Pt.slots] at X' l1 y1 z1 st hQ
  subst l1 y1 z1
  exact own_st (fun t => st.trans) (k v T' L' X' hQ)
theorem own_callV (X : Stand p l e R s m args below meth c T locs cells slots) (hx : p.tables.exec = Jvm.exec) (hZ : Z.Warmed39 s.vm) (hown : s.vm.findClass own = some m.cls)
    (wl : (Cond.methodLink own index y).before a0 Z = true) (wd : (Cond.declares y).before a0 Z = true) (wsel : (Cond.selects C y y).before a0 Z = true) (ws : (Cond.instanceMethod y).before a0 Z = true) (wz : (Cond.initialized y.cls).before a0 Z = true) (wc : (Cond.code y bytes maxL ret).before a0 Z = true)
    (hy : y.cls ≠ "java/lang/invoke/MethodHandle" ∧ y.cls ≠ "java/lang/invoke/VarHandle")
    (hM : MetFree l y (head1 [Cond.code y bytes maxL ret] rm) (fun a U => a = as' ∧ Z.Warmed39 U.vm ∧ U.heap = h) (fun _ _ _ _ _ => True) (fun _ U o U' => ∃ v L, o = .returned v ∧ Qc v U'.heap L ∧ FrameEnd U o U' L rm.cells rm.slots))
    (hf : rm.frames + 1 ≤ R.frames) (hl : W + (maxL + 11) + rm.locals ≤ R.locals) {pc : Nat} {Ls : Array Slot} {S : List Value} (hsize : Ls.size = c.maxLocals) (a : Addr) (argsL rest : List Value)
    (hlen : ∀ sig, parseMethodDescriptor y.desc = some sig → argsL.length = sig.parameters.length) (hS : S = argsL.reverse ++ .ref a :: rest) (ha : (Value.ref a :: argsL).toArray = as') (hW : (rest.map fun v => v.category).sum ≤ W)
    (hd : decode c.code pc = .ok (.invokevirtual index, 3)) (eT : T.heap = h) (EA : Exa Z h a C) (hcl : cells + rm.cells ≤ R.cells) (hsl : slots + rm.slots ≤ R.slots)
    (k : ∀ (v : Option Value) (T' : State) (L' : List Loc) (X' : Stand p l e R s m args below meth c T' (locs ++ L') (cells + rm.cells) (slots + rm.slots)), Qc v T'.heap L' → own_Fin p e below s Q kc ks (T'.setTop (mkF m (pc + 3) Ls (v.toList ++ rest)))) :
    own_Fin p e below s Q kc ks (T.setTop (mkF m pc Ls S)) := by
  subst hS
  obtain ⟨cq, kq, q1, q2, q3⟩ := isOf hZ eT EA
  obtain ⟨v, _, ⟨T', L1, k1, n1⟩, -, X', ⟨L', hQ, l1, y1, z1⟩, st⟩ := X.virtualBack hx (y := y) (z := y) hown (mvT hZ wl) (mvT hZ wd) (notFace_of_selects (args := #[]) (mvT hZ wsel)) (mvT hZ wsel) (mvT hZ ws) hy (backOf (W := W) hM hZ wc wz hf hl) q1 q3 (g := mkF m pc Ls (argsL.reverse ++ .ref a :: rest)) rfl hsize (Steps.refl _) (argsL := argsL) (rest := rest) hlen rfl (by show 2 * 0 + _ ≤ _; omega) hd (fun _ _ => ⟨ha, eT, hcl, hsl⟩)
  dsimp only [Pt.U, Pt.locs, Pt.cells, Pt.slots] at X' l1 y1 z1 st hQ
  subst l1 y1 z1
  exact own_st (fun t => st.trans) (k v T' L' X' hQ)
/-! arrays -/
variable {a : Addr} {kA : ClassId} {n j x : Int32} {vs : List Value} {dv : Value}
theorem own_stI (X : Stand p l e R s m args below meth c T locs cells slots) (hx : p.tables.exec = Jvm.exec) (hZ : Z.Warmed39 s.vm) (eT : T.heap = h) (V : Arv Z h a kA .int n vs dv) (q : ¬ j < 0 ∧ j < n) (hi : j.toNatClampNeg < vs.length) {g : JFrame} (hg : g.method = m) {rest : List Value} (hs : g.stack = .int x :: .int j :: .ref a :: rest) (hd : decode c.code g.pc = .ok (.iastore, 1)) :
    ∃ T' h', Stand p l e R s m args below meth c T' (locs ++ [⟨a, j.toNatClampNeg⟩]) cells slots ∧ T'.heap = h' ∧ Wr h h' a j.toNatClampNeg (.int x) ∧ Arv Z h' a kA .int n (vs.set j.toNatClampNeg (.int x)) dv ∧ ∀ target, Steps p.tables e below (T'.setTop { g with pc := g.pc + 1, stack := rest }) target → Steps p.tables e below (T.setTop g) target := by
  obtain ⟨cl, Ar, q1, S1, N1, H1, G1⟩ := V
  obtain ⟨T', h', X', e', W', st⟩ := stI X hx hZ eT Ar (inb_of S1 q) hg hs hd
  exact ⟨T', h', X', e', W', Arv.set Ar q1 S1 N1 H1 G1 rfl W' _ rfl hi, st⟩
theorem own_stB (X : Stand p l e R s m args below meth c T locs cells slots) (hx : p.tables.exec = Jvm.exec) (hZ : Z.Warmed39 s.vm) (eT : T.heap = h) (V : Arv Z h a kA .byte n vs dv) (q : ¬ j < 0 ∧ j < n) (hi : j.toNatClampNeg < vs.length) {g : JFrame} (hg : g.method = m) {rest : List Value} (hs : g.stack = .int x :: .int j :: .ref a :: rest) (hd : decode c.code g.pc = .ok (.bastore, 1)) :
    ∃ T' h', Stand p l e R s m args below meth c T' (locs ++ [⟨a, j.toNatClampNeg⟩]) cells slots ∧ T'.heap = h' ∧ Wr h h' a j.toNatClampNeg (.int (nar .byte x)) ∧ Arv Z h' a kA .byte n (vs.set j.toNatClampNeg (.int x.toInt8.toInt32)) dv ∧ ∀ target, Steps p.tables e below (T'.setTop { g with pc := g.pc + 1, stack := rest }) target → Steps p.tables e below (T.setTop g) target := by
  obtain ⟨cl, Ar, q1, S1, N1, H1, G1⟩ := V
  obtain ⟨T', h', X', e', W', st⟩ := stB X hx hZ eT Ar (inb_of S1 q) hg hs hd
  exact ⟨T', h', X', e', W', Arv.set Ar q1 S1 N1 H1 G1 (fits_nar_byte x) W' _ rfl hi, st⟩
theorem own_stJ {x : Int64} (X : Stand p l e R s m args below meth c T locs cells slots) (hx : p.tables.exec = Jvm.exec) (hZ : Z.Warmed39 s.vm) (eT : T.heap = h) (V : Arv Z h a kA .long n vs dv) (q : ¬ j < 0 ∧ j < n) (hi : j.toNatClampNeg < vs.length) {g : JFrame} (hg : g.method = m) {rest : List Value} (hs : g.stack = .long x :: .int j :: .ref a :: rest) (hd : decode c.code g.pc = .ok (.lastore, 1)) :
    ∃ T' h', Stand p l e R s m args below meth c T' (locs ++ [⟨a, j.toNatClampNeg⟩]) cells slots ∧ T'.heap = h' ∧ Wr h h' a j.toNatClampNeg (.long x) ∧ Arv Z h' a kA .long n (vs.set j.toNatClampNeg (.long x)) dv ∧ ∀ target, Steps p.tables e below (T'.setTop { g with pc := g.pc + 1, stack := rest }) target → Steps p.tables e below (T.setTop g) target := by
  obtain ⟨cl, Ar, q1, S1, N1, H1, G1⟩ := V
  obtain ⟨T', h', X', e', W', st⟩ := stJ X hx hZ eT Ar (inb_of S1 q) hg hs hd
  exact ⟨T', h', X', e', W', Arv.set Ar q1 S1 N1 H1 G1 rfl W' _ rfl hi, st⟩
theorem own_ldI (X : Stand p l e R s m args below meth c T locs cells slots) (hx : p.tables.exec = Jvm.exec) (hZ : Z.Warmed39 s.vm) (eT : T.heap = h) (V : Arv Z h a kA .int n vs dv) (q : ¬ j < 0 ∧ j < n) {v : Value} (hv : vs.getD j.toNatClampNeg dv = v) {g : JFrame} (hg : g.method = m) {rest : List Value} (hs : g.stack = .int j :: .ref a :: rest) (hd : decode c.code g.pc = .ok (.iaload, 1)) :
    ∀ target, Steps p.tables e below (T.setTop { g with pc := g.pc + 1, stack := v :: rest }) target → Steps p.tables e below (T.setTop g) target := by
  obtain ⟨cl, Ar, q1, S1, N1, H1, G1⟩ := V
  exact X.iaload hx (by rw [eT]; exact Ar.1) (State.isArrayOf_alike hZ.alike Ar.2.1) Ar.2.2 (inb_of S1 q) (H1.at (inb_of S1 q) hv) hg hs hd
theorem own_ldB (X : Stand p l e R s m args below meth c T locs cells slots) (hx : p.tables.exec = Jvm.exec) (hZ : Z.Warmed39 s.vm) (eT : T.heap = h) (V : Arv Z h a kA .byte n vs dv) (q : ¬ j < 0 ∧ j < n) {v : Value} (hv : vs.getD j.toNatClampNeg dv = v) {g : JFrame} (hg : g.method = m) {rest : List Value} (hs : g.stack = .int j :: .ref a :: rest) (hd : decode c.code g.pc = .ok (.baload, 1)) :
    ∀ target, Steps p.tables e below (T.setTop { g with pc := g.pc + 1, stack := v :: rest }) target → Steps p.tables e below (T.setTop g) target := by
  obtain ⟨cl, Ar, q1, S1, N1, H1, G1⟩ := V
  exact X.baloadBytes hx (by rw [eT]; exact Ar.1) (State.isArrayOf_alike hZ.alike Ar.2.1) Ar.2.2 (inb_of S1 q) (H1.at (inb_of S1 q) hv) hg hs hd
theorem own_ldJ (X : Stand p l e R s m args below meth c T locs cells slots) (hx : p.tables.exec = Jvm.exec) (hZ : Z.Warmed39 s.vm) (eT : T.heap = h) (V : Arv Z h a kA .long n vs dv) (q : ¬ j < 0 ∧ j < n) {v : Value} (hv : vs.getD j.toNatClampNeg dv = v) {g : JFrame} (hg : g.method = m) {rest : List Value} (hs : g.stack = .int j :: .ref a :: rest) (hd : decode c.code g.pc = .ok (.laload, 1)) :
    ∀ target, Steps p.tables e below (T.setTop { g with pc := g.pc + 1, stack := v :: rest }) target → Steps p.tables e below (T.setTop g) target := by
  obtain ⟨cl, Ar, q1, S1, N1, H1, G1⟩ := V
  exact X.laload hx (by rw [eT]; exact Ar.1) (State.isArrayOf_alike hZ.alike Ar.2.1) Ar.2.2 (inb_of S1 q) (H1.at (inb_of S1 q) hv) hg hs hd
theorem own_len {ty : FieldType} (X : Stand p l e R s m args below meth c T locs cells slots) (hx : p.tables.exec = Jvm.exec) (hZ : Z.Warmed39 s.vm) (eT : T.heap = h) (V : Arv Z h a kA ty n vs dv) {g : JFrame} (hg : g.method = m) {rest : List Value} (hs : g.stack = .ref a :: rest) (hd : decode c.code g.pc = .ok (.arraylength, 1)) :
    ∀ target, Steps p.tables e below (T.setTop { g with pc := g.pc + 1, stack := .int n :: rest }) target → Steps p.tables e below (T.setTop g) target := by
  obtain ⟨cl, Ar, q1, S1, N1, H1, G1⟩ := V
  intro t k
  refine X.arraylength hx (by rw [eT]; exact Ar.1) (State.isArrayOf_alike hZ.alike Ar.2.1) hg hs hd t ?_
  rw [len_of S1 N1]; exact k
end Own

def own_pw1 (g : Int32) : Int64 := ((1 : Int64) * g.toInt64)
def own_pw2 (g : Int32) : Int64 := (own_pw1 g * g.toInt64)
def own_pw3 (g : Int32) : Int64 := (own_pw2 g * g.toInt64)
def own_pw4 (g : Int32) : Int64 := (own_pw3 g * g.toInt64)
theorem own_p1 (g : Int32) : (own_pw1 g).toInt = g.toInt := by
  have h := c_lmul 1 g.toInt64
  have h1 := c_i2l g
  have h2 := rng32 g
  have h3 := rng64 ((1 : Int64) * g.toInt64)
  have e : (1 : Int64).toInt = 1 := by decide
  rw [e, h1] at h
  unfold own_pw1
  omega
theorem own_mulx {x : Int64} {g : Int32} {a : Int} (hx : x.toInt = a) (h0 : 0 ≤ a * g.toInt) (h1 : a * g.toInt < 9223372036854775808) : (x * g.toInt64).toInt = a * g.toInt := by
  have h := c_lmul x g.toInt64
  have h2 := c_i2l g
  have h3 := rng64 (x * g.toInt64)
  rw [h2, hx] at h
  generalize a * g.toInt = p at *
  omega
theorem own_le64 {x : Int64} {a : Int} (hx : x.toInt = a) (h : a ≤ 2147483639) : ¬ (2147483639 : Int64) < x := by
  rw [Int64.lt_iff_toInt_lt, hx]
  have e : (2147483639 : Int64).toInt = 2147483639 := by decide
  omega
theorem own_nn32 {x : Int64} {a : Int} (hx : x.toInt = a) (h0 : 0 ≤ a) (h : a ≤ 2147483639) : ¬ x.toInt32 < (0 : Int32) := by
  rw [Int32.lt_iff_toInt_lt, Int64.toInt_toInt32, hx]
  have e : (0 : Int32).toInt = 0 := by decide
  rw [Int.bmod_eq_of_le (by omega) (by omega)]
  omega
theorem own_pos2 {a b : Int} (ha : 0 ≤ a) (hb : 0 ≤ b) : 0 ≤ a * b := Int.mul_nonneg ha hb
theorem own_ub2 {a b A B : Int} (ha : 0 ≤ a) (hb : 0 ≤ b) (hA : a ≤ A) (hB : b ≤ B) : a * b ≤ A * B := Int.mul_le_mul hA hB hb (by omega)

def own_ir (v g : Int32) : Int32 := if v < 0 then 0 else if v < g then 1 else 0
theorem own_tt {a l : Int32} (h : ((1 : Int32) + (a &&& (3 : Int32))) = l) : l = 1 ∨ l = 2 ∨ l = 3 ∨ l = 4 := by
  subst h
  have h1 := c_mask a 3 2 (by decide) (by decide)
  have h3 := c_iadd 1 (a &&& (3 : Int32))
  have h4 := rng32 (1 + (a &&& (3 : Int32)))
  have e1 : (1 : Int32).toInt = 1 := by decide
  have e2 : (2 : Int32).toInt = 2 := by decide
  have e3 : (3 : Int32).toInt = 3 := by decide
  have e4 : (4 : Int32).toInt = 4 := by decide
  simp only [← Int32.toInt_inj, e1, e2, e3, e4]
  rw [e1] at h3
  omega
theorem own_gb {a m g : Int32} {M : Int} (hM : m.toInt = M) (h2 : 0 < M) (h3 : M ≤ 2147483638) (h : (2 : Int32) + ((a &&& (2147483647 : Int32)) % m) = g) : 2 ≤ g.toInt ∧ g.toInt ≤ M + 1 := by
  subst h
  have h0 : 0 ≤ (a &&& (2147483647 : Int32)).toInt := by rw [c_mask a 2147483647 31 (by decide) (by decide)]; omega
  have h1 := (c_iremV (a &&& (2147483647 : Int32)) m).1 h0 (by omega)
  have h4 := c_iadd 2 ((a &&& (2147483647 : Int32)) % m)
  have h5 := rng32 (2 + ((a &&& (2147483647 : Int32)) % m))
  have e2 : (2 : Int32).toInt = 2 := by decide
  rw [e2] at h4
  omega
theorem own_gnz {g : Int32} (h : 2 ≤ g.toInt) : g ≠ 0 := fun q => by
  rw [q] at h; exact absurd h (by decide)
theorem own_g2 {g : Int32} (h : 2 ≤ g.toInt) : ¬ g < (2 : Int32) := by
  rw [Int32.lt_iff_toInt_lt]
  have e2 : (2 : Int32).toInt = 2 := by decide
  omega
theorem own_cnz {c : Int64} {n : Int} (h : c.toInt = n) (hn : 0 < n) : c ≠ 0 := fun q => by
  rw [q] at h
  have e : (0 : Int64).toInt = 0 := by decide
  omega
theorem own_tp {q c : Int64} {t : Int32} {n : Int} (hc : c.toInt = n) (hn : 0 < n) (hb : n ≤ 2147483639) (h : ((q &&& (9223372036854775807 : Int64)) % c).toInt32 = t) : 0 ≤ t.toInt ∧ t.toInt < n := by
  subst h
  have hm := c_maskL q 9223372036854775807 63 (by decide) (by decide)
  have h0 : 0 ≤ (q &&& (9223372036854775807 : Int64)).toInt := by rw [hm]; omega
  have h1 : ((q &&& (9223372036854775807 : Int64)) % c).toInt = (q &&& (9223372036854775807 : Int64)).toInt % n := by rw [Int64.toInt_mod, (tr _ _).1 h0, hc]
  have h2 := Int.emod_nonneg (q &&& (9223372036854775807 : Int64)).toInt (show n ≠ 0 by omega)
  have h3 := Int.emod_lt_of_pos (q &&& (9223372036854775807 : Int64)).toInt hn
  rw [Int64.toInt_toInt32, h1, Int.bmod_eq_of_le (by omega) (by omega)]
  exact ⟨h2, h3⟩
theorem own_cl {t a c : Int32} (ht : 1 ≤ t.toInt ∧ t.toInt ≤ 4) (h : t + (a &&& (7 : Int32)) = c) : ¬ c < (1 : Int32) ∧ ¬ c < t := by
  subst h
  have h1 := c_mask a 7 3 (by decide) (by decide)
  have h3 := c_iadd t (a &&& (7 : Int32))
  have h4 := rng32 (t + (a &&& (7 : Int32)))
  have e1 : (1 : Int32).toInt = 1 := by decide
  simp only [Int32.lt_iff_toInt_lt, e1]
  omega
theorem own_mod {R g : Int32} (hR : 0 ≤ R.toInt) : (R % g).toInt = R.toInt % g.toInt := by rw [Int32.toInt_mod, (tr _ _).1 hR]
theorem own_div {R g : Int32} (hR : 0 ≤ R.toInt) (hg : 2 ≤ g.toInt) : (R / g).toInt = R.toInt / g.toInt := by
  rw [Int32.toInt_div_of_ne_right R g (fun q => by rw [q] at hg; exact absurd hg (by decide)), (tq _ _).1 hR]
theorem own_dnn {R g : Int32} (hR : 0 ≤ R.toInt) (hg : 2 ≤ g.toInt) : 0 ≤ (R / g).toInt := by
  rw [own_div hR hg]; exact Int.ediv_nonneg hR (by omega)
theorem own_dlt {R g : Int32} {B : Int} (hR : 0 ≤ R.toInt) (hg : 2 ≤ g.toInt) (h : R.toInt < B * g.toInt) : (R / g).toInt < B := by
  rw [own_div hR hg]; exact Int.ediv_lt_of_lt_mul (by omega) h
theorem own_ir1 {R g : Int32} (hR : 0 ≤ R.toInt) (hg : 2 ≤ g.toInt) : ¬ (own_ir (R % g) g) = (0 : Int32) := by
  have h1 := Int.emod_nonneg R.toInt (show g.toInt ≠ 0 by omega)
  have h2 := Int.emod_lt_of_pos R.toInt (show 0 < g.toInt by omega)
  have e0 : (0 : Int32).toInt = 0 := by decide
  unfold own_ir
  rw [if_neg (by rw [Int32.lt_iff_toInt_lt, own_mod hR, e0]; omega), if_pos (by rw [Int32.lt_iff_toInt_lt, own_mod hR]; omega)]
  decide
theorem own_h0 {R g : Int32} (hR : 0 ≤ R.toInt) (h : R.toInt < g.toInt) : ((R % g).toInt64).toInt = R.toInt := by
  rw [c_i2l, own_mod hR, Int.emod_eq_of_lt hR h]
theorem own_hs {h : Int64} {R g : Int32} (hR : 0 ≤ R.toInt) (hg : 2 ≤ g.toInt) (hh : h.toInt = (R / g).toInt) : ((h * g.toInt64) + (R % g).toInt64).toInt = R.toInt := by
  rw [own_div hR hg] at hh
  have r := rng32 R
  have d0 := Int.ediv_nonneg hR (show 0 ≤ g.toInt by omega)
  have m0 := Int.emod_nonneg R.toInt (show g.toInt ≠ 0 by omega)
  have de : R.toInt / g.toInt * g.toInt + R.toInt % g.toInt = R.toInt := by rw [Int.mul_comm]; exact Int.mul_ediv_add_emod _ _
  have p0 := own_pos2 d0 (show 0 ≤ g.toInt by omega)
  have e1 := own_mulx hh p0 (by omega)
  have s1 := c_ladd (h * g.toInt64) (R % g).toInt64
  have s2 := rng64 ((h * g.toInt64) + (R % g).toInt64)
  rw [c_i2l, own_mod hR, e1] at s1
  omega
theorem d2_0 : decode jdk_30_method_1_code 0 = .ok (.aload_n 0, 1) := by decide +kernel
theorem d2_1 : decode jdk_30_method_1_code 1 = .ok (.invokespecial 1, 3) := by decide +kernel
theorem d2_4 : decode jdk_30_method_1_code 4 = .ok (.return_, 1) := by decide +kernel
theorem pn_2 : plainName "java/lang/Record" = true := by first | (simp [plainName, overriddenIn]; done) | decide +kernel
theorem ef_2 (m : MethodId) (r0 : Addr) : entryFrame m #[(.ref r0)] 1 = mkF m 0 #[.val (.ref r0)] [] := by first | (simp [entryFrame, mkF, argsToLocals, Value.category]; done) | rfl
def Q2 (Z : State) (r0 : Addr)  (h0 : Heap) (n0 : Nat) (v : Option Value) (h : Heap) (L : List Loc) : Prop := v = none ∧ Fr n0 L ∧ h = h0
set_option maxRecDepth 65536 in
set_option maxHeartbeats 40000000 in
theorem rm2 (l : Launch) (Z : State) (a0 : Array Value) (hw : ∀ d ∈ tables_1, d.before a0 Z = true) (ws : List Jvm.Cond) (r0 : Addr)  (h0 : Heap) (n0 : Nat) (Z0 : n0 ≤ h0.size)  :
    MetFree l (⟨"java/lang/Record", "<init>", "()V"⟩ : MethodName) (head1 (Jvm.Cond.code (⟨"java/lang/Record", "<init>", "()V"⟩ : MethodName) jdk_30_method_1_code 1 none :: ws) ({ frames := 1, cells := 0, slots := 0, locals := 12 } : Room)) (fun a U => a = #[(.ref r0)] ∧ Z.Warmed39 U.vm ∧ U.heap = h0) (fun _ _ _ _ _ => True) (fun _ U o U' => ∃ v L, o = .returned v ∧ Q2 Z r0 h0 n0 v U'.heap L ∧ FrameEnd U o U' L ({ frames := 1, cells := 0, slots := 0, locals := 12 } : Room).cells ({ frames := 1, cells := 0, slots := 0, locals := 12 } : Room).slots) := by
  refine MetFree.of_bodySF (plainFor_of_name pn_2) hisR ?_
  intro p e s m args below meth c s₁ Bd hml0 hP hK
  obtain ⟨rfl, hZ, hh⟩ := hP
  have hx := Bd.exec
  have hby := Bd.bytes
  have hml : c.maxLocals = 1 := hml0
  have hown : s.vm.findClass "java/lang/Record" = some m.cls := findClass_of_methodNamed Bd.named
  have hnm := (name_of_methodNamed Bd.named Bd.method).1
  have hlk : meth.locks = false := Bd.notSynchronized
  have X0 : Stand p l e ({ frames := 1, cells := 0, slots := 0, locals := 12 } : Room) s m #[(.ref r0)] below meth c s₁ [] 0 0 := Stand.of_body Bd
  have e0 : s₁.heap = h0 := by rw [← hh, Bd.state]; rfl
  have N0 := Fr.nil n0
  refine own_cast (Q := Q2 Z r0 h0 n0) (kc := 0) (ks := 0) (ef_2 m r0) ?_
  refine own_st (fun _ k => XS.aloadN X0.here hx rfl (hb hby d2_0) rfl rfl k) ?_
  show own_Go X0 (Q2 Z r0 h0 n0) 0 0 1 #[.val (.ref r0)] [(.ref r0)]
  obtain ⟨T1, X1, e1, st1⟩ := initO X0 hx hZ hown (hw _ (List.mem_of_getElem? (i := 14) rfl)) (hw _ (List.mem_of_getElem? (i := 15) rfl)) (hw _ (List.mem_of_getElem? (i := 16) rfl)) e0 (g := (mkF m 1 #[.val (.ref r0)] [(.ref r0)])) rfl (by rw [hml]; rfl) rfl (hb hby d2_1) (by decide) (W := 0) (by show 2 * 0 + _ ≤ _; exact Nat.le_of_eq rfl) (by decide)
  refine own_st st1 ?_
  show own_Go X1 (Q2 Z r0 h0 n0) 0 0 4 #[.val (.ref r0)] []
  refine own_retV X1 hx Bd.returns hlk e1 (hb hby d2_4) (by decide) (by decide) ?_
  exact ⟨rfl, N0, rfl⟩
theorem d41_0 : decode prog_55_method_7_code 0 = .ok (.lconst 1, 1) := by decide +kernel
theorem d41_1 : decode prog_55_method_7_code 1 = .ok (.lstore_n 2, 1) := by decide +kernel
theorem d41_2 : decode prog_55_method_7_code 2 = .ok (.iconst 0, 1) := by decide +kernel
theorem d41_3 : decode prog_55_method_7_code 3 = .ok (.istore 4, 2) := by decide +kernel
theorem d41_5 : decode prog_55_method_7_code 5 = .ok (.iload 4, 2) := by decide +kernel
theorem d41_7 : decode prog_55_method_7_code 7 = .ok (.iload_n 1, 1) := by decide +kernel
theorem d41_8 : decode prog_55_method_7_code 8 = .ok (.if_icmp .ge 24, 3) := by decide +kernel
theorem d41_11 : decode prog_55_method_7_code 11 = .ok (.lload_n 2, 1) := by decide +kernel
theorem d41_12 : decode prog_55_method_7_code 12 = .ok (.iload_n 0, 1) := by decide +kernel
theorem d41_13 : decode prog_55_method_7_code 13 = .ok (.i2l, 1) := by decide +kernel
theorem d41_14 : decode prog_55_method_7_code 14 = .ok (.lmul, 1) := by decide +kernel
theorem d41_15 : decode prog_55_method_7_code 15 = .ok (.lstore_n 2, 1) := by decide +kernel
theorem d41_16 : decode prog_55_method_7_code 16 = .ok (.lload_n 2, 1) := by decide +kernel
theorem d41_17 : decode prog_55_method_7_code 17 = .ok (.ldc2_w 133, 3) := by decide +kernel
theorem d41_20 : decode prog_55_method_7_code 20 = .ok (.lcmp, 1) := by decide +kernel
theorem d41_21 : decode prog_55_method_7_code 21 = .ok (.ifCond .le 5, 3) := by decide +kernel
theorem d41_26 : decode prog_55_method_7_code 26 = .ok (.iinc 4 1, 3) := by decide +kernel
theorem d41_29 : decode prog_55_method_7_code 29 = .ok (.goto (-24), 3) := by decide +kernel
theorem d41_32 : decode prog_55_method_7_code 32 = .ok (.lload_n 2, 1) := by decide +kernel
theorem d41_33 : decode prog_55_method_7_code 33 = .ok (.l2i, 1) := by decide +kernel
theorem d41_34 : decode prog_55_method_7_code 34 = .ok (.ireturn, 1) := by decide +kernel
theorem pn_41 : plainName "com/example/gingham/gingham/designs/CoveringArraySpec" = true := by first | (simp [plainName, overriddenIn]; done) | decide +kernel
theorem ef_41 (m : MethodId) (p0 : Int32) : entryFrame m #[(.int p0), (.int (1 : Int32))] 5 = mkF m 0 #[.val (.int p0), .val (.int (1 : Int32)), .unset, .unset, .unset] [] := by first | (simp [entryFrame, mkF, argsToLocals, Value.category]; done) | rfl
def Q41 (Z : State) (p0 : Int32)  (h0 : Heap) (n0 : Nat) (v : Option Value) (h : Heap) (L : List Loc) : Prop := v = some (.int ((own_pw1 p0).toInt32)) ∧ Fr n0 L ∧ h = h0
set_option maxRecDepth 65536 in
set_option maxHeartbeats 40000000 in
theorem rm41 (l : Launch) (Z : State) (a0 : Array Value) (hw : ∀ d ∈ tables_1, d.before a0 Z = true) (ws : List Jvm.Cond) (p0 : Int32)  (h0 : Heap) (n0 : Nat) (Z0 : n0 ≤ h0.size) (H1 : ¬ (2147483639 : Int64) < own_pw1 p0) :
    MetFree l (⟨"com/example/gingham/gingham/designs/CoveringArraySpec", "tupleCount", "(II)I"⟩ : MethodName) (head1 (Jvm.Cond.code (⟨"com/example/gingham/gingham/designs/CoveringArraySpec", "tupleCount", "(II)I"⟩ : MethodName) prog_55_method_7_code 5 (some .int) :: ws) ({ frames := 0, cells := 0, slots := 0, locals := 0 } : Room)) (fun a U => a = #[(.int p0), (.int (1 : Int32))] ∧ Z.Warmed39 U.vm ∧ U.heap = h0) (fun _ _ _ _ _ => True) (fun _ U o U' => ∃ v L, o = .returned v ∧ Q41 Z p0 h0 n0 v U'.heap L ∧ FrameEnd U o U' L ({ frames := 0, cells := 0, slots := 0, locals := 0 } : Room).cells ({ frames := 0, cells := 0, slots := 0, locals := 0 } : Room).slots) := by
  refine MetFree.of_bodySF (plainFor_of_name pn_41) hisR ?_
  intro p e s m args below meth c s₁ Bd hml0 hP hK
  obtain ⟨rfl, hZ, hh⟩ := hP
  have hx := Bd.exec
  have hby := Bd.bytes
  have hml : c.maxLocals = 5 := hml0
  have hown : s.vm.findClass "com/example/gingham/gingham/designs/CoveringArraySpec" = some m.cls := findClass_of_methodNamed Bd.named
  have hnm := (name_of_methodNamed Bd.named Bd.method).1
  have hlk : meth.locks = false := Bd.notSynchronized
  have X0 : Stand p l e ({ frames := 0, cells := 0, slots := 0, locals := 0 } : Room) s m #[(.int p0), (.int (1 : Int32))] below meth c s₁ [] 0 0 := Stand.of_body Bd
  have e0 : s₁.heap = h0 := by rw [← hh, Bd.state]; rfl
  have N0 := Fr.nil n0
  refine own_cast (Q := Q41 Z p0 h0 n0) (kc := 0) (ks := 0) (ef_41 m p0) ?_
  refine own_st (fun _ k => XS.lconst X0.here hx rfl (hb hby d41_0) k) ?_
  show own_Go X0 (Q41 Z p0 h0 n0) 0 0 1 #[.val (.int p0), .val (.int (1 : Int32)), .unset, .unset, .unset] [(.long (1 : Int64))]
  refine own_st (fun _ k => XS.lstoreN X0.here hx rfl (hb hby d41_1) rfl (l' := #[.val (.int p0), .val (.int (1 : Int32)), .val (.long (1 : Int64)), .second, .unset]) rfl k) ?_
  show own_Go X0 (Q41 Z p0 h0 n0) 0 0 2 #[.val (.int p0), .val (.int (1 : Int32)), .val (.long (1 : Int64)), .second, .unset] []
  refine own_st (fun _ k => XS.iconst X0.here hx rfl (hb hby d41_2) k) ?_
  show own_Go X0 (Q41 Z p0 h0 n0) 0 0 3 #[.val (.int p0), .val (.int (1 : Int32)), .val (.long (1 : Int64)), .second, .unset] [(.int (0 : Int32))]
  refine own_st (fun _ k => XS.istore X0.here hx rfl (hb hby d41_3) rfl (l' := #[.val (.int p0), .val (.int (1 : Int32)), .val (.long (1 : Int64)), .second, .val (.int (0 : Int32))]) rfl k) ?_
  show own_Go X0 (Q41 Z p0 h0 n0) 0 0 5 #[.val (.int p0), .val (.int (1 : Int32)), .val (.long (1 : Int64)), .second, .val (.int (0 : Int32))] []
  refine own_st (fun _ k => XS.iload X0.here hx rfl (hb hby d41_5) rfl k) ?_
  show own_Go X0 (Q41 Z p0 h0 n0) 0 0 7 #[.val (.int p0), .val (.int (1 : Int32)), .val (.long (1 : Int64)), .second, .val (.int (0 : Int32))] [(.int (0 : Int32))]
  refine own_st (fun _ k => XS.iloadN X0.here hx rfl (hb hby d41_7) rfl k) ?_
  show own_Go X0 (Q41 Z p0 h0 n0) 0 0 8 #[.val (.int p0), .val (.int (1 : Int32)), .val (.long (1 : Int64)), .second, .val (.int (0 : Int32))] [(.int (1 : Int32)), (.int (0 : Int32))]
  have c8_1 : (0 : Int32) < (1 : Int32) := (by decide)
  refine own_st (fun _ k => XS.icmpNo X0.here hx rfl (hb hby d41_8) rfl (tlt c8_1).2.1 k) ?_
  show own_Go X0 (Q41 Z p0 h0 n0) 0 0 11 #[.val (.int p0), .val (.int (1 : Int32)), .val (.long (1 : Int64)), .second, .val (.int (0 : Int32))] []
  refine own_st (fun _ k => XS.lloadN X0.here hx rfl (hb hby d41_11) rfl k) ?_
  show own_Go X0 (Q41 Z p0 h0 n0) 0 0 12 #[.val (.int p0), .val (.int (1 : Int32)), .val (.long (1 : Int64)), .second, .val (.int (0 : Int32))] [(.long (1 : Int64))]
  refine own_st (fun _ k => XS.iloadN X0.here hx rfl (hb hby d41_12) rfl k) ?_
  show own_Go X0 (Q41 Z p0 h0 n0) 0 0 13 #[.val (.int p0), .val (.int (1 : Int32)), .val (.long (1 : Int64)), .second, .val (.int (0 : Int32))] [(.int p0), (.long (1 : Int64))]
  refine own_st (fun _ k => XS.i2l X0.here hx rfl (hb hby d41_13) rfl k) ?_
  show own_Go X0 (Q41 Z p0 h0 n0) 0 0 14 #[.val (.int p0), .val (.int (1 : Int32)), .val (.long (1 : Int64)), .second, .val (.int (0 : Int32))] [(.long (p0.toInt64)), (.long (1 : Int64))]
  refine own_st (fun _ k => XS.lmul X0.here hx rfl (hb hby d41_14) rfl k) ?_
  show own_Go X0 (Q41 Z p0 h0 n0) 0 0 15 #[.val (.int p0), .val (.int (1 : Int32)), .val (.long (1 : Int64)), .second, .val (.int (0 : Int32))] [(.long ((1 : Int64) * (p0.toInt64)))]
  refine own_st (fun _ k => XS.lstoreN X0.here hx rfl (hb hby d41_15) rfl (l' := #[.val (.int p0), .val (.int (1 : Int32)), .val (.long ((1 : Int64) * (p0.toInt64))), .second, .val (.int (0 : Int32))]) rfl k) ?_
  show own_Go X0 (Q41 Z p0 h0 n0) 0 0 16 #[.val (.int p0), .val (.int (1 : Int32)), .val (.long ((1 : Int64) * (p0.toInt64))), .second, .val (.int (0 : Int32))] []
  show own_Go X0 (Q41 Z p0 h0 n0) 0 0 16 #[.val (.int p0), .val (.int (1 : Int32)), .val (.long (own_pw1 p0)), .second, .val (.int (0 : Int32))] []
  refine own_st (fun _ k => XS.lloadN X0.here hx rfl (hb hby d41_16) rfl k) ?_
  show own_Go X0 (Q41 Z p0 h0 n0) 0 0 17 #[.val (.int p0), .val (.int (1 : Int32)), .val (.long (own_pw1 p0)), .second, .val (.int (0 : Int32))] [(.long (own_pw1 p0))]
  refine own_st (fun t k => X0.ldc2Long hx hown (mvT hZ (hw _ (List.mem_of_getElem? (i := 20) rfl))) (g := (mkF m 17 #[.val (.int p0), .val (.int (1 : Int32)), .val (.long (own_pw1 p0)), .second, .val (.int (0 : Int32))] [(.long (own_pw1 p0))])) rfl (hb hby d41_17) t k) ?_
  show own_Go X0 (Q41 Z p0 h0 n0) 0 0 20 #[.val (.int p0), .val (.int (1 : Int32)), .val (.long (own_pw1 p0)), .second, .val (.int (0 : Int32))] [(.long (2147483639 : Int64)), (.long (own_pw1 p0))]
  refine own_st (fun _ k => XS.lcmp X0.here hx rfl (hb hby d41_20) rfl k) ?_
  show own_Go X0 (Q41 Z p0 h0 n0) 0 0 21 #[.val (.int p0), .val (.int (1 : Int32)), .val (.long (own_pw1 p0)), .second, .val (.int (0 : Int32))] [(.int (lcmpW (own_pw1 p0) (2147483639 : Int64)))]
  have c21_2 : ¬ ((2147483639 : Int64) < (own_pw1 p0)) := H1
  refine own_st (fun _ k => XS.ifYes X0.here hx rfl (pc0 := 21) (pc' := 26) rfl (hb hby d41_21) rfl ((if0 _ _).trans (flt (fun q => c21_2 ((lw_gt _ _).mp q))).2.2.2) (by decide) (by decide) k) ?_
  show own_Go X0 (Q41 Z p0 h0 n0) 0 0 26 #[.val (.int p0), .val (.int (1 : Int32)), .val (.long (own_pw1 p0)), .second, .val (.int (0 : Int32))] []
  refine own_st (fun _ k => XS.iinc X0.here hx rfl (hb hby d41_26) rfl (l' := #[.val (.int p0), .val (.int (1 : Int32)), .val (.long (own_pw1 p0)), .second, .val (.int (1 : Int32))]) rfl k) ?_
  show own_Go X0 (Q41 Z p0 h0 n0) 0 0 29 #[.val (.int p0), .val (.int (1 : Int32)), .val (.long (own_pw1 p0)), .second, .val (.int (1 : Int32))] []
  refine own_st (fun _ k => XS.goto X0.here hx rfl (pc0 := 29) (pc' := 5) rfl (hb hby d41_29) (by decide) (by decide) k) ?_
  show own_Go X0 (Q41 Z p0 h0 n0) 0 0 5 #[.val (.int p0), .val (.int (1 : Int32)), .val (.long (own_pw1 p0)), .second, .val (.int (1 : Int32))] []
  refine own_st (fun _ k => XS.iload X0.here hx rfl (hb hby d41_5) rfl k) ?_
  show own_Go X0 (Q41 Z p0 h0 n0) 0 0 7 #[.val (.int p0), .val (.int (1 : Int32)), .val (.long (own_pw1 p0)), .second, .val (.int (1 : Int32))] [(.int (1 : Int32))]
  refine own_st (fun _ k => XS.iloadN X0.here hx rfl (hb hby d41_7) rfl k) ?_
  show own_Go X0 (Q41 Z p0 h0 n0) 0 0 8 #[.val (.int p0), .val (.int (1 : Int32)), .val (.long (own_pw1 p0)), .second, .val (.int (1 : Int32))] [(.int (1 : Int32)), (.int (1 : Int32))]
  have c8_3 : ¬ ((1 : Int32) < (1 : Int32)) := (by decide)
  refine own_st (fun _ k => XS.icmpYes X0.here hx rfl (pc0 := 8) (pc' := 32) rfl (hb hby d41_8) rfl (flt c8_3).2.1 (by decide) (by decide) k) ?_
  show own_Go X0 (Q41 Z p0 h0 n0) 0 0 32 #[.val (.int p0), .val (.int (1 : Int32)), .val (.long (own_pw1 p0)), .second, .val (.int (1 : Int32))] []
  refine own_st (fun _ k => XS.lloadN X0.here hx rfl (hb hby d41_32) rfl k) ?_
  show own_Go X0 (Q41 Z p0 h0 n0) 0 0 33 #[.val (.int p0), .val (.int (1 : Int32)), .val (.long (own_pw1 p0)), .second, .val (.int (1 : Int32))] [(.long (own_pw1 p0))]
  refine own_st (fun _ k => XS.l2i X0.here hx rfl (hb hby d41_33) rfl k) ?_
  show own_Go X0 (Q41 Z p0 h0 n0) 0 0 34 #[.val (.int p0), .val (.int (1 : Int32)), .val (.long (own_pw1 p0)), .second, .val (.int (1 : Int32))] [(.int ((own_pw1 p0).toInt32))]
  refine own_retI X0 hx Bd.returns hlk e0 (hb hby d41_34) (by decide) (by decide) ?_
  exact ⟨rfl, N0, rfl⟩
theorem d11_0 : decode prog_55_method_1_code 0 = .ok (.aload_n 0, 1) := by decide +kernel
theorem d11_1 : decode prog_55_method_1_code 1 = .ok (.invokespecial 1, 3) := by decide +kernel
theorem d11_4 : decode prog_55_method_1_code 4 = .ok (.iload_n 1, 1) := by decide +kernel
theorem d11_5 : decode prog_55_method_1_code 5 = .ok (.iconst 1, 1) := by decide +kernel
theorem d11_6 : decode prog_55_method_1_code 6 = .ok (.if_icmp .ge 11, 3) := by decide +kernel
theorem d11_17 : decode prog_55_method_1_code 17 = .ok (.iload_n 3, 1) := by decide +kernel
theorem d11_18 : decode prog_55_method_1_code 18 = .ok (.iconst 1, 1) := by decide +kernel
theorem d11_19 : decode prog_55_method_1_code 19 = .ok (.if_icmp .ge 11, 3) := by decide +kernel
theorem d11_30 : decode prog_55_method_1_code 30 = .ok (.iload_n 2, 1) := by decide +kernel
theorem d11_31 : decode prog_55_method_1_code 31 = .ok (.iconst 1, 1) := by decide +kernel
theorem d11_32 : decode prog_55_method_1_code 32 = .ok (.if_icmp .lt 8, 3) := by decide +kernel
theorem d11_35 : decode prog_55_method_1_code 35 = .ok (.iload_n 2, 1) := by decide +kernel
theorem d11_36 : decode prog_55_method_1_code 36 = .ok (.iload_n 3, 1) := by decide +kernel
theorem d11_37 : decode prog_55_method_1_code 37 = .ok (.if_icmp .le 20, 3) := by decide +kernel
theorem d11_57 : decode prog_55_method_1_code 57 = .ok (.iload 4, 2) := by decide +kernel
theorem d11_59 : decode prog_55_method_1_code 59 = .ok (.iconst 2, 1) := by decide +kernel
theorem d11_60 : decode prog_55_method_1_code 60 = .ok (.if_icmp .ge 12, 3) := by decide +kernel
theorem d11_72 : decode prog_55_method_1_code 72 = .ok (.iload 4, 2) := by decide +kernel
theorem d11_74 : decode prog_55_method_1_code 74 = .ok (.iload_n 2, 1) := by decide +kernel
theorem d11_75 : decode prog_55_method_1_code 75 = .ok (.invokestatic 28, 3) := by decide +kernel
theorem d11_78 : decode prog_55_method_1_code 78 = .ok (.ifCond .ge 23, 3) := by decide +kernel
theorem d11_101 : decode prog_55_method_1_code 101 = .ok (.aload_n 0, 1) := by decide +kernel
theorem d11_102 : decode prog_55_method_1_code 102 = .ok (.iload_n 1, 1) := by decide +kernel
theorem d11_103 : decode prog_55_method_1_code 103 = .ok (.putfield 37, 3) := by decide +kernel
theorem d11_106 : decode prog_55_method_1_code 106 = .ok (.aload_n 0, 1) := by decide +kernel
theorem d11_107 : decode prog_55_method_1_code 107 = .ok (.iload_n 2, 1) := by decide +kernel
theorem d11_108 : decode prog_55_method_1_code 108 = .ok (.putfield 40, 3) := by decide +kernel
theorem d11_111 : decode prog_55_method_1_code 111 = .ok (.aload_n 0, 1) := by decide +kernel
theorem d11_112 : decode prog_55_method_1_code 112 = .ok (.iload_n 3, 1) := by decide +kernel
theorem d11_113 : decode prog_55_method_1_code 113 = .ok (.putfield 42, 3) := by decide +kernel
theorem d11_116 : decode prog_55_method_1_code 116 = .ok (.aload_n 0, 1) := by decide +kernel
theorem d11_117 : decode prog_55_method_1_code 117 = .ok (.iload 4, 2) := by decide +kernel
theorem d11_119 : decode prog_55_method_1_code 119 = .ok (.putfield 44, 3) := by decide +kernel
theorem d11_122 : decode prog_55_method_1_code 122 = .ok (.return_, 1) := by decide +kernel
theorem pn_11 : plainName "com/example/gingham/gingham/designs/CoveringArraySpec" = true := by first | (simp [plainName, overriddenIn]; done) | decide +kernel
theorem pd_11_0 : parseMethodDescriptor "()V" = some ⟨[], none⟩ := by decide +kernel
theorem pd_11_1 : parseMethodDescriptor "(II)I" = some ⟨[.int, .int], some .int⟩ := by decide +kernel
theorem ef_11 (m : MethodId) (r0 : Addr) (p3 : Int32) (p4 : Int32) : entryFrame m #[(.ref r0), (.int (1 : Int32)), (.int (1 : Int32)), (.int p3), (.int p4)] 5 = mkF m 0 #[.val (.ref r0), .val (.int (1 : Int32)), .val (.int (1 : Int32)), .val (.int p3), .val (.int p4)] [] := by first | (simp [entryFrame, mkF, argsToLocals, Value.category]; done) | rfl
def Q11 (Z : State) (r0 : Addr) (p3 : Int32) (p4 : Int32)  (h0 : Heap) (n0 : Nat) (v : Option Value) (h : Heap) (L : List Loc) : Prop := v = none ∧ Fr n0 L ∧ Keep h0 h [r0] ∧ Fld Z h r0 "com/example/gingham/gingham/designs/CoveringArraySpec" "rows" "I" (.int (1 : Int32)) ∧ Fld Z h r0 "com/example/gingham/gingham/designs/CoveringArraySpec" "strength" "I" (.int (1 : Int32)) ∧ Fld Z h r0 "com/example/gingham/gingham/designs/CoveringArraySpec" "columns" "I" (.int p3) ∧ Fld Z h r0 "com/example/gingham/gingham/designs/CoveringArraySpec" "levels" "I" (.int p4)
set_option maxRecDepth 65536 in
set_option maxHeartbeats 40000000 in
theorem rm11 (l : Launch) (Z : State) (a0 : Array Value) (hw : ∀ d ∈ tables_1, d.before a0 Z = true) (ws : List Jvm.Cond) (r0 : Addr) (p3 : Int32) (p4 : Int32)  (h0 : Heap) (n0 : Nat) (Z0 : n0 ≤ h0.size) (PE : Exa Z h0 r0 "com/example/gingham/gingham/designs/CoveringArraySpec") (PG : n0 ≤ r0) (P_rows : Fld Z h0 r0 "com/example/gingham/gingham/designs/CoveringArraySpec" "rows" "I" (.int (0 : Int32))) (P_strength : Fld Z h0 r0 "com/example/gingham/gingham/designs/CoveringArraySpec" "strength" "I" (.int (0 : Int32))) (P_columns : Fld Z h0 r0 "com/example/gingham/gingham/designs/CoveringArraySpec" "columns" "I" (.int (0 : Int32))) (P_levels : Fld Z h0 r0 "com/example/gingham/gingham/designs/CoveringArraySpec" "levels" "I" (.int (0 : Int32))) (H1 : ¬ (2147483639 : Int64) < own_pw1 p4) (HN : ¬ (own_pw1 p4).toInt32 < (0 : Int32)) (HG : ¬ p4 < (2 : Int32)) (HC : ¬ p3 < (1 : Int32)) (HT : ¬ p3 < (1 : Int32)) :
    MetFree l (⟨"com/example/gingham/gingham/designs/CoveringArraySpec", "<init>", "(IIII)V"⟩ : MethodName) (head1 (Jvm.Cond.code (⟨"com/example/gingham/gingham/designs/CoveringArraySpec", "<init>", "(IIII)V"⟩ : MethodName) prog_55_method_1_code 5 none :: ws) ({ frames := 2, cells := 0, slots := 0, locals := 24 } : Room)) (fun a U => a = #[(.ref r0), (.int (1 : Int32)), (.int (1 : Int32)), (.int p3), (.int p4)] ∧ Z.Warmed39 U.vm ∧ U.heap = h0) (fun _ _ _ _ _ => True) (fun _ U o U' => ∃ v L, o = .returned v ∧ Q11 Z r0 p3 p4 h0 n0 v U'.heap L ∧ FrameEnd U o U' L ({ frames := 2, cells := 0, slots := 0, locals := 24 } : Room).cells ({ frames := 2, cells := 0, slots := 0, locals := 24 } : Room).slots) := by
  refine MetFree.of_bodySF (plainFor_of_name pn_11) hisR ?_
  intro p e s m args below meth c s₁ Bd hml0 hP hK
  obtain ⟨rfl, hZ, hh⟩ := hP
  have hx := Bd.exec
  have hby := Bd.bytes
  have hml : c.maxLocals = 5 := hml0
  have hown : s.vm.findClass "com/example/gingham/gingham/designs/CoveringArraySpec" = some m.cls := findClass_of_methodNamed Bd.named
  have hnm := (name_of_methodNamed Bd.named Bd.method).1
  have hlk : meth.locks = false := Bd.notSynchronized
  have X0 : Stand p l e ({ frames := 2, cells := 0, slots := 0, locals := 24 } : Room) s m #[(.ref r0), (.int (1 : Int32)), (.int (1 : Int32)), (.int p3), (.int p4)] below meth c s₁ [] 0 0 := Stand.of_body Bd
  have e0 : s₁.heap = h0 := by rw [← hh, Bd.state]; rfl
  have N0 := Fr.nil n0
  refine own_cast (Q := Q11 Z r0 p3 p4 h0 n0) (kc := 0) (ks := 0) (ef_11 m r0 p3 p4) ?_
  have K_1 := Keep.refl h0 [r0]
  refine own_st (fun _ k => XS.aloadN X0.here hx rfl (hb hby d11_0) rfl rfl k) ?_
  show own_Go X0 (Q11 Z r0 p3 p4 h0 n0) 0 0 1 #[.val (.ref r0), .val (.int (1 : Int32)), .val (.int (1 : Int32)), .val (.int p3), .val (.int p4)] [(.ref r0)]
  refine own_callI (W := 0) X0 hx hZ hown (hw _ (List.mem_of_getElem? (i := 9) rfl)) (hw _ (List.mem_of_getElem? (i := 10) rfl)) (hw _ (List.mem_of_getElem? (i := 12) rfl)) (hw _ (List.mem_of_getElem? (i := 13) rfl)) rfl (by decide) (rm2 l Z a0 hw [] r0 h0 n0 Z0) (by decide) (by decide) (by rw [hml]; rfl) r0 [] [] (lenOf pd_11_0 rfl) rfl rfl (Nat.le_of_ble_eq_true rfl) (hb hby d11_1) e0 (by decide) (by decide) ?_
  rintro _ T2 L2 X2 ⟨rfl, N2q, e2⟩
  have N_3 := Fr.app N0 N2q
  show own_Go X2 (Q11 Z r0 p3 p4 h0 n0) 0 0 4 #[.val (.ref r0), .val (.int (1 : Int32)), .val (.int (1 : Int32)), .val (.int p3), .val (.int p4)] []
  refine own_st (fun _ k => XS.iloadN X2.here hx rfl (hb hby d11_4) rfl k) ?_
  show own_Go X2 (Q11 Z r0 p3 p4 h0 n0) 0 0 5 #[.val (.ref r0), .val (.int (1 : Int32)), .val (.int (1 : Int32)), .val (.int p3), .val (.int p4)] [(.int (1 : Int32))]
  refine own_st (fun _ k => XS.iconst X2.here hx rfl (hb hby d11_5) k) ?_
  show own_Go X2 (Q11 Z r0 p3 p4 h0 n0) 0 0 6 #[.val (.ref r0), .val (.int (1 : Int32)), .val (.int (1 : Int32)), .val (.int p3), .val (.int p4)] [(.int (1 : Int32)), (.int (1 : Int32))]
  have c6_4 : ¬ ((1 : Int32) < (1 : Int32)) := (by decide)
  refine own_st (fun _ k => XS.icmpYes X2.here hx rfl (pc0 := 6) (pc' := 17) rfl (hb hby d11_6) rfl (flt c6_4).2.1 (by decide) (by decide) k) ?_
  show own_Go X2 (Q11 Z r0 p3 p4 h0 n0) 0 0 17 #[.val (.ref r0), .val (.int (1 : Int32)), .val (.int (1 : Int32)), .val (.int p3), .val (.int p4)] []
  refine own_st (fun _ k => XS.iloadN X2.here hx rfl (hb hby d11_17) rfl k) ?_
  show own_Go X2 (Q11 Z r0 p3 p4 h0 n0) 0 0 18 #[.val (.ref r0), .val (.int (1 : Int32)), .val (.int (1 : Int32)), .val (.int p3), .val (.int p4)] [(.int p3)]
  refine own_st (fun _ k => XS.iconst X2.here hx rfl (hb hby d11_18) k) ?_
  show own_Go X2 (Q11 Z r0 p3 p4 h0 n0) 0 0 19 #[.val (.ref r0), .val (.int (1 : Int32)), .val (.int (1 : Int32)), .val (.int p3), .val (.int p4)] [(.int (1 : Int32)), (.int p3)]
  have c19_5 : ¬ (p3 < (1 : Int32)) := HC
  refine own_st (fun _ k => XS.icmpYes X2.here hx rfl (pc0 := 19) (pc' := 30) rfl (hb hby d11_19) rfl (flt c19_5).2.1 (by decide) (by decide) k) ?_
  show own_Go X2 (Q11 Z r0 p3 p4 h0 n0) 0 0 30 #[.val (.ref r0), .val (.int (1 : Int32)), .val (.int (1 : Int32)), .val (.int p3), .val (.int p4)] []
  refine own_st (fun _ k => XS.iloadN X2.here hx rfl (hb hby d11_30) rfl k) ?_
  show own_Go X2 (Q11 Z r0 p3 p4 h0 n0) 0 0 31 #[.val (.ref r0), .val (.int (1 : Int32)), .val (.int (1 : Int32)), .val (.int p3), .val (.int p4)] [(.int (1 : Int32))]
  refine own_st (fun _ k => XS.iconst X2.here hx rfl (hb hby d11_31) k) ?_
  show own_Go X2 (Q11 Z r0 p3 p4 h0 n0) 0 0 32 #[.val (.ref r0), .val (.int (1 : Int32)), .val (.int (1 : Int32)), .val (.int p3), .val (.int p4)] [(.int (1 : Int32)), (.int (1 : Int32))]
  have c32_6 : ¬ ((1 : Int32) < (1 : Int32)) := (by decide)
  refine own_st (fun _ k => XS.icmpNo X2.here hx rfl (hb hby d11_32) rfl (flt c32_6).1 k) ?_
  show own_Go X2 (Q11 Z r0 p3 p4 h0 n0) 0 0 35 #[.val (.ref r0), .val (.int (1 : Int32)), .val (.int (1 : Int32)), .val (.int p3), .val (.int p4)] []
  refine own_st (fun _ k => XS.iloadN X2.here hx rfl (hb hby d11_35) rfl k) ?_
  show own_Go X2 (Q11 Z r0 p3 p4 h0 n0) 0 0 36 #[.val (.ref r0), .val (.int (1 : Int32)), .val (.int (1 : Int32)), .val (.int p3), .val (.int p4)] [(.int (1 : Int32))]
  refine own_st (fun _ k => XS.iloadN X2.here hx rfl (hb hby d11_36) rfl k) ?_
  show own_Go X2 (Q11 Z r0 p3 p4 h0 n0) 0 0 37 #[.val (.ref r0), .val (.int (1 : Int32)), .val (.int (1 : Int32)), .val (.int p3), .val (.int p4)] [(.int p3), (.int (1 : Int32))]
  have c37_7 : ¬ (p3 < (1 : Int32)) := HT
  refine own_st (fun _ k => XS.icmpYes X2.here hx rfl (pc0 := 37) (pc' := 57) rfl (hb hby d11_37) rfl (flt c37_7).2.2.2 (by decide) (by decide) k) ?_
  show own_Go X2 (Q11 Z r0 p3 p4 h0 n0) 0 0 57 #[.val (.ref r0), .val (.int (1 : Int32)), .val (.int (1 : Int32)), .val (.int p3), .val (.int p4)] []
  refine own_st (fun _ k => XS.iload X2.here hx rfl (hb hby d11_57) rfl k) ?_
  show own_Go X2 (Q11 Z r0 p3 p4 h0 n0) 0 0 59 #[.val (.ref r0), .val (.int (1 : Int32)), .val (.int (1 : Int32)), .val (.int p3), .val (.int p4)] [(.int p4)]
  refine own_st (fun _ k => XS.iconst X2.here hx rfl (hb hby d11_59) k) ?_
  show own_Go X2 (Q11 Z r0 p3 p4 h0 n0) 0 0 60 #[.val (.ref r0), .val (.int (1 : Int32)), .val (.int (1 : Int32)), .val (.int p3), .val (.int p4)] [(.int (2 : Int32)), (.int p4)]
  have c60_8 : ¬ (p4 < (2 : Int32)) := HG
  refine own_st (fun _ k => XS.icmpYes X2.here hx rfl (pc0 := 60) (pc' := 72) rfl (hb hby d11_60) rfl (flt c60_8).2.1 (by decide) (by decide) k) ?_
  show own_Go X2 (Q11 Z r0 p3 p4 h0 n0) 0 0 72 #[.val (.ref r0), .val (.int (1 : Int32)), .val (.int (1 : Int32)), .val (.int p3), .val (.int p4)] []
  refine own_st (fun _ k => XS.iload X2.here hx rfl (hb hby d11_72) rfl k) ?_
  show own_Go X2 (Q11 Z r0 p3 p4 h0 n0) 0 0 74 #[.val (.ref r0), .val (.int (1 : Int32)), .val (.int (1 : Int32)), .val (.int p3), .val (.int p4)] [(.int p4)]
  refine own_st (fun _ k => XS.iloadN X2.here hx rfl (hb hby d11_74) rfl k) ?_
  show own_Go X2 (Q11 Z r0 p3 p4 h0 n0) 0 0 75 #[.val (.ref r0), .val (.int (1 : Int32)), .val (.int (1 : Int32)), .val (.int p3), .val (.int p4)] [(.int (1 : Int32)), (.int p4)]
  refine own_callS (W := 0) X2 hx hZ hown (hw _ (List.mem_of_getElem? (i := 17) rfl)) (hw _ (List.mem_of_getElem? (i := 18) rfl)) (hw _ (List.mem_of_getElem? (i := 5) rfl)) (hw _ (List.mem_of_getElem? (i := 19) rfl)) (by decide) (rm41 l Z a0 hw [] p4  h0 n0 Z0 H1) (by decide) (by decide) (by rw [hml]; rfl) [(.int p4), (.int (1 : Int32))] [] (lenOf pd_11_1 rfl) rfl rfl (Nat.le_of_ble_eq_true rfl) (hb hby d11_75) e2 (by decide) (by decide) ?_
  rintro _ T9 L9 X9 ⟨rfl, N9q, e9⟩
  have N_10 := Fr.app N_3 N9q
  show own_Go X9 (Q11 Z r0 p3 p4 h0 n0) 0 0 78 #[.val (.ref r0), .val (.int (1 : Int32)), .val (.int (1 : Int32)), .val (.int p3), .val (.int p4)] [(.int ((own_pw1 p4).toInt32))]
  have c78_11 : ¬ (((own_pw1 p4).toInt32) < (0 : Int32)) := HN
  refine own_st (fun _ k => XS.ifYes X9.here hx rfl (pc0 := 78) (pc' := 101) rfl (hb hby d11_78) rfl ((if0 _ _).trans (flt c78_11).2.1) (by decide) (by decide) k) ?_
  show own_Go X9 (Q11 Z r0 p3 p4 h0 n0) 0 0 101 #[.val (.ref r0), .val (.int (1 : Int32)), .val (.int (1 : Int32)), .val (.int p3), .val (.int p4)] []
  refine own_st (fun _ k => XS.aloadN X9.here hx rfl (hb hby d11_101) rfl rfl k) ?_
  show own_Go X9 (Q11 Z r0 p3 p4 h0 n0) 0 0 102 #[.val (.ref r0), .val (.int (1 : Int32)), .val (.int (1 : Int32)), .val (.int p3), .val (.int p4)] [(.ref r0)]
  refine own_st (fun _ k => XS.iloadN X9.here hx rfl (hb hby d11_102) rfl k) ?_
  show own_Go X9 (Q11 Z r0 p3 p4 h0 n0) 0 0 103 #[.val (.ref r0), .val (.int (1 : Int32)), .val (.int (1 : Int32)), .val (.int p3), .val (.int p4)] [(.int (1 : Int32)), (.ref r0)]
  obtain ⟨T12, h12, X12, e12, W12, st12⟩ := putF X9 hx hZ hown (host := "") (Or.inl (hw _ (List.mem_of_getElem? (i := 21) rfl))) Via.refl e9 P_rows PE (Or.inr ⟨(hw _ (List.mem_of_getElem? (i := 22) rfl)), rfl, hnm⟩) (hw _ (List.mem_of_getElem? (i := 4) rfl)) (ty := .int) (by decide) rfl rfl (g := (mkF m 103 #[.val (.ref r0), .val (.int (1 : Int32)), .val (.int (1 : Int32)), .val (.int p3), .val (.int p4)] [(.int (1 : Int32)), (.ref r0)])) rfl rfl (hb hby d11_103)
  refine own_st st12 ?_
  have f_13 := PE.wr W12
  have f_14 := P_strength.other W12 (Or.inr (slot_ne (Or.inr (hw _ (List.mem_of_getElem? (i := 24) rfl))) (Or.inr (hw _ (List.mem_of_getElem? (i := 22) rfl))) (by decide) (t := .int) (t' := .int) (by decide) (by decide)))
  have f_15 := P_columns.other W12 (Or.inr (slot_ne (Or.inr (hw _ (List.mem_of_getElem? (i := 26) rfl))) (Or.inr (hw _ (List.mem_of_getElem? (i := 22) rfl))) (by decide) (t := .int) (t' := .int) (by decide) (by decide)))
  have f_16 := P_levels.other W12 (Or.inr (slot_ne (Or.inr (hw _ (List.mem_of_getElem? (i := 28) rfl))) (Or.inr (hw _ (List.mem_of_getElem? (i := 22) rfl))) (by decide) (t := .int) (t' := .int) (by decide) (by decide)))
  have Z_17 := Nat.le_trans Z0 (Nat.le_of_eq W12.size.symm)
  have K_18 := K_1.wr W12 (Or.inl (List.mem_of_getElem? (i := 0) rfl))
  have f_19 := P_rows.same W12
  have N_20 := Fr.snoc X12 N_10 PG
  show own_Go X12 (Q11 Z r0 p3 p4 h0 n0) 0 0 106 #[.val (.ref r0), .val (.int (1 : Int32)), .val (.int (1 : Int32)), .val (.int p3), .val (.int p4)] []
  refine own_st (fun _ k => XS.aloadN X12.here hx rfl (hb hby d11_106) rfl rfl k) ?_
  show own_Go X12 (Q11 Z r0 p3 p4 h0 n0) 0 0 107 #[.val (.ref r0), .val (.int (1 : Int32)), .val (.int (1 : Int32)), .val (.int p3), .val (.int p4)] [(.ref r0)]
  refine own_st (fun _ k => XS.iloadN X12.here hx rfl (hb hby d11_107) rfl k) ?_
  show own_Go X12 (Q11 Z r0 p3 p4 h0 n0) 0 0 108 #[.val (.ref r0), .val (.int (1 : Int32)), .val (.int (1 : Int32)), .val (.int p3), .val (.int p4)] [(.int (1 : Int32)), (.ref r0)]
  obtain ⟨T21, h21, X21, e21, W21, st21⟩ := putF X12 hx hZ hown (host := "") (Or.inl (hw _ (List.mem_of_getElem? (i := 23) rfl))) Via.refl e12 f_14 f_13 (Or.inr ⟨(hw _ (List.mem_of_getElem? (i := 24) rfl)), rfl, hnm⟩) (hw _ (List.mem_of_getElem? (i := 4) rfl)) (ty := .int) (by decide) rfl rfl (g := (mkF m 108 #[.val (.ref r0), .val (.int (1 : Int32)), .val (.int (1 : Int32)), .val (.int p3), .val (.int p4)] [(.int (1 : Int32)), (.ref r0)])) rfl rfl (hb hby d11_108)
  refine own_st st21 ?_
  have f_22 := f_13.wr W21
  have f_23 := f_19.other W21 (Or.inr (slot_ne (Or.inr (hw _ (List.mem_of_getElem? (i := 22) rfl))) (Or.inr (hw _ (List.mem_of_getElem? (i := 24) rfl))) (by decide) (t := .int) (t' := .int) (by decide) (by decide)))
  have f_24 := f_15.other W21 (Or.inr (slot_ne (Or.inr (hw _ (List.mem_of_getElem? (i := 26) rfl))) (Or.inr (hw _ (List.mem_of_getElem? (i := 24) rfl))) (by decide) (t := .int) (t' := .int) (by decide) (by decide)))
  have f_25 := f_16.other W21 (Or.inr (slot_ne (Or.inr (hw _ (List.mem_of_getElem? (i := 28) rfl))) (Or.inr (hw _ (List.mem_of_getElem? (i := 24) rfl))) (by decide) (t := .int) (t' := .int) (by decide) (by decide)))
  have Z_26 := Nat.le_trans Z_17 (Nat.le_of_eq W21.size.symm)
  have K_27 := K_18.wr W21 (Or.inl (List.mem_of_getElem? (i := 0) rfl))
  have f_28 := f_14.same W21
  have N_29 := Fr.snoc X21 N_20 PG
  show own_Go X21 (Q11 Z r0 p3 p4 h0 n0) 0 0 111 #[.val (.ref r0), .val (.int (1 : Int32)), .val (.int (1 : Int32)), .val (.int p3), .val (.int p4)] []
  refine own_st (fun _ k => XS.aloadN X21.here hx rfl (hb hby d11_111) rfl rfl k) ?_
  show own_Go X21 (Q11 Z r0 p3 p4 h0 n0) 0 0 112 #[.val (.ref r0), .val (.int (1 : Int32)), .val (.int (1 : Int32)), .val (.int p3), .val (.int p4)] [(.ref r0)]
  refine own_st (fun _ k => XS.iloadN X21.here hx rfl (hb hby d11_112) rfl k) ?_
  show own_Go X21 (Q11 Z r0 p3 p4 h0 n0) 0 0 113 #[.val (.ref r0), .val (.int (1 : Int32)), .val (.int (1 : Int32)), .val (.int p3), .val (.int p4)] [(.int p3), (.ref r0)]
  obtain ⟨T30, h30, X30, e30, W30, st30⟩ := putF X21 hx hZ hown (host := "") (Or.inl (hw _ (List.mem_of_getElem? (i := 25) rfl))) Via.refl e21 f_24 f_22 (Or.inr ⟨(hw _ (List.mem_of_getElem? (i := 26) rfl)), rfl, hnm⟩) (hw _ (List.mem_of_getElem? (i := 4) rfl)) (ty := .int) (by decide) rfl rfl (g := (mkF m 113 #[.val (.ref r0), .val (.int (1 : Int32)), .val (.int (1 : Int32)), .val (.int p3), .val (.int p4)] [(.int p3), (.ref r0)])) rfl rfl (hb hby d11_113)
  refine own_st st30 ?_
  have f_31 := f_22.wr W30
  have f_32 := f_23.other W30 (Or.inr (slot_ne (Or.inr (hw _ (List.mem_of_getElem? (i := 22) rfl))) (Or.inr (hw _ (List.mem_of_getElem? (i := 26) rfl))) (by decide) (t := .int) (t' := .int) (by decide) (by decide)))
  have f_33 := f_28.other W30 (Or.inr (slot_ne (Or.inr (hw _ (List.mem_of_getElem? (i := 24) rfl))) (Or.inr (hw _ (List.mem_of_getElem? (i := 26) rfl))) (by decide) (t := .int) (t' := .int) (by decide) (by decide)))
  have f_34 := f_25.other W30 (Or.inr (slot_ne (Or.inr (hw _ (List.mem_of_getElem? (i := 28) rfl))) (Or.inr (hw _ (List.mem_of_getElem? (i := 26) rfl))) (by decide) (t := .int) (t' := .int) (by decide) (by decide)))
  have Z_35 := Nat.le_trans Z_26 (Nat.le_of_eq W30.size.symm)
  have K_36 := K_27.wr W30 (Or.inl (List.mem_of_getElem? (i := 0) rfl))
  have f_37 := f_24.same W30
  have N_38 := Fr.snoc X30 N_29 PG
  show own_Go X30 (Q11 Z r0 p3 p4 h0 n0) 0 0 116 #[.val (.ref r0), .val (.int (1 : Int32)), .val (.int (1 : Int32)), .val (.int p3), .val (.int p4)] []
  refine own_st (fun _ k => XS.aloadN X30.here hx rfl (hb hby d11_116) rfl rfl k) ?_
  show own_Go X30 (Q11 Z r0 p3 p4 h0 n0) 0 0 117 #[.val (.ref r0), .val (.int (1 : Int32)), .val (.int (1 : Int32)), .val (.int p3), .val (.int p4)] [(.ref r0)]
  refine own_st (fun _ k => XS.iload X30.here hx rfl (hb hby d11_117) rfl k) ?_
  show own_Go X30 (Q11 Z r0 p3 p4 h0 n0) 0 0 119 #[.val (.ref r0), .val (.int (1 : Int32)), .val (.int (1 : Int32)), .val (.int p3), .val (.int p4)] [(.int p4), (.ref r0)]
  obtain ⟨T39, h39, X39, e39, W39, st39⟩ := putF X30 hx hZ hown (host := "") (Or.inl (hw _ (List.mem_of_getElem? (i := 27) rfl))) Via.refl e30 f_34 f_31 (Or.inr ⟨(hw _ (List.mem_of_getElem? (i := 28) rfl)), rfl, hnm⟩) (hw _ (List.mem_of_getElem? (i := 4) rfl)) (ty := .int) (by decide) rfl rfl (g := (mkF m 119 #[.val (.ref r0), .val (.int (1 : Int32)), .val (.int (1 : Int32)), .val (.int p3), .val (.int p4)] [(.int p4), (.ref r0)])) rfl rfl (hb hby d11_119)
  refine own_st st39 ?_
  have f_40 := f_31.wr W39
  have f_41 := f_32.other W39 (Or.inr (slot_ne (Or.inr (hw _ (List.mem_of_getElem? (i := 22) rfl))) (Or.inr (hw _ (List.mem_of_getElem? (i := 28) rfl))) (by decide) (t := .int) (t' := .int) (by decide) (by decide)))
  have f_42 := f_33.other W39 (Or.inr (slot_ne (Or.inr (hw _ (List.mem_of_getElem? (i := 24) rfl))) (Or.inr (hw _ (List.mem_of_getElem? (i := 28) rfl))) (by decide) (t := .int) (t' := .int) (by decide) (by decide)))
  have f_43 := f_37.other W39 (Or.inr (slot_ne (Or.inr (hw _ (List.mem_of_getElem? (i := 26) rfl))) (Or.inr (hw _ (List.mem_of_getElem? (i := 28) rfl))) (by decide) (t := .int) (t' := .int) (by decide) (by decide)))
  have Z_44 := Nat.le_trans Z_35 (Nat.le_of_eq W39.size.symm)
  have K_45 := K_36.wr W39 (Or.inl (List.mem_of_getElem? (i := 0) rfl))
  have f_46 := f_34.same W39
  have N_47 := Fr.snoc X39 N_38 PG
  show own_Go X39 (Q11 Z r0 p3 p4 h0 n0) 0 0 122 #[.val (.ref r0), .val (.int (1 : Int32)), .val (.int (1 : Int32)), .val (.int p3), .val (.int p4)] []
  refine own_retV X39 hx Bd.returns hlk e39 (hb hby d11_122) (by decide) (by decide) ?_
  exact ⟨rfl, N_47, K_45, f_41, f_42, f_43, f_46⟩
theorem d42_0 : decode prog_55_method_7_code 0 = .ok (.lconst 1, 1) := by decide +kernel
theorem d42_1 : decode prog_55_method_7_code 1 = .ok (.lstore_n 2, 1) := by decide +kernel
theorem d42_2 : decode prog_55_method_7_code 2 = .ok (.iconst 0, 1) := by decide +kernel
theorem d42_3 : decode prog_55_method_7_code 3 = .ok (.istore 4, 2) := by decide +kernel
theorem d42_5 : decode prog_55_method_7_code 5 = .ok (.iload 4, 2) := by decide +kernel
theorem d42_7 : decode prog_55_method_7_code 7 = .ok (.iload_n 1, 1) := by decide +kernel
theorem d42_8 : decode prog_55_method_7_code 8 = .ok (.if_icmp .ge 24, 3) := by decide +kernel
theorem d42_11 : decode prog_55_method_7_code 11 = .ok (.lload_n 2, 1) := by decide +kernel
theorem d42_12 : decode prog_55_method_7_code 12 = .ok (.iload_n 0, 1) := by decide +kernel
theorem d42_13 : decode prog_55_method_7_code 13 = .ok (.i2l, 1) := by decide +kernel
theorem d42_14 : decode prog_55_method_7_code 14 = .ok (.lmul, 1) := by decide +kernel
theorem d42_15 : decode prog_55_method_7_code 15 = .ok (.lstore_n 2, 1) := by decide +kernel
theorem d42_16 : decode prog_55_method_7_code 16 = .ok (.lload_n 2, 1) := by decide +kernel
theorem d42_17 : decode prog_55_method_7_code 17 = .ok (.ldc2_w 133, 3) := by decide +kernel
theorem d42_20 : decode prog_55_method_7_code 20 = .ok (.lcmp, 1) := by decide +kernel
theorem d42_21 : decode prog_55_method_7_code 21 = .ok (.ifCond .le 5, 3) := by decide +kernel
theorem d42_26 : decode prog_55_method_7_code 26 = .ok (.iinc 4 1, 3) := by decide +kernel
theorem d42_29 : decode prog_55_method_7_code 29 = .ok (.goto (-24), 3) := by decide +kernel
theorem d42_32 : decode prog_55_method_7_code 32 = .ok (.lload_n 2, 1) := by decide +kernel
theorem d42_33 : decode prog_55_method_7_code 33 = .ok (.l2i, 1) := by decide +kernel
theorem d42_34 : decode prog_55_method_7_code 34 = .ok (.ireturn, 1) := by decide +kernel
theorem pn_42 : plainName "com/example/gingham/gingham/designs/CoveringArraySpec" = true := by first | (simp [plainName, overriddenIn]; done) | decide +kernel
theorem ef_42 (m : MethodId) (p0 : Int32) : entryFrame m #[(.int p0), (.int (2 : Int32))] 5 = mkF m 0 #[.val (.int p0), .val (.int (2 : Int32)), .unset, .unset, .unset] [] := by first | (simp [entryFrame, mkF, argsToLocals, Value.category]; done) | rfl
def Q42 (Z : State) (p0 : Int32)  (h0 : Heap) (n0 : Nat) (v : Option Value) (h : Heap) (L : List Loc) : Prop := v = some (.int ((own_pw2 p0).toInt32)) ∧ Fr n0 L ∧ h = h0
set_option maxRecDepth 65536 in
set_option maxHeartbeats 40000000 in
theorem rm42 (l : Launch) (Z : State) (a0 : Array Value) (hw : ∀ d ∈ tables_1, d.before a0 Z = true) (ws : List Jvm.Cond) (p0 : Int32)  (h0 : Heap) (n0 : Nat) (Z0 : n0 ≤ h0.size) (H1 : ¬ (2147483639 : Int64) < own_pw1 p0) (H2 : ¬ (2147483639 : Int64) < own_pw2 p0) :
    MetFree l (⟨"com/example/gingham/gingham/designs/CoveringArraySpec", "tupleCount", "(II)I"⟩ : MethodName) (head1 (Jvm.Cond.code (⟨"com/example/gingham/gingham/designs/CoveringArraySpec", "tupleCount", "(II)I"⟩ : MethodName) prog_55_method_7_code 5 (some .int) :: ws) ({ frames := 0, cells := 0, slots := 0, locals := 0 } : Room)) (fun a U => a = #[(.int p0), (.int (2 : Int32))] ∧ Z.Warmed39 U.vm ∧ U.heap = h0) (fun _ _ _ _ _ => True) (fun _ U o U' => ∃ v L, o = .returned v ∧ Q42 Z p0 h0 n0 v U'.heap L ∧ FrameEnd U o U' L ({ frames := 0, cells := 0, slots := 0, locals := 0 } : Room).cells ({ frames := 0, cells := 0, slots := 0, locals := 0 } : Room).slots) := by
  refine MetFree.of_bodySF (plainFor_of_name pn_42) hisR ?_
  intro p e s m args below meth c s₁ Bd hml0 hP hK
  obtain ⟨rfl, hZ, hh⟩ := hP
  have hx := Bd.exec
  have hby := Bd.bytes
  have hml : c.maxLocals = 5 := hml0
  have hown : s.vm.findClass "com/example/gingham/gingham/designs/CoveringArraySpec" = some m.cls := findClass_of_methodNamed Bd.named
  have hnm := (name_of_methodNamed Bd.named Bd.method).1
  have hlk : meth.locks = false := Bd.notSynchronized
  have X0 : Stand p l e ({ frames := 0, cells := 0, slots := 0, locals := 0 } : Room) s m #[(.int p0), (.int (2 : Int32))] below meth c s₁ [] 0 0 := Stand.of_body Bd
  have e0 : s₁.heap = h0 := by rw [← hh, Bd.state]; rfl
  have N0 := Fr.nil n0
  refine own_cast (Q := Q42 Z p0 h0 n0) (kc := 0) (ks := 0) (ef_42 m p0) ?_
  refine own_st (fun _ k => XS.lconst X0.here hx rfl (hb hby d42_0) k) ?_
  show own_Go X0 (Q42 Z p0 h0 n0) 0 0 1 #[.val (.int p0), .val (.int (2 : Int32)), .unset, .unset, .unset] [(.long (1 : Int64))]
  refine own_st (fun _ k => XS.lstoreN X0.here hx rfl (hb hby d42_1) rfl (l' := #[.val (.int p0), .val (.int (2 : Int32)), .val (.long (1 : Int64)), .second, .unset]) rfl k) ?_
  show own_Go X0 (Q42 Z p0 h0 n0) 0 0 2 #[.val (.int p0), .val (.int (2 : Int32)), .val (.long (1 : Int64)), .second, .unset] []
  refine own_st (fun _ k => XS.iconst X0.here hx rfl (hb hby d42_2) k) ?_
  show own_Go X0 (Q42 Z p0 h0 n0) 0 0 3 #[.val (.int p0), .val (.int (2 : Int32)), .val (.long (1 : Int64)), .second, .unset] [(.int (0 : Int32))]
  refine own_st (fun _ k => XS.istore X0.here hx rfl (hb hby d42_3) rfl (l' := #[.val (.int p0), .val (.int (2 : Int32)), .val (.long (1 : Int64)), .second, .val (.int (0 : Int32))]) rfl k) ?_
  show own_Go X0 (Q42 Z p0 h0 n0) 0 0 5 #[.val (.int p0), .val (.int (2 : Int32)), .val (.long (1 : Int64)), .second, .val (.int (0 : Int32))] []
  refine own_st (fun _ k => XS.iload X0.here hx rfl (hb hby d42_5) rfl k) ?_
  show own_Go X0 (Q42 Z p0 h0 n0) 0 0 7 #[.val (.int p0), .val (.int (2 : Int32)), .val (.long (1 : Int64)), .second, .val (.int (0 : Int32))] [(.int (0 : Int32))]
  refine own_st (fun _ k => XS.iloadN X0.here hx rfl (hb hby d42_7) rfl k) ?_
  show own_Go X0 (Q42 Z p0 h0 n0) 0 0 8 #[.val (.int p0), .val (.int (2 : Int32)), .val (.long (1 : Int64)), .second, .val (.int (0 : Int32))] [(.int (2 : Int32)), (.int (0 : Int32))]
  have c8_1 : (0 : Int32) < (2 : Int32) := (by decide)
  refine own_st (fun _ k => XS.icmpNo X0.here hx rfl (hb hby d42_8) rfl (tlt c8_1).2.1 k) ?_
  show own_Go X0 (Q42 Z p0 h0 n0) 0 0 11 #[.val (.int p0), .val (.int (2 : Int32)), .val (.long (1 : Int64)), .second, .val (.int (0 : Int32))] []
  refine own_st (fun _ k => XS.lloadN X0.here hx rfl (hb hby d42_11) rfl k) ?_
  show own_Go X0 (Q42 Z p0 h0 n0) 0 0 12 #[.val (.int p0), .val (.int (2 : Int32)), .val (.long (1 : Int64)), .second, .val (.int (0 : Int32))] [(.long (1 : Int64))]
  refine own_st (fun _ k => XS.iloadN X0.here hx rfl (hb hby d42_12) rfl k) ?_
  show own_Go X0 (Q42 Z p0 h0 n0) 0 0 13 #[.val (.int p0), .val (.int (2 : Int32)), .val (.long (1 : Int64)), .second, .val (.int (0 : Int32))] [(.int p0), (.long (1 : Int64))]
  refine own_st (fun _ k => XS.i2l X0.here hx rfl (hb hby d42_13) rfl k) ?_
  show own_Go X0 (Q42 Z p0 h0 n0) 0 0 14 #[.val (.int p0), .val (.int (2 : Int32)), .val (.long (1 : Int64)), .second, .val (.int (0 : Int32))] [(.long (p0.toInt64)), (.long (1 : Int64))]
  refine own_st (fun _ k => XS.lmul X0.here hx rfl (hb hby d42_14) rfl k) ?_
  show own_Go X0 (Q42 Z p0 h0 n0) 0 0 15 #[.val (.int p0), .val (.int (2 : Int32)), .val (.long (1 : Int64)), .second, .val (.int (0 : Int32))] [(.long ((1 : Int64) * (p0.toInt64)))]
  refine own_st (fun _ k => XS.lstoreN X0.here hx rfl (hb hby d42_15) rfl (l' := #[.val (.int p0), .val (.int (2 : Int32)), .val (.long ((1 : Int64) * (p0.toInt64))), .second, .val (.int (0 : Int32))]) rfl k) ?_
  show own_Go X0 (Q42 Z p0 h0 n0) 0 0 16 #[.val (.int p0), .val (.int (2 : Int32)), .val (.long ((1 : Int64) * (p0.toInt64))), .second, .val (.int (0 : Int32))] []
  show own_Go X0 (Q42 Z p0 h0 n0) 0 0 16 #[.val (.int p0), .val (.int (2 : Int32)), .val (.long (own_pw1 p0)), .second, .val (.int (0 : Int32))] []
  refine own_st (fun _ k => XS.lloadN X0.here hx rfl (hb hby d42_16) rfl k) ?_
  show own_Go X0 (Q42 Z p0 h0 n0) 0 0 17 #[.val (.int p0), .val (.int (2 : Int32)), .val (.long (own_pw1 p0)), .second, .val (.int (0 : Int32))] [(.long (own_pw1 p0))]
  refine own_st (fun t k => X0.ldc2Long hx hown (mvT hZ (hw _ (List.mem_of_getElem? (i := 20) rfl))) (g := (mkF m 17 #[.val (.int p0), .val (.int (2 : Int32)), .val (.long (own_pw1 p0)), .second, .val (.int (0 : Int32))] [(.long (own_pw1 p0))])) rfl (hb hby d42_17) t k) ?_
  show own_Go X0 (Q42 Z p0 h0 n0) 0 0 20 #[.val (.int p0), .val (.int (2 : Int32)), .val (.long (own_pw1 p0)), .second, .val (.int (0 : Int32))] [(.long (2147483639 : Int64)), (.long (own_pw1 p0))]
  refine own_st (fun _ k => XS.lcmp X0.here hx rfl (hb hby d42_20) rfl k) ?_
  show own_Go X0 (Q42 Z p0 h0 n0) 0 0 21 #[.val (.int p0), .val (.int (2 : Int32)), .val (.long (own_pw1 p0)), .second, .val (.int (0 : Int32))] [(.int (lcmpW (own_pw1 p0) (2147483639 : Int64)))]
  have c21_2 : ¬ ((2147483639 : Int64) < (own_pw1 p0)) := H1
  refine own_st (fun _ k => XS.ifYes X0.here hx rfl (pc0 := 21) (pc' := 26) rfl (hb hby d42_21) rfl ((if0 _ _).trans (flt (fun q => c21_2 ((lw_gt _ _).mp q))).2.2.2) (by decide) (by decide) k) ?_
  show own_Go X0 (Q42 Z p0 h0 n0) 0 0 26 #[.val (.int p0), .val (.int (2 : Int32)), .val (.long (own_pw1 p0)), .second, .val (.int (0 : Int32))] []
  refine own_st (fun _ k => XS.iinc X0.here hx rfl (hb hby d42_26) rfl (l' := #[.val (.int p0), .val (.int (2 : Int32)), .val (.long (own_pw1 p0)), .second, .val (.int (1 : Int32))]) rfl k) ?_
  show own_Go X0 (Q42 Z p0 h0 n0) 0 0 29 #[.val (.int p0), .val (.int (2 : Int32)), .val (.long (own_pw1 p0)), .second, .val (.int (1 : Int32))] []
  refine own_st (fun _ k => XS.goto X0.here hx rfl (pc0 := 29) (pc' := 5) rfl (hb hby d42_29) (by decide) (by decide) k) ?_
  show own_Go X0 (Q42 Z p0 h0 n0) 0 0 5 #[.val (.int p0), .val (.int (2 : Int32)), .val (.long (own_pw1 p0)), .second, .val (.int (1 : Int32))] []
  refine own_st (fun _ k => XS.iload X0.here hx rfl (hb hby d42_5) rfl k) ?_
  show own_Go X0 (Q42 Z p0 h0 n0) 0 0 7 #[.val (.int p0), .val (.int (2 : Int32)), .val (.long (own_pw1 p0)), .second, .val (.int (1 : Int32))] [(.int (1 : Int32))]
  refine own_st (fun _ k => XS.iloadN X0.here hx rfl (hb hby d42_7) rfl k) ?_
  show own_Go X0 (Q42 Z p0 h0 n0) 0 0 8 #[.val (.int p0), .val (.int (2 : Int32)), .val (.long (own_pw1 p0)), .second, .val (.int (1 : Int32))] [(.int (2 : Int32)), (.int (1 : Int32))]
  have c8_3 : (1 : Int32) < (2 : Int32) := (by decide)
  refine own_st (fun _ k => XS.icmpNo X0.here hx rfl (hb hby d42_8) rfl (tlt c8_3).2.1 k) ?_
  show own_Go X0 (Q42 Z p0 h0 n0) 0 0 11 #[.val (.int p0), .val (.int (2 : Int32)), .val (.long (own_pw1 p0)), .second, .val (.int (1 : Int32))] []
  refine own_st (fun _ k => XS.lloadN X0.here hx rfl (hb hby d42_11) rfl k) ?_
  show own_Go X0 (Q42 Z p0 h0 n0) 0 0 12 #[.val (.int p0), .val (.int (2 : Int32)), .val (.long (own_pw1 p0)), .second, .val (.int (1 : Int32))] [(.long (own_pw1 p0))]
  refine own_st (fun _ k => XS.iloadN X0.here hx rfl (hb hby d42_12) rfl k) ?_
  show own_Go X0 (Q42 Z p0 h0 n0) 0 0 13 #[.val (.int p0), .val (.int (2 : Int32)), .val (.long (own_pw1 p0)), .second, .val (.int (1 : Int32))] [(.int p0), (.long (own_pw1 p0))]
  refine own_st (fun _ k => XS.i2l X0.here hx rfl (hb hby d42_13) rfl k) ?_
  show own_Go X0 (Q42 Z p0 h0 n0) 0 0 14 #[.val (.int p0), .val (.int (2 : Int32)), .val (.long (own_pw1 p0)), .second, .val (.int (1 : Int32))] [(.long (p0.toInt64)), (.long (own_pw1 p0))]
  refine own_st (fun _ k => XS.lmul X0.here hx rfl (hb hby d42_14) rfl k) ?_
  show own_Go X0 (Q42 Z p0 h0 n0) 0 0 15 #[.val (.int p0), .val (.int (2 : Int32)), .val (.long (own_pw1 p0)), .second, .val (.int (1 : Int32))] [(.long ((own_pw1 p0) * (p0.toInt64)))]
  refine own_st (fun _ k => XS.lstoreN X0.here hx rfl (hb hby d42_15) rfl (l' := #[.val (.int p0), .val (.int (2 : Int32)), .val (.long ((own_pw1 p0) * (p0.toInt64))), .second, .val (.int (1 : Int32))]) rfl k) ?_
  show own_Go X0 (Q42 Z p0 h0 n0) 0 0 16 #[.val (.int p0), .val (.int (2 : Int32)), .val (.long ((own_pw1 p0) * (p0.toInt64))), .second, .val (.int (1 : Int32))] []
  show own_Go X0 (Q42 Z p0 h0 n0) 0 0 16 #[.val (.int p0), .val (.int (2 : Int32)), .val (.long (own_pw2 p0)), .second, .val (.int (1 : Int32))] []
  refine own_st (fun _ k => XS.lloadN X0.here hx rfl (hb hby d42_16) rfl k) ?_
  show own_Go X0 (Q42 Z p0 h0 n0) 0 0 17 #[.val (.int p0), .val (.int (2 : Int32)), .val (.long (own_pw2 p0)), .second, .val (.int (1 : Int32))] [(.long (own_pw2 p0))]
  refine own_st (fun t k => X0.ldc2Long hx hown (mvT hZ (hw _ (List.mem_of_getElem? (i := 20) rfl))) (g := (mkF m 17 #[.val (.int p0), .val (.int (2 : Int32)), .val (.long (own_pw2 p0)), .second, .val (.int (1 : Int32))] [(.long (own_pw2 p0))])) rfl (hb hby d42_17) t k) ?_
  show own_Go X0 (Q42 Z p0 h0 n0) 0 0 20 #[.val (.int p0), .val (.int (2 : Int32)), .val (.long (own_pw2 p0)), .second, .val (.int (1 : Int32))] [(.long (2147483639 : Int64)), (.long (own_pw2 p0))]
  refine own_st (fun _ k => XS.lcmp X0.here hx rfl (hb hby d42_20) rfl k) ?_
  show own_Go X0 (Q42 Z p0 h0 n0) 0 0 21 #[.val (.int p0), .val (.int (2 : Int32)), .val (.long (own_pw2 p0)), .second, .val (.int (1 : Int32))] [(.int (lcmpW (own_pw2 p0) (2147483639 : Int64)))]
  have c21_4 : ¬ ((2147483639 : Int64) < (own_pw2 p0)) := H2
  refine own_st (fun _ k => XS.ifYes X0.here hx rfl (pc0 := 21) (pc' := 26) rfl (hb hby d42_21) rfl ((if0 _ _).trans (flt (fun q => c21_4 ((lw_gt _ _).mp q))).2.2.2) (by decide) (by decide) k) ?_
  show own_Go X0 (Q42 Z p0 h0 n0) 0 0 26 #[.val (.int p0), .val (.int (2 : Int32)), .val (.long (own_pw2 p0)), .second, .val (.int (1 : Int32))] []
  refine own_st (fun _ k => XS.iinc X0.here hx rfl (hb hby d42_26) rfl (l' := #[.val (.int p0), .val (.int (2 : Int32)), .val (.long (own_pw2 p0)), .second, .val (.int (2 : Int32))]) rfl k) ?_
  show own_Go X0 (Q42 Z p0 h0 n0) 0 0 29 #[.val (.int p0), .val (.int (2 : Int32)), .val (.long (own_pw2 p0)), .second, .val (.int (2 : Int32))] []
  refine own_st (fun _ k => XS.goto X0.here hx rfl (pc0 := 29) (pc' := 5) rfl (hb hby d42_29) (by decide) (by decide) k) ?_
  show own_Go X0 (Q42 Z p0 h0 n0) 0 0 5 #[.val (.int p0), .val (.int (2 : Int32)), .val (.long (own_pw2 p0)), .second, .val (.int (2 : Int32))] []
  refine own_st (fun _ k => XS.iload X0.here hx rfl (hb hby d42_5) rfl k) ?_
  show own_Go X0 (Q42 Z p0 h0 n0) 0 0 7 #[.val (.int p0), .val (.int (2 : Int32)), .val (.long (own_pw2 p0)), .second, .val (.int (2 : Int32))] [(.int (2 : Int32))]
  refine own_st (fun _ k => XS.iloadN X0.here hx rfl (hb hby d42_7) rfl k) ?_
  show own_Go X0 (Q42 Z p0 h0 n0) 0 0 8 #[.val (.int p0), .val (.int (2 : Int32)), .val (.long (own_pw2 p0)), .second, .val (.int (2 : Int32))] [(.int (2 : Int32)), (.int (2 : Int32))]
  have c8_5 : ¬ ((2 : Int32) < (2 : Int32)) := (by decide)
  refine own_st (fun _ k => XS.icmpYes X0.here hx rfl (pc0 := 8) (pc' := 32) rfl (hb hby d42_8) rfl (flt c8_5).2.1 (by decide) (by decide) k) ?_
  show own_Go X0 (Q42 Z p0 h0 n0) 0 0 32 #[.val (.int p0), .val (.int (2 : Int32)), .val (.long (own_pw2 p0)), .second, .val (.int (2 : Int32))] []
  refine own_st (fun _ k => XS.lloadN X0.here hx rfl (hb hby d42_32) rfl k) ?_
  show own_Go X0 (Q42 Z p0 h0 n0) 0 0 33 #[.val (.int p0), .val (.int (2 : Int32)), .val (.long (own_pw2 p0)), .second, .val (.int (2 : Int32))] [(.long (own_pw2 p0))]
  refine own_st (fun _ k => XS.l2i X0.here hx rfl (hb hby d42_33) rfl k) ?_
  show own_Go X0 (Q42 Z p0 h0 n0) 0 0 34 #[.val (.int p0), .val (.int (2 : Int32)), .val (.long (own_pw2 p0)), .second, .val (.int (2 : Int32))] [(.int ((own_pw2 p0).toInt32))]
  refine own_retI X0 hx Bd.returns hlk e0 (hb hby d42_34) (by decide) (by decide) ?_
  exact ⟨rfl, N0, rfl⟩
theorem d12_0 : decode prog_55_method_1_code 0 = .ok (.aload_n 0, 1) := by decide +kernel
theorem d12_1 : decode prog_55_method_1_code 1 = .ok (.invokespecial 1, 3) := by decide +kernel
theorem d12_4 : decode prog_55_method_1_code 4 = .ok (.iload_n 1, 1) := by decide +kernel
theorem d12_5 : decode prog_55_method_1_code 5 = .ok (.iconst 1, 1) := by decide +kernel
theorem d12_6 : decode prog_55_method_1_code 6 = .ok (.if_icmp .ge 11, 3) := by decide +kernel
theorem d12_17 : decode prog_55_method_1_code 17 = .ok (.iload_n 3, 1) := by decide +kernel
theorem d12_18 : decode prog_55_method_1_code 18 = .ok (.iconst 1, 1) := by decide +kernel
theorem d12_19 : decode prog_55_method_1_code 19 = .ok (.if_icmp .ge 11, 3) := by decide +kernel
theorem d12_30 : decode prog_55_method_1_code 30 = .ok (.iload_n 2, 1) := by decide +kernel
theorem d12_31 : decode prog_55_method_1_code 31 = .ok (.iconst 1, 1) := by decide +kernel
theorem d12_32 : decode prog_55_method_1_code 32 = .ok (.if_icmp .lt 8, 3) := by decide +kernel
theorem d12_35 : decode prog_55_method_1_code 35 = .ok (.iload_n 2, 1) := by decide +kernel
theorem d12_36 : decode prog_55_method_1_code 36 = .ok (.iload_n 3, 1) := by decide +kernel
theorem d12_37 : decode prog_55_method_1_code 37 = .ok (.if_icmp .le 20, 3) := by decide +kernel
theorem d12_57 : decode prog_55_method_1_code 57 = .ok (.iload 4, 2) := by decide +kernel
theorem d12_59 : decode prog_55_method_1_code 59 = .ok (.iconst 2, 1) := by decide +kernel
theorem d12_60 : decode prog_55_method_1_code 60 = .ok (.if_icmp .ge 12, 3) := by decide +kernel
theorem d12_72 : decode prog_55_method_1_code 72 = .ok (.iload 4, 2) := by decide +kernel
theorem d12_74 : decode prog_55_method_1_code 74 = .ok (.iload_n 2, 1) := by decide +kernel
theorem d12_75 : decode prog_55_method_1_code 75 = .ok (.invokestatic 28, 3) := by decide +kernel
theorem d12_78 : decode prog_55_method_1_code 78 = .ok (.ifCond .ge 23, 3) := by decide +kernel
theorem d12_101 : decode prog_55_method_1_code 101 = .ok (.aload_n 0, 1) := by decide +kernel
theorem d12_102 : decode prog_55_method_1_code 102 = .ok (.iload_n 1, 1) := by decide +kernel
theorem d12_103 : decode prog_55_method_1_code 103 = .ok (.putfield 37, 3) := by decide +kernel
theorem d12_106 : decode prog_55_method_1_code 106 = .ok (.aload_n 0, 1) := by decide +kernel
theorem d12_107 : decode prog_55_method_1_code 107 = .ok (.iload_n 2, 1) := by decide +kernel
theorem d12_108 : decode prog_55_method_1_code 108 = .ok (.putfield 40, 3) := by decide +kernel
theorem d12_111 : decode prog_55_method_1_code 111 = .ok (.aload_n 0, 1) := by decide +kernel
theorem d12_112 : decode prog_55_method_1_code 112 = .ok (.iload_n 3, 1) := by decide +kernel
theorem d12_113 : decode prog_55_method_1_code 113 = .ok (.putfield 42, 3) := by decide +kernel
theorem d12_116 : decode prog_55_method_1_code 116 = .ok (.aload_n 0, 1) := by decide +kernel
theorem d12_117 : decode prog_55_method_1_code 117 = .ok (.iload 4, 2) := by decide +kernel
theorem d12_119 : decode prog_55_method_1_code 119 = .ok (.putfield 44, 3) := by decide +kernel
theorem d12_122 : decode prog_55_method_1_code 122 = .ok (.return_, 1) := by decide +kernel
theorem pn_12 : plainName "com/example/gingham/gingham/designs/CoveringArraySpec" = true := by first | (simp [plainName, overriddenIn]; done) | decide +kernel
theorem pd_12_0 : parseMethodDescriptor "()V" = some ⟨[], none⟩ := by decide +kernel
theorem pd_12_1 : parseMethodDescriptor "(II)I" = some ⟨[.int, .int], some .int⟩ := by decide +kernel
theorem ef_12 (m : MethodId) (r0 : Addr) (p3 : Int32) (p4 : Int32) : entryFrame m #[(.ref r0), (.int (1 : Int32)), (.int (2 : Int32)), (.int p3), (.int p4)] 5 = mkF m 0 #[.val (.ref r0), .val (.int (1 : Int32)), .val (.int (2 : Int32)), .val (.int p3), .val (.int p4)] [] := by first | (simp [entryFrame, mkF, argsToLocals, Value.category]; done) | rfl
def Q12 (Z : State) (r0 : Addr) (p3 : Int32) (p4 : Int32)  (h0 : Heap) (n0 : Nat) (v : Option Value) (h : Heap) (L : List Loc) : Prop := v = none ∧ Fr n0 L ∧ Keep h0 h [r0] ∧ Fld Z h r0 "com/example/gingham/gingham/designs/CoveringArraySpec" "rows" "I" (.int (1 : Int32)) ∧ Fld Z h r0 "com/example/gingham/gingham/designs/CoveringArraySpec" "strength" "I" (.int (2 : Int32)) ∧ Fld Z h r0 "com/example/gingham/gingham/designs/CoveringArraySpec" "columns" "I" (.int p3) ∧ Fld Z h r0 "com/example/gingham/gingham/designs/CoveringArraySpec" "levels" "I" (.int p4)
set_option maxRecDepth 65536 in
set_option maxHeartbeats 40000000 in
theorem rm12 (l : Launch) (Z : State) (a0 : Array Value) (hw : ∀ d ∈ tables_1, d.before a0 Z = true) (ws : List Jvm.Cond) (r0 : Addr) (p3 : Int32) (p4 : Int32)  (h0 : Heap) (n0 : Nat) (Z0 : n0 ≤ h0.size) (PE : Exa Z h0 r0 "com/example/gingham/gingham/designs/CoveringArraySpec") (PG : n0 ≤ r0) (P_rows : Fld Z h0 r0 "com/example/gingham/gingham/designs/CoveringArraySpec" "rows" "I" (.int (0 : Int32))) (P_strength : Fld Z h0 r0 "com/example/gingham/gingham/designs/CoveringArraySpec" "strength" "I" (.int (0 : Int32))) (P_columns : Fld Z h0 r0 "com/example/gingham/gingham/designs/CoveringArraySpec" "columns" "I" (.int (0 : Int32))) (P_levels : Fld Z h0 r0 "com/example/gingham/gingham/designs/CoveringArraySpec" "levels" "I" (.int (0 : Int32))) (H1 : ¬ (2147483639 : Int64) < own_pw1 p4) (H2 : ¬ (2147483639 : Int64) < own_pw2 p4) (HN : ¬ (own_pw2 p4).toInt32 < (0 : Int32)) (HG : ¬ p4 < (2 : Int32)) (HC : ¬ p3 < (1 : Int32)) (HT : ¬ p3 < (2 : Int32)) :
    MetFree l (⟨"com/example/gingham/gingham/designs/CoveringArraySpec", "<init>", "(IIII)V"⟩ : MethodName) (head1 (Jvm.Cond.code (⟨"com/example/gingham/gingham/designs/CoveringArraySpec", "<init>", "(IIII)V"⟩ : MethodName) prog_55_method_1_code 5 none :: ws) ({ frames := 2, cells := 0, slots := 0, locals := 24 } : Room)) (fun a U => a = #[(.ref r0), (.int (1 : Int32)), (.int (2 : Int32)), (.int p3), (.int p4)] ∧ Z.Warmed39 U.vm ∧ U.heap = h0) (fun _ _ _ _ _ => True) (fun _ U o U' => ∃ v L, o = .returned v ∧ Q12 Z r0 p3 p4 h0 n0 v U'.heap L ∧ FrameEnd U o U' L ({ frames := 2, cells := 0, slots := 0, locals := 24 } : Room).cells ({ frames := 2, cells := 0, slots := 0, locals := 24 } : Room).slots) := by
  refine MetFree.of_bodySF (plainFor_of_name pn_12) hisR ?_
  intro p e s m args below meth c s₁ Bd hml0 hP hK
  obtain ⟨rfl, hZ, hh⟩ := hP
  have hx := Bd.exec
  have hby := Bd.bytes
  have hml : c.maxLocals = 5 := hml0
  have hown : s.vm.findClass "com/example/gingham/gingham/designs/CoveringArraySpec" = some m.cls := findClass_of_methodNamed Bd.named
  have hnm := (name_of_methodNamed Bd.named Bd.method).1
  have hlk : meth.locks = false := Bd.notSynchronized
  have X0 : Stand p l e ({ frames := 2, cells := 0, slots := 0, locals := 24 } : Room) s m #[(.ref r0), (.int (1 : Int32)), (.int (2 : Int32)), (.int p3), (.int p4)] below meth c s₁ [] 0 0 := Stand.of_body Bd
  have e0 : s₁.heap = h0 := by rw [← hh, Bd.state]; rfl
  have N0 := Fr.nil n0
  refine own_cast (Q := Q12 Z r0 p3 p4 h0 n0) (kc := 0) (ks := 0) (ef_12 m r0 p3 p4) ?_
  have K_1 := Keep.refl h0 [r0]
  refine own_st (fun _ k => XS.aloadN X0.here hx rfl (hb hby d12_0) rfl rfl k) ?_
  show own_Go X0 (Q12 Z r0 p3 p4 h0 n0) 0 0 1 #[.val (.ref r0), .val (.int (1 : Int32)), .val (.int (2 : Int32)), .val (.int p3), .val (.int p4)] [(.ref r0)]
  refine own_callI (W := 0) X0 hx hZ hown (hw _ (List.mem_of_getElem? (i := 9) rfl)) (hw _ (List.mem_of_getElem? (i := 10) rfl)) (hw _ (List.mem_of_getElem? (i := 12) rfl)) (hw _ (List.mem_of_getElem? (i := 13) rfl)) rfl (by decide) (rm2 l Z a0 hw [] r0 h0 n0 Z0) (by decide) (by decide) (by rw [hml]; rfl) r0 [] [] (lenOf pd_12_0 rfl) rfl rfl (Nat.le_of_ble_eq_true rfl) (hb hby d12_1) e0 (by decide) (by decide) ?_
  rintro _ T2 L2 X2 ⟨rfl, N2q, e2⟩
  have N_3 := Fr.app N0 N2q
  show own_Go X2 (Q12 Z r0 p3 p4 h0 n0) 0 0 4 #[.val (.ref r0), .val (.int (1 : Int32)), .val (.int (2 : Int32)), .val (.int p3), .val (.int p4)] []
  refine own_st (fun _ k => XS.iloadN X2.here hx rfl (hb hby d12_4) rfl k) ?_
  show own_Go X2 (Q12 Z r0 p3 p4 h0 n0) 0 0 5 #[.val (.ref r0), .val (.int (1 : Int32)), .val (.int (2 : Int32)), .val (.int p3), .val (.int p4)] [(.int (1 : Int32))]
  refine own_st (fun _ k => XS.iconst X2.here hx rfl (hb hby d12_5) k) ?_
  show own_Go X2 (Q12 Z r0 p3 p4 h0 n0) 0 0 6 #[.val (.ref r0), .val (.int (1 : Int32)), .val (.int (2 : Int32)), .val (.int p3), .val (.int p4)] [(.int (1 : Int32)), (.int (1 : Int32))]
  have c6_4 : ¬ ((1 : Int32) < (1 : Int32)) := (by decide)
  refine own_st (fun _ k => XS.icmpYes X2.here hx rfl (pc0 := 6) (pc' := 17) rfl (hb hby d12_6) rfl (flt c6_4).2.1 (by decide) (by decide) k) ?_
  show own_Go X2 (Q12 Z r0 p3 p4 h0 n0) 0 0 17 #[.val (.ref r0), .val (.int (1 : Int32)), .val (.int (2 : Int32)), .val (.int p3), .val (.int p4)] []
  refine own_st (fun _ k => XS.iloadN X2.here hx rfl (hb hby d12_17) rfl k) ?_
  show own_Go X2 (Q12 Z r0 p3 p4 h0 n0) 0 0 18 #[.val (.ref r0), .val (.int (1 : Int32)), .val (.int (2 : Int32)), .val (.int p3), .val (.int p4)] [(.int p3)]
  refine own_st (fun _ k => XS.iconst X2.here hx rfl (hb hby d12_18) k) ?_
  show own_Go X2 (Q12 Z r0 p3 p4 h0 n0) 0 0 19 #[.val (.ref r0), .val (.int (1 : Int32)), .val (.int (2 : Int32)), .val (.int p3), .val (.int p4)] [(.int (1 : Int32)), (.int p3)]
  have c19_5 : ¬ (p3 < (1 : Int32)) := HC
  refine own_st (fun _ k => XS.icmpYes X2.here hx rfl (pc0 := 19) (pc' := 30) rfl (hb hby d12_19) rfl (flt c19_5).2.1 (by decide) (by decide) k) ?_
  show own_Go X2 (Q12 Z r0 p3 p4 h0 n0) 0 0 30 #[.val (.ref r0), .val (.int (1 : Int32)), .val (.int (2 : Int32)), .val (.int p3), .val (.int p4)] []
  refine own_st (fun _ k => XS.iloadN X2.here hx rfl (hb hby d12_30) rfl k) ?_
  show own_Go X2 (Q12 Z r0 p3 p4 h0 n0) 0 0 31 #[.val (.ref r0), .val (.int (1 : Int32)), .val (.int (2 : Int32)), .val (.int p3), .val (.int p4)] [(.int (2 : Int32))]
  refine own_st (fun _ k => XS.iconst X2.here hx rfl (hb hby d12_31) k) ?_
  show own_Go X2 (Q12 Z r0 p3 p4 h0 n0) 0 0 32 #[.val (.ref r0), .val (.int (1 : Int32)), .val (.int (2 : Int32)), .val (.int p3), .val (.int p4)] [(.int (1 : Int32)), (.int (2 : Int32))]
  have c32_6 : ¬ ((2 : Int32) < (1 : Int32)) := (by decide)
  refine own_st (fun _ k => XS.icmpNo X2.here hx rfl (hb hby d12_32) rfl (flt c32_6).1 k) ?_
  show own_Go X2 (Q12 Z r0 p3 p4 h0 n0) 0 0 35 #[.val (.ref r0), .val (.int (1 : Int32)), .val (.int (2 : Int32)), .val (.int p3), .val (.int p4)] []
  refine own_st (fun _ k => XS.iloadN X2.here hx rfl (hb hby d12_35) rfl k) ?_
  show own_Go X2 (Q12 Z r0 p3 p4 h0 n0) 0 0 36 #[.val (.ref r0), .val (.int (1 : Int32)), .val (.int (2 : Int32)), .val (.int p3), .val (.int p4)] [(.int (2 : Int32))]
  refine own_st (fun _ k => XS.iloadN X2.here hx rfl (hb hby d12_36) rfl k) ?_
  show own_Go X2 (Q12 Z r0 p3 p4 h0 n0) 0 0 37 #[.val (.ref r0), .val (.int (1 : Int32)), .val (.int (2 : Int32)), .val (.int p3), .val (.int p4)] [(.int p3), (.int (2 : Int32))]
  have c37_7 : ¬ (p3 < (2 : Int32)) := HT
  refine own_st (fun _ k => XS.icmpYes X2.here hx rfl (pc0 := 37) (pc' := 57) rfl (hb hby d12_37) rfl (flt c37_7).2.2.2 (by decide) (by decide) k) ?_
  show own_Go X2 (Q12 Z r0 p3 p4 h0 n0) 0 0 57 #[.val (.ref r0), .val (.int (1 : Int32)), .val (.int (2 : Int32)), .val (.int p3), .val (.int p4)] []
  refine own_st (fun _ k => XS.iload X2.here hx rfl (hb hby d12_57) rfl k) ?_
  show own_Go X2 (Q12 Z r0 p3 p4 h0 n0) 0 0 59 #[.val (.ref r0), .val (.int (1 : Int32)), .val (.int (2 : Int32)), .val (.int p3), .val (.int p4)] [(.int p4)]
  refine own_st (fun _ k => XS.iconst X2.here hx rfl (hb hby d12_59) k) ?_
  show own_Go X2 (Q12 Z r0 p3 p4 h0 n0) 0 0 60 #[.val (.ref r0), .val (.int (1 : Int32)), .val (.int (2 : Int32)), .val (.int p3), .val (.int p4)] [(.int (2 : Int32)), (.int p4)]
  have c60_8 : ¬ (p4 < (2 : Int32)) := HG
  refine own_st (fun _ k => XS.icmpYes X2.here hx rfl (pc0 := 60) (pc' := 72) rfl (hb hby d12_60) rfl (flt c60_8).2.1 (by decide) (by decide) k) ?_
  show own_Go X2 (Q12 Z r0 p3 p4 h0 n0) 0 0 72 #[.val (.ref r0), .val (.int (1 : Int32)), .val (.int (2 : Int32)), .val (.int p3), .val (.int p4)] []
  refine own_st (fun _ k => XS.iload X2.here hx rfl (hb hby d12_72) rfl k) ?_
  show own_Go X2 (Q12 Z r0 p3 p4 h0 n0) 0 0 74 #[.val (.ref r0), .val (.int (1 : Int32)), .val (.int (2 : Int32)), .val (.int p3), .val (.int p4)] [(.int p4)]
  refine own_st (fun _ k => XS.iloadN X2.here hx rfl (hb hby d12_74) rfl k) ?_
  show own_Go X2 (Q12 Z r0 p3 p4 h0 n0) 0 0 75 #[.val (.ref r0), .val (.int (1 : Int32)), .val (.int (2 : Int32)), .val (.int p3), .val (.int p4)] [(.int (2 : Int32)), (.int p4)]
  refine own_callS (W := 0) X2 hx hZ hown (hw _ (List.mem_of_getElem? (i := 17) rfl)) (hw _ (List.mem_of_getElem? (i := 18) rfl)) (hw _ (List.mem_of_getElem? (i := 5) rfl)) (hw _ (List.mem_of_getElem? (i := 19) rfl)) (by decide) (rm42 l Z a0 hw [] p4  h0 n0 Z0 H1 H2) (by decide) (by decide) (by rw [hml]; rfl) [(.int p4), (.int (2 : Int32))] [] (lenOf pd_12_1 rfl) rfl rfl (Nat.le_of_ble_eq_true rfl) (hb hby d12_75) e2 (by decide) (by decide) ?_
  rintro _ T9 L9 X9 ⟨rfl, N9q, e9⟩
  have N_10 := Fr.app N_3 N9q
  show own_Go X9 (Q12 Z r0 p3 p4 h0 n0) 0 0 78 #[.val (.ref r0), .val (.int (1 : Int32)), .val (.int (2 : Int32)), .val (.int p3), .val (.int p4)] [(.int ((own_pw2 p4).toInt32))]
  have c78_11 : ¬ (((own_pw2 p4).toInt32) < (0 : Int32)) := HN
  refine own_st (fun _ k => XS.ifYes X9.here hx rfl (pc0 := 78) (pc' := 101) rfl (hb hby d12_78) rfl ((if0 _ _).trans (flt c78_11).2.1) (by decide) (by decide) k) ?_
  show own_Go X9 (Q12 Z r0 p3 p4 h0 n0) 0 0 101 #[.val (.ref r0), .val (.int (1 : Int32)), .val (.int (2 : Int32)), .val (.int p3), .val (.int p4)] []
  refine own_st (fun _ k => XS.aloadN X9.here hx rfl (hb hby d12_101) rfl rfl k) ?_
  show own_Go X9 (Q12 Z r0 p3 p4 h0 n0) 0 0 102 #[.val (.ref r0), .val (.int (1 : Int32)), .val (.int (2 : Int32)), .val (.int p3), .val (.int p4)] [(.ref r0)]
  refine own_st (fun _ k => XS.iloadN X9.here hx rfl (hb hby d12_102) rfl k) ?_
  show own_Go X9 (Q12 Z r0 p3 p4 h0 n0) 0 0 103 #[.val (.ref r0), .val (.int (1 : Int32)), .val (.int (2 : Int32)), .val (.int p3), .val (.int p4)] [(.int (1 : Int32)), (.ref r0)]
  obtain ⟨T12, h12, X12, e12, W12, st12⟩ := putF X9 hx hZ hown (host := "") (Or.inl (hw _ (List.mem_of_getElem? (i := 21) rfl))) Via.refl e9 P_rows PE (Or.inr ⟨(hw _ (List.mem_of_getElem? (i := 22) rfl)), rfl, hnm⟩) (hw _ (List.mem_of_getElem? (i := 4) rfl)) (ty := .int) (by decide) rfl rfl (g := (mkF m 103 #[.val (.ref r0), .val (.int (1 : Int32)), .val (.int (2 : Int32)), .val (.int p3), .val (.int p4)] [(.int (1 : Int32)), (.ref r0)])) rfl rfl (hb hby d12_103)
  refine own_st st12 ?_
  have f_13 := PE.wr W12
  have f_14 := P_strength.other W12 (Or.inr (slot_ne (Or.inr (hw _ (List.mem_of_getElem? (i := 24) rfl))) (Or.inr (hw _ (List.mem_of_getElem? (i := 22) rfl))) (by decide) (t := .int) (t' := .int) (by decide) (by decide)))
  have f_15 := P_columns.other W12 (Or.inr (slot_ne (Or.inr (hw _ (List.mem_of_getElem? (i := 26) rfl))) (Or.inr (hw _ (List.mem_of_getElem? (i := 22) rfl))) (by decide) (t := .int) (t' := .int) (by decide) (by decide)))
  have f_16 := P_levels.other W12 (Or.inr (slot_ne (Or.inr (hw _ (List.mem_of_getElem? (i := 28) rfl))) (Or.inr (hw _ (List.mem_of_getElem? (i := 22) rfl))) (by decide) (t := .int) (t' := .int) (by decide) (by decide)))
  have Z_17 := Nat.le_trans Z0 (Nat.le_of_eq W12.size.symm)
  have K_18 := K_1.wr W12 (Or.inl (List.mem_of_getElem? (i := 0) rfl))
  have f_19 := P_rows.same W12
  have N_20 := Fr.snoc X12 N_10 PG
  show own_Go X12 (Q12 Z r0 p3 p4 h0 n0) 0 0 106 #[.val (.ref r0), .val (.int (1 : Int32)), .val (.int (2 : Int32)), .val (.int p3), .val (.int p4)] []
  refine own_st (fun _ k => XS.aloadN X12.here hx rfl (hb hby d12_106) rfl rfl k) ?_
  show own_Go X12 (Q12 Z r0 p3 p4 h0 n0) 0 0 107 #[.val (.ref r0), .val (.int (1 : Int32)), .val (.int (2 : Int32)), .val (.int p3), .val (.int p4)] [(.ref r0)]
  refine own_st (fun _ k => XS.iloadN X12.here hx rfl (hb hby d12_107) rfl k) ?_
  show own_Go X12 (Q12 Z r0 p3 p4 h0 n0) 0 0 108 #[.val (.ref r0), .val (.int (1 : Int32)), .val (.int (2 : Int32)), .val (.int p3), .val (.int p4)] [(.int (2 : Int32)), (.ref r0)]
  obtain ⟨T21, h21, X21, e21, W21, st21⟩ := putF X12 hx hZ hown (host := "") (Or.inl (hw _ (List.mem_of_getElem? (i := 23) rfl))) Via.refl e12 f_14 f_13 (Or.inr ⟨(hw _ (List.mem_of_getElem? (i := 24) rfl)), rfl, hnm⟩) (hw _ (List.mem_of_getElem? (i := 4) rfl)) (ty := .int) (by decide) rfl rfl (g := (mkF m 108 #[.val (.ref r0), .val (.int (1 : Int32)), .val (.int (2 : Int32)), .val (.int p3), .val (.int p4)] [(.int (2 : Int32)), (.ref r0)])) rfl rfl (hb hby d12_108)
  refine own_st st21 ?_
  have f_22 := f_13.wr W21
  have f_23 := f_19.other W21 (Or.inr (slot_ne (Or.inr (hw _ (List.mem_of_getElem? (i := 22) rfl))) (Or.inr (hw _ (List.mem_of_getElem? (i := 24) rfl))) (by decide) (t := .int) (t' := .int) (by decide) (by decide)))
  have f_24 := f_15.other W21 (Or.inr (slot_ne (Or.inr (hw _ (List.mem_of_getElem? (i := 26) rfl))) (Or.inr (hw _ (List.mem_of_getElem? (i := 24) rfl))) (by decide) (t := .int) (t' := .int) (by decide) (by decide)))
  have f_25 := f_16.other W21 (Or.inr (slot_ne (Or.inr (hw _ (List.mem_of_getElem? (i := 28) rfl))) (Or.inr (hw _ (List.mem_of_getElem? (i := 24) rfl))) (by decide) (t := .int) (t' := .int) (by decide) (by decide)))
  have Z_26 := Nat.le_trans Z_17 (Nat.le_of_eq W21.size.symm)
  have K_27 := K_18.wr W21 (Or.inl (List.mem_of_getElem? (i := 0) rfl))
  have f_28 := f_14.same W21
  have N_29 := Fr.snoc X21 N_20 PG
  show own_Go X21 (Q12 Z r0 p3 p4 h0 n0) 0 0 111 #[.val (.ref r0), .val (.int (1 : Int32)), .val (.int (2 : Int32)), .val (.int p3), .val (.int p4)] []
  refine own_st (fun _ k => XS.aloadN X21.here hx rfl (hb hby d12_111) rfl rfl k) ?_
  show own_Go X21 (Q12 Z r0 p3 p4 h0 n0) 0 0 112 #[.val (.ref r0), .val (.int (1 : Int32)), .val (.int (2 : Int32)), .val (.int p3), .val (.int p4)] [(.ref r0)]
  refine own_st (fun _ k => XS.iloadN X21.here hx rfl (hb hby d12_112) rfl k) ?_
  show own_Go X21 (Q12 Z r0 p3 p4 h0 n0) 0 0 113 #[.val (.ref r0), .val (.int (1 : Int32)), .val (.int (2 : Int32)), .val (.int p3), .val (.int p4)] [(.int p3), (.ref r0)]
  obtain ⟨T30, h30, X30, e30, W30, st30⟩ := putF X21 hx hZ hown (host := "") (Or.inl (hw _ (List.mem_of_getElem? (i := 25) rfl))) Via.refl e21 f_24 f_22 (Or.inr ⟨(hw _ (List.mem_of_getElem? (i := 26) rfl)), rfl, hnm⟩) (hw _ (List.mem_of_getElem? (i := 4) rfl)) (ty := .int) (by decide) rfl rfl (g := (mkF m 113 #[.val (.ref r0), .val (.int (1 : Int32)), .val (.int (2 : Int32)), .val (.int p3), .val (.int p4)] [(.int p3), (.ref r0)])) rfl rfl (hb hby d12_113)
  refine own_st st30 ?_
  have f_31 := f_22.wr W30
  have f_32 := f_23.other W30 (Or.inr (slot_ne (Or.inr (hw _ (List.mem_of_getElem? (i := 22) rfl))) (Or.inr (hw _ (List.mem_of_getElem? (i := 26) rfl))) (by decide) (t := .int) (t' := .int) (by decide) (by decide)))
  have f_33 := f_28.other W30 (Or.inr (slot_ne (Or.inr (hw _ (List.mem_of_getElem? (i := 24) rfl))) (Or.inr (hw _ (List.mem_of_getElem? (i := 26) rfl))) (by decide) (t := .int) (t' := .int) (by decide) (by decide)))
  have f_34 := f_25.other W30 (Or.inr (slot_ne (Or.inr (hw _ (List.mem_of_getElem? (i := 28) rfl))) (Or.inr (hw _ (List.mem_of_getElem? (i := 26) rfl))) (by decide) (t := .int) (t' := .int) (by decide) (by decide)))
  have Z_35 := Nat.le_trans Z_26 (Nat.le_of_eq W30.size.symm)
  have K_36 := K_27.wr W30 (Or.inl (List.mem_of_getElem? (i := 0) rfl))
  have f_37 := f_24.same W30
  have N_38 := Fr.snoc X30 N_29 PG
  show own_Go X30 (Q12 Z r0 p3 p4 h0 n0) 0 0 116 #[.val (.ref r0), .val (.int (1 : Int32)), .val (.int (2 : Int32)), .val (.int p3), .val (.int p4)] []
  refine own_st (fun _ k => XS.aloadN X30.here hx rfl (hb hby d12_116) rfl rfl k) ?_
  show own_Go X30 (Q12 Z r0 p3 p4 h0 n0) 0 0 117 #[.val (.ref r0), .val (.int (1 : Int32)), .val (.int (2 : Int32)), .val (.int p3), .val (.int p4)] [(.ref r0)]
  refine own_st (fun _ k => XS.iload X30.here hx rfl (hb hby d12_117) rfl k) ?_
  show own_Go X30 (Q12 Z r0 p3 p4 h0 n0) 0 0 119 #[.val (.ref r0), .val (.int (1 : Int32)), .val (.int (2 : Int32)), .val (.int p3), .val (.int p4)] [(.int p4), (.ref r0)]
  obtain ⟨T39, h39, X39, e39, W39, st39⟩ := putF X30 hx hZ hown (host := "") (Or.inl (hw _ (List.mem_of_getElem? (i := 27) rfl))) Via.refl e30 f_34 f_31 (Or.inr ⟨(hw _ (List.mem_of_getElem? (i := 28) rfl)), rfl, hnm⟩) (hw _ (List.mem_of_getElem? (i := 4) rfl)) (ty := .int) (by decide) rfl rfl (g := (mkF m 119 #[.val (.ref r0), .val (.int (1 : Int32)), .val (.int (2 : Int32)), .val (.int p3), .val (.int p4)] [(.int p4), (.ref r0)])) rfl rfl (hb hby d12_119)
  refine own_st st39 ?_
  have f_40 := f_31.wr W39
  have f_41 := f_32.other W39 (Or.inr (slot_ne (Or.inr (hw _ (List.mem_of_getElem? (i := 22) rfl))) (Or.inr (hw _ (List.mem_of_getElem? (i := 28) rfl))) (by decide) (t := .int) (t' := .int) (by decide) (by decide)))
  have f_42 := f_33.other W39 (Or.inr (slot_ne (Or.inr (hw _ (List.mem_of_getElem? (i := 24) rfl))) (Or.inr (hw _ (List.mem_of_getElem? (i := 28) rfl))) (by decide) (t := .int) (t' := .int) (by decide) (by decide)))
  have f_43 := f_37.other W39 (Or.inr (slot_ne (Or.inr (hw _ (List.mem_of_getElem? (i := 26) rfl))) (Or.inr (hw _ (List.mem_of_getElem? (i := 28) rfl))) (by decide) (t := .int) (t' := .int) (by decide) (by decide)))
  have Z_44 := Nat.le_trans Z_35 (Nat.le_of_eq W39.size.symm)
  have K_45 := K_36.wr W39 (Or.inl (List.mem_of_getElem? (i := 0) rfl))
  have f_46 := f_34.same W39
  have N_47 := Fr.snoc X39 N_38 PG
  show own_Go X39 (Q12 Z r0 p3 p4 h0 n0) 0 0 122 #[.val (.ref r0), .val (.int (1 : Int32)), .val (.int (2 : Int32)), .val (.int p3), .val (.int p4)] []
  refine own_retV X39 hx Bd.returns hlk e39 (hb hby d12_122) (by decide) (by decide) ?_
  exact ⟨rfl, N_47, K_45, f_41, f_42, f_43, f_46⟩
theorem d43_0 : decode prog_55_method_7_code 0 = .ok (.lconst 1, 1) := by decide +kernel
theorem d43_1 : decode prog_55_method_7_code 1 = .ok (.lstore_n 2, 1) := by decide +kernel
theorem d43_2 : decode prog_55_method_7_code 2 = .ok (.iconst 0, 1) := by decide +kernel
theorem d43_3 : decode prog_55_method_7_code 3 = .ok (.istore 4, 2) := by decide +kernel
theorem d43_5 : decode prog_55_method_7_code 5 = .ok (.iload 4, 2) := by decide +kernel
theorem d43_7 : decode prog_55_method_7_code 7 = .ok (.iload_n 1, 1) := by decide +kernel
theorem d43_8 : decode prog_55_method_7_code 8 = .ok (.if_icmp .ge 24, 3) := by decide +kernel
theorem d43_11 : decode prog_55_method_7_code 11 = .ok (.lload_n 2, 1) := by decide +kernel
theorem d43_12 : decode prog_55_method_7_code 12 = .ok (.iload_n 0, 1) := by decide +kernel
theorem d43_13 : decode prog_55_method_7_code 13 = .ok (.i2l, 1) := by decide +kernel
theorem d43_14 : decode prog_55_method_7_code 14 = .ok (.lmul, 1) := by decide +kernel
theorem d43_15 : decode prog_55_method_7_code 15 = .ok (.lstore_n 2, 1) := by decide +kernel
theorem d43_16 : decode prog_55_method_7_code 16 = .ok (.lload_n 2, 1) := by decide +kernel
theorem d43_17 : decode prog_55_method_7_code 17 = .ok (.ldc2_w 133, 3) := by decide +kernel
theorem d43_20 : decode prog_55_method_7_code 20 = .ok (.lcmp, 1) := by decide +kernel
theorem d43_21 : decode prog_55_method_7_code 21 = .ok (.ifCond .le 5, 3) := by decide +kernel
theorem d43_26 : decode prog_55_method_7_code 26 = .ok (.iinc 4 1, 3) := by decide +kernel
theorem d43_29 : decode prog_55_method_7_code 29 = .ok (.goto (-24), 3) := by decide +kernel
theorem d43_32 : decode prog_55_method_7_code 32 = .ok (.lload_n 2, 1) := by decide +kernel
theorem d43_33 : decode prog_55_method_7_code 33 = .ok (.l2i, 1) := by decide +kernel
theorem d43_34 : decode prog_55_method_7_code 34 = .ok (.ireturn, 1) := by decide +kernel
theorem pn_43 : plainName "com/example/gingham/gingham/designs/CoveringArraySpec" = true := by first | (simp [plainName, overriddenIn]; done) | decide +kernel
theorem ef_43 (m : MethodId) (p0 : Int32) : entryFrame m #[(.int p0), (.int (3 : Int32))] 5 = mkF m 0 #[.val (.int p0), .val (.int (3 : Int32)), .unset, .unset, .unset] [] := by first | (simp [entryFrame, mkF, argsToLocals, Value.category]; done) | rfl
def Q43 (Z : State) (p0 : Int32)  (h0 : Heap) (n0 : Nat) (v : Option Value) (h : Heap) (L : List Loc) : Prop := v = some (.int ((own_pw3 p0).toInt32)) ∧ Fr n0 L ∧ h = h0
set_option maxRecDepth 65536 in
set_option maxHeartbeats 40000000 in
theorem rm43 (l : Launch) (Z : State) (a0 : Array Value) (hw : ∀ d ∈ tables_1, d.before a0 Z = true) (ws : List Jvm.Cond) (p0 : Int32)  (h0 : Heap) (n0 : Nat) (Z0 : n0 ≤ h0.size) (H1 : ¬ (2147483639 : Int64) < own_pw1 p0) (H2 : ¬ (2147483639 : Int64) < own_pw2 p0) (H3 : ¬ (2147483639 : Int64) < own_pw3 p0) :
    MetFree l (⟨"com/example/gingham/gingham/designs/CoveringArraySpec", "tupleCount", "(II)I"⟩ : MethodName) (head1 (Jvm.Cond.code (⟨"com/example/gingham/gingham/designs/CoveringArraySpec", "tupleCount", "(II)I"⟩ : MethodName) prog_55_method_7_code 5 (some .int) :: ws) ({ frames := 0, cells := 0, slots := 0, locals := 0 } : Room)) (fun a U => a = #[(.int p0), (.int (3 : Int32))] ∧ Z.Warmed39 U.vm ∧ U.heap = h0) (fun _ _ _ _ _ => True) (fun _ U o U' => ∃ v L, o = .returned v ∧ Q43 Z p0 h0 n0 v U'.heap L ∧ FrameEnd U o U' L ({ frames := 0, cells := 0, slots := 0, locals := 0 } : Room).cells ({ frames := 0, cells := 0, slots := 0, locals := 0 } : Room).slots) := by
  refine MetFree.of_bodySF (plainFor_of_name pn_43) hisR ?_
  intro p e s m args below meth c s₁ Bd hml0 hP hK
  obtain ⟨rfl, hZ, hh⟩ := hP
  have hx := Bd.exec
  have hby := Bd.bytes
  have hml : c.maxLocals = 5 := hml0
  have hown : s.vm.findClass "com/example/gingham/gingham/designs/CoveringArraySpec" = some m.cls := findClass_of_methodNamed Bd.named
  have hnm := (name_of_methodNamed Bd.named Bd.method).1
  have hlk : meth.locks = false := Bd.notSynchronized
  have X0 : Stand p l e ({ frames := 0, cells := 0, slots := 0, locals := 0 } : Room) s m #[(.int p0), (.int (3 : Int32))] below meth c s₁ [] 0 0 := Stand.of_body Bd
  have e0 : s₁.heap = h0 := by rw [← hh, Bd.state]; rfl
  have N0 := Fr.nil n0
  refine own_cast (Q := Q43 Z p0 h0 n0) (kc := 0) (ks := 0) (ef_43 m p0) ?_
  refine own_st (fun _ k => XS.lconst X0.here hx rfl (hb hby d43_0) k) ?_
  show own_Go X0 (Q43 Z p0 h0 n0) 0 0 1 #[.val (.int p0), .val (.int (3 : Int32)), .unset, .unset, .unset] [(.long (1 : Int64))]
  refine own_st (fun _ k => XS.lstoreN X0.here hx rfl (hb hby d43_1) rfl (l' := #[.val (.int p0), .val (.int (3 : Int32)), .val (.long (1 : Int64)), .second, .unset]) rfl k) ?_
  show own_Go X0 (Q43 Z p0 h0 n0) 0 0 2 #[.val (.int p0), .val (.int (3 : Int32)), .val (.long (1 : Int64)), .second, .unset] []
  refine own_st (fun _ k => XS.iconst X0.here hx rfl (hb hby d43_2) k) ?_
  show own_Go X0 (Q43 Z p0 h0 n0) 0 0 3 #[.val (.int p0), .val (.int (3 : Int32)), .val (.long (1 : Int64)), .second, .unset] [(.int (0 : Int32))]
  refine own_st (fun _ k => XS.istore X0.here hx rfl (hb hby d43_3) rfl (l' := #[.val (.int p0), .val (.int (3 : Int32)), .val (.long (1 : Int64)), .second, .val (.int (0 : Int32))]) rfl k) ?_
  show own_Go X0 (Q43 Z p0 h0 n0) 0 0 5 #[.val (.int p0), .val (.int (3 : Int32)), .val (.long (1 : Int64)), .second, .val (.int (0 : Int32))] []
  refine own_st (fun _ k => XS.iload X0.here hx rfl (hb hby d43_5) rfl k) ?_
  show own_Go X0 (Q43 Z p0 h0 n0) 0 0 7 #[.val (.int p0), .val (.int (3 : Int32)), .val (.long (1 : Int64)), .second, .val (.int (0 : Int32))] [(.int (0 : Int32))]
  refine own_st (fun _ k => XS.iloadN X0.here hx rfl (hb hby d43_7) rfl k) ?_
  show own_Go X0 (Q43 Z p0 h0 n0) 0 0 8 #[.val (.int p0), .val (.int (3 : Int32)), .val (.long (1 : Int64)), .second, .val (.int (0 : Int32))] [(.int (3 : Int32)), (.int (0 : Int32))]
  have c8_1 : (0 : Int32) < (3 : Int32) := (by decide)
  refine own_st (fun _ k => XS.icmpNo X0.here hx rfl (hb hby d43_8) rfl (tlt c8_1).2.1 k) ?_
  show own_Go X0 (Q43 Z p0 h0 n0) 0 0 11 #[.val (.int p0), .val (.int (3 : Int32)), .val (.long (1 : Int64)), .second, .val (.int (0 : Int32))] []
  refine own_st (fun _ k => XS.lloadN X0.here hx rfl (hb hby d43_11) rfl k) ?_
  show own_Go X0 (Q43 Z p0 h0 n0) 0 0 12 #[.val (.int p0), .val (.int (3 : Int32)), .val (.long (1 : Int64)), .second, .val (.int (0 : Int32))] [(.long (1 : Int64))]
  refine own_st (fun _ k => XS.iloadN X0.here hx rfl (hb hby d43_12) rfl k) ?_
  show own_Go X0 (Q43 Z p0 h0 n0) 0 0 13 #[.val (.int p0), .val (.int (3 : Int32)), .val (.long (1 : Int64)), .second, .val (.int (0 : Int32))] [(.int p0), (.long (1 : Int64))]
  refine own_st (fun _ k => XS.i2l X0.here hx rfl (hb hby d43_13) rfl k) ?_
  show own_Go X0 (Q43 Z p0 h0 n0) 0 0 14 #[.val (.int p0), .val (.int (3 : Int32)), .val (.long (1 : Int64)), .second, .val (.int (0 : Int32))] [(.long (p0.toInt64)), (.long (1 : Int64))]
  refine own_st (fun _ k => XS.lmul X0.here hx rfl (hb hby d43_14) rfl k) ?_
  show own_Go X0 (Q43 Z p0 h0 n0) 0 0 15 #[.val (.int p0), .val (.int (3 : Int32)), .val (.long (1 : Int64)), .second, .val (.int (0 : Int32))] [(.long ((1 : Int64) * (p0.toInt64)))]
  refine own_st (fun _ k => XS.lstoreN X0.here hx rfl (hb hby d43_15) rfl (l' := #[.val (.int p0), .val (.int (3 : Int32)), .val (.long ((1 : Int64) * (p0.toInt64))), .second, .val (.int (0 : Int32))]) rfl k) ?_
  show own_Go X0 (Q43 Z p0 h0 n0) 0 0 16 #[.val (.int p0), .val (.int (3 : Int32)), .val (.long ((1 : Int64) * (p0.toInt64))), .second, .val (.int (0 : Int32))] []
  show own_Go X0 (Q43 Z p0 h0 n0) 0 0 16 #[.val (.int p0), .val (.int (3 : Int32)), .val (.long (own_pw1 p0)), .second, .val (.int (0 : Int32))] []
  refine own_st (fun _ k => XS.lloadN X0.here hx rfl (hb hby d43_16) rfl k) ?_
  show own_Go X0 (Q43 Z p0 h0 n0) 0 0 17 #[.val (.int p0), .val (.int (3 : Int32)), .val (.long (own_pw1 p0)), .second, .val (.int (0 : Int32))] [(.long (own_pw1 p0))]
  refine own_st (fun t k => X0.ldc2Long hx hown (mvT hZ (hw _ (List.mem_of_getElem? (i := 20) rfl))) (g := (mkF m 17 #[.val (.int p0), .val (.int (3 : Int32)), .val (.long (own_pw1 p0)), .second, .val (.int (0 : Int32))] [(.long (own_pw1 p0))])) rfl (hb hby d43_17) t k) ?_
  show own_Go X0 (Q43 Z p0 h0 n0) 0 0 20 #[.val (.int p0), .val (.int (3 : Int32)), .val (.long (own_pw1 p0)), .second, .val (.int (0 : Int32))] [(.long (2147483639 : Int64)), (.long (own_pw1 p0))]
  refine own_st (fun _ k => XS.lcmp X0.here hx rfl (hb hby d43_20) rfl k) ?_
  show own_Go X0 (Q43 Z p0 h0 n0) 0 0 21 #[.val (.int p0), .val (.int (3 : Int32)), .val (.long (own_pw1 p0)), .second, .val (.int (0 : Int32))] [(.int (lcmpW (own_pw1 p0) (2147483639 : Int64)))]
  have c21_2 : ¬ ((2147483639 : Int64) < (own_pw1 p0)) := H1
  refine own_st (fun _ k => XS.ifYes X0.here hx rfl (pc0 := 21) (pc' := 26) rfl (hb hby d43_21) rfl ((if0 _ _).trans (flt (fun q => c21_2 ((lw_gt _ _).mp q))).2.2.2) (by decide) (by decide) k) ?_
  show own_Go X0 (Q43 Z p0 h0 n0) 0 0 26 #[.val (.int p0), .val (.int (3 : Int32)), .val (.long (own_pw1 p0)), .second, .val (.int (0 : Int32))] []
  refine own_st (fun _ k => XS.iinc X0.here hx rfl (hb hby d43_26) rfl (l' := #[.val (.int p0), .val (.int (3 : Int32)), .val (.long (own_pw1 p0)), .second, .val (.int (1 : Int32))]) rfl k) ?_
  show own_Go X0 (Q43 Z p0 h0 n0) 0 0 29 #[.val (.int p0), .val (.int (3 : Int32)), .val (.long (own_pw1 p0)), .second, .val (.int (1 : Int32))] []
  refine own_st (fun _ k => XS.goto X0.here hx rfl (pc0 := 29) (pc' := 5) rfl (hb hby d43_29) (by decide) (by decide) k) ?_
  show own_Go X0 (Q43 Z p0 h0 n0) 0 0 5 #[.val (.int p0), .val (.int (3 : Int32)), .val (.long (own_pw1 p0)), .second, .val (.int (1 : Int32))] []
  refine own_st (fun _ k => XS.iload X0.here hx rfl (hb hby d43_5) rfl k) ?_
  show own_Go X0 (Q43 Z p0 h0 n0) 0 0 7 #[.val (.int p0), .val (.int (3 : Int32)), .val (.long (own_pw1 p0)), .second, .val (.int (1 : Int32))] [(.int (1 : Int32))]
  refine own_st (fun _ k => XS.iloadN X0.here hx rfl (hb hby d43_7) rfl k) ?_
  show own_Go X0 (Q43 Z p0 h0 n0) 0 0 8 #[.val (.int p0), .val (.int (3 : Int32)), .val (.long (own_pw1 p0)), .second, .val (.int (1 : Int32))] [(.int (3 : Int32)), (.int (1 : Int32))]
  have c8_3 : (1 : Int32) < (3 : Int32) := (by decide)
  refine own_st (fun _ k => XS.icmpNo X0.here hx rfl (hb hby d43_8) rfl (tlt c8_3).2.1 k) ?_
  show own_Go X0 (Q43 Z p0 h0 n0) 0 0 11 #[.val (.int p0), .val (.int (3 : Int32)), .val (.long (own_pw1 p0)), .second, .val (.int (1 : Int32))] []
  refine own_st (fun _ k => XS.lloadN X0.here hx rfl (hb hby d43_11) rfl k) ?_
  show own_Go X0 (Q43 Z p0 h0 n0) 0 0 12 #[.val (.int p0), .val (.int (3 : Int32)), .val (.long (own_pw1 p0)), .second, .val (.int (1 : Int32))] [(.long (own_pw1 p0))]
  refine own_st (fun _ k => XS.iloadN X0.here hx rfl (hb hby d43_12) rfl k) ?_
  show own_Go X0 (Q43 Z p0 h0 n0) 0 0 13 #[.val (.int p0), .val (.int (3 : Int32)), .val (.long (own_pw1 p0)), .second, .val (.int (1 : Int32))] [(.int p0), (.long (own_pw1 p0))]
  refine own_st (fun _ k => XS.i2l X0.here hx rfl (hb hby d43_13) rfl k) ?_
  show own_Go X0 (Q43 Z p0 h0 n0) 0 0 14 #[.val (.int p0), .val (.int (3 : Int32)), .val (.long (own_pw1 p0)), .second, .val (.int (1 : Int32))] [(.long (p0.toInt64)), (.long (own_pw1 p0))]
  refine own_st (fun _ k => XS.lmul X0.here hx rfl (hb hby d43_14) rfl k) ?_
  show own_Go X0 (Q43 Z p0 h0 n0) 0 0 15 #[.val (.int p0), .val (.int (3 : Int32)), .val (.long (own_pw1 p0)), .second, .val (.int (1 : Int32))] [(.long ((own_pw1 p0) * (p0.toInt64)))]
  refine own_st (fun _ k => XS.lstoreN X0.here hx rfl (hb hby d43_15) rfl (l' := #[.val (.int p0), .val (.int (3 : Int32)), .val (.long ((own_pw1 p0) * (p0.toInt64))), .second, .val (.int (1 : Int32))]) rfl k) ?_
  show own_Go X0 (Q43 Z p0 h0 n0) 0 0 16 #[.val (.int p0), .val (.int (3 : Int32)), .val (.long ((own_pw1 p0) * (p0.toInt64))), .second, .val (.int (1 : Int32))] []
  show own_Go X0 (Q43 Z p0 h0 n0) 0 0 16 #[.val (.int p0), .val (.int (3 : Int32)), .val (.long (own_pw2 p0)), .second, .val (.int (1 : Int32))] []
  refine own_st (fun _ k => XS.lloadN X0.here hx rfl (hb hby d43_16) rfl k) ?_
  show own_Go X0 (Q43 Z p0 h0 n0) 0 0 17 #[.val (.int p0), .val (.int (3 : Int32)), .val (.long (own_pw2 p0)), .second, .val (.int (1 : Int32))] [(.long (own_pw2 p0))]
  refine own_st (fun t k => X0.ldc2Long hx hown (mvT hZ (hw _ (List.mem_of_getElem? (i := 20) rfl))) (g := (mkF m 17 #[.val (.int p0), .val (.int (3 : Int32)), .val (.long (own_pw2 p0)), .second, .val (.int (1 : Int32))] [(.long (own_pw2 p0))])) rfl (hb hby d43_17) t k) ?_
  show own_Go X0 (Q43 Z p0 h0 n0) 0 0 20 #[.val (.int p0), .val (.int (3 : Int32)), .val (.long (own_pw2 p0)), .second, .val (.int (1 : Int32))] [(.long (2147483639 : Int64)), (.long (own_pw2 p0))]
  refine own_st (fun _ k => XS.lcmp X0.here hx rfl (hb hby d43_20) rfl k) ?_
  show own_Go X0 (Q43 Z p0 h0 n0) 0 0 21 #[.val (.int p0), .val (.int (3 : Int32)), .val (.long (own_pw2 p0)), .second, .val (.int (1 : Int32))] [(.int (lcmpW (own_pw2 p0) (2147483639 : Int64)))]
  have c21_4 : ¬ ((2147483639 : Int64) < (own_pw2 p0)) := H2
  refine own_st (fun _ k => XS.ifYes X0.here hx rfl (pc0 := 21) (pc' := 26) rfl (hb hby d43_21) rfl ((if0 _ _).trans (flt (fun q => c21_4 ((lw_gt _ _).mp q))).2.2.2) (by decide) (by decide) k) ?_
  show own_Go X0 (Q43 Z p0 h0 n0) 0 0 26 #[.val (.int p0), .val (.int (3 : Int32)), .val (.long (own_pw2 p0)), .second, .val (.int (1 : Int32))] []
  refine own_st (fun _ k => XS.iinc X0.here hx rfl (hb hby d43_26) rfl (l' := #[.val (.int p0), .val (.int (3 : Int32)), .val (.long (own_pw2 p0)), .second, .val (.int (2 : Int32))]) rfl k) ?_
  show own_Go X0 (Q43 Z p0 h0 n0) 0 0 29 #[.val (.int p0), .val (.int (3 : Int32)), .val (.long (own_pw2 p0)), .second, .val (.int (2 : Int32))] []
  refine own_st (fun _ k => XS.goto X0.here hx rfl (pc0 := 29) (pc' := 5) rfl (hb hby d43_29) (by decide) (by decide) k) ?_
  show own_Go X0 (Q43 Z p0 h0 n0) 0 0 5 #[.val (.int p0), .val (.int (3 : Int32)), .val (.long (own_pw2 p0)), .second, .val (.int (2 : Int32))] []
  refine own_st (fun _ k => XS.iload X0.here hx rfl (hb hby d43_5) rfl k) ?_
  show own_Go X0 (Q43 Z p0 h0 n0) 0 0 7 #[.val (.int p0), .val (.int (3 : Int32)), .val (.long (own_pw2 p0)), .second, .val (.int (2 : Int32))] [(.int (2 : Int32))]
  refine own_st (fun _ k => XS.iloadN X0.here hx rfl (hb hby d43_7) rfl k) ?_
  show own_Go X0 (Q43 Z p0 h0 n0) 0 0 8 #[.val (.int p0), .val (.int (3 : Int32)), .val (.long (own_pw2 p0)), .second, .val (.int (2 : Int32))] [(.int (3 : Int32)), (.int (2 : Int32))]
  have c8_5 : (2 : Int32) < (3 : Int32) := (by decide)
  refine own_st (fun _ k => XS.icmpNo X0.here hx rfl (hb hby d43_8) rfl (tlt c8_5).2.1 k) ?_
  show own_Go X0 (Q43 Z p0 h0 n0) 0 0 11 #[.val (.int p0), .val (.int (3 : Int32)), .val (.long (own_pw2 p0)), .second, .val (.int (2 : Int32))] []
  refine own_st (fun _ k => XS.lloadN X0.here hx rfl (hb hby d43_11) rfl k) ?_
  show own_Go X0 (Q43 Z p0 h0 n0) 0 0 12 #[.val (.int p0), .val (.int (3 : Int32)), .val (.long (own_pw2 p0)), .second, .val (.int (2 : Int32))] [(.long (own_pw2 p0))]
  refine own_st (fun _ k => XS.iloadN X0.here hx rfl (hb hby d43_12) rfl k) ?_
  show own_Go X0 (Q43 Z p0 h0 n0) 0 0 13 #[.val (.int p0), .val (.int (3 : Int32)), .val (.long (own_pw2 p0)), .second, .val (.int (2 : Int32))] [(.int p0), (.long (own_pw2 p0))]
  refine own_st (fun _ k => XS.i2l X0.here hx rfl (hb hby d43_13) rfl k) ?_
  show own_Go X0 (Q43 Z p0 h0 n0) 0 0 14 #[.val (.int p0), .val (.int (3 : Int32)), .val (.long (own_pw2 p0)), .second, .val (.int (2 : Int32))] [(.long (p0.toInt64)), (.long (own_pw2 p0))]
  refine own_st (fun _ k => XS.lmul X0.here hx rfl (hb hby d43_14) rfl k) ?_
  show own_Go X0 (Q43 Z p0 h0 n0) 0 0 15 #[.val (.int p0), .val (.int (3 : Int32)), .val (.long (own_pw2 p0)), .second, .val (.int (2 : Int32))] [(.long ((own_pw2 p0) * (p0.toInt64)))]
  refine own_st (fun _ k => XS.lstoreN X0.here hx rfl (hb hby d43_15) rfl (l' := #[.val (.int p0), .val (.int (3 : Int32)), .val (.long ((own_pw2 p0) * (p0.toInt64))), .second, .val (.int (2 : Int32))]) rfl k) ?_
  show own_Go X0 (Q43 Z p0 h0 n0) 0 0 16 #[.val (.int p0), .val (.int (3 : Int32)), .val (.long ((own_pw2 p0) * (p0.toInt64))), .second, .val (.int (2 : Int32))] []
  show own_Go X0 (Q43 Z p0 h0 n0) 0 0 16 #[.val (.int p0), .val (.int (3 : Int32)), .val (.long (own_pw3 p0)), .second, .val (.int (2 : Int32))] []
  refine own_st (fun _ k => XS.lloadN X0.here hx rfl (hb hby d43_16) rfl k) ?_
  show own_Go X0 (Q43 Z p0 h0 n0) 0 0 17 #[.val (.int p0), .val (.int (3 : Int32)), .val (.long (own_pw3 p0)), .second, .val (.int (2 : Int32))] [(.long (own_pw3 p0))]
  refine own_st (fun t k => X0.ldc2Long hx hown (mvT hZ (hw _ (List.mem_of_getElem? (i := 20) rfl))) (g := (mkF m 17 #[.val (.int p0), .val (.int (3 : Int32)), .val (.long (own_pw3 p0)), .second, .val (.int (2 : Int32))] [(.long (own_pw3 p0))])) rfl (hb hby d43_17) t k) ?_
  show own_Go X0 (Q43 Z p0 h0 n0) 0 0 20 #[.val (.int p0), .val (.int (3 : Int32)), .val (.long (own_pw3 p0)), .second, .val (.int (2 : Int32))] [(.long (2147483639 : Int64)), (.long (own_pw3 p0))]
  refine own_st (fun _ k => XS.lcmp X0.here hx rfl (hb hby d43_20) rfl k) ?_
  show own_Go X0 (Q43 Z p0 h0 n0) 0 0 21 #[.val (.int p0), .val (.int (3 : Int32)), .val (.long (own_pw3 p0)), .second, .val (.int (2 : Int32))] [(.int (lcmpW (own_pw3 p0) (2147483639 : Int64)))]
  have c21_6 : ¬ ((2147483639 : Int64) < (own_pw3 p0)) := H3
  refine own_st (fun _ k => XS.ifYes X0.here hx rfl (pc0 := 21) (pc' := 26) rfl (hb hby d43_21) rfl ((if0 _ _).trans (flt (fun q => c21_6 ((lw_gt _ _).mp q))).2.2.2) (by decide) (by decide) k) ?_
  show own_Go X0 (Q43 Z p0 h0 n0) 0 0 26 #[.val (.int p0), .val (.int (3 : Int32)), .val (.long (own_pw3 p0)), .second, .val (.int (2 : Int32))] []
  refine own_st (fun _ k => XS.iinc X0.here hx rfl (hb hby d43_26) rfl (l' := #[.val (.int p0), .val (.int (3 : Int32)), .val (.long (own_pw3 p0)), .second, .val (.int (3 : Int32))]) rfl k) ?_
  show own_Go X0 (Q43 Z p0 h0 n0) 0 0 29 #[.val (.int p0), .val (.int (3 : Int32)), .val (.long (own_pw3 p0)), .second, .val (.int (3 : Int32))] []
  refine own_st (fun _ k => XS.goto X0.here hx rfl (pc0 := 29) (pc' := 5) rfl (hb hby d43_29) (by decide) (by decide) k) ?_
  show own_Go X0 (Q43 Z p0 h0 n0) 0 0 5 #[.val (.int p0), .val (.int (3 : Int32)), .val (.long (own_pw3 p0)), .second, .val (.int (3 : Int32))] []
  refine own_st (fun _ k => XS.iload X0.here hx rfl (hb hby d43_5) rfl k) ?_
  show own_Go X0 (Q43 Z p0 h0 n0) 0 0 7 #[.val (.int p0), .val (.int (3 : Int32)), .val (.long (own_pw3 p0)), .second, .val (.int (3 : Int32))] [(.int (3 : Int32))]
  refine own_st (fun _ k => XS.iloadN X0.here hx rfl (hb hby d43_7) rfl k) ?_
  show own_Go X0 (Q43 Z p0 h0 n0) 0 0 8 #[.val (.int p0), .val (.int (3 : Int32)), .val (.long (own_pw3 p0)), .second, .val (.int (3 : Int32))] [(.int (3 : Int32)), (.int (3 : Int32))]
  have c8_7 : ¬ ((3 : Int32) < (3 : Int32)) := (by decide)
  refine own_st (fun _ k => XS.icmpYes X0.here hx rfl (pc0 := 8) (pc' := 32) rfl (hb hby d43_8) rfl (flt c8_7).2.1 (by decide) (by decide) k) ?_
  show own_Go X0 (Q43 Z p0 h0 n0) 0 0 32 #[.val (.int p0), .val (.int (3 : Int32)), .val (.long (own_pw3 p0)), .second, .val (.int (3 : Int32))] []
  refine own_st (fun _ k => XS.lloadN X0.here hx rfl (hb hby d43_32) rfl k) ?_
  show own_Go X0 (Q43 Z p0 h0 n0) 0 0 33 #[.val (.int p0), .val (.int (3 : Int32)), .val (.long (own_pw3 p0)), .second, .val (.int (3 : Int32))] [(.long (own_pw3 p0))]
  refine own_st (fun _ k => XS.l2i X0.here hx rfl (hb hby d43_33) rfl k) ?_
  show own_Go X0 (Q43 Z p0 h0 n0) 0 0 34 #[.val (.int p0), .val (.int (3 : Int32)), .val (.long (own_pw3 p0)), .second, .val (.int (3 : Int32))] [(.int ((own_pw3 p0).toInt32))]
  refine own_retI X0 hx Bd.returns hlk e0 (hb hby d43_34) (by decide) (by decide) ?_
  exact ⟨rfl, N0, rfl⟩
theorem d13_0 : decode prog_55_method_1_code 0 = .ok (.aload_n 0, 1) := by decide +kernel
theorem d13_1 : decode prog_55_method_1_code 1 = .ok (.invokespecial 1, 3) := by decide +kernel
theorem d13_4 : decode prog_55_method_1_code 4 = .ok (.iload_n 1, 1) := by decide +kernel
theorem d13_5 : decode prog_55_method_1_code 5 = .ok (.iconst 1, 1) := by decide +kernel
theorem d13_6 : decode prog_55_method_1_code 6 = .ok (.if_icmp .ge 11, 3) := by decide +kernel
theorem d13_17 : decode prog_55_method_1_code 17 = .ok (.iload_n 3, 1) := by decide +kernel
theorem d13_18 : decode prog_55_method_1_code 18 = .ok (.iconst 1, 1) := by decide +kernel
theorem d13_19 : decode prog_55_method_1_code 19 = .ok (.if_icmp .ge 11, 3) := by decide +kernel
theorem d13_30 : decode prog_55_method_1_code 30 = .ok (.iload_n 2, 1) := by decide +kernel
theorem d13_31 : decode prog_55_method_1_code 31 = .ok (.iconst 1, 1) := by decide +kernel
theorem d13_32 : decode prog_55_method_1_code 32 = .ok (.if_icmp .lt 8, 3) := by decide +kernel
theorem d13_35 : decode prog_55_method_1_code 35 = .ok (.iload_n 2, 1) := by decide +kernel
theorem d13_36 : decode prog_55_method_1_code 36 = .ok (.iload_n 3, 1) := by decide +kernel
theorem d13_37 : decode prog_55_method_1_code 37 = .ok (.if_icmp .le 20, 3) := by decide +kernel
theorem d13_57 : decode prog_55_method_1_code 57 = .ok (.iload 4, 2) := by decide +kernel
theorem d13_59 : decode prog_55_method_1_code 59 = .ok (.iconst 2, 1) := by decide +kernel
theorem d13_60 : decode prog_55_method_1_code 60 = .ok (.if_icmp .ge 12, 3) := by decide +kernel
theorem d13_72 : decode prog_55_method_1_code 72 = .ok (.iload 4, 2) := by decide +kernel
theorem d13_74 : decode prog_55_method_1_code 74 = .ok (.iload_n 2, 1) := by decide +kernel
theorem d13_75 : decode prog_55_method_1_code 75 = .ok (.invokestatic 28, 3) := by decide +kernel
theorem d13_78 : decode prog_55_method_1_code 78 = .ok (.ifCond .ge 23, 3) := by decide +kernel
theorem d13_101 : decode prog_55_method_1_code 101 = .ok (.aload_n 0, 1) := by decide +kernel
theorem d13_102 : decode prog_55_method_1_code 102 = .ok (.iload_n 1, 1) := by decide +kernel
theorem d13_103 : decode prog_55_method_1_code 103 = .ok (.putfield 37, 3) := by decide +kernel
theorem d13_106 : decode prog_55_method_1_code 106 = .ok (.aload_n 0, 1) := by decide +kernel
theorem d13_107 : decode prog_55_method_1_code 107 = .ok (.iload_n 2, 1) := by decide +kernel
theorem d13_108 : decode prog_55_method_1_code 108 = .ok (.putfield 40, 3) := by decide +kernel
theorem d13_111 : decode prog_55_method_1_code 111 = .ok (.aload_n 0, 1) := by decide +kernel
theorem d13_112 : decode prog_55_method_1_code 112 = .ok (.iload_n 3, 1) := by decide +kernel
theorem d13_113 : decode prog_55_method_1_code 113 = .ok (.putfield 42, 3) := by decide +kernel
theorem d13_116 : decode prog_55_method_1_code 116 = .ok (.aload_n 0, 1) := by decide +kernel
theorem d13_117 : decode prog_55_method_1_code 117 = .ok (.iload 4, 2) := by decide +kernel
theorem d13_119 : decode prog_55_method_1_code 119 = .ok (.putfield 44, 3) := by decide +kernel
theorem d13_122 : decode prog_55_method_1_code 122 = .ok (.return_, 1) := by decide +kernel
theorem pn_13 : plainName "com/example/gingham/gingham/designs/CoveringArraySpec" = true := by first | (simp [plainName, overriddenIn]; done) | decide +kernel
theorem pd_13_0 : parseMethodDescriptor "()V" = some ⟨[], none⟩ := by decide +kernel
theorem pd_13_1 : parseMethodDescriptor "(II)I" = some ⟨[.int, .int], some .int⟩ := by decide +kernel
theorem ef_13 (m : MethodId) (r0 : Addr) (p3 : Int32) (p4 : Int32) : entryFrame m #[(.ref r0), (.int (1 : Int32)), (.int (3 : Int32)), (.int p3), (.int p4)] 5 = mkF m 0 #[.val (.ref r0), .val (.int (1 : Int32)), .val (.int (3 : Int32)), .val (.int p3), .val (.int p4)] [] := by first | (simp [entryFrame, mkF, argsToLocals, Value.category]; done) | rfl
def Q13 (Z : State) (r0 : Addr) (p3 : Int32) (p4 : Int32)  (h0 : Heap) (n0 : Nat) (v : Option Value) (h : Heap) (L : List Loc) : Prop := v = none ∧ Fr n0 L ∧ Keep h0 h [r0] ∧ Fld Z h r0 "com/example/gingham/gingham/designs/CoveringArraySpec" "rows" "I" (.int (1 : Int32)) ∧ Fld Z h r0 "com/example/gingham/gingham/designs/CoveringArraySpec" "strength" "I" (.int (3 : Int32)) ∧ Fld Z h r0 "com/example/gingham/gingham/designs/CoveringArraySpec" "columns" "I" (.int p3) ∧ Fld Z h r0 "com/example/gingham/gingham/designs/CoveringArraySpec" "levels" "I" (.int p4)
set_option maxRecDepth 65536 in
set_option maxHeartbeats 40000000 in
theorem rm13 (l : Launch) (Z : State) (a0 : Array Value) (hw : ∀ d ∈ tables_1, d.before a0 Z = true) (ws : List Jvm.Cond) (r0 : Addr) (p3 : Int32) (p4 : Int32)  (h0 : Heap) (n0 : Nat) (Z0 : n0 ≤ h0.size) (PE : Exa Z h0 r0 "com/example/gingham/gingham/designs/CoveringArraySpec") (PG : n0 ≤ r0) (P_rows : Fld Z h0 r0 "com/example/gingham/gingham/designs/CoveringArraySpec" "rows" "I" (.int (0 : Int32))) (P_strength : Fld Z h0 r0 "com/example/gingham/gingham/designs/CoveringArraySpec" "strength" "I" (.int (0 : Int32))) (P_columns : Fld Z h0 r0 "com/example/gingham/gingham/designs/CoveringArraySpec" "columns" "I" (.int (0 : Int32))) (P_levels : Fld Z h0 r0 "com/example/gingham/gingham/designs/CoveringArraySpec" "levels" "I" (.int (0 : Int32))) (H1 : ¬ (2147483639 : Int64) < own_pw1 p4) (H2 : ¬ (2147483639 : Int64) < own_pw2 p4) (H3 : ¬ (2147483639 : Int64) < own_pw3 p4) (HN : ¬ (own_pw3 p4).toInt32 < (0 : Int32)) (HG : ¬ p4 < (2 : Int32)) (HC : ¬ p3 < (1 : Int32)) (HT : ¬ p3 < (3 : Int32)) :
    MetFree l (⟨"com/example/gingham/gingham/designs/CoveringArraySpec", "<init>", "(IIII)V"⟩ : MethodName) (head1 (Jvm.Cond.code (⟨"com/example/gingham/gingham/designs/CoveringArraySpec", "<init>", "(IIII)V"⟩ : MethodName) prog_55_method_1_code 5 none :: ws) ({ frames := 2, cells := 0, slots := 0, locals := 24 } : Room)) (fun a U => a = #[(.ref r0), (.int (1 : Int32)), (.int (3 : Int32)), (.int p3), (.int p4)] ∧ Z.Warmed39 U.vm ∧ U.heap = h0) (fun _ _ _ _ _ => True) (fun _ U o U' => ∃ v L, o = .returned v ∧ Q13 Z r0 p3 p4 h0 n0 v U'.heap L ∧ FrameEnd U o U' L ({ frames := 2, cells := 0, slots := 0, locals := 24 } : Room).cells ({ frames := 2, cells := 0, slots := 0, locals := 24 } : Room).slots) := by
  refine MetFree.of_bodySF (plainFor_of_name pn_13) hisR ?_
  intro p e s m args below meth c s₁ Bd hml0 hP hK
  obtain ⟨rfl, hZ, hh⟩ := hP
  have hx := Bd.exec
  have hby := Bd.bytes
  have hml : c.maxLocals = 5 := hml0
  have hown : s.vm.findClass "com/example/gingham/gingham/designs/CoveringArraySpec" = some m.cls := findClass_of_methodNamed Bd.named
  have hnm := (name_of_methodNamed Bd.named Bd.method).1
  have hlk : meth.locks = false := Bd.notSynchronized
  have X0 : Stand p l e ({ frames := 2, cells := 0, slots := 0, locals := 24 } : Room) s m #[(.ref r0), (.int (1 : Int32)), (.int (3 : Int32)), (.int p3), (.int p4)] below meth c s₁ [] 0 0 := Stand.of_body Bd
  have e0 : s₁.heap = h0 := by rw [← hh, Bd.state]; rfl
  have N0 := Fr.nil n0
  refine own_cast (Q := Q13 Z r0 p3 p4 h0 n0) (kc := 0) (ks := 0) (ef_13 m r0 p3 p4) ?_
  have K_1 := Keep.refl h0 [r0]
  refine own_st (fun _ k => XS.aloadN X0.here hx rfl (hb hby d13_0) rfl rfl k) ?_
  show own_Go X0 (Q13 Z r0 p3 p4 h0 n0) 0 0 1 #[.val (.ref r0), .val (.int (1 : Int32)), .val (.int (3 : Int32)), .val (.int p3), .val (.int p4)] [(.ref r0)]
  refine own_callI (W := 0) X0 hx hZ hown (hw _ (List.mem_of_getElem? (i := 9) rfl)) (hw _ (List.mem_of_getElem? (i := 10) rfl)) (hw _ (List.mem_of_getElem? (i := 12) rfl)) (hw _ (List.mem_of_getElem? (i := 13) rfl)) rfl (by decide) (rm2 l Z a0 hw [] r0 h0 n0 Z0) (by decide) (by decide) (by rw [hml]; rfl) r0 [] [] (lenOf pd_13_0 rfl) rfl rfl (Nat.le_of_ble_eq_true rfl) (hb hby d13_1) e0 (by decide) (by decide) ?_
  rintro _ T2 L2 X2 ⟨rfl, N2q, e2⟩
  have N_3 := Fr.app N0 N2q
  show own_Go X2 (Q13 Z r0 p3 p4 h0 n0) 0 0 4 #[.val (.ref r0), .val (.int (1 : Int32)), .val (.int (3 : Int32)), .val (.int p3), .val (.int p4)] []
  refine own_st (fun _ k => XS.iloadN X2.here hx rfl (hb hby d13_4) rfl k) ?_
  show own_Go X2 (Q13 Z r0 p3 p4 h0 n0) 0 0 5 #[.val (.ref r0), .val (.int (1 : Int32)), .val (.int (3 : Int32)), .val (.int p3), .val (.int p4)] [(.int (1 : Int32))]
  refine own_st (fun _ k => XS.iconst X2.here hx rfl (hb hby d13_5) k) ?_
  show own_Go X2 (Q13 Z r0 p3 p4 h0 n0) 0 0 6 #[.val (.ref r0), .val (.int (1 : Int32)), .val (.int (3 : Int32)), .val (.int p3), .val (.int p4)] [(.int (1 : Int32)), (.int (1 : Int32))]
  have c6_4 : ¬ ((1 : Int32) < (1 : Int32)) := (by decide)
  refine own_st (fun _ k => XS.icmpYes X2.here hx rfl (pc0 := 6) (pc' := 17) rfl (hb hby d13_6) rfl (flt c6_4).2.1 (by decide) (by decide) k) ?_
  show own_Go X2 (Q13 Z r0 p3 p4 h0 n0) 0 0 17 #[.val (.ref r0), .val (.int (1 : Int32)), .val (.int (3 : Int32)), .val (.int p3), .val (.int p4)] []
  refine own_st (fun _ k => XS.iloadN X2.here hx rfl (hb hby d13_17) rfl k) ?_
  show own_Go X2 (Q13 Z r0 p3 p4 h0 n0) 0 0 18 #[.val (.ref r0), .val (.int (1 : Int32)), .val (.int (3 : Int32)), .val (.int p3), .val (.int p4)] [(.int p3)]
  refine own_st (fun _ k => XS.iconst X2.here hx rfl (hb hby d13_18) k) ?_
  show own_Go X2 (Q13 Z r0 p3 p4 h0 n0) 0 0 19 #[.val (.ref r0), .val (.int (1 : Int32)), .val (.int (3 : Int32)), .val (.int p3), .val (.int p4)] [(.int (1 : Int32)), (.int p3)]
  have c19_5 : ¬ (p3 < (1 : Int32)) := HC
  refine own_st (fun _ k => XS.icmpYes X2.here hx rfl (pc0 := 19) (pc' := 30) rfl (hb hby d13_19) rfl (flt c19_5).2.1 (by decide) (by decide) k) ?_
  show own_Go X2 (Q13 Z r0 p3 p4 h0 n0) 0 0 30 #[.val (.ref r0), .val (.int (1 : Int32)), .val (.int (3 : Int32)), .val (.int p3), .val (.int p4)] []
  refine own_st (fun _ k => XS.iloadN X2.here hx rfl (hb hby d13_30) rfl k) ?_
  show own_Go X2 (Q13 Z r0 p3 p4 h0 n0) 0 0 31 #[.val (.ref r0), .val (.int (1 : Int32)), .val (.int (3 : Int32)), .val (.int p3), .val (.int p4)] [(.int (3 : Int32))]
  refine own_st (fun _ k => XS.iconst X2.here hx rfl (hb hby d13_31) k) ?_
  show own_Go X2 (Q13 Z r0 p3 p4 h0 n0) 0 0 32 #[.val (.ref r0), .val (.int (1 : Int32)), .val (.int (3 : Int32)), .val (.int p3), .val (.int p4)] [(.int (1 : Int32)), (.int (3 : Int32))]
  have c32_6 : ¬ ((3 : Int32) < (1 : Int32)) := (by decide)
  refine own_st (fun _ k => XS.icmpNo X2.here hx rfl (hb hby d13_32) rfl (flt c32_6).1 k) ?_
  show own_Go X2 (Q13 Z r0 p3 p4 h0 n0) 0 0 35 #[.val (.ref r0), .val (.int (1 : Int32)), .val (.int (3 : Int32)), .val (.int p3), .val (.int p4)] []
  refine own_st (fun _ k => XS.iloadN X2.here hx rfl (hb hby d13_35) rfl k) ?_
  show own_Go X2 (Q13 Z r0 p3 p4 h0 n0) 0 0 36 #[.val (.ref r0), .val (.int (1 : Int32)), .val (.int (3 : Int32)), .val (.int p3), .val (.int p4)] [(.int (3 : Int32))]
  refine own_st (fun _ k => XS.iloadN X2.here hx rfl (hb hby d13_36) rfl k) ?_
  show own_Go X2 (Q13 Z r0 p3 p4 h0 n0) 0 0 37 #[.val (.ref r0), .val (.int (1 : Int32)), .val (.int (3 : Int32)), .val (.int p3), .val (.int p4)] [(.int p3), (.int (3 : Int32))]
  have c37_7 : ¬ (p3 < (3 : Int32)) := HT
  refine own_st (fun _ k => XS.icmpYes X2.here hx rfl (pc0 := 37) (pc' := 57) rfl (hb hby d13_37) rfl (flt c37_7).2.2.2 (by decide) (by decide) k) ?_
  show own_Go X2 (Q13 Z r0 p3 p4 h0 n0) 0 0 57 #[.val (.ref r0), .val (.int (1 : Int32)), .val (.int (3 : Int32)), .val (.int p3), .val (.int p4)] []
  refine own_st (fun _ k => XS.iload X2.here hx rfl (hb hby d13_57) rfl k) ?_
  show own_Go X2 (Q13 Z r0 p3 p4 h0 n0) 0 0 59 #[.val (.ref r0), .val (.int (1 : Int32)), .val (.int (3 : Int32)), .val (.int p3), .val (.int p4)] [(.int p4)]
  refine own_st (fun _ k => XS.iconst X2.here hx rfl (hb hby d13_59) k) ?_
  show own_Go X2 (Q13 Z r0 p3 p4 h0 n0) 0 0 60 #[.val (.ref r0), .val (.int (1 : Int32)), .val (.int (3 : Int32)), .val (.int p3), .val (.int p4)] [(.int (2 : Int32)), (.int p4)]
  have c60_8 : ¬ (p4 < (2 : Int32)) := HG
  refine own_st (fun _ k => XS.icmpYes X2.here hx rfl (pc0 := 60) (pc' := 72) rfl (hb hby d13_60) rfl (flt c60_8).2.1 (by decide) (by decide) k) ?_
  show own_Go X2 (Q13 Z r0 p3 p4 h0 n0) 0 0 72 #[.val (.ref r0), .val (.int (1 : Int32)), .val (.int (3 : Int32)), .val (.int p3), .val (.int p4)] []
  refine own_st (fun _ k => XS.iload X2.here hx rfl (hb hby d13_72) rfl k) ?_
  show own_Go X2 (Q13 Z r0 p3 p4 h0 n0) 0 0 74 #[.val (.ref r0), .val (.int (1 : Int32)), .val (.int (3 : Int32)), .val (.int p3), .val (.int p4)] [(.int p4)]
  refine own_st (fun _ k => XS.iloadN X2.here hx rfl (hb hby d13_74) rfl k) ?_
  show own_Go X2 (Q13 Z r0 p3 p4 h0 n0) 0 0 75 #[.val (.ref r0), .val (.int (1 : Int32)), .val (.int (3 : Int32)), .val (.int p3), .val (.int p4)] [(.int (3 : Int32)), (.int p4)]
  refine own_callS (W := 0) X2 hx hZ hown (hw _ (List.mem_of_getElem? (i := 17) rfl)) (hw _ (List.mem_of_getElem? (i := 18) rfl)) (hw _ (List.mem_of_getElem? (i := 5) rfl)) (hw _ (List.mem_of_getElem? (i := 19) rfl)) (by decide) (rm43 l Z a0 hw [] p4  h0 n0 Z0 H1 H2 H3) (by decide) (by decide) (by rw [hml]; rfl) [(.int p4), (.int (3 : Int32))] [] (lenOf pd_13_1 rfl) rfl rfl (Nat.le_of_ble_eq_true rfl) (hb hby d13_75) e2 (by decide) (by decide) ?_
  rintro _ T9 L9 X9 ⟨rfl, N9q, e9⟩
  have N_10 := Fr.app N_3 N9q
  show own_Go X9 (Q13 Z r0 p3 p4 h0 n0) 0 0 78 #[.val (.ref r0), .val (.int (1 : Int32)), .val (.int (3 : Int32)), .val (.int p3), .val (.int p4)] [(.int ((own_pw3 p4).toInt32))]
  have c78_11 : ¬ (((own_pw3 p4).toInt32) < (0 : Int32)) := HN
  refine own_st (fun _ k => XS.ifYes X9.here hx rfl (pc0 := 78) (pc' := 101) rfl (hb hby d13_78) rfl ((if0 _ _).trans (flt c78_11).2.1) (by decide) (by decide) k) ?_
  show own_Go X9 (Q13 Z r0 p3 p4 h0 n0) 0 0 101 #[.val (.ref r0), .val (.int (1 : Int32)), .val (.int (3 : Int32)), .val (.int p3), .val (.int p4)] []
  refine own_st (fun _ k => XS.aloadN X9.here hx rfl (hb hby d13_101) rfl rfl k) ?_
  show own_Go X9 (Q13 Z r0 p3 p4 h0 n0) 0 0 102 #[.val (.ref r0), .val (.int (1 : Int32)), .val (.int (3 : Int32)), .val (.int p3), .val (.int p4)] [(.ref r0)]
  refine own_st (fun _ k => XS.iloadN X9.here hx rfl (hb hby d13_102) rfl k) ?_
  show own_Go X9 (Q13 Z r0 p3 p4 h0 n0) 0 0 103 #[.val (.ref r0), .val (.int (1 : Int32)), .val (.int (3 : Int32)), .val (.int p3), .val (.int p4)] [(.int (1 : Int32)), (.ref r0)]
  obtain ⟨T12, h12, X12, e12, W12, st12⟩ := putF X9 hx hZ hown (host := "") (Or.inl (hw _ (List.mem_of_getElem? (i := 21) rfl))) Via.refl e9 P_rows PE (Or.inr ⟨(hw _ (List.mem_of_getElem? (i := 22) rfl)), rfl, hnm⟩) (hw _ (List.mem_of_getElem? (i := 4) rfl)) (ty := .int) (by decide) rfl rfl (g := (mkF m 103 #[.val (.ref r0), .val (.int (1 : Int32)), .val (.int (3 : Int32)), .val (.int p3), .val (.int p4)] [(.int (1 : Int32)), (.ref r0)])) rfl rfl (hb hby d13_103)
  refine own_st st12 ?_
  have f_13 := PE.wr W12
  have f_14 := P_strength.other W12 (Or.inr (slot_ne (Or.inr (hw _ (List.mem_of_getElem? (i := 24) rfl))) (Or.inr (hw _ (List.mem_of_getElem? (i := 22) rfl))) (by decide) (t := .int) (t' := .int) (by decide) (by decide)))
  have f_15 := P_columns.other W12 (Or.inr (slot_ne (Or.inr (hw _ (List.mem_of_getElem? (i := 26) rfl))) (Or.inr (hw _ (List.mem_of_getElem? (i := 22) rfl))) (by decide) (t := .int) (t' := .int) (by decide) (by decide)))
  have f_16 := P_levels.other W12 (Or.inr (slot_ne (Or.inr (hw _ (List.mem_of_getElem? (i := 28) rfl))) (Or.inr (hw _ (List.mem_of_getElem? (i := 22) rfl))) (by decide) (t := .int) (t' := .int) (by decide) (by decide)))
  have Z_17 := Nat.le_trans Z0 (Nat.le_of_eq W12.size.symm)
  have K_18 := K_1.wr W12 (Or.inl (List.mem_of_getElem? (i := 0) rfl))
  have f_19 := P_rows.same W12
  have N_20 := Fr.snoc X12 N_10 PG
  show own_Go X12 (Q13 Z r0 p3 p4 h0 n0) 0 0 106 #[.val (.ref r0), .val (.int (1 : Int32)), .val (.int (3 : Int32)), .val (.int p3), .val (.int p4)] []
  refine own_st (fun _ k => XS.aloadN X12.here hx rfl (hb hby d13_106) rfl rfl k) ?_
  show own_Go X12 (Q13 Z r0 p3 p4 h0 n0) 0 0 107 #[.val (.ref r0), .val (.int (1 : Int32)), .val (.int (3 : Int32)), .val (.int p3), .val (.int p4)] [(.ref r0)]
  refine own_st (fun _ k => XS.iloadN X12.here hx rfl (hb hby d13_107) rfl k) ?_
  show own_Go X12 (Q13 Z r0 p3 p4 h0 n0) 0 0 108 #[.val (.ref r0), .val (.int (1 : Int32)), .val (.int (3 : Int32)), .val (.int p3), .val (.int p4)] [(.int (3 : Int32)), (.ref r0)]
  obtain ⟨T21, h21, X21, e21, W21, st21⟩ := putF X12 hx hZ hown (host := "") (Or.inl (hw _ (List.mem_of_getElem? (i := 23) rfl))) Via.refl e12 f_14 f_13 (Or.inr ⟨(hw _ (List.mem_of_getElem? (i := 24) rfl)), rfl, hnm⟩) (hw _ (List.mem_of_getElem? (i := 4) rfl)) (ty := .int) (by decide) rfl rfl (g := (mkF m 108 #[.val (.ref r0), .val (.int (1 : Int32)), .val (.int (3 : Int32)), .val (.int p3), .val (.int p4)] [(.int (3 : Int32)), (.ref r0)])) rfl rfl (hb hby d13_108)
  refine own_st st21 ?_
  have f_22 := f_13.wr W21
  have f_23 := f_19.other W21 (Or.inr (slot_ne (Or.inr (hw _ (List.mem_of_getElem? (i := 22) rfl))) (Or.inr (hw _ (List.mem_of_getElem? (i := 24) rfl))) (by decide) (t := .int) (t' := .int) (by decide) (by decide)))
  have f_24 := f_15.other W21 (Or.inr (slot_ne (Or.inr (hw _ (List.mem_of_getElem? (i := 26) rfl))) (Or.inr (hw _ (List.mem_of_getElem? (i := 24) rfl))) (by decide) (t := .int) (t' := .int) (by decide) (by decide)))
  have f_25 := f_16.other W21 (Or.inr (slot_ne (Or.inr (hw _ (List.mem_of_getElem? (i := 28) rfl))) (Or.inr (hw _ (List.mem_of_getElem? (i := 24) rfl))) (by decide) (t := .int) (t' := .int) (by decide) (by decide)))
  have Z_26 := Nat.le_trans Z_17 (Nat.le_of_eq W21.size.symm)
  have K_27 := K_18.wr W21 (Or.inl (List.mem_of_getElem? (i := 0) rfl))
  have f_28 := f_14.same W21
  have N_29 := Fr.snoc X21 N_20 PG
  show own_Go X21 (Q13 Z r0 p3 p4 h0 n0) 0 0 111 #[.val (.ref r0), .val (.int (1 : Int32)), .val (.int (3 : Int32)), .val (.int p3), .val (.int p4)] []
  refine own_st (fun _ k => XS.aloadN X21.here hx rfl (hb hby d13_111) rfl rfl k) ?_
  show own_Go X21 (Q13 Z r0 p3 p4 h0 n0) 0 0 112 #[.val (.ref r0), .val (.int (1 : Int32)), .val (.int (3 : Int32)), .val (.int p3), .val (.int p4)] [(.ref r0)]
  refine own_st (fun _ k => XS.iloadN X21.here hx rfl (hb hby d13_112) rfl k) ?_
  show own_Go X21 (Q13 Z r0 p3 p4 h0 n0) 0 0 113 #[.val (.ref r0), .val (.int (1 : Int32)), .val (.int (3 : Int32)), .val (.int p3), .val (.int p4)] [(.int p3), (.ref r0)]
  obtain ⟨T30, h30, X30, e30, W30, st30⟩ := putF X21 hx hZ hown (host := "") (Or.inl (hw _ (List.mem_of_getElem? (i := 25) rfl))) Via.refl e21 f_24 f_22 (Or.inr ⟨(hw _ (List.mem_of_getElem? (i := 26) rfl)), rfl, hnm⟩) (hw _ (List.mem_of_getElem? (i := 4) rfl)) (ty := .int) (by decide) rfl rfl (g := (mkF m 113 #[.val (.ref r0), .val (.int (1 : Int32)), .val (.int (3 : Int32)), .val (.int p3), .val (.int p4)] [(.int p3), (.ref r0)])) rfl rfl (hb hby d13_113)
  refine own_st st30 ?_
  have f_31 := f_22.wr W30
  have f_32 := f_23.other W30 (Or.inr (slot_ne (Or.inr (hw _ (List.mem_of_getElem? (i := 22) rfl))) (Or.inr (hw _ (List.mem_of_getElem? (i := 26) rfl))) (by decide) (t := .int) (t' := .int) (by decide) (by decide)))
  have f_33 := f_28.other W30 (Or.inr (slot_ne (Or.inr (hw _ (List.mem_of_getElem? (i := 24) rfl))) (Or.inr (hw _ (List.mem_of_getElem? (i := 26) rfl))) (by decide) (t := .int) (t' := .int) (by decide) (by decide)))
  have f_34 := f_25.other W30 (Or.inr (slot_ne (Or.inr (hw _ (List.mem_of_getElem? (i := 28) rfl))) (Or.inr (hw _ (List.mem_of_getElem? (i := 26) rfl))) (by decide) (t := .int) (t' := .int) (by decide) (by decide)))
  have Z_35 := Nat.le_trans Z_26 (Nat.le_of_eq W30.size.symm)
  have K_36 := K_27.wr W30 (Or.inl (List.mem_of_getElem? (i := 0) rfl))
  have f_37 := f_24.same W30
  have N_38 := Fr.snoc X30 N_29 PG
  show own_Go X30 (Q13 Z r0 p3 p4 h0 n0) 0 0 116 #[.val (.ref r0), .val (.int (1 : Int32)), .val (.int (3 : Int32)), .val (.int p3), .val (.int p4)] []
  refine own_st (fun _ k => XS.aloadN X30.here hx rfl (hb hby d13_116) rfl rfl k) ?_
  show own_Go X30 (Q13 Z r0 p3 p4 h0 n0) 0 0 117 #[.val (.ref r0), .val (.int (1 : Int32)), .val (.int (3 : Int32)), .val (.int p3), .val (.int p4)] [(.ref r0)]
  refine own_st (fun _ k => XS.iload X30.here hx rfl (hb hby d13_117) rfl k) ?_
  show own_Go X30 (Q13 Z r0 p3 p4 h0 n0) 0 0 119 #[.val (.ref r0), .val (.int (1 : Int32)), .val (.int (3 : Int32)), .val (.int p3), .val (.int p4)] [(.int p4), (.ref r0)]
  obtain ⟨T39, h39, X39, e39, W39, st39⟩ := putF X30 hx hZ hown (host := "") (Or.inl (hw _ (List.mem_of_getElem? (i := 27) rfl))) Via.refl e30 f_34 f_31 (Or.inr ⟨(hw _ (List.mem_of_getElem? (i := 28) rfl)), rfl, hnm⟩) (hw _ (List.mem_of_getElem? (i := 4) rfl)) (ty := .int) (by decide) rfl rfl (g := (mkF m 119 #[.val (.ref r0), .val (.int (1 : Int32)), .val (.int (3 : Int32)), .val (.int p3), .val (.int p4)] [(.int p4), (.ref r0)])) rfl rfl (hb hby d13_119)
  refine own_st st39 ?_
  have f_40 := f_31.wr W39
  have f_41 := f_32.other W39 (Or.inr (slot_ne (Or.inr (hw _ (List.mem_of_getElem? (i := 22) rfl))) (Or.inr (hw _ (List.mem_of_getElem? (i := 28) rfl))) (by decide) (t := .int) (t' := .int) (by decide) (by decide)))
  have f_42 := f_33.other W39 (Or.inr (slot_ne (Or.inr (hw _ (List.mem_of_getElem? (i := 24) rfl))) (Or.inr (hw _ (List.mem_of_getElem? (i := 28) rfl))) (by decide) (t := .int) (t' := .int) (by decide) (by decide)))
  have f_43 := f_37.other W39 (Or.inr (slot_ne (Or.inr (hw _ (List.mem_of_getElem? (i := 26) rfl))) (Or.inr (hw _ (List.mem_of_getElem? (i := 28) rfl))) (by decide) (t := .int) (t' := .int) (by decide) (by decide)))
  have Z_44 := Nat.le_trans Z_35 (Nat.le_of_eq W39.size.symm)
  have K_45 := K_36.wr W39 (Or.inl (List.mem_of_getElem? (i := 0) rfl))
  have f_46 := f_34.same W39
  have N_47 := Fr.snoc X39 N_38 PG
  show own_Go X39 (Q13 Z r0 p3 p4 h0 n0) 0 0 122 #[.val (.ref r0), .val (.int (1 : Int32)), .val (.int (3 : Int32)), .val (.int p3), .val (.int p4)] []
  refine own_retV X39 hx Bd.returns hlk e39 (hb hby d13_122) (by decide) (by decide) ?_
  exact ⟨rfl, N_47, K_45, f_41, f_42, f_43, f_46⟩
theorem d44_0 : decode prog_55_method_7_code 0 = .ok (.lconst 1, 1) := by decide +kernel
theorem d44_1 : decode prog_55_method_7_code 1 = .ok (.lstore_n 2, 1) := by decide +kernel
theorem d44_2 : decode prog_55_method_7_code 2 = .ok (.iconst 0, 1) := by decide +kernel
theorem d44_3 : decode prog_55_method_7_code 3 = .ok (.istore 4, 2) := by decide +kernel
theorem d44_5 : decode prog_55_method_7_code 5 = .ok (.iload 4, 2) := by decide +kernel
theorem d44_7 : decode prog_55_method_7_code 7 = .ok (.iload_n 1, 1) := by decide +kernel
theorem d44_8 : decode prog_55_method_7_code 8 = .ok (.if_icmp .ge 24, 3) := by decide +kernel
theorem d44_11 : decode prog_55_method_7_code 11 = .ok (.lload_n 2, 1) := by decide +kernel
theorem d44_12 : decode prog_55_method_7_code 12 = .ok (.iload_n 0, 1) := by decide +kernel
theorem d44_13 : decode prog_55_method_7_code 13 = .ok (.i2l, 1) := by decide +kernel
theorem d44_14 : decode prog_55_method_7_code 14 = .ok (.lmul, 1) := by decide +kernel
theorem d44_15 : decode prog_55_method_7_code 15 = .ok (.lstore_n 2, 1) := by decide +kernel
theorem d44_16 : decode prog_55_method_7_code 16 = .ok (.lload_n 2, 1) := by decide +kernel
theorem d44_17 : decode prog_55_method_7_code 17 = .ok (.ldc2_w 133, 3) := by decide +kernel
theorem d44_20 : decode prog_55_method_7_code 20 = .ok (.lcmp, 1) := by decide +kernel
theorem d44_21 : decode prog_55_method_7_code 21 = .ok (.ifCond .le 5, 3) := by decide +kernel
theorem d44_26 : decode prog_55_method_7_code 26 = .ok (.iinc 4 1, 3) := by decide +kernel
theorem d44_29 : decode prog_55_method_7_code 29 = .ok (.goto (-24), 3) := by decide +kernel
theorem d44_32 : decode prog_55_method_7_code 32 = .ok (.lload_n 2, 1) := by decide +kernel
theorem d44_33 : decode prog_55_method_7_code 33 = .ok (.l2i, 1) := by decide +kernel
theorem d44_34 : decode prog_55_method_7_code 34 = .ok (.ireturn, 1) := by decide +kernel
theorem pn_44 : plainName "com/example/gingham/gingham/designs/CoveringArraySpec" = true := by first | (simp [plainName, overriddenIn]; done) | decide +kernel
theorem ef_44 (m : MethodId) (p0 : Int32) : entryFrame m #[(.int p0), (.int (4 : Int32))] 5 = mkF m 0 #[.val (.int p0), .val (.int (4 : Int32)), .unset, .unset, .unset] [] := by first | (simp [entryFrame, mkF, argsToLocals, Value.category]; done) | rfl
def Q44 (Z : State) (p0 : Int32)  (h0 : Heap) (n0 : Nat) (v : Option Value) (h : Heap) (L : List Loc) : Prop := v = some (.int ((own_pw4 p0).toInt32)) ∧ Fr n0 L ∧ h = h0
set_option maxRecDepth 65536 in
set_option maxHeartbeats 40000000 in
theorem rm44 (l : Launch) (Z : State) (a0 : Array Value) (hw : ∀ d ∈ tables_1, d.before a0 Z = true) (ws : List Jvm.Cond) (p0 : Int32)  (h0 : Heap) (n0 : Nat) (Z0 : n0 ≤ h0.size) (H1 : ¬ (2147483639 : Int64) < own_pw1 p0) (H2 : ¬ (2147483639 : Int64) < own_pw2 p0) (H3 : ¬ (2147483639 : Int64) < own_pw3 p0) (H4 : ¬ (2147483639 : Int64) < own_pw4 p0) :
    MetFree l (⟨"com/example/gingham/gingham/designs/CoveringArraySpec", "tupleCount", "(II)I"⟩ : MethodName) (head1 (Jvm.Cond.code (⟨"com/example/gingham/gingham/designs/CoveringArraySpec", "tupleCount", "(II)I"⟩ : MethodName) prog_55_method_7_code 5 (some .int) :: ws) ({ frames := 0, cells := 0, slots := 0, locals := 0 } : Room)) (fun a U => a = #[(.int p0), (.int (4 : Int32))] ∧ Z.Warmed39 U.vm ∧ U.heap = h0) (fun _ _ _ _ _ => True) (fun _ U o U' => ∃ v L, o = .returned v ∧ Q44 Z p0 h0 n0 v U'.heap L ∧ FrameEnd U o U' L ({ frames := 0, cells := 0, slots := 0, locals := 0 } : Room).cells ({ frames := 0, cells := 0, slots := 0, locals := 0 } : Room).slots) := by
  refine MetFree.of_bodySF (plainFor_of_name pn_44) hisR ?_
  intro p e s m args below meth c s₁ Bd hml0 hP hK
  obtain ⟨rfl, hZ, hh⟩ := hP
  have hx := Bd.exec
  have hby := Bd.bytes
  have hml : c.maxLocals = 5 := hml0
  have hown : s.vm.findClass "com/example/gingham/gingham/designs/CoveringArraySpec" = some m.cls := findClass_of_methodNamed Bd.named
  have hnm := (name_of_methodNamed Bd.named Bd.method).1
  have hlk : meth.locks = false := Bd.notSynchronized
  have X0 : Stand p l e ({ frames := 0, cells := 0, slots := 0, locals := 0 } : Room) s m #[(.int p0), (.int (4 : Int32))] below meth c s₁ [] 0 0 := Stand.of_body Bd
  have e0 : s₁.heap = h0 := by rw [← hh, Bd.state]; rfl
  have N0 := Fr.nil n0
  refine own_cast (Q := Q44 Z p0 h0 n0) (kc := 0) (ks := 0) (ef_44 m p0) ?_
  refine own_st (fun _ k => XS.lconst X0.here hx rfl (hb hby d44_0) k) ?_
  show own_Go X0 (Q44 Z p0 h0 n0) 0 0 1 #[.val (.int p0), .val (.int (4 : Int32)), .unset, .unset, .unset] [(.long (1 : Int64))]
  refine own_st (fun _ k => XS.lstoreN X0.here hx rfl (hb hby d44_1) rfl (l' := #[.val (.int p0), .val (.int (4 : Int32)), .val (.long (1 : Int64)), .second, .unset]) rfl k) ?_
  show own_Go X0 (Q44 Z p0 h0 n0) 0 0 2 #[.val (.int p0), .val (.int (4 : Int32)), .val (.long (1 : Int64)), .second, .unset] []
  refine own_st (fun _ k => XS.iconst X0.here hx rfl (hb hby d44_2) k) ?_
  show own_Go X0 (Q44 Z p0 h0 n0) 0 0 3 #[.val (.int p0), .val (.int (4 : Int32)), .val (.long (1 : Int64)), .second, .unset] [(.int (0 : Int32))]
  refine own_st (fun _ k => XS.istore X0.here hx rfl (hb hby d44_3) rfl (l' := #[.val (.int p0), .val (.int (4 : Int32)), .val (.long (1 : Int64)), .second, .val (.int (0 : Int32))]) rfl k) ?_
  show own_Go X0 (Q44 Z p0 h0 n0) 0 0 5 #[.val (.int p0), .val (.int (4 : Int32)), .val (.long (1 : Int64)), .second, .val (.int (0 : Int32))] []
  refine own_st (fun _ k => XS.iload X0.here hx rfl (hb hby d44_5) rfl k) ?_
  show own_Go X0 (Q44 Z p0 h0 n0) 0 0 7 #[.val (.int p0), .val (.int (4 : Int32)), .val (.long (1 : Int64)), .second, .val (.int (0 : Int32))] [(.int (0 : Int32))]
  refine own_st (fun _ k => XS.iloadN X0.here hx rfl (hb hby d44_7) rfl k) ?_
  show own_Go X0 (Q44 Z p0 h0 n0) 0 0 8 #[.val (.int p0), .val (.int (4 : Int32)), .val (.long (1 : Int64)), .second, .val (.int (0 : Int32))] [(.int (4 : Int32)), (.int (0 : Int32))]
  have c8_1 : (0 : Int32) < (4 : Int32) := (by decide)
  refine own_st (fun _ k => XS.icmpNo X0.here hx rfl (hb hby d44_8) rfl (tlt c8_1).2.1 k) ?_
  show own_Go X0 (Q44 Z p0 h0 n0) 0 0 11 #[.val (.int p0), .val (.int (4 : Int32)), .val (.long (1 : Int64)), .second, .val (.int (0 : Int32))] []
  refine own_st (fun _ k => XS.lloadN X0.here hx rfl (hb hby d44_11) rfl k) ?_
  show own_Go X0 (Q44 Z p0 h0 n0) 0 0 12 #[.val (.int p0), .val (.int (4 : Int32)), .val (.long (1 : Int64)), .second, .val (.int (0 : Int32))] [(.long (1 : Int64))]
  refine own_st (fun _ k => XS.iloadN X0.here hx rfl (hb hby d44_12) rfl k) ?_
  show own_Go X0 (Q44 Z p0 h0 n0) 0 0 13 #[.val (.int p0), .val (.int (4 : Int32)), .val (.long (1 : Int64)), .second, .val (.int (0 : Int32))] [(.int p0), (.long (1 : Int64))]
  refine own_st (fun _ k => XS.i2l X0.here hx rfl (hb hby d44_13) rfl k) ?_
  show own_Go X0 (Q44 Z p0 h0 n0) 0 0 14 #[.val (.int p0), .val (.int (4 : Int32)), .val (.long (1 : Int64)), .second, .val (.int (0 : Int32))] [(.long (p0.toInt64)), (.long (1 : Int64))]
  refine own_st (fun _ k => XS.lmul X0.here hx rfl (hb hby d44_14) rfl k) ?_
  show own_Go X0 (Q44 Z p0 h0 n0) 0 0 15 #[.val (.int p0), .val (.int (4 : Int32)), .val (.long (1 : Int64)), .second, .val (.int (0 : Int32))] [(.long ((1 : Int64) * (p0.toInt64)))]
  refine own_st (fun _ k => XS.lstoreN X0.here hx rfl (hb hby d44_15) rfl (l' := #[.val (.int p0), .val (.int (4 : Int32)), .val (.long ((1 : Int64) * (p0.toInt64))), .second, .val (.int (0 : Int32))]) rfl k) ?_
  show own_Go X0 (Q44 Z p0 h0 n0) 0 0 16 #[.val (.int p0), .val (.int (4 : Int32)), .val (.long ((1 : Int64) * (p0.toInt64))), .second, .val (.int (0 : Int32))] []
  show own_Go X0 (Q44 Z p0 h0 n0) 0 0 16 #[.val (.int p0), .val (.int (4 : Int32)), .val (.long (own_pw1 p0)), .second, .val (.int (0 : Int32))] []
  refine own_st (fun _ k => XS.lloadN X0.here hx rfl (hb hby d44_16) rfl k) ?_
  show own_Go X0 (Q44 Z p0 h0 n0) 0 0 17 #[.val (.int p0), .val (.int (4 : Int32)), .val (.long (own_pw1 p0)), .second, .val (.int (0 : Int32))] [(.long (own_pw1 p0))]
  refine own_st (fun t k => X0.ldc2Long hx hown (mvT hZ (hw _ (List.mem_of_getElem? (i := 20) rfl))) (g := (mkF m 17 #[.val (.int p0), .val (.int (4 : Int32)), .val (.long (own_pw1 p0)), .second, .val (.int (0 : Int32))] [(.long (own_pw1 p0))])) rfl (hb hby d44_17) t k) ?_
  show own_Go X0 (Q44 Z p0 h0 n0) 0 0 20 #[.val (.int p0), .val (.int (4 : Int32)), .val (.long (own_pw1 p0)), .second, .val (.int (0 : Int32))] [(.long (2147483639 : Int64)), (.long (own_pw1 p0))]
  refine own_st (fun _ k => XS.lcmp X0.here hx rfl (hb hby d44_20) rfl k) ?_
  show own_Go X0 (Q44 Z p0 h0 n0) 0 0 21 #[.val (.int p0), .val (.int (4 : Int32)), .val (.long (own_pw1 p0)), .second, .val (.int (0 : Int32))] [(.int (lcmpW (own_pw1 p0) (2147483639 : Int64)))]
  have c21_2 : ¬ ((2147483639 : Int64) < (own_pw1 p0)) := H1
  refine own_st (fun _ k => XS.ifYes X0.here hx rfl (pc0 := 21) (pc' := 26) rfl (hb hby d44_21) rfl ((if0 _ _).trans (flt (fun q => c21_2 ((lw_gt _ _).mp q))).2.2.2) (by decide) (by decide) k) ?_
  show own_Go X0 (Q44 Z p0 h0 n0) 0 0 26 #[.val (.int p0), .val (.int (4 : Int32)), .val (.long (own_pw1 p0)), .second, .val (.int (0 : Int32))] []
  refine own_st (fun _ k => XS.iinc X0.here hx rfl (hb hby d44_26) rfl (l' := #[.val (.int p0), .val (.int (4 : Int32)), .val (.long (own_pw1 p0)), .second, .val (.int (1 : Int32))]) rfl k) ?_
  show own_Go X0 (Q44 Z p0 h0 n0) 0 0 29 #[.val (.int p0), .val (.int (4 : Int32)), .val (.long (own_pw1 p0)), .second, .val (.int (1 : Int32))] []
  refine own_st (fun _ k => XS.goto X0.here hx rfl (pc0 := 29) (pc' := 5) rfl (hb hby d44_29) (by decide) (by decide) k) ?_
  show own_Go X0 (Q44 Z p0 h0 n0) 0 0 5 #[.val (.int p0), .val (.int (4 : Int32)), .val (.long (own_pw1 p0)), .second, .val (.int (1 : Int32))] []
  refine own_st (fun _ k => XS.iload X0.here hx rfl (hb hby d44_5) rfl k) ?_
  show own_Go X0 (Q44 Z p0 h0 n0) 0 0 7 #[.val (.int p0), .val (.int (4 : Int32)), .val (.long (own_pw1 p0)), .second, .val (.int (1 : Int32))] [(.int (1 : Int32))]
  refine own_st (fun _ k => XS.iloadN X0.here hx rfl (hb hby d44_7) rfl k) ?_
  show own_Go X0 (Q44 Z p0 h0 n0) 0 0 8 #[.val (.int p0), .val (.int (4 : Int32)), .val (.long (own_pw1 p0)), .second, .val (.int (1 : Int32))] [(.int (4 : Int32)), (.int (1 : Int32))]
  have c8_3 : (1 : Int32) < (4 : Int32) := (by decide)
  refine own_st (fun _ k => XS.icmpNo X0.here hx rfl (hb hby d44_8) rfl (tlt c8_3).2.1 k) ?_
  show own_Go X0 (Q44 Z p0 h0 n0) 0 0 11 #[.val (.int p0), .val (.int (4 : Int32)), .val (.long (own_pw1 p0)), .second, .val (.int (1 : Int32))] []
  refine own_st (fun _ k => XS.lloadN X0.here hx rfl (hb hby d44_11) rfl k) ?_
  show own_Go X0 (Q44 Z p0 h0 n0) 0 0 12 #[.val (.int p0), .val (.int (4 : Int32)), .val (.long (own_pw1 p0)), .second, .val (.int (1 : Int32))] [(.long (own_pw1 p0))]
  refine own_st (fun _ k => XS.iloadN X0.here hx rfl (hb hby d44_12) rfl k) ?_
  show own_Go X0 (Q44 Z p0 h0 n0) 0 0 13 #[.val (.int p0), .val (.int (4 : Int32)), .val (.long (own_pw1 p0)), .second, .val (.int (1 : Int32))] [(.int p0), (.long (own_pw1 p0))]
  refine own_st (fun _ k => XS.i2l X0.here hx rfl (hb hby d44_13) rfl k) ?_
  show own_Go X0 (Q44 Z p0 h0 n0) 0 0 14 #[.val (.int p0), .val (.int (4 : Int32)), .val (.long (own_pw1 p0)), .second, .val (.int (1 : Int32))] [(.long (p0.toInt64)), (.long (own_pw1 p0))]
  refine own_st (fun _ k => XS.lmul X0.here hx rfl (hb hby d44_14) rfl k) ?_
  show own_Go X0 (Q44 Z p0 h0 n0) 0 0 15 #[.val (.int p0), .val (.int (4 : Int32)), .val (.long (own_pw1 p0)), .second, .val (.int (1 : Int32))] [(.long ((own_pw1 p0) * (p0.toInt64)))]
  refine own_st (fun _ k => XS.lstoreN X0.here hx rfl (hb hby d44_15) rfl (l' := #[.val (.int p0), .val (.int (4 : Int32)), .val (.long ((own_pw1 p0) * (p0.toInt64))), .second, .val (.int (1 : Int32))]) rfl k) ?_
  show own_Go X0 (Q44 Z p0 h0 n0) 0 0 16 #[.val (.int p0), .val (.int (4 : Int32)), .val (.long ((own_pw1 p0) * (p0.toInt64))), .second, .val (.int (1 : Int32))] []
  show own_Go X0 (Q44 Z p0 h0 n0) 0 0 16 #[.val (.int p0), .val (.int (4 : Int32)), .val (.long (own_pw2 p0)), .second, .val (.int (1 : Int32))] []
  refine own_st (fun _ k => XS.lloadN X0.here hx rfl (hb hby d44_16) rfl k) ?_
  show own_Go X0 (Q44 Z p0 h0 n0) 0 0 17 #[.val (.int p0), .val (.int (4 : Int32)), .val (.long (own_pw2 p0)), .second, .val (.int (1 : Int32))] [(.long (own_pw2 p0))]
  refine own_st (fun t k => X0.ldc2Long hx hown (mvT hZ (hw _ (List.mem_of_getElem? (i := 20) rfl))) (g := (mkF m 17 #[.val (.int p0), .val (.int (4 : Int32)), .val (.long (own_pw2 p0)), .second, .val (.int (1 : Int32))] [(.long (own_pw2 p0))])) rfl (hb hby d44_17) t k) ?_
  show own_Go X0 (Q44 Z p0 h0 n0) 0 0 20 #[.val (.int p0), .val (.int (4 : Int32)), .val (.long (own_pw2 p0)), .second, .val (.int (1 : Int32))] [(.long (2147483639 : Int64)), (.long (own_pw2 p0))]
  refine own_st (fun _ k => XS.lcmp X0.here hx rfl (hb hby d44_20) rfl k) ?_
  show own_Go X0 (Q44 Z p0 h0 n0) 0 0 21 #[.val (.int p0), .val (.int (4 : Int32)), .val (.long (own_pw2 p0)), .second, .val (.int (1 : Int32))] [(.int (lcmpW (own_pw2 p0) (2147483639 : Int64)))]
  have c21_4 : ¬ ((2147483639 : Int64) < (own_pw2 p0)) := H2
  refine own_st (fun _ k => XS.ifYes X0.here hx rfl (pc0 := 21) (pc' := 26) rfl (hb hby d44_21) rfl ((if0 _ _).trans (flt (fun q => c21_4 ((lw_gt _ _).mp q))).2.2.2) (by decide) (by decide) k) ?_
  show own_Go X0 (Q44 Z p0 h0 n0) 0 0 26 #[.val (.int p0), .val (.int (4 : Int32)), .val (.long (own_pw2 p0)), .second, .val (.int (1 : Int32))] []
  refine own_st (fun _ k => XS.iinc X0.here hx rfl (hb hby d44_26) rfl (l' := #[.val (.int p0), .val (.int (4 : Int32)), .val (.long (own_pw2 p0)), .second, .val (.int (2 : Int32))]) rfl k) ?_
  show own_Go X0 (Q44 Z p0 h0 n0) 0 0 29 #[.val (.int p0), .val (.int (4 : Int32)), .val (.long (own_pw2 p0)), .second, .val (.int (2 : Int32))] []
  refine own_st (fun _ k => XS.goto X0.here hx rfl (pc0 := 29) (pc' := 5) rfl (hb hby d44_29) (by decide) (by decide) k) ?_
  show own_Go X0 (Q44 Z p0 h0 n0) 0 0 5 #[.val (.int p0), .val (.int (4 : Int32)), .val (.long (own_pw2 p0)), .second, .val (.int (2 : Int32))] []
  refine own_st (fun _ k => XS.iload X0.here hx rfl (hb hby d44_5) rfl k) ?_
  show own_Go X0 (Q44 Z p0 h0 n0) 0 0 7 #[.val (.int p0), .val (.int (4 : Int32)), .val (.long (own_pw2 p0)), .second, .val (.int (2 : Int32))] [(.int (2 : Int32))]
  refine own_st (fun _ k => XS.iloadN X0.here hx rfl (hb hby d44_7) rfl k) ?_
  show own_Go X0 (Q44 Z p0 h0 n0) 0 0 8 #[.val (.int p0), .val (.int (4 : Int32)), .val (.long (own_pw2 p0)), .second, .val (.int (2 : Int32))] [(.int (4 : Int32)), (.int (2 : Int32))]
  have c8_5 : (2 : Int32) < (4 : Int32) := (by decide)
  refine own_st (fun _ k => XS.icmpNo X0.here hx rfl (hb hby d44_8) rfl (tlt c8_5).2.1 k) ?_
  show own_Go X0 (Q44 Z p0 h0 n0) 0 0 11 #[.val (.int p0), .val (.int (4 : Int32)), .val (.long (own_pw2 p0)), .second, .val (.int (2 : Int32))] []
  refine own_st (fun _ k => XS.lloadN X0.here hx rfl (hb hby d44_11) rfl k) ?_
  show own_Go X0 (Q44 Z p0 h0 n0) 0 0 12 #[.val (.int p0), .val (.int (4 : Int32)), .val (.long (own_pw2 p0)), .second, .val (.int (2 : Int32))] [(.long (own_pw2 p0))]
  refine own_st (fun _ k => XS.iloadN X0.here hx rfl (hb hby d44_12) rfl k) ?_
  show own_Go X0 (Q44 Z p0 h0 n0) 0 0 13 #[.val (.int p0), .val (.int (4 : Int32)), .val (.long (own_pw2 p0)), .second, .val (.int (2 : Int32))] [(.int p0), (.long (own_pw2 p0))]
  refine own_st (fun _ k => XS.i2l X0.here hx rfl (hb hby d44_13) rfl k) ?_
  show own_Go X0 (Q44 Z p0 h0 n0) 0 0 14 #[.val (.int p0), .val (.int (4 : Int32)), .val (.long (own_pw2 p0)), .second, .val (.int (2 : Int32))] [(.long (p0.toInt64)), (.long (own_pw2 p0))]
  refine own_st (fun _ k => XS.lmul X0.here hx rfl (hb hby d44_14) rfl k) ?_
  show own_Go X0 (Q44 Z p0 h0 n0) 0 0 15 #[.val (.int p0), .val (.int (4 : Int32)), .val (.long (own_pw2 p0)), .second, .val (.int (2 : Int32))] [(.long ((own_pw2 p0) * (p0.toInt64)))]
  refine own_st (fun _ k => XS.lstoreN X0.here hx rfl (hb hby d44_15) rfl (l' := #[.val (.int p0), .val (.int (4 : Int32)), .val (.long ((own_pw2 p0) * (p0.toInt64))), .second, .val (.int (2 : Int32))]) rfl k) ?_
  show own_Go X0 (Q44 Z p0 h0 n0) 0 0 16 #[.val (.int p0), .val (.int (4 : Int32)), .val (.long ((own_pw2 p0) * (p0.toInt64))), .second, .val (.int (2 : Int32))] []
  show own_Go X0 (Q44 Z p0 h0 n0) 0 0 16 #[.val (.int p0), .val (.int (4 : Int32)), .val (.long (own_pw3 p0)), .second, .val (.int (2 : Int32))] []
  refine own_st (fun _ k => XS.lloadN X0.here hx rfl (hb hby d44_16) rfl k) ?_
  show own_Go X0 (Q44 Z p0 h0 n0) 0 0 17 #[.val (.int p0), .val (.int (4 : Int32)), .val (.long (own_pw3 p0)), .second, .val (.int (2 : Int32))] [(.long (own_pw3 p0))]
  refine own_st (fun t k => X0.ldc2Long hx hown (mvT hZ (hw _ (List.mem_of_getElem? (i := 20) rfl))) (g := (mkF m 17 #[.val (.int p0), .val (.int (4 : Int32)), .val (.long (own_pw3 p0)), .second, .val (.int (2 : Int32))] [(.long (own_pw3 p0))])) rfl (hb hby d44_17) t k) ?_
  show own_Go X0 (Q44 Z p0 h0 n0) 0 0 20 #[.val (.int p0), .val (.int (4 : Int32)), .val (.long (own_pw3 p0)), .second, .val (.int (2 : Int32))] [(.long (2147483639 : Int64)), (.long (own_pw3 p0))]
  refine own_st (fun _ k => XS.lcmp X0.here hx rfl (hb hby d44_20) rfl k) ?_
  show own_Go X0 (Q44 Z p0 h0 n0) 0 0 21 #[.val (.int p0), .val (.int (4 : Int32)), .val (.long (own_pw3 p0)), .second, .val (.int (2 : Int32))] [(.int (lcmpW (own_pw3 p0) (2147483639 : Int64)))]
  have c21_6 : ¬ ((2147483639 : Int64) < (own_pw3 p0)) := H3
  refine own_st (fun _ k => XS.ifYes X0.here hx rfl (pc0 := 21) (pc' := 26) rfl (hb hby d44_21) rfl ((if0 _ _).trans (flt (fun q => c21_6 ((lw_gt _ _).mp q))).2.2.2) (by decide) (by decide) k) ?_
  show own_Go X0 (Q44 Z p0 h0 n0) 0 0 26 #[.val (.int p0), .val (.int (4 : Int32)), .val (.long (own_pw3 p0)), .second, .val (.int (2 : Int32))] []
  refine own_st (fun _ k => XS.iinc X0.here hx rfl (hb hby d44_26) rfl (l' := #[.val (.int p0), .val (.int (4 : Int32)), .val (.long (own_pw3 p0)), .second, .val (.int (3 : Int32))]) rfl k) ?_
  show own_Go X0 (Q44 Z p0 h0 n0) 0 0 29 #[.val (.int p0), .val (.int (4 : Int32)), .val (.long (own_pw3 p0)), .second, .val (.int (3 : Int32))] []
  refine own_st (fun _ k => XS.goto X0.here hx rfl (pc0 := 29) (pc' := 5) rfl (hb hby d44_29) (by decide) (by decide) k) ?_
  show own_Go X0 (Q44 Z p0 h0 n0) 0 0 5 #[.val (.int p0), .val (.int (4 : Int32)), .val (.long (own_pw3 p0)), .second, .val (.int (3 : Int32))] []
  refine own_st (fun _ k => XS.iload X0.here hx rfl (hb hby d44_5) rfl k) ?_
  show own_Go X0 (Q44 Z p0 h0 n0) 0 0 7 #[.val (.int p0), .val (.int (4 : Int32)), .val (.long (own_pw3 p0)), .second, .val (.int (3 : Int32))] [(.int (3 : Int32))]
  refine own_st (fun _ k => XS.iloadN X0.here hx rfl (hb hby d44_7) rfl k) ?_
  show own_Go X0 (Q44 Z p0 h0 n0) 0 0 8 #[.val (.int p0), .val (.int (4 : Int32)), .val (.long (own_pw3 p0)), .second, .val (.int (3 : Int32))] [(.int (4 : Int32)), (.int (3 : Int32))]
  have c8_7 : (3 : Int32) < (4 : Int32) := (by decide)
  refine own_st (fun _ k => XS.icmpNo X0.here hx rfl (hb hby d44_8) rfl (tlt c8_7).2.1 k) ?_
  show own_Go X0 (Q44 Z p0 h0 n0) 0 0 11 #[.val (.int p0), .val (.int (4 : Int32)), .val (.long (own_pw3 p0)), .second, .val (.int (3 : Int32))] []
  refine own_st (fun _ k => XS.lloadN X0.here hx rfl (hb hby d44_11) rfl k) ?_
  show own_Go X0 (Q44 Z p0 h0 n0) 0 0 12 #[.val (.int p0), .val (.int (4 : Int32)), .val (.long (own_pw3 p0)), .second, .val (.int (3 : Int32))] [(.long (own_pw3 p0))]
  refine own_st (fun _ k => XS.iloadN X0.here hx rfl (hb hby d44_12) rfl k) ?_
  show own_Go X0 (Q44 Z p0 h0 n0) 0 0 13 #[.val (.int p0), .val (.int (4 : Int32)), .val (.long (own_pw3 p0)), .second, .val (.int (3 : Int32))] [(.int p0), (.long (own_pw3 p0))]
  refine own_st (fun _ k => XS.i2l X0.here hx rfl (hb hby d44_13) rfl k) ?_
  show own_Go X0 (Q44 Z p0 h0 n0) 0 0 14 #[.val (.int p0), .val (.int (4 : Int32)), .val (.long (own_pw3 p0)), .second, .val (.int (3 : Int32))] [(.long (p0.toInt64)), (.long (own_pw3 p0))]
  refine own_st (fun _ k => XS.lmul X0.here hx rfl (hb hby d44_14) rfl k) ?_
  show own_Go X0 (Q44 Z p0 h0 n0) 0 0 15 #[.val (.int p0), .val (.int (4 : Int32)), .val (.long (own_pw3 p0)), .second, .val (.int (3 : Int32))] [(.long ((own_pw3 p0) * (p0.toInt64)))]
  refine own_st (fun _ k => XS.lstoreN X0.here hx rfl (hb hby d44_15) rfl (l' := #[.val (.int p0), .val (.int (4 : Int32)), .val (.long ((own_pw3 p0) * (p0.toInt64))), .second, .val (.int (3 : Int32))]) rfl k) ?_
  show own_Go X0 (Q44 Z p0 h0 n0) 0 0 16 #[.val (.int p0), .val (.int (4 : Int32)), .val (.long ((own_pw3 p0) * (p0.toInt64))), .second, .val (.int (3 : Int32))] []
  show own_Go X0 (Q44 Z p0 h0 n0) 0 0 16 #[.val (.int p0), .val (.int (4 : Int32)), .val (.long (own_pw4 p0)), .second, .val (.int (3 : Int32))] []
  refine own_st (fun _ k => XS.lloadN X0.here hx rfl (hb hby d44_16) rfl k) ?_
  show own_Go X0 (Q44 Z p0 h0 n0) 0 0 17 #[.val (.int p0), .val (.int (4 : Int32)), .val (.long (own_pw4 p0)), .second, .val (.int (3 : Int32))] [(.long (own_pw4 p0))]
  refine own_st (fun t k => X0.ldc2Long hx hown (mvT hZ (hw _ (List.mem_of_getElem? (i := 20) rfl))) (g := (mkF m 17 #[.val (.int p0), .val (.int (4 : Int32)), .val (.long (own_pw4 p0)), .second, .val (.int (3 : Int32))] [(.long (own_pw4 p0))])) rfl (hb hby d44_17) t k) ?_
  show own_Go X0 (Q44 Z p0 h0 n0) 0 0 20 #[.val (.int p0), .val (.int (4 : Int32)), .val (.long (own_pw4 p0)), .second, .val (.int (3 : Int32))] [(.long (2147483639 : Int64)), (.long (own_pw4 p0))]
  refine own_st (fun _ k => XS.lcmp X0.here hx rfl (hb hby d44_20) rfl k) ?_
  show own_Go X0 (Q44 Z p0 h0 n0) 0 0 21 #[.val (.int p0), .val (.int (4 : Int32)), .val (.long (own_pw4 p0)), .second, .val (.int (3 : Int32))] [(.int (lcmpW (own_pw4 p0) (2147483639 : Int64)))]
  have c21_8 : ¬ ((2147483639 : Int64) < (own_pw4 p0)) := H4
  refine own_st (fun _ k => XS.ifYes X0.here hx rfl (pc0 := 21) (pc' := 26) rfl (hb hby d44_21) rfl ((if0 _ _).trans (flt (fun q => c21_8 ((lw_gt _ _).mp q))).2.2.2) (by decide) (by decide) k) ?_
  show own_Go X0 (Q44 Z p0 h0 n0) 0 0 26 #[.val (.int p0), .val (.int (4 : Int32)), .val (.long (own_pw4 p0)), .second, .val (.int (3 : Int32))] []
  refine own_st (fun _ k => XS.iinc X0.here hx rfl (hb hby d44_26) rfl (l' := #[.val (.int p0), .val (.int (4 : Int32)), .val (.long (own_pw4 p0)), .second, .val (.int (4 : Int32))]) rfl k) ?_
  show own_Go X0 (Q44 Z p0 h0 n0) 0 0 29 #[.val (.int p0), .val (.int (4 : Int32)), .val (.long (own_pw4 p0)), .second, .val (.int (4 : Int32))] []
  refine own_st (fun _ k => XS.goto X0.here hx rfl (pc0 := 29) (pc' := 5) rfl (hb hby d44_29) (by decide) (by decide) k) ?_
  show own_Go X0 (Q44 Z p0 h0 n0) 0 0 5 #[.val (.int p0), .val (.int (4 : Int32)), .val (.long (own_pw4 p0)), .second, .val (.int (4 : Int32))] []
  refine own_st (fun _ k => XS.iload X0.here hx rfl (hb hby d44_5) rfl k) ?_
  show own_Go X0 (Q44 Z p0 h0 n0) 0 0 7 #[.val (.int p0), .val (.int (4 : Int32)), .val (.long (own_pw4 p0)), .second, .val (.int (4 : Int32))] [(.int (4 : Int32))]
  refine own_st (fun _ k => XS.iloadN X0.here hx rfl (hb hby d44_7) rfl k) ?_
  show own_Go X0 (Q44 Z p0 h0 n0) 0 0 8 #[.val (.int p0), .val (.int (4 : Int32)), .val (.long (own_pw4 p0)), .second, .val (.int (4 : Int32))] [(.int (4 : Int32)), (.int (4 : Int32))]
  have c8_9 : ¬ ((4 : Int32) < (4 : Int32)) := (by decide)
  refine own_st (fun _ k => XS.icmpYes X0.here hx rfl (pc0 := 8) (pc' := 32) rfl (hb hby d44_8) rfl (flt c8_9).2.1 (by decide) (by decide) k) ?_
  show own_Go X0 (Q44 Z p0 h0 n0) 0 0 32 #[.val (.int p0), .val (.int (4 : Int32)), .val (.long (own_pw4 p0)), .second, .val (.int (4 : Int32))] []
  refine own_st (fun _ k => XS.lloadN X0.here hx rfl (hb hby d44_32) rfl k) ?_
  show own_Go X0 (Q44 Z p0 h0 n0) 0 0 33 #[.val (.int p0), .val (.int (4 : Int32)), .val (.long (own_pw4 p0)), .second, .val (.int (4 : Int32))] [(.long (own_pw4 p0))]
  refine own_st (fun _ k => XS.l2i X0.here hx rfl (hb hby d44_33) rfl k) ?_
  show own_Go X0 (Q44 Z p0 h0 n0) 0 0 34 #[.val (.int p0), .val (.int (4 : Int32)), .val (.long (own_pw4 p0)), .second, .val (.int (4 : Int32))] [(.int ((own_pw4 p0).toInt32))]
  refine own_retI X0 hx Bd.returns hlk e0 (hb hby d44_34) (by decide) (by decide) ?_
  exact ⟨rfl, N0, rfl⟩
theorem d14_0 : decode prog_55_method_1_code 0 = .ok (.aload_n 0, 1) := by decide +kernel
theorem d14_1 : decode prog_55_method_1_code 1 = .ok (.invokespecial 1, 3) := by decide +kernel
theorem d14_4 : decode prog_55_method_1_code 4 = .ok (.iload_n 1, 1) := by decide +kernel
theorem d14_5 : decode prog_55_method_1_code 5 = .ok (.iconst 1, 1) := by decide +kernel
theorem d14_6 : decode prog_55_method_1_code 6 = .ok (.if_icmp .ge 11, 3) := by decide +kernel
theorem d14_17 : decode prog_55_method_1_code 17 = .ok (.iload_n 3, 1) := by decide +kernel
theorem d14_18 : decode prog_55_method_1_code 18 = .ok (.iconst 1, 1) := by decide +kernel
theorem d14_19 : decode prog_55_method_1_code 19 = .ok (.if_icmp .ge 11, 3) := by decide +kernel
theorem d14_30 : decode prog_55_method_1_code 30 = .ok (.iload_n 2, 1) := by decide +kernel
theorem d14_31 : decode prog_55_method_1_code 31 = .ok (.iconst 1, 1) := by decide +kernel
theorem d14_32 : decode prog_55_method_1_code 32 = .ok (.if_icmp .lt 8, 3) := by decide +kernel
theorem d14_35 : decode prog_55_method_1_code 35 = .ok (.iload_n 2, 1) := by decide +kernel
theorem d14_36 : decode prog_55_method_1_code 36 = .ok (.iload_n 3, 1) := by decide +kernel
theorem d14_37 : decode prog_55_method_1_code 37 = .ok (.if_icmp .le 20, 3) := by decide +kernel
theorem d14_57 : decode prog_55_method_1_code 57 = .ok (.iload 4, 2) := by decide +kernel
theorem d14_59 : decode prog_55_method_1_code 59 = .ok (.iconst 2, 1) := by decide +kernel
theorem d14_60 : decode prog_55_method_1_code 60 = .ok (.if_icmp .ge 12, 3) := by decide +kernel
theorem d14_72 : decode prog_55_method_1_code 72 = .ok (.iload 4, 2) := by decide +kernel
theorem d14_74 : decode prog_55_method_1_code 74 = .ok (.iload_n 2, 1) := by decide +kernel
theorem d14_75 : decode prog_55_method_1_code 75 = .ok (.invokestatic 28, 3) := by decide +kernel
theorem d14_78 : decode prog_55_method_1_code 78 = .ok (.ifCond .ge 23, 3) := by decide +kernel
theorem d14_101 : decode prog_55_method_1_code 101 = .ok (.aload_n 0, 1) := by decide +kernel
theorem d14_102 : decode prog_55_method_1_code 102 = .ok (.iload_n 1, 1) := by decide +kernel
theorem d14_103 : decode prog_55_method_1_code 103 = .ok (.putfield 37, 3) := by decide +kernel
theorem d14_106 : decode prog_55_method_1_code 106 = .ok (.aload_n 0, 1) := by decide +kernel
theorem d14_107 : decode prog_55_method_1_code 107 = .ok (.iload_n 2, 1) := by decide +kernel
theorem d14_108 : decode prog_55_method_1_code 108 = .ok (.putfield 40, 3) := by decide +kernel
theorem d14_111 : decode prog_55_method_1_code 111 = .ok (.aload_n 0, 1) := by decide +kernel
theorem d14_112 : decode prog_55_method_1_code 112 = .ok (.iload_n 3, 1) := by decide +kernel
theorem d14_113 : decode prog_55_method_1_code 113 = .ok (.putfield 42, 3) := by decide +kernel
theorem d14_116 : decode prog_55_method_1_code 116 = .ok (.aload_n 0, 1) := by decide +kernel
theorem d14_117 : decode prog_55_method_1_code 117 = .ok (.iload 4, 2) := by decide +kernel
theorem d14_119 : decode prog_55_method_1_code 119 = .ok (.putfield 44, 3) := by decide +kernel
theorem d14_122 : decode prog_55_method_1_code 122 = .ok (.return_, 1) := by decide +kernel
theorem pn_14 : plainName "com/example/gingham/gingham/designs/CoveringArraySpec" = true := by first | (simp [plainName, overriddenIn]; done) | decide +kernel
theorem pd_14_0 : parseMethodDescriptor "()V" = some ⟨[], none⟩ := by decide +kernel
theorem pd_14_1 : parseMethodDescriptor "(II)I" = some ⟨[.int, .int], some .int⟩ := by decide +kernel
theorem ef_14 (m : MethodId) (r0 : Addr) (p3 : Int32) (p4 : Int32) : entryFrame m #[(.ref r0), (.int (1 : Int32)), (.int (4 : Int32)), (.int p3), (.int p4)] 5 = mkF m 0 #[.val (.ref r0), .val (.int (1 : Int32)), .val (.int (4 : Int32)), .val (.int p3), .val (.int p4)] [] := by first | (simp [entryFrame, mkF, argsToLocals, Value.category]; done) | rfl
def Q14 (Z : State) (r0 : Addr) (p3 : Int32) (p4 : Int32)  (h0 : Heap) (n0 : Nat) (v : Option Value) (h : Heap) (L : List Loc) : Prop := v = none ∧ Fr n0 L ∧ Keep h0 h [r0] ∧ Fld Z h r0 "com/example/gingham/gingham/designs/CoveringArraySpec" "rows" "I" (.int (1 : Int32)) ∧ Fld Z h r0 "com/example/gingham/gingham/designs/CoveringArraySpec" "strength" "I" (.int (4 : Int32)) ∧ Fld Z h r0 "com/example/gingham/gingham/designs/CoveringArraySpec" "columns" "I" (.int p3) ∧ Fld Z h r0 "com/example/gingham/gingham/designs/CoveringArraySpec" "levels" "I" (.int p4)
set_option maxRecDepth 65536 in
set_option maxHeartbeats 40000000 in
theorem rm14 (l : Launch) (Z : State) (a0 : Array Value) (hw : ∀ d ∈ tables_1, d.before a0 Z = true) (ws : List Jvm.Cond) (r0 : Addr) (p3 : Int32) (p4 : Int32)  (h0 : Heap) (n0 : Nat) (Z0 : n0 ≤ h0.size) (PE : Exa Z h0 r0 "com/example/gingham/gingham/designs/CoveringArraySpec") (PG : n0 ≤ r0) (P_rows : Fld Z h0 r0 "com/example/gingham/gingham/designs/CoveringArraySpec" "rows" "I" (.int (0 : Int32))) (P_strength : Fld Z h0 r0 "com/example/gingham/gingham/designs/CoveringArraySpec" "strength" "I" (.int (0 : Int32))) (P_columns : Fld Z h0 r0 "com/example/gingham/gingham/designs/CoveringArraySpec" "columns" "I" (.int (0 : Int32))) (P_levels : Fld Z h0 r0 "com/example/gingham/gingham/designs/CoveringArraySpec" "levels" "I" (.int (0 : Int32))) (H1 : ¬ (2147483639 : Int64) < own_pw1 p4) (H2 : ¬ (2147483639 : Int64) < own_pw2 p4) (H3 : ¬ (2147483639 : Int64) < own_pw3 p4) (H4 : ¬ (2147483639 : Int64) < own_pw4 p4) (HN : ¬ (own_pw4 p4).toInt32 < (0 : Int32)) (HG : ¬ p4 < (2 : Int32)) (HC : ¬ p3 < (1 : Int32)) (HT : ¬ p3 < (4 : Int32)) :
    MetFree l (⟨"com/example/gingham/gingham/designs/CoveringArraySpec", "<init>", "(IIII)V"⟩ : MethodName) (head1 (Jvm.Cond.code (⟨"com/example/gingham/gingham/designs/CoveringArraySpec", "<init>", "(IIII)V"⟩ : MethodName) prog_55_method_1_code 5 none :: ws) ({ frames := 2, cells := 0, slots := 0, locals := 24 } : Room)) (fun a U => a = #[(.ref r0), (.int (1 : Int32)), (.int (4 : Int32)), (.int p3), (.int p4)] ∧ Z.Warmed39 U.vm ∧ U.heap = h0) (fun _ _ _ _ _ => True) (fun _ U o U' => ∃ v L, o = .returned v ∧ Q14 Z r0 p3 p4 h0 n0 v U'.heap L ∧ FrameEnd U o U' L ({ frames := 2, cells := 0, slots := 0, locals := 24 } : Room).cells ({ frames := 2, cells := 0, slots := 0, locals := 24 } : Room).slots) := by
  refine MetFree.of_bodySF (plainFor_of_name pn_14) hisR ?_
  intro p e s m args below meth c s₁ Bd hml0 hP hK
  obtain ⟨rfl, hZ, hh⟩ := hP
  have hx := Bd.exec
  have hby := Bd.bytes
  have hml : c.maxLocals = 5 := hml0
  have hown : s.vm.findClass "com/example/gingham/gingham/designs/CoveringArraySpec" = some m.cls := findClass_of_methodNamed Bd.named
  have hnm := (name_of_methodNamed Bd.named Bd.method).1
  have hlk : meth.locks = false := Bd.notSynchronized
  have X0 : Stand p l e ({ frames := 2, cells := 0, slots := 0, locals := 24 } : Room) s m #[(.ref r0), (.int (1 : Int32)), (.int (4 : Int32)), (.int p3), (.int p4)] below meth c s₁ [] 0 0 := Stand.of_body Bd
  have e0 : s₁.heap = h0 := by rw [← hh, Bd.state]; rfl
  have N0 := Fr.nil n0
  refine own_cast (Q := Q14 Z r0 p3 p4 h0 n0) (kc := 0) (ks := 0) (ef_14 m r0 p3 p4) ?_
  have K_1 := Keep.refl h0 [r0]
  refine own_st (fun _ k => XS.aloadN X0.here hx rfl (hb hby d14_0) rfl rfl k) ?_
  show own_Go X0 (Q14 Z r0 p3 p4 h0 n0) 0 0 1 #[.val (.ref r0), .val (.int (1 : Int32)), .val (.int (4 : Int32)), .val (.int p3), .val (.int p4)] [(.ref r0)]
  refine own_callI (W := 0) X0 hx hZ hown (hw _ (List.mem_of_getElem? (i := 9) rfl)) (hw _ (List.mem_of_getElem? (i := 10) rfl)) (hw _ (List.mem_of_getElem? (i := 12) rfl)) (hw _ (List.mem_of_getElem? (i := 13) rfl)) rfl (by decide) (rm2 l Z a0 hw [] r0 h0 n0 Z0) (by decide) (by decide) (by rw [hml]; rfl) r0 [] [] (lenOf pd_14_0 rfl) rfl rfl (Nat.le_of_ble_eq_true rfl) (hb hby d14_1) e0 (by decide) (by decide) ?_
  rintro _ T2 L2 X2 ⟨rfl, N2q, e2⟩
  have N_3 := Fr.app N0 N2q
  show own_Go X2 (Q14 Z r0 p3 p4 h0 n0) 0 0 4 #[.val (.ref r0), .val (.int (1 : Int32)), .val (.int (4 : Int32)), .val (.int p3), .val (.int p4)] []
  refine own_st (fun _ k => XS.iloadN X2.here hx rfl (hb hby d14_4) rfl k) ?_
  show own_Go X2 (Q14 Z r0 p3 p4 h0 n0) 0 0 5 #[.val (.ref r0), .val (.int (1 : Int32)), .val (.int (4 : Int32)), .val (.int p3), .val (.int p4)] [(.int (1 : Int32))]
  refine own_st (fun _ k => XS.iconst X2.here hx rfl (hb hby d14_5) k) ?_
  show own_Go X2 (Q14 Z r0 p3 p4 h0 n0) 0 0 6 #[.val (.ref r0), .val (.int (1 : Int32)), .val (.int (4 : Int32)), .val (.int p3), .val (.int p4)] [(.int (1 : Int32)), (.int (1 : Int32))]
  have c6_4 : ¬ ((1 : Int32) < (1 : Int32)) := (by decide)
  refine own_st (fun _ k => XS.icmpYes X2.here hx rfl (pc0 := 6) (pc' := 17) rfl (hb hby d14_6) rfl (flt c6_4).2.1 (by decide) (by decide) k) ?_
  show own_Go X2 (Q14 Z r0 p3 p4 h0 n0) 0 0 17 #[.val (.ref r0), .val (.int (1 : Int32)), .val (.int (4 : Int32)), .val (.int p3), .val (.int p4)] []
  refine own_st (fun _ k => XS.iloadN X2.here hx rfl (hb hby d14_17) rfl k) ?_
  show own_Go X2 (Q14 Z r0 p3 p4 h0 n0) 0 0 18 #[.val (.ref r0), .val (.int (1 : Int32)), .val (.int (4 : Int32)), .val (.int p3), .val (.int p4)] [(.int p3)]
  refine own_st (fun _ k => XS.iconst X2.here hx rfl (hb hby d14_18) k) ?_
  show own_Go X2 (Q14 Z r0 p3 p4 h0 n0) 0 0 19 #[.val (.ref r0), .val (.int (1 : Int32)), .val (.int (4 : Int32)), .val (.int p3), .val (.int p4)] [(.int (1 : Int32)), (.int p3)]
  have c19_5 : ¬ (p3 < (1 : Int32)) := HC
  refine own_st (fun _ k => XS.icmpYes X2.here hx rfl (pc0 := 19) (pc' := 30) rfl (hb hby d14_19) rfl (flt c19_5).2.1 (by decide) (by decide) k) ?_
  show own_Go X2 (Q14 Z r0 p3 p4 h0 n0) 0 0 30 #[.val (.ref r0), .val (.int (1 : Int32)), .val (.int (4 : Int32)), .val (.int p3), .val (.int p4)] []
  refine own_st (fun _ k => XS.iloadN X2.here hx rfl (hb hby d14_30) rfl k) ?_
  show own_Go X2 (Q14 Z r0 p3 p4 h0 n0) 0 0 31 #[.val (.ref r0), .val (.int (1 : Int32)), .val (.int (4 : Int32)), .val (.int p3), .val (.int p4)] [(.int (4 : Int32))]
  refine own_st (fun _ k => XS.iconst X2.here hx rfl (hb hby d14_31) k) ?_
  show own_Go X2 (Q14 Z r0 p3 p4 h0 n0) 0 0 32 #[.val (.ref r0), .val (.int (1 : Int32)), .val (.int (4 : Int32)), .val (.int p3), .val (.int p4)] [(.int (1 : Int32)), (.int (4 : Int32))]
  have c32_6 : ¬ ((4 : Int32) < (1 : Int32)) := (by decide)
  refine own_st (fun _ k => XS.icmpNo X2.here hx rfl (hb hby d14_32) rfl (flt c32_6).1 k) ?_
  show own_Go X2 (Q14 Z r0 p3 p4 h0 n0) 0 0 35 #[.val (.ref r0), .val (.int (1 : Int32)), .val (.int (4 : Int32)), .val (.int p3), .val (.int p4)] []
  refine own_st (fun _ k => XS.iloadN X2.here hx rfl (hb hby d14_35) rfl k) ?_
  show own_Go X2 (Q14 Z r0 p3 p4 h0 n0) 0 0 36 #[.val (.ref r0), .val (.int (1 : Int32)), .val (.int (4 : Int32)), .val (.int p3), .val (.int p4)] [(.int (4 : Int32))]
  refine own_st (fun _ k => XS.iloadN X2.here hx rfl (hb hby d14_36) rfl k) ?_
  show own_Go X2 (Q14 Z r0 p3 p4 h0 n0) 0 0 37 #[.val (.ref r0), .val (.int (1 : Int32)), .val (.int (4 : Int32)), .val (.int p3), .val (.int p4)] [(.int p3), (.int (4 : Int32))]
  have c37_7 : ¬ (p3 < (4 : Int32)) := HT
  refine own_st (fun _ k => XS.icmpYes X2.here hx rfl (pc0 := 37) (pc' := 57) rfl (hb hby d14_37) rfl (flt c37_7).2.2.2 (by decide) (by decide) k) ?_
  show own_Go X2 (Q14 Z r0 p3 p4 h0 n0) 0 0 57 #[.val (.ref r0), .val (.int (1 : Int32)), .val (.int (4 : Int32)), .val (.int p3), .val (.int p4)] []
  refine own_st (fun _ k => XS.iload X2.here hx rfl (hb hby d14_57) rfl k) ?_
  show own_Go X2 (Q14 Z r0 p3 p4 h0 n0) 0 0 59 #[.val (.ref r0), .val (.int (1 : Int32)), .val (.int (4 : Int32)), .val (.int p3), .val (.int p4)] [(.int p4)]
  refine own_st (fun _ k => XS.iconst X2.here hx rfl (hb hby d14_59) k) ?_
  show own_Go X2 (Q14 Z r0 p3 p4 h0 n0) 0 0 60 #[.val (.ref r0), .val (.int (1 : Int32)), .val (.int (4 : Int32)), .val (.int p3), .val (.int p4)] [(.int (2 : Int32)), (.int p4)]
  have c60_8 : ¬ (p4 < (2 : Int32)) := HG
  refine own_st (fun _ k => XS.icmpYes X2.here hx rfl (pc0 := 60) (pc' := 72) rfl (hb hby d14_60) rfl (flt c60_8).2.1 (by decide) (by decide) k) ?_
  show own_Go X2 (Q14 Z r0 p3 p4 h0 n0) 0 0 72 #[.val (.ref r0), .val (.int (1 : Int32)), .val (.int (4 : Int32)), .val (.int p3), .val (.int p4)] []
  refine own_st (fun _ k => XS.iload X2.here hx rfl (hb hby d14_72) rfl k) ?_
  show own_Go X2 (Q14 Z r0 p3 p4 h0 n0) 0 0 74 #[.val (.ref r0), .val (.int (1 : Int32)), .val (.int (4 : Int32)), .val (.int p3), .val (.int p4)] [(.int p4)]
  refine own_st (fun _ k => XS.iloadN X2.here hx rfl (hb hby d14_74) rfl k) ?_
  show own_Go X2 (Q14 Z r0 p3 p4 h0 n0) 0 0 75 #[.val (.ref r0), .val (.int (1 : Int32)), .val (.int (4 : Int32)), .val (.int p3), .val (.int p4)] [(.int (4 : Int32)), (.int p4)]
  refine own_callS (W := 0) X2 hx hZ hown (hw _ (List.mem_of_getElem? (i := 17) rfl)) (hw _ (List.mem_of_getElem? (i := 18) rfl)) (hw _ (List.mem_of_getElem? (i := 5) rfl)) (hw _ (List.mem_of_getElem? (i := 19) rfl)) (by decide) (rm44 l Z a0 hw [] p4  h0 n0 Z0 H1 H2 H3 H4) (by decide) (by decide) (by rw [hml]; rfl) [(.int p4), (.int (4 : Int32))] [] (lenOf pd_14_1 rfl) rfl rfl (Nat.le_of_ble_eq_true rfl) (hb hby d14_75) e2 (by decide) (by decide) ?_
  rintro _ T9 L9 X9 ⟨rfl, N9q, e9⟩
  have N_10 := Fr.app N_3 N9q
  show own_Go X9 (Q14 Z r0 p3 p4 h0 n0) 0 0 78 #[.val (.ref r0), .val (.int (1 : Int32)), .val (.int (4 : Int32)), .val (.int p3), .val (.int p4)] [(.int ((own_pw4 p4).toInt32))]
  have c78_11 : ¬ (((own_pw4 p4).toInt32) < (0 : Int32)) := HN
  refine own_st (fun _ k => XS.ifYes X9.here hx rfl (pc0 := 78) (pc' := 101) rfl (hb hby d14_78) rfl ((if0 _ _).trans (flt c78_11).2.1) (by decide) (by decide) k) ?_
  show own_Go X9 (Q14 Z r0 p3 p4 h0 n0) 0 0 101 #[.val (.ref r0), .val (.int (1 : Int32)), .val (.int (4 : Int32)), .val (.int p3), .val (.int p4)] []
  refine own_st (fun _ k => XS.aloadN X9.here hx rfl (hb hby d14_101) rfl rfl k) ?_
  show own_Go X9 (Q14 Z r0 p3 p4 h0 n0) 0 0 102 #[.val (.ref r0), .val (.int (1 : Int32)), .val (.int (4 : Int32)), .val (.int p3), .val (.int p4)] [(.ref r0)]
  refine own_st (fun _ k => XS.iloadN X9.here hx rfl (hb hby d14_102) rfl k) ?_
  show own_Go X9 (Q14 Z r0 p3 p4 h0 n0) 0 0 103 #[.val (.ref r0), .val (.int (1 : Int32)), .val (.int (4 : Int32)), .val (.int p3), .val (.int p4)] [(.int (1 : Int32)), (.ref r0)]
  obtain ⟨T12, h12, X12, e12, W12, st12⟩ := putF X9 hx hZ hown (host := "") (Or.inl (hw _ (List.mem_of_getElem? (i := 21) rfl))) Via.refl e9 P_rows PE (Or.inr ⟨(hw _ (List.mem_of_getElem? (i := 22) rfl)), rfl, hnm⟩) (hw _ (List.mem_of_getElem? (i := 4) rfl)) (ty := .int) (by decide) rfl rfl (g := (mkF m 103 #[.val (.ref r0), .val (.int (1 : Int32)), .val (.int (4 : Int32)), .val (.int p3), .val (.int p4)] [(.int (1 : Int32)), (.ref r0)])) rfl rfl (hb hby d14_103)
  refine own_st st12 ?_
  have f_13 := PE.wr W12
  have f_14 := P_strength.other W12 (Or.inr (slot_ne (Or.inr (hw _ (List.mem_of_getElem? (i := 24) rfl))) (Or.inr (hw _ (List.mem_of_getElem? (i := 22) rfl))) (by decide) (t := .int) (t' := .int) (by decide) (by decide)))
  have f_15 := P_columns.other W12 (Or.inr (slot_ne (Or.inr (hw _ (List.mem_of_getElem? (i := 26) rfl))) (Or.inr (hw _ (List.mem_of_getElem? (i := 22) rfl))) (by decide) (t := .int) (t' := .int) (by decide) (by decide)))
  have f_16 := P_levels.other W12 (Or.inr (slot_ne (Or.inr (hw _ (List.mem_of_getElem? (i := 28) rfl))) (Or.inr (hw _ (List.mem_of_getElem? (i := 22) rfl))) (by decide) (t := .int) (t' := .int) (by decide) (by decide)))
  have Z_17 := Nat.le_trans Z0 (Nat.le_of_eq W12.size.symm)
  have K_18 := K_1.wr W12 (Or.inl (List.mem_of_getElem? (i := 0) rfl))
  have f_19 := P_rows.same W12
  have N_20 := Fr.snoc X12 N_10 PG
  show own_Go X12 (Q14 Z r0 p3 p4 h0 n0) 0 0 106 #[.val (.ref r0), .val (.int (1 : Int32)), .val (.int (4 : Int32)), .val (.int p3), .val (.int p4)] []
  refine own_st (fun _ k => XS.aloadN X12.here hx rfl (hb hby d14_106) rfl rfl k) ?_
  show own_Go X12 (Q14 Z r0 p3 p4 h0 n0) 0 0 107 #[.val (.ref r0), .val (.int (1 : Int32)), .val (.int (4 : Int32)), .val (.int p3), .val (.int p4)] [(.ref r0)]
  refine own_st (fun _ k => XS.iloadN X12.here hx rfl (hb hby d14_107) rfl k) ?_
  show own_Go X12 (Q14 Z r0 p3 p4 h0 n0) 0 0 108 #[.val (.ref r0), .val (.int (1 : Int32)), .val (.int (4 : Int32)), .val (.int p3), .val (.int p4)] [(.int (4 : Int32)), (.ref r0)]
  obtain ⟨T21, h21, X21, e21, W21, st21⟩ := putF X12 hx hZ hown (host := "") (Or.inl (hw _ (List.mem_of_getElem? (i := 23) rfl))) Via.refl e12 f_14 f_13 (Or.inr ⟨(hw _ (List.mem_of_getElem? (i := 24) rfl)), rfl, hnm⟩) (hw _ (List.mem_of_getElem? (i := 4) rfl)) (ty := .int) (by decide) rfl rfl (g := (mkF m 108 #[.val (.ref r0), .val (.int (1 : Int32)), .val (.int (4 : Int32)), .val (.int p3), .val (.int p4)] [(.int (4 : Int32)), (.ref r0)])) rfl rfl (hb hby d14_108)
  refine own_st st21 ?_
  have f_22 := f_13.wr W21
  have f_23 := f_19.other W21 (Or.inr (slot_ne (Or.inr (hw _ (List.mem_of_getElem? (i := 22) rfl))) (Or.inr (hw _ (List.mem_of_getElem? (i := 24) rfl))) (by decide) (t := .int) (t' := .int) (by decide) (by decide)))
  have f_24 := f_15.other W21 (Or.inr (slot_ne (Or.inr (hw _ (List.mem_of_getElem? (i := 26) rfl))) (Or.inr (hw _ (List.mem_of_getElem? (i := 24) rfl))) (by decide) (t := .int) (t' := .int) (by decide) (by decide)))
  have f_25 := f_16.other W21 (Or.inr (slot_ne (Or.inr (hw _ (List.mem_of_getElem? (i := 28) rfl))) (Or.inr (hw _ (List.mem_of_getElem? (i := 24) rfl))) (by decide) (t := .int) (t' := .int) (by decide) (by decide)))
  have Z_26 := Nat.le_trans Z_17 (Nat.le_of_eq W21.size.symm)
  have K_27 := K_18.wr W21 (Or.inl (List.mem_of_getElem? (i := 0) rfl))
  have f_28 := f_14.same W21
  have N_29 := Fr.snoc X21 N_20 PG
  show own_Go X21 (Q14 Z r0 p3 p4 h0 n0) 0 0 111 #[.val (.ref r0), .val (.int (1 : Int32)), .val (.int (4 : Int32)), .val (.int p3), .val (.int p4)] []
  refine own_st (fun _ k => XS.aloadN X21.here hx rfl (hb hby d14_111) rfl rfl k) ?_
  show own_Go X21 (Q14 Z r0 p3 p4 h0 n0) 0 0 112 #[.val (.ref r0), .val (.int (1 : Int32)), .val (.int (4 : Int32)), .val (.int p3), .val (.int p4)] [(.ref r0)]
  refine own_st (fun _ k => XS.iloadN X21.here hx rfl (hb hby d14_112) rfl k) ?_
  show own_Go X21 (Q14 Z r0 p3 p4 h0 n0) 0 0 113 #[.val (.ref r0), .val (.int (1 : Int32)), .val (.int (4 : Int32)), .val (.int p3), .val (.int p4)] [(.int p3), (.ref r0)]
  obtain ⟨T30, h30, X30, e30, W30, st30⟩ := putF X21 hx hZ hown (host := "") (Or.inl (hw _ (List.mem_of_getElem? (i := 25) rfl))) Via.refl e21 f_24 f_22 (Or.inr ⟨(hw _ (List.mem_of_getElem? (i := 26) rfl)), rfl, hnm⟩) (hw _ (List.mem_of_getElem? (i := 4) rfl)) (ty := .int) (by decide) rfl rfl (g := (mkF m 113 #[.val (.ref r0), .val (.int (1 : Int32)), .val (.int (4 : Int32)), .val (.int p3), .val (.int p4)] [(.int p3), (.ref r0)])) rfl rfl (hb hby d14_113)
  refine own_st st30 ?_
  have f_31 := f_22.wr W30
  have f_32 := f_23.other W30 (Or.inr (slot_ne (Or.inr (hw _ (List.mem_of_getElem? (i := 22) rfl))) (Or.inr (hw _ (List.mem_of_getElem? (i := 26) rfl))) (by decide) (t := .int) (t' := .int) (by decide) (by decide)))
  have f_33 := f_28.other W30 (Or.inr (slot_ne (Or.inr (hw _ (List.mem_of_getElem? (i := 24) rfl))) (Or.inr (hw _ (List.mem_of_getElem? (i := 26) rfl))) (by decide) (t := .int) (t' := .int) (by decide) (by decide)))
  have f_34 := f_25.other W30 (Or.inr (slot_ne (Or.inr (hw _ (List.mem_of_getElem? (i := 28) rfl))) (Or.inr (hw _ (List.mem_of_getElem? (i := 26) rfl))) (by decide) (t := .int) (t' := .int) (by decide) (by decide)))
  have Z_35 := Nat.le_trans Z_26 (Nat.le_of_eq W30.size.symm)
  have K_36 := K_27.wr W30 (Or.inl (List.mem_of_getElem? (i := 0) rfl))
  have f_37 := f_24.same W30
  have N_38 := Fr.snoc X30 N_29 PG
  show own_Go X30 (Q14 Z r0 p3 p4 h0 n0) 0 0 116 #[.val (.ref r0), .val (.int (1 : Int32)), .val (.int (4 : Int32)), .val (.int p3), .val (.int p4)] []
  refine own_st (fun _ k => XS.aloadN X30.here hx rfl (hb hby d14_116) rfl rfl k) ?_
  show own_Go X30 (Q14 Z r0 p3 p4 h0 n0) 0 0 117 #[.val (.ref r0), .val (.int (1 : Int32)), .val (.int (4 : Int32)), .val (.int p3), .val (.int p4)] [(.ref r0)]
  refine own_st (fun _ k => XS.iload X30.here hx rfl (hb hby d14_117) rfl k) ?_
  show own_Go X30 (Q14 Z r0 p3 p4 h0 n0) 0 0 119 #[.val (.ref r0), .val (.int (1 : Int32)), .val (.int (4 : Int32)), .val (.int p3), .val (.int p4)] [(.int p4), (.ref r0)]
  obtain ⟨T39, h39, X39, e39, W39, st39⟩ := putF X30 hx hZ hown (host := "") (Or.inl (hw _ (List.mem_of_getElem? (i := 27) rfl))) Via.refl e30 f_34 f_31 (Or.inr ⟨(hw _ (List.mem_of_getElem? (i := 28) rfl)), rfl, hnm⟩) (hw _ (List.mem_of_getElem? (i := 4) rfl)) (ty := .int) (by decide) rfl rfl (g := (mkF m 119 #[.val (.ref r0), .val (.int (1 : Int32)), .val (.int (4 : Int32)), .val (.int p3), .val (.int p4)] [(.int p4), (.ref r0)])) rfl rfl (hb hby d14_119)
  refine own_st st39 ?_
  have f_40 := f_31.wr W39
  have f_41 := f_32.other W39 (Or.inr (slot_ne (Or.inr (hw _ (List.mem_of_getElem? (i := 22) rfl))) (Or.inr (hw _ (List.mem_of_getElem? (i := 28) rfl))) (by decide) (t := .int) (t' := .int) (by decide) (by decide)))
  have f_42 := f_33.other W39 (Or.inr (slot_ne (Or.inr (hw _ (List.mem_of_getElem? (i := 24) rfl))) (Or.inr (hw _ (List.mem_of_getElem? (i := 28) rfl))) (by decide) (t := .int) (t' := .int) (by decide) (by decide)))
  have f_43 := f_37.other W39 (Or.inr (slot_ne (Or.inr (hw _ (List.mem_of_getElem? (i := 26) rfl))) (Or.inr (hw _ (List.mem_of_getElem? (i := 28) rfl))) (by decide) (t := .int) (t' := .int) (by decide) (by decide)))
  have Z_44 := Nat.le_trans Z_35 (Nat.le_of_eq W39.size.symm)
  have K_45 := K_36.wr W39 (Or.inl (List.mem_of_getElem? (i := 0) rfl))
  have f_46 := f_34.same W39
  have N_47 := Fr.snoc X39 N_38 PG
  show own_Go X39 (Q14 Z r0 p3 p4 h0 n0) 0 0 122 #[.val (.ref r0), .val (.int (1 : Int32)), .val (.int (4 : Int32)), .val (.int p3), .val (.int p4)] []
  refine own_retV X39 hx Bd.returns hlk e39 (hb hby d14_122) (by decide) (by decide) ?_
  exact ⟨rfl, N_47, K_45, f_41, f_42, f_43, f_46⟩
theorem d51_0 : decode prog_55_method_4_code 0 = .ok (.aload_n 0, 1) := by decide +kernel
theorem d51_1 : decode prog_55_method_4_code 1 = .ok (.getfield 40, 3) := by decide +kernel
theorem d51_4 : decode prog_55_method_4_code 4 = .ok (.newarray .int, 2) := by decide +kernel
theorem d51_6 : decode prog_55_method_4_code 6 = .ok (.astore_n 2, 1) := by decide +kernel
theorem d51_7 : decode prog_55_method_4_code 7 = .ok (.iload_n 1, 1) := by decide +kernel
theorem d51_8 : decode prog_55_method_4_code 8 = .ok (.istore_n 3, 1) := by decide +kernel
theorem d51_9 : decode prog_55_method_4_code 9 = .ok (.aload_n 0, 1) := by decide +kernel
theorem d51_10 : decode prog_55_method_4_code 10 = .ok (.getfield 40, 3) := by decide +kernel
theorem d51_13 : decode prog_55_method_4_code 13 = .ok (.iconst 1, 1) := by decide +kernel
theorem d51_14 : decode prog_55_method_4_code 14 = .ok (.isub, 1) := by decide +kernel
theorem d51_15 : decode prog_55_method_4_code 15 = .ok (.istore 4, 2) := by decide +kernel
theorem d51_17 : decode prog_55_method_4_code 17 = .ok (.iload 4, 2) := by decide +kernel
theorem d51_19 : decode prog_55_method_4_code 19 = .ok (.ifCond .lt 26, 3) := by decide +kernel
theorem d51_22 : decode prog_55_method_4_code 22 = .ok (.aload_n 2, 1) := by decide +kernel
theorem d51_23 : decode prog_55_method_4_code 23 = .ok (.iload 4, 2) := by decide +kernel
theorem d51_25 : decode prog_55_method_4_code 25 = .ok (.iload_n 3, 1) := by decide +kernel
theorem d51_26 : decode prog_55_method_4_code 26 = .ok (.aload_n 0, 1) := by decide +kernel
theorem d51_27 : decode prog_55_method_4_code 27 = .ok (.getfield 44, 3) := by decide +kernel
theorem d51_30 : decode prog_55_method_4_code 30 = .ok (.irem, 1) := by decide +kernel
theorem d51_31 : decode prog_55_method_4_code 31 = .ok (.iastore, 1) := by decide +kernel
theorem d51_32 : decode prog_55_method_4_code 32 = .ok (.iload_n 3, 1) := by decide +kernel
theorem d51_33 : decode prog_55_method_4_code 33 = .ok (.aload_n 0, 1) := by decide +kernel
theorem d51_34 : decode prog_55_method_4_code 34 = .ok (.getfield 44, 3) := by decide +kernel
theorem d51_37 : decode prog_55_method_4_code 37 = .ok (.idiv, 1) := by decide +kernel
theorem d51_38 : decode prog_55_method_4_code 38 = .ok (.istore_n 3, 1) := by decide +kernel
theorem d51_39 : decode prog_55_method_4_code 39 = .ok (.iinc 4 (-1), 3) := by decide +kernel
theorem d51_42 : decode prog_55_method_4_code 42 = .ok (.goto (-25), 3) := by decide +kernel
theorem d51_45 : decode prog_55_method_4_code 45 = .ok (.aload_n 2, 1) := by decide +kernel
theorem d51_46 : decode prog_55_method_4_code 46 = .ok (.areturn, 1) := by decide +kernel
theorem pn_51 : plainName "com/example/gingham/gingham/designs/CoveringArraySpec" = true := by first | (simp [plainName, overriddenIn]; done) | decide +kernel
theorem ef_51 (m : MethodId) (r0 : Addr) (p1 : Int32) : entryFrame m #[(.ref r0), (.int p1)] 5 = mkF m 0 #[.val (.ref r0), .val (.int p1), .unset, .unset, .unset] [] := by first | (simp [entryFrame, mkF, argsToLocals, Value.category]; done) | rfl
def Q51 (Z : State) (r0 : Addr) (p1 : Int32) (g : Int32) (h0 : Heap) (n0 : Nat) (v : Option Value) (h : Heap) (L : List Loc) : Prop := ∃ (b : Addr) (kA : ClassId), v = some (.ref b) ∧ Fr n0 L ∧ Keep h0 h [] ∧ n0 ≤ b ∧ h0.size ≤ b ∧ Arv Z h b kA .int (1 : Int32) [(.int (p1 % g))] (.int (0 : Int32))
set_option maxRecDepth 65536 in
set_option maxHeartbeats 40000000 in
theorem rm51 (l : Launch) (Z : State) (a0 : Array Value) (hw : ∀ d ∈ tables_1, d.before a0 Z = true) (ws : List Jvm.Cond) (r0 : Addr) (p1 : Int32) (g : Int32) (h0 : Heap) (n0 : Nat) (Z0 : n0 ≤ h0.size) (P_levels : Fld Z h0 r0 "com/example/gingham/gingham/designs/CoveringArraySpec" "levels" "I" (.int g)) (P_strength : Fld Z h0 r0 "com/example/gingham/gingham/designs/CoveringArraySpec" "strength" "I" (.int (1 : Int32))) (HG : g ≠ 0) :
    MetFree l (⟨"com/example/gingham/gingham/designs/CoveringArraySpec", "tupleValues", "(I)[I"⟩ : MethodName) (head1 (Jvm.Cond.code (⟨"com/example/gingham/gingham/designs/CoveringArraySpec", "tupleValues", "(I)[I"⟩ : MethodName) prog_55_method_4_code 5 (some (.array .int)) :: ws) ({ frames := 0, cells := 1, slots := 1, locals := 0 } : Room)) (fun a U => a = #[(.ref r0), (.int p1)] ∧ Z.Warmed39 U.vm ∧ U.heap = h0) (fun _ _ _ _ _ => True) (fun _ U o U' => ∃ v L, o = .returned v ∧ Q51 Z r0 p1 g h0 n0 v U'.heap L ∧ FrameEnd U o U' L ({ frames := 0, cells := 1, slots := 1, locals := 0 } : Room).cells ({ frames := 0, cells := 1, slots := 1, locals := 0 } : Room).slots) := by
  refine MetFree.of_bodySF (plainFor_of_name pn_51) hisR ?_
  intro p e s m args below meth c s₁ Bd hml0 hP hK
  obtain ⟨rfl, hZ, hh⟩ := hP
  have hx := Bd.exec
  have hby := Bd.bytes
  have hml : c.maxLocals = 5 := hml0
  have hown : s.vm.findClass "com/example/gingham/gingham/designs/CoveringArraySpec" = some m.cls := findClass_of_methodNamed Bd.named
  have hnm := (name_of_methodNamed Bd.named Bd.method).1
  have hlk : meth.locks = false := Bd.notSynchronized
  have X0 : Stand p l e ({ frames := 0, cells := 1, slots := 1, locals := 0 } : Room) s m #[(.ref r0), (.int p1)] below meth c s₁ [] 0 0 := Stand.of_body Bd
  have e0 : s₁.heap = h0 := by rw [← hh, Bd.state]; rfl
  have N0 := Fr.nil n0
  refine own_cast (Q := Q51 Z r0 p1 g h0 n0) (kc := 1) (ks := 1) (ef_51 m r0 p1) ?_
  have K_1 := Keep.refl h0 []
  refine own_st (fun _ k => XS.aloadN X0.here hx rfl (hb hby d51_0) rfl rfl k) ?_
  show own_Go X0 (Q51 Z r0 p1 g h0 n0) 1 1 1 #[.val (.ref r0), .val (.int p1), .unset, .unset, .unset] [(.ref r0)]
  obtain ⟨T2, X2, e2, st2⟩ := getF X0 hx hZ hown (host := "") (Or.inl (hw _ (List.mem_of_getElem? (i := 23) rfl))) Via.refl e0 P_strength (g := (mkF m 1 #[.val (.ref r0), .val (.int p1), .unset, .unset, .unset] [(.ref r0)])) rfl rfl (hb hby d51_1)
  refine own_st st2 ?_
  show own_Go X2 (Q51 Z r0 p1 g h0 n0) 1 1 4 #[.val (.ref r0), .val (.int p1), .unset, .unset, .unset] [(.int (1 : Int32))]
  obtain ⟨T3, h3, k3, X3, e3, E3, A3, st3⟩ := newP X2 hx hZ (hw _ (List.mem_of_getElem? (i := 34) rfl)) e2 (g := (mkF m 4 #[.val (.ref r0), .val (.int p1), .unset, .unset, .unset] [(.int (1 : Int32))])) rfl (hb hby d51_4) rfl (by decide) (cap := 1) (by decide) (by decide) (by decide) (by decide)
  obtain ⟨b3, g3⟩ : ∃ z, z = h0.size := ⟨_, rfl⟩
  rw [← g3] at A3 st3
  refine own_st st3 ?_
  have ne_4 := Nat.ne_of_lt (Nat.lt_of_lt_of_le P_levels.lt (Nat.le_of_eq g3.symm))
  have G_5 := Nat.le_trans Z0 (Nat.le_of_eq g3.symm)
  have S_6 := Nat.le_trans K_1.1 (Nat.le_of_eq g3.symm)
  have f_7 := P_levels.ext E3
  have f_8 := P_strength.ext E3
  have Z_9 := Nat.le_trans Z0 E3.1
  have K_10 := K_1.ext E3
  have V3 : Arv Z h3 b3 k3 .int (1 : Int32) [(.int (0 : Int32))] (.int (0 : Int32)) := (Arv.new A3 (by decide)).pad (pad_rep [] (.int (0 : Int32)) 1)
  show own_Go X3 (Q51 Z r0 p1 g h0 n0) 1 1 6 #[.val (.ref r0), .val (.int p1), .unset, .unset, .unset] [(.ref b3)]
  refine own_st (fun _ k => XS.astoreN X3.here hx rfl (hb hby d51_6) rfl rfl (l' := #[.val (.ref r0), .val (.int p1), .val (.ref b3), .unset, .unset]) rfl k) ?_
  show own_Go X3 (Q51 Z r0 p1 g h0 n0) 1 1 7 #[.val (.ref r0), .val (.int p1), .val (.ref b3), .unset, .unset] []
  refine own_st (fun _ k => XS.iloadN X3.here hx rfl (hb hby d51_7) rfl k) ?_
  show own_Go X3 (Q51 Z r0 p1 g h0 n0) 1 1 8 #[.val (.ref r0), .val (.int p1), .val (.ref b3), .unset, .unset] [(.int p1)]
  refine own_st (fun _ k => XS.istoreN X3.here hx rfl (hb hby d51_8) rfl (l' := #[.val (.ref r0), .val (.int p1), .val (.ref b3), .val (.int p1), .unset]) rfl k) ?_
  show own_Go X3 (Q51 Z r0 p1 g h0 n0) 1 1 9 #[.val (.ref r0), .val (.int p1), .val (.ref b3), .val (.int p1), .unset] []
  refine own_st (fun _ k => XS.aloadN X3.here hx rfl (hb hby d51_9) rfl rfl k) ?_
  show own_Go X3 (Q51 Z r0 p1 g h0 n0) 1 1 10 #[.val (.ref r0), .val (.int p1), .val (.ref b3), .val (.int p1), .unset] [(.ref r0)]
  obtain ⟨T11, X11, e11, st11⟩ := getF X3 hx hZ hown (host := "") (Or.inl (hw _ (List.mem_of_getElem? (i := 23) rfl))) Via.refl e3 f_8 (g := (mkF m 10 #[.val (.ref r0), .val (.int p1), .val (.ref b3), .val (.int p1), .unset] [(.ref r0)])) rfl rfl (hb hby d51_10)
  refine own_st st11 ?_
  show own_Go X11 (Q51 Z r0 p1 g h0 n0) 1 1 13 #[.val (.ref r0), .val (.int p1), .val (.ref b3), .val (.int p1), .unset] [(.int (1 : Int32))]
  refine own_st (fun _ k => XS.iconst X11.here hx rfl (hb hby d51_13) k) ?_
  show own_Go X11 (Q51 Z r0 p1 g h0 n0) 1 1 14 #[.val (.ref r0), .val (.int p1), .val (.ref b3), .val (.int p1), .unset] [(.int (1 : Int32)), (.int (1 : Int32))]
  refine own_st (fun _ k => XS.isub X11.here hx rfl (hb hby d51_14) rfl k) ?_
  show own_Go X11 (Q51 Z r0 p1 g h0 n0) 1 1 15 #[.val (.ref r0), .val (.int p1), .val (.ref b3), .val (.int p1), .unset] [(.int (0 : Int32))]
  refine own_st (fun _ k => XS.istore X11.here hx rfl (hb hby d51_15) rfl (l' := #[.val (.ref r0), .val (.int p1), .val (.ref b3), .val (.int p1), .val (.int (0 : Int32))]) rfl k) ?_
  show own_Go X11 (Q51 Z r0 p1 g h0 n0) 1 1 17 #[.val (.ref r0), .val (.int p1), .val (.ref b3), .val (.int p1), .val (.int (0 : Int32))] []
  refine own_st (fun _ k => XS.iload X11.here hx rfl (hb hby d51_17) rfl k) ?_
  show own_Go X11 (Q51 Z r0 p1 g h0 n0) 1 1 19 #[.val (.ref r0), .val (.int p1), .val (.ref b3), .val (.int p1), .val (.int (0 : Int32))] [(.int (0 : Int32))]
  have c19_12 : ¬ ((0 : Int32) < (0 : Int32)) := (by decide)
  refine own_st (fun _ k => XS.ifNo X11.here hx rfl (hb hby d51_19) rfl ((if0 _ _).trans (flt c19_12).1) k) ?_
  show own_Go X11 (Q51 Z r0 p1 g h0 n0) 1 1 22 #[.val (.ref r0), .val (.int p1), .val (.ref b3), .val (.int p1), .val (.int (0 : Int32))] []
  refine own_st (fun _ k => XS.aloadN X11.here hx rfl (hb hby d51_22) rfl rfl k) ?_
  show own_Go X11 (Q51 Z r0 p1 g h0 n0) 1 1 23 #[.val (.ref r0), .val (.int p1), .val (.ref b3), .val (.int p1), .val (.int (0 : Int32))] [(.ref b3)]
  refine own_st (fun _ k => XS.iload X11.here hx rfl (hb hby d51_23) rfl k) ?_
  show own_Go X11 (Q51 Z r0 p1 g h0 n0) 1 1 25 #[.val (.ref r0), .val (.int p1), .val (.ref b3), .val (.int p1), .val (.int (0 : Int32))] [(.int (0 : Int32)), (.ref b3)]
  refine own_st (fun _ k => XS.iloadN X11.here hx rfl (hb hby d51_25) rfl k) ?_
  show own_Go X11 (Q51 Z r0 p1 g h0 n0) 1 1 26 #[.val (.ref r0), .val (.int p1), .val (.ref b3), .val (.int p1), .val (.int (0 : Int32))] [(.int p1), (.int (0 : Int32)), (.ref b3)]
  refine own_st (fun _ k => XS.aloadN X11.here hx rfl (hb hby d51_26) rfl rfl k) ?_
  show own_Go X11 (Q51 Z r0 p1 g h0 n0) 1 1 27 #[.val (.ref r0), .val (.int p1), .val (.ref b3), .val (.int p1), .val (.int (0 : Int32))] [(.ref r0), (.int p1), (.int (0 : Int32)), (.ref b3)]
  obtain ⟨T13, X13, e13, st13⟩ := getF X11 hx hZ hown (host := "") (Or.inl (hw _ (List.mem_of_getElem? (i := 27) rfl))) Via.refl e11 f_7 (g := (mkF m 27 #[.val (.ref r0), .val (.int p1), .val (.ref b3), .val (.int p1), .val (.int (0 : Int32))] [(.ref r0), (.int p1), (.int (0 : Int32)), (.ref b3)])) rfl rfl (hb hby d51_27)
  refine own_st st13 ?_
  show own_Go X13 (Q51 Z r0 p1 g h0 n0) 1 1 30 #[.val (.ref r0), .val (.int p1), .val (.ref b3), .val (.int p1), .val (.int (0 : Int32))] [(.int g), (.int p1), (.int (0 : Int32)), (.ref b3)]
  refine own_st (fun _ k => iremM X13 hx rfl (hb hby d51_30) rfl HG k) ?_
  show own_Go X13 (Q51 Z r0 p1 g h0 n0) 1 1 31 #[.val (.ref r0), .val (.int p1), .val (.ref b3), .val (.int p1), .val (.int (0 : Int32))] [(.int (p1 % g)), (.int (0 : Int32)), (.ref b3)]
  obtain ⟨T14, h14, X14, e14, W14, V14, st14⟩ := own_stI X13 hx hZ e13 V3 (j := (0 : Int32)) ⟨by decide, by decide⟩ (Nat.le_of_ble_eq_true rfl) (g := (mkF m 31 #[.val (.ref r0), .val (.int p1), .val (.ref b3), .val (.int p1), .val (.int (0 : Int32))] [(.int (p1 % g)), (.int (0 : Int32)), (.ref b3)])) rfl rfl (hb hby d51_31)
  refine own_st st14 ?_
  have f_15 := f_7.other W14 (Or.inl ne_4)
  have f_16 := f_8.other W14 (Or.inl ne_4)
  have Z_17 := Nat.le_trans Z_9 (Nat.le_of_eq W14.size.symm)
  have K_18 := K_10.wr W14 (Or.inr S_6)
  have U14 : Arv Z h14 b3 k3 .int (1 : Int32) [(.int (p1 % g))] (.int (0 : Int32)) := V14
  have N_19 := Fr.snoc X14 N0 G_5
  show own_Go X14 (Q51 Z r0 p1 g h0 n0) 1 1 32 #[.val (.ref r0), .val (.int p1), .val (.ref b3), .val (.int p1), .val (.int (0 : Int32))] []
  refine own_st (fun _ k => XS.iloadN X14.here hx rfl (hb hby d51_32) rfl k) ?_
  show own_Go X14 (Q51 Z r0 p1 g h0 n0) 1 1 33 #[.val (.ref r0), .val (.int p1), .val (.ref b3), .val (.int p1), .val (.int (0 : Int32))] [(.int p1)]
  refine own_st (fun _ k => XS.aloadN X14.here hx rfl (hb hby d51_33) rfl rfl k) ?_
  show own_Go X14 (Q51 Z r0 p1 g h0 n0) 1 1 34 #[.val (.ref r0), .val (.int p1), .val (.ref b3), .val (.int p1), .val (.int (0 : Int32))] [(.ref r0), (.int p1)]
  obtain ⟨T20, X20, e20, st20⟩ := getF X14 hx hZ hown (host := "") (Or.inl (hw _ (List.mem_of_getElem? (i := 27) rfl))) Via.refl e14 f_15 (g := (mkF m 34 #[.val (.ref r0), .val (.int p1), .val (.ref b3), .val (.int p1), .val (.int (0 : Int32))] [(.ref r0), (.int p1)])) rfl rfl (hb hby d51_34)
  refine own_st st20 ?_
  show own_Go X20 (Q51 Z r0 p1 g h0 n0) 1 1 37 #[.val (.ref r0), .val (.int p1), .val (.ref b3), .val (.int p1), .val (.int (0 : Int32))] [(.int g), (.int p1)]
  refine own_st (fun _ k => XS.idiv X20.here hx rfl (hb hby d51_37) rfl HG k) ?_
  show own_Go X20 (Q51 Z r0 p1 g h0 n0) 1 1 38 #[.val (.ref r0), .val (.int p1), .val (.ref b3), .val (.int p1), .val (.int (0 : Int32))] [(.int (p1 / g))]
  refine own_st (fun _ k => XS.istoreN X20.here hx rfl (hb hby d51_38) rfl (l' := #[.val (.ref r0), .val (.int p1), .val (.ref b3), .val (.int (p1 / g)), .val (.int (0 : Int32))]) rfl k) ?_
  show own_Go X20 (Q51 Z r0 p1 g h0 n0) 1 1 39 #[.val (.ref r0), .val (.int p1), .val (.ref b3), .val (.int (p1 / g)), .val (.int (0 : Int32))] []
  refine own_st (fun _ k => XS.iinc X20.here hx rfl (hb hby d51_39) rfl (l' := #[.val (.ref r0), .val (.int p1), .val (.ref b3), .val (.int (p1 / g)), .val (.int (-1 : Int32))]) rfl k) ?_
  show own_Go X20 (Q51 Z r0 p1 g h0 n0) 1 1 42 #[.val (.ref r0), .val (.int p1), .val (.ref b3), .val (.int (p1 / g)), .val (.int (-1 : Int32))] []
  refine own_st (fun _ k => XS.goto X20.here hx rfl (pc0 := 42) (pc' := 17) rfl (hb hby d51_42) (by decide) (by decide) k) ?_
  show own_Go X20 (Q51 Z r0 p1 g h0 n0) 1 1 17 #[.val (.ref r0), .val (.int p1), .val (.ref b3), .val (.int (p1 / g)), .val (.int (-1 : Int32))] []
  refine own_st (fun _ k => XS.iload X20.here hx rfl (hb hby d51_17) rfl k) ?_
  show own_Go X20 (Q51 Z r0 p1 g h0 n0) 1 1 19 #[.val (.ref r0), .val (.int p1), .val (.ref b3), .val (.int (p1 / g)), .val (.int (-1 : Int32))] [(.int (-1 : Int32))]
  have c19_21 : (-1 : Int32) < (0 : Int32) := (by decide)
  refine own_st (fun _ k => XS.ifYes X20.here hx rfl (pc0 := 19) (pc' := 45) rfl (hb hby d51_19) rfl ((if0 _ _).trans (tlt c19_21).1) (by decide) (by decide) k) ?_
  show own_Go X20 (Q51 Z r0 p1 g h0 n0) 1 1 45 #[.val (.ref r0), .val (.int p1), .val (.ref b3), .val (.int (p1 / g)), .val (.int (-1 : Int32))] []
  refine own_st (fun _ k => XS.aloadN X20.here hx rfl (hb hby d51_45) rfl rfl k) ?_
  show own_Go X20 (Q51 Z r0 p1 g h0 n0) 1 1 46 #[.val (.ref r0), .val (.int p1), .val (.ref b3), .val (.int (p1 / g)), .val (.int (-1 : Int32))] [(.ref b3)]
  refine own_retA X20 hx Bd.returns rfl hlk e20 (hb hby d51_46) (by decide) (by decide) ?_
  exact ⟨b3, k3, rfl, N_19, K_18, G_5, S_6, U14⟩
theorem d52_0 : decode prog_55_method_4_code 0 = .ok (.aload_n 0, 1) := by decide +kernel
theorem d52_1 : decode prog_55_method_4_code 1 = .ok (.getfield 40, 3) := by decide +kernel
theorem d52_4 : decode prog_55_method_4_code 4 = .ok (.newarray .int, 2) := by decide +kernel
theorem d52_6 : decode prog_55_method_4_code 6 = .ok (.astore_n 2, 1) := by decide +kernel
theorem d52_7 : decode prog_55_method_4_code 7 = .ok (.iload_n 1, 1) := by decide +kernel
theorem d52_8 : decode prog_55_method_4_code 8 = .ok (.istore_n 3, 1) := by decide +kernel
theorem d52_9 : decode prog_55_method_4_code 9 = .ok (.aload_n 0, 1) := by decide +kernel
theorem d52_10 : decode prog_55_method_4_code 10 = .ok (.getfield 40, 3) := by decide +kernel
theorem d52_13 : decode prog_55_method_4_code 13 = .ok (.iconst 1, 1) := by decide +kernel
theorem d52_14 : decode prog_55_method_4_code 14 = .ok (.isub, 1) := by decide +kernel
theorem d52_15 : decode prog_55_method_4_code 15 = .ok (.istore 4, 2) := by decide +kernel
theorem d52_17 : decode prog_55_method_4_code 17 = .ok (.iload 4, 2) := by decide +kernel
theorem d52_19 : decode prog_55_method_4_code 19 = .ok (.ifCond .lt 26, 3) := by decide +kernel
theorem d52_22 : decode prog_55_method_4_code 22 = .ok (.aload_n 2, 1) := by decide +kernel
theorem d52_23 : decode prog_55_method_4_code 23 = .ok (.iload 4, 2) := by decide +kernel
theorem d52_25 : decode prog_55_method_4_code 25 = .ok (.iload_n 3, 1) := by decide +kernel
theorem d52_26 : decode prog_55_method_4_code 26 = .ok (.aload_n 0, 1) := by decide +kernel
theorem d52_27 : decode prog_55_method_4_code 27 = .ok (.getfield 44, 3) := by decide +kernel
theorem d52_30 : decode prog_55_method_4_code 30 = .ok (.irem, 1) := by decide +kernel
theorem d52_31 : decode prog_55_method_4_code 31 = .ok (.iastore, 1) := by decide +kernel
theorem d52_32 : decode prog_55_method_4_code 32 = .ok (.iload_n 3, 1) := by decide +kernel
theorem d52_33 : decode prog_55_method_4_code 33 = .ok (.aload_n 0, 1) := by decide +kernel
theorem d52_34 : decode prog_55_method_4_code 34 = .ok (.getfield 44, 3) := by decide +kernel
theorem d52_37 : decode prog_55_method_4_code 37 = .ok (.idiv, 1) := by decide +kernel
theorem d52_38 : decode prog_55_method_4_code 38 = .ok (.istore_n 3, 1) := by decide +kernel
theorem d52_39 : decode prog_55_method_4_code 39 = .ok (.iinc 4 (-1), 3) := by decide +kernel
theorem d52_42 : decode prog_55_method_4_code 42 = .ok (.goto (-25), 3) := by decide +kernel
theorem d52_45 : decode prog_55_method_4_code 45 = .ok (.aload_n 2, 1) := by decide +kernel
theorem d52_46 : decode prog_55_method_4_code 46 = .ok (.areturn, 1) := by decide +kernel
theorem pn_52 : plainName "com/example/gingham/gingham/designs/CoveringArraySpec" = true := by first | (simp [plainName, overriddenIn]; done) | decide +kernel
theorem ef_52 (m : MethodId) (r0 : Addr) (p1 : Int32) : entryFrame m #[(.ref r0), (.int p1)] 5 = mkF m 0 #[.val (.ref r0), .val (.int p1), .unset, .unset, .unset] [] := by first | (simp [entryFrame, mkF, argsToLocals, Value.category]; done) | rfl
def Q52 (Z : State) (r0 : Addr) (p1 : Int32) (g : Int32) (h0 : Heap) (n0 : Nat) (v : Option Value) (h : Heap) (L : List Loc) : Prop := ∃ (b : Addr) (kA : ClassId), v = some (.ref b) ∧ Fr n0 L ∧ Keep h0 h [] ∧ n0 ≤ b ∧ h0.size ≤ b ∧ Arv Z h b kA .int (2 : Int32) [(.int ((p1 / g) % g)), (.int (p1 % g))] (.int (0 : Int32))
set_option maxRecDepth 65536 in
set_option maxHeartbeats 40000000 in
theorem rm52 (l : Launch) (Z : State) (a0 : Array Value) (hw : ∀ d ∈ tables_1, d.before a0 Z = true) (ws : List Jvm.Cond) (r0 : Addr) (p1 : Int32) (g : Int32) (h0 : Heap) (n0 : Nat) (Z0 : n0 ≤ h0.size) (P_levels : Fld Z h0 r0 "com/example/gingham/gingham/designs/CoveringArraySpec" "levels" "I" (.int g)) (P_strength : Fld Z h0 r0 "com/example/gingham/gingham/designs/CoveringArraySpec" "strength" "I" (.int (2 : Int32))) (HG : g ≠ 0) :
    MetFree l (⟨"com/example/gingham/gingham/designs/CoveringArraySpec", "tupleValues", "(I)[I"⟩ : MethodName) (head1 (Jvm.Cond.code (⟨"com/example/gingham/gingham/designs/CoveringArraySpec", "tupleValues", "(I)[I"⟩ : MethodName) prog_55_method_4_code 5 (some (.array .int)) :: ws) ({ frames := 0, cells := 1, slots := 2, locals := 0 } : Room)) (fun a U => a = #[(.ref r0), (.int p1)] ∧ Z.Warmed39 U.vm ∧ U.heap = h0) (fun _ _ _ _ _ => True) (fun _ U o U' => ∃ v L, o = .returned v ∧ Q52 Z r0 p1 g h0 n0 v U'.heap L ∧ FrameEnd U o U' L ({ frames := 0, cells := 1, slots := 2, locals := 0 } : Room).cells ({ frames := 0, cells := 1, slots := 2, locals := 0 } : Room).slots) := by
  refine MetFree.of_bodySF (plainFor_of_name pn_52) hisR ?_
  intro p e s m args below meth c s₁ Bd hml0 hP hK
  obtain ⟨rfl, hZ, hh⟩ := hP
  have hx := Bd.exec
  have hby := Bd.bytes
  have hml : c.maxLocals = 5 := hml0
  have hown : s.vm.findClass "com/example/gingham/gingham/designs/CoveringArraySpec" = some m.cls := findClass_of_methodNamed Bd.named
  have hnm := (name_of_methodNamed Bd.named Bd.method).1
  have hlk : meth.locks = false := Bd.notSynchronized
  have X0 : Stand p l e ({ frames := 0, cells := 1, slots := 2, locals := 0 } : Room) s m #[(.ref r0), (.int p1)] below meth c s₁ [] 0 0 := Stand.of_body Bd
  have e0 : s₁.heap = h0 := by rw [← hh, Bd.state]; rfl
  have N0 := Fr.nil n0
  refine own_cast (Q := Q52 Z r0 p1 g h0 n0) (kc := 1) (ks := 2) (ef_52 m r0 p1) ?_
  have K_1 := Keep.refl h0 []
  refine own_st (fun _ k => XS.aloadN X0.here hx rfl (hb hby d52_0) rfl rfl k) ?_
  show own_Go X0 (Q52 Z r0 p1 g h0 n0) 1 2 1 #[.val (.ref r0), .val (.int p1), .unset, .unset, .unset] [(.ref r0)]
  obtain ⟨T2, X2, e2, st2⟩ := getF X0 hx hZ hown (host := "") (Or.inl (hw _ (List.mem_of_getElem? (i := 23) rfl))) Via.refl e0 P_strength (g := (mkF m 1 #[.val (.ref r0), .val (.int p1), .unset, .unset, .unset] [(.ref r0)])) rfl rfl (hb hby d52_1)
  refine own_st st2 ?_
  show own_Go X2 (Q52 Z r0 p1 g h0 n0) 1 2 4 #[.val (.ref r0), .val (.int p1), .unset, .unset, .unset] [(.int (2 : Int32))]
  obtain ⟨T3, h3, k3, X3, e3, E3, A3, st3⟩ := newP X2 hx hZ (hw _ (List.mem_of_getElem? (i := 34) rfl)) e2 (g := (mkF m 4 #[.val (.ref r0), .val (.int p1), .unset, .unset, .unset] [(.int (2 : Int32))])) rfl (hb hby d52_4) rfl (by decide) (cap := 2) (by decide) (by decide) (by decide) (by decide)
  obtain ⟨b3, g3⟩ : ∃ z, z = h0.size := ⟨_, rfl⟩
  rw [← g3] at A3 st3
  refine own_st st3 ?_
  have ne_4 := Nat.ne_of_lt (Nat.lt_of_lt_of_le P_levels.lt (Nat.le_of_eq g3.symm))
  have G_5 := Nat.le_trans Z0 (Nat.le_of_eq g3.symm)
  have S_6 := Nat.le_trans K_1.1 (Nat.le_of_eq g3.symm)
  have f_7 := P_levels.ext E3
  have f_8 := P_strength.ext E3
  have Z_9 := Nat.le_trans Z0 E3.1
  have K_10 := K_1.ext E3
  have V3 : Arv Z h3 b3 k3 .int (2 : Int32) [(.int (0 : Int32)), (.int (0 : Int32))] (.int (0 : Int32)) := (Arv.new A3 (by decide)).pad (pad_rep [] (.int (0 : Int32)) 2)
  show own_Go X3 (Q52 Z r0 p1 g h0 n0) 1 2 6 #[.val (.ref r0), .val (.int p1), .unset, .unset, .unset] [(.ref b3)]
  refine own_st (fun _ k => XS.astoreN X3.here hx rfl (hb hby d52_6) rfl rfl (l' := #[.val (.ref r0), .val (.int p1), .val (.ref b3), .unset, .unset]) rfl k) ?_
  show own_Go X3 (Q52 Z r0 p1 g h0 n0) 1 2 7 #[.val (.ref r0), .val (.int p1), .val (.ref b3), .unset, .unset] []
  refine own_st (fun _ k => XS.iloadN X3.here hx rfl (hb hby d52_7) rfl k) ?_
  show own_Go X3 (Q52 Z r0 p1 g h0 n0) 1 2 8 #[.val (.ref r0), .val (.int p1), .val (.ref b3), .unset, .unset] [(.int p1)]
  refine own_st (fun _ k => XS.istoreN X3.here hx rfl (hb hby d52_8) rfl (l' := #[.val (.ref r0), .val (.int p1), .val (.ref b3), .val (.int p1), .unset]) rfl k) ?_
  show own_Go X3 (Q52 Z r0 p1 g h0 n0) 1 2 9 #[.val (.ref r0), .val (.int p1), .val (.ref b3), .val (.int p1), .unset] []
  refine own_st (fun _ k => XS.aloadN X3.here hx rfl (hb hby d52_9) rfl rfl k) ?_
  show own_Go X3 (Q52 Z r0 p1 g h0 n0) 1 2 10 #[.val (.ref r0), .val (.int p1), .val (.ref b3), .val (.int p1), .unset] [(.ref r0)]
  obtain ⟨T11, X11, e11, st11⟩ := getF X3 hx hZ hown (host := "") (Or.inl (hw _ (List.mem_of_getElem? (i := 23) rfl))) Via.refl e3 f_8 (g := (mkF m 10 #[.val (.ref r0), .val (.int p1), .val (.ref b3), .val (.int p1), .unset] [(.ref r0)])) rfl rfl (hb hby d52_10)
  refine own_st st11 ?_
  show own_Go X11 (Q52 Z r0 p1 g h0 n0) 1 2 13 #[.val (.ref r0), .val (.int p1), .val (.ref b3), .val (.int p1), .unset] [(.int (2 : Int32))]
  refine own_st (fun _ k => XS.iconst X11.here hx rfl (hb hby d52_13) k) ?_
  show own_Go X11 (Q52 Z r0 p1 g h0 n0) 1 2 14 #[.val (.ref r0), .val (.int p1), .val (.ref b3), .val (.int p1), .unset] [(.int (1 : Int32)), (.int (2 : Int32))]
  refine own_st (fun _ k => XS.isub X11.here hx rfl (hb hby d52_14) rfl k) ?_
  show own_Go X11 (Q52 Z r0 p1 g h0 n0) 1 2 15 #[.val (.ref r0), .val (.int p1), .val (.ref b3), .val (.int p1), .unset] [(.int (1 : Int32))]
  refine own_st (fun _ k => XS.istore X11.here hx rfl (hb hby d52_15) rfl (l' := #[.val (.ref r0), .val (.int p1), .val (.ref b3), .val (.int p1), .val (.int (1 : Int32))]) rfl k) ?_
  show own_Go X11 (Q52 Z r0 p1 g h0 n0) 1 2 17 #[.val (.ref r0), .val (.int p1), .val (.ref b3), .val (.int p1), .val (.int (1 : Int32))] []
  refine own_st (fun _ k => XS.iload X11.here hx rfl (hb hby d52_17) rfl k) ?_
  show own_Go X11 (Q52 Z r0 p1 g h0 n0) 1 2 19 #[.val (.ref r0), .val (.int p1), .val (.ref b3), .val (.int p1), .val (.int (1 : Int32))] [(.int (1 : Int32))]
  have c19_12 : ¬ ((1 : Int32) < (0 : Int32)) := (by decide)
  refine own_st (fun _ k => XS.ifNo X11.here hx rfl (hb hby d52_19) rfl ((if0 _ _).trans (flt c19_12).1) k) ?_
  show own_Go X11 (Q52 Z r0 p1 g h0 n0) 1 2 22 #[.val (.ref r0), .val (.int p1), .val (.ref b3), .val (.int p1), .val (.int (1 : Int32))] []
  refine own_st (fun _ k => XS.aloadN X11.here hx rfl (hb hby d52_22) rfl rfl k) ?_
  show own_Go X11 (Q52 Z r0 p1 g h0 n0) 1 2 23 #[.val (.ref r0), .val (.int p1), .val (.ref b3), .val (.int p1), .val (.int (1 : Int32))] [(.ref b3)]
  refine own_st (fun _ k => XS.iload X11.here hx rfl (hb hby d52_23) rfl k) ?_
  show own_Go X11 (Q52 Z r0 p1 g h0 n0) 1 2 25 #[.val (.ref r0), .val (.int p1), .val (.ref b3), .val (.int p1), .val (.int (1 : Int32))] [(.int (1 : Int32)), (.ref b3)]
  refine own_st (fun _ k => XS.iloadN X11.here hx rfl (hb hby d52_25) rfl k) ?_
  show own_Go X11 (Q52 Z r0 p1 g h0 n0) 1 2 26 #[.val (.ref r0), .val (.int p1), .val (.ref b3), .val (.int p1), .val (.int (1 : Int32))] [(.int p1), (.int (1 : Int32)), (.ref b3)]
  refine own_st (fun _ k => XS.aloadN X11.here hx rfl (hb hby d52_26) rfl rfl k) ?_
  show own_Go X11 (Q52 Z r0 p1 g h0 n0) 1 2 27 #[.val (.ref r0), .val (.int p1), .val (.ref b3), .val (.int p1), .val (.int (1 : Int32))] [(.ref r0), (.int p1), (.int (1 : Int32)), (.ref b3)]
  obtain ⟨T13, X13, e13, st13⟩ := getF X11 hx hZ hown (host := "") (Or.inl (hw _ (List.mem_of_getElem? (i := 27) rfl))) Via.refl e11 f_7 (g := (mkF m 27 #[.val (.ref r0), .val (.int p1), .val (.ref b3), .val (.int p1), .val (.int (1 : Int32))] [(.ref r0), (.int p1), (.int (1 : Int32)), (.ref b3)])) rfl rfl (hb hby d52_27)
  refine own_st st13 ?_
  show own_Go X13 (Q52 Z r0 p1 g h0 n0) 1 2 30 #[.val (.ref r0), .val (.int p1), .val (.ref b3), .val (.int p1), .val (.int (1 : Int32))] [(.int g), (.int p1), (.int (1 : Int32)), (.ref b3)]
  refine own_st (fun _ k => iremM X13 hx rfl (hb hby d52_30) rfl HG k) ?_
  show own_Go X13 (Q52 Z r0 p1 g h0 n0) 1 2 31 #[.val (.ref r0), .val (.int p1), .val (.ref b3), .val (.int p1), .val (.int (1 : Int32))] [(.int (p1 % g)), (.int (1 : Int32)), (.ref b3)]
  obtain ⟨T14, h14, X14, e14, W14, V14, st14⟩ := own_stI X13 hx hZ e13 V3 (j := (1 : Int32)) ⟨by decide, by decide⟩ (Nat.le_of_ble_eq_true rfl) (g := (mkF m 31 #[.val (.ref r0), .val (.int p1), .val (.ref b3), .val (.int p1), .val (.int (1 : Int32))] [(.int (p1 % g)), (.int (1 : Int32)), (.ref b3)])) rfl rfl (hb hby d52_31)
  refine own_st st14 ?_
  have f_15 := f_7.other W14 (Or.inl ne_4)
  have f_16 := f_8.other W14 (Or.inl ne_4)
  have Z_17 := Nat.le_trans Z_9 (Nat.le_of_eq W14.size.symm)
  have K_18 := K_10.wr W14 (Or.inr S_6)
  have U14 : Arv Z h14 b3 k3 .int (2 : Int32) [(.int (0 : Int32)), (.int (p1 % g))] (.int (0 : Int32)) := V14
  have N_19 := Fr.snoc X14 N0 G_5
  show own_Go X14 (Q52 Z r0 p1 g h0 n0) 1 2 32 #[.val (.ref r0), .val (.int p1), .val (.ref b3), .val (.int p1), .val (.int (1 : Int32))] []
  refine own_st (fun _ k => XS.iloadN X14.here hx rfl (hb hby d52_32) rfl k) ?_
  show own_Go X14 (Q52 Z r0 p1 g h0 n0) 1 2 33 #[.val (.ref r0), .val (.int p1), .val (.ref b3), .val (.int p1), .val (.int (1 : Int32))] [(.int p1)]
  refine own_st (fun _ k => XS.aloadN X14.here hx rfl (hb hby d52_33) rfl rfl k) ?_
  show own_Go X14 (Q52 Z r0 p1 g h0 n0) 1 2 34 #[.val (.ref r0), .val (.int p1), .val (.ref b3), .val (.int p1), .val (.int (1 : Int32))] [(.ref r0), (.int p1)]
  obtain ⟨T20, X20, e20, st20⟩ := getF X14 hx hZ hown (host := "") (Or.inl (hw _ (List.mem_of_getElem? (i := 27) rfl))) Via.refl e14 f_15 (g := (mkF m 34 #[.val (.ref r0), .val (.int p1), .val (.ref b3), .val (.int p1), .val (.int (1 : Int32))] [(.ref r0), (.int p1)])) rfl rfl (hb hby d52_34)
  refine own_st st20 ?_
  show own_Go X20 (Q52 Z r0 p1 g h0 n0) 1 2 37 #[.val (.ref r0), .val (.int p1), .val (.ref b3), .val (.int p1), .val (.int (1 : Int32))] [(.int g), (.int p1)]
  refine own_st (fun _ k => XS.idiv X20.here hx rfl (hb hby d52_37) rfl HG k) ?_
  show own_Go X20 (Q52 Z r0 p1 g h0 n0) 1 2 38 #[.val (.ref r0), .val (.int p1), .val (.ref b3), .val (.int p1), .val (.int (1 : Int32))] [(.int (p1 / g))]
  refine own_st (fun _ k => XS.istoreN X20.here hx rfl (hb hby d52_38) rfl (l' := #[.val (.ref r0), .val (.int p1), .val (.ref b3), .val (.int (p1 / g)), .val (.int (1 : Int32))]) rfl k) ?_
  show own_Go X20 (Q52 Z r0 p1 g h0 n0) 1 2 39 #[.val (.ref r0), .val (.int p1), .val (.ref b3), .val (.int (p1 / g)), .val (.int (1 : Int32))] []
  refine own_st (fun _ k => XS.iinc X20.here hx rfl (hb hby d52_39) rfl (l' := #[.val (.ref r0), .val (.int p1), .val (.ref b3), .val (.int (p1 / g)), .val (.int (0 : Int32))]) rfl k) ?_
  show own_Go X20 (Q52 Z r0 p1 g h0 n0) 1 2 42 #[.val (.ref r0), .val (.int p1), .val (.ref b3), .val (.int (p1 / g)), .val (.int (0 : Int32))] []
  refine own_st (fun _ k => XS.goto X20.here hx rfl (pc0 := 42) (pc' := 17) rfl (hb hby d52_42) (by decide) (by decide) k) ?_
  show own_Go X20 (Q52 Z r0 p1 g h0 n0) 1 2 17 #[.val (.ref r0), .val (.int p1), .val (.ref b3), .val (.int (p1 / g)), .val (.int (0 : Int32))] []
  refine own_st (fun _ k => XS.iload X20.here hx rfl (hb hby d52_17) rfl k) ?_
  show own_Go X20 (Q52 Z r0 p1 g h0 n0) 1 2 19 #[.val (.ref r0), .val (.int p1), .val (.ref b3), .val (.int (p1 / g)), .val (.int (0 : Int32))] [(.int (0 : Int32))]
  have c19_21 : ¬ ((0 : Int32) < (0 : Int32)) := (by decide)
  refine own_st (fun _ k => XS.ifNo X20.here hx rfl (hb hby d52_19) rfl ((if0 _ _).trans (flt c19_21).1) k) ?_
  show own_Go X20 (Q52 Z r0 p1 g h0 n0) 1 2 22 #[.val (.ref r0), .val (.int p1), .val (.ref b3), .val (.int (p1 / g)), .val (.int (0 : Int32))] []
  refine own_st (fun _ k => XS.aloadN X20.here hx rfl (hb hby d52_22) rfl rfl k) ?_
  show own_Go X20 (Q52 Z r0 p1 g h0 n0) 1 2 23 #[.val (.ref r0), .val (.int p1), .val (.ref b3), .val (.int (p1 / g)), .val (.int (0 : Int32))] [(.ref b3)]
  refine own_st (fun _ k => XS.iload X20.here hx rfl (hb hby d52_23) rfl k) ?_
  show own_Go X20 (Q52 Z r0 p1 g h0 n0) 1 2 25 #[.val (.ref r0), .val (.int p1), .val (.ref b3), .val (.int (p1 / g)), .val (.int (0 : Int32))] [(.int (0 : Int32)), (.ref b3)]
  refine own_st (fun _ k => XS.iloadN X20.here hx rfl (hb hby d52_25) rfl k) ?_
  show own_Go X20 (Q52 Z r0 p1 g h0 n0) 1 2 26 #[.val (.ref r0), .val (.int p1), .val (.ref b3), .val (.int (p1 / g)), .val (.int (0 : Int32))] [(.int (p1 / g)), (.int (0 : Int32)), (.ref b3)]
  refine own_st (fun _ k => XS.aloadN X20.here hx rfl (hb hby d52_26) rfl rfl k) ?_
  show own_Go X20 (Q52 Z r0 p1 g h0 n0) 1 2 27 #[.val (.ref r0), .val (.int p1), .val (.ref b3), .val (.int (p1 / g)), .val (.int (0 : Int32))] [(.ref r0), (.int (p1 / g)), (.int (0 : Int32)), (.ref b3)]
  obtain ⟨T22, X22, e22, st22⟩ := getF X20 hx hZ hown (host := "") (Or.inl (hw _ (List.mem_of_getElem? (i := 27) rfl))) Via.refl e20 f_15 (g := (mkF m 27 #[.val (.ref r0), .val (.int p1), .val (.ref b3), .val (.int (p1 / g)), .val (.int (0 : Int32))] [(.ref r0), (.int (p1 / g)), (.int (0 : Int32)), (.ref b3)])) rfl rfl (hb hby d52_27)
  refine own_st st22 ?_
  show own_Go X22 (Q52 Z r0 p1 g h0 n0) 1 2 30 #[.val (.ref r0), .val (.int p1), .val (.ref b3), .val (.int (p1 / g)), .val (.int (0 : Int32))] [(.int g), (.int (p1 / g)), (.int (0 : Int32)), (.ref b3)]
  refine own_st (fun _ k => iremM X22 hx rfl (hb hby d52_30) rfl HG k) ?_
  show own_Go X22 (Q52 Z r0 p1 g h0 n0) 1 2 31 #[.val (.ref r0), .val (.int p1), .val (.ref b3), .val (.int (p1 / g)), .val (.int (0 : Int32))] [(.int ((p1 / g) % g)), (.int (0 : Int32)), (.ref b3)]
  obtain ⟨T23, h23, X23, e23, W23, V23, st23⟩ := own_stI X22 hx hZ e22 U14 (j := (0 : Int32)) ⟨by decide, by decide⟩ (Nat.le_of_ble_eq_true rfl) (g := (mkF m 31 #[.val (.ref r0), .val (.int p1), .val (.ref b3), .val (.int (p1 / g)), .val (.int (0 : Int32))] [(.int ((p1 / g) % g)), (.int (0 : Int32)), (.ref b3)])) rfl rfl (hb hby d52_31)
  refine own_st st23 ?_
  have f_24 := f_15.other W23 (Or.inl ne_4)
  have f_25 := f_16.other W23 (Or.inl ne_4)
  have Z_26 := Nat.le_trans Z_17 (Nat.le_of_eq W23.size.symm)
  have K_27 := K_18.wr W23 (Or.inr S_6)
  have U23 : Arv Z h23 b3 k3 .int (2 : Int32) [(.int ((p1 / g) % g)), (.int (p1 % g))] (.int (0 : Int32)) := V23
  have N_28 := Fr.snoc X23 N_19 G_5
  show own_Go X23 (Q52 Z r0 p1 g h0 n0) 1 2 32 #[.val (.ref r0), .val (.int p1), .val (.ref b3), .val (.int (p1 / g)), .val (.int (0 : Int32))] []
  refine own_st (fun _ k => XS.iloadN X23.here hx rfl (hb hby d52_32) rfl k) ?_
  show own_Go X23 (Q52 Z r0 p1 g h0 n0) 1 2 33 #[.val (.ref r0), .val (.int p1), .val (.ref b3), .val (.int (p1 / g)), .val (.int (0 : Int32))] [(.int (p1 / g))]
  refine own_st (fun _ k => XS.aloadN X23.here hx rfl (hb hby d52_33) rfl rfl k) ?_
  show own_Go X23 (Q52 Z r0 p1 g h0 n0) 1 2 34 #[.val (.ref r0), .val (.int p1), .val (.ref b3), .val (.int (p1 / g)), .val (.int (0 : Int32))] [(.ref r0), (.int (p1 / g))]
  obtain ⟨T29, X29, e29, st29⟩ := getF X23 hx hZ hown (host := "") (Or.inl (hw _ (List.mem_of_getElem? (i := 27) rfl))) Via.refl e23 f_24 (g := (mkF m 34 #[.val (.ref r0), .val (.int p1), .val (.ref b3), .val (.int (p1 / g)), .val (.int (0 : Int32))] [(.ref r0), (.int (p1 / g))])) rfl rfl (hb hby d52_34)
  refine own_st st29 ?_
  show own_Go X29 (Q52 Z r0 p1 g h0 n0) 1 2 37 #[.val (.ref r0), .val (.int p1), .val (.ref b3), .val (.int (p1 / g)), .val (.int (0 : Int32))] [(.int g), (.int (p1 / g))]
  refine own_st (fun _ k => XS.idiv X29.here hx rfl (hb hby d52_37) rfl HG k) ?_
  show own_Go X29 (Q52 Z r0 p1 g h0 n0) 1 2 38 #[.val (.ref r0), .val (.int p1), .val (.ref b3), .val (.int (p1 / g)), .val (.int (0 : Int32))] [(.int ((p1 / g) / g))]
  refine own_st (fun _ k => XS.istoreN X29.here hx rfl (hb hby d52_38) rfl (l' := #[.val (.ref r0), .val (.int p1), .val (.ref b3), .val (.int ((p1 / g) / g)), .val (.int (0 : Int32))]) rfl k) ?_
  show own_Go X29 (Q52 Z r0 p1 g h0 n0) 1 2 39 #[.val (.ref r0), .val (.int p1), .val (.ref b3), .val (.int ((p1 / g) / g)), .val (.int (0 : Int32))] []
  refine own_st (fun _ k => XS.iinc X29.here hx rfl (hb hby d52_39) rfl (l' := #[.val (.ref r0), .val (.int p1), .val (.ref b3), .val (.int ((p1 / g) / g)), .val (.int (-1 : Int32))]) rfl k) ?_
  show own_Go X29 (Q52 Z r0 p1 g h0 n0) 1 2 42 #[.val (.ref r0), .val (.int p1), .val (.ref b3), .val (.int ((p1 / g) / g)), .val (.int (-1 : Int32))] []
  refine own_st (fun _ k => XS.goto X29.here hx rfl (pc0 := 42) (pc' := 17) rfl (hb hby d52_42) (by decide) (by decide) k) ?_
  show own_Go X29 (Q52 Z r0 p1 g h0 n0) 1 2 17 #[.val (.ref r0), .val (.int p1), .val (.ref b3), .val (.int ((p1 / g) / g)), .val (.int (-1 : Int32))] []
  refine own_st (fun _ k => XS.iload X29.here hx rfl (hb hby d52_17) rfl k) ?_
  show own_Go X29 (Q52 Z r0 p1 g h0 n0) 1 2 19 #[.val (.ref r0), .val (.int p1), .val (.ref b3), .val (.int ((p1 / g) / g)), .val (.int (-1 : Int32))] [(.int (-1 : Int32))]
  have c19_30 : (-1 : Int32) < (0 : Int32) := (by decide)
  refine own_st (fun _ k => XS.ifYes X29.here hx rfl (pc0 := 19) (pc' := 45) rfl (hb hby d52_19) rfl ((if0 _ _).trans (tlt c19_30).1) (by decide) (by decide) k) ?_
  show own_Go X29 (Q52 Z r0 p1 g h0 n0) 1 2 45 #[.val (.ref r0), .val (.int p1), .val (.ref b3), .val (.int ((p1 / g) / g)), .val (.int (-1 : Int32))] []
  refine own_st (fun _ k => XS.aloadN X29.here hx rfl (hb hby d52_45) rfl rfl k) ?_
  show own_Go X29 (Q52 Z r0 p1 g h0 n0) 1 2 46 #[.val (.ref r0), .val (.int p1), .val (.ref b3), .val (.int ((p1 / g) / g)), .val (.int (-1 : Int32))] [(.ref b3)]
  refine own_retA X29 hx Bd.returns rfl hlk e29 (hb hby d52_46) (by decide) (by decide) ?_
  exact ⟨b3, k3, rfl, N_28, K_27, G_5, S_6, U23⟩
theorem d53_0 : decode prog_55_method_4_code 0 = .ok (.aload_n 0, 1) := by decide +kernel
theorem d53_1 : decode prog_55_method_4_code 1 = .ok (.getfield 40, 3) := by decide +kernel
theorem d53_4 : decode prog_55_method_4_code 4 = .ok (.newarray .int, 2) := by decide +kernel
theorem d53_6 : decode prog_55_method_4_code 6 = .ok (.astore_n 2, 1) := by decide +kernel
theorem d53_7 : decode prog_55_method_4_code 7 = .ok (.iload_n 1, 1) := by decide +kernel
theorem d53_8 : decode prog_55_method_4_code 8 = .ok (.istore_n 3, 1) := by decide +kernel
theorem d53_9 : decode prog_55_method_4_code 9 = .ok (.aload_n 0, 1) := by decide +kernel
theorem d53_10 : decode prog_55_method_4_code 10 = .ok (.getfield 40, 3) := by decide +kernel
theorem d53_13 : decode prog_55_method_4_code 13 = .ok (.iconst 1, 1) := by decide +kernel
theorem d53_14 : decode prog_55_method_4_code 14 = .ok (.isub, 1) := by decide +kernel
theorem d53_15 : decode prog_55_method_4_code 15 = .ok (.istore 4, 2) := by decide +kernel
theorem d53_17 : decode prog_55_method_4_code 17 = .ok (.iload 4, 2) := by decide +kernel
theorem d53_19 : decode prog_55_method_4_code 19 = .ok (.ifCond .lt 26, 3) := by decide +kernel
theorem d53_22 : decode prog_55_method_4_code 22 = .ok (.aload_n 2, 1) := by decide +kernel
theorem d53_23 : decode prog_55_method_4_code 23 = .ok (.iload 4, 2) := by decide +kernel
theorem d53_25 : decode prog_55_method_4_code 25 = .ok (.iload_n 3, 1) := by decide +kernel
theorem d53_26 : decode prog_55_method_4_code 26 = .ok (.aload_n 0, 1) := by decide +kernel
theorem d53_27 : decode prog_55_method_4_code 27 = .ok (.getfield 44, 3) := by decide +kernel
theorem d53_30 : decode prog_55_method_4_code 30 = .ok (.irem, 1) := by decide +kernel
theorem d53_31 : decode prog_55_method_4_code 31 = .ok (.iastore, 1) := by decide +kernel
theorem d53_32 : decode prog_55_method_4_code 32 = .ok (.iload_n 3, 1) := by decide +kernel
theorem d53_33 : decode prog_55_method_4_code 33 = .ok (.aload_n 0, 1) := by decide +kernel
theorem d53_34 : decode prog_55_method_4_code 34 = .ok (.getfield 44, 3) := by decide +kernel
theorem d53_37 : decode prog_55_method_4_code 37 = .ok (.idiv, 1) := by decide +kernel
theorem d53_38 : decode prog_55_method_4_code 38 = .ok (.istore_n 3, 1) := by decide +kernel
theorem d53_39 : decode prog_55_method_4_code 39 = .ok (.iinc 4 (-1), 3) := by decide +kernel
theorem d53_42 : decode prog_55_method_4_code 42 = .ok (.goto (-25), 3) := by decide +kernel
theorem d53_45 : decode prog_55_method_4_code 45 = .ok (.aload_n 2, 1) := by decide +kernel
theorem d53_46 : decode prog_55_method_4_code 46 = .ok (.areturn, 1) := by decide +kernel
theorem pn_53 : plainName "com/example/gingham/gingham/designs/CoveringArraySpec" = true := by first | (simp [plainName, overriddenIn]; done) | decide +kernel
theorem ef_53 (m : MethodId) (r0 : Addr) (p1 : Int32) : entryFrame m #[(.ref r0), (.int p1)] 5 = mkF m 0 #[.val (.ref r0), .val (.int p1), .unset, .unset, .unset] [] := by first | (simp [entryFrame, mkF, argsToLocals, Value.category]; done) | rfl
def Q53 (Z : State) (r0 : Addr) (p1 : Int32) (g : Int32) (h0 : Heap) (n0 : Nat) (v : Option Value) (h : Heap) (L : List Loc) : Prop := ∃ (b : Addr) (kA : ClassId), v = some (.ref b) ∧ Fr n0 L ∧ Keep h0 h [] ∧ n0 ≤ b ∧ h0.size ≤ b ∧ Arv Z h b kA .int (3 : Int32) [(.int (((p1 / g) / g) % g)), (.int ((p1 / g) % g)), (.int (p1 % g))] (.int (0 : Int32))
set_option maxRecDepth 65536 in
set_option maxHeartbeats 40000000 in
theorem rm53 (l : Launch) (Z : State) (a0 : Array Value) (hw : ∀ d ∈ tables_1, d.before a0 Z = true) (ws : List Jvm.Cond) (r0 : Addr) (p1 : Int32) (g : Int32) (h0 : Heap) (n0 : Nat) (Z0 : n0 ≤ h0.size) (P_levels : Fld Z h0 r0 "com/example/gingham/gingham/designs/CoveringArraySpec" "levels" "I" (.int g)) (P_strength : Fld Z h0 r0 "com/example/gingham/gingham/designs/CoveringArraySpec" "strength" "I" (.int (3 : Int32))) (HG : g ≠ 0) :
    MetFree l (⟨"com/example/gingham/gingham/designs/CoveringArraySpec", "tupleValues", "(I)[I"⟩ : MethodName) (head1 (Jvm.Cond.code (⟨"com/example/gingham/gingham/designs/CoveringArraySpec", "tupleValues", "(I)[I"⟩ : MethodName) prog_55_method_4_code 5 (some (.array .int)) :: ws) ({ frames := 0, cells := 1, slots := 3, locals := 0 } : Room)) (fun a U => a = #[(.ref r0), (.int p1)] ∧ Z.Warmed39 U.vm ∧ U.heap = h0) (fun _ _ _ _ _ => True) (fun _ U o U' => ∃ v L, o = .returned v ∧ Q53 Z r0 p1 g h0 n0 v U'.heap L ∧ FrameEnd U o U' L ({ frames := 0, cells := 1, slots := 3, locals := 0 } : Room).cells ({ frames := 0, cells := 1, slots := 3, locals := 0 } : Room).slots) := by
  refine MetFree.of_bodySF (plainFor_of_name pn_53) hisR ?_
  intro p e s m args below meth c s₁ Bd hml0 hP hK
  obtain ⟨rfl, hZ, hh⟩ := hP
  have hx := Bd.exec
  have hby := Bd.bytes
  have hml : c.maxLocals = 5 := hml0
  have hown : s.vm.findClass "com/example/gingham/gingham/designs/CoveringArraySpec" = some m.cls := findClass_of_methodNamed Bd.named
  have hnm := (name_of_methodNamed Bd.named Bd.method).1
  have hlk : meth.locks = false := Bd.notSynchronized
  have X0 : Stand p l e ({ frames := 0, cells := 1, slots := 3, locals := 0 } : Room) s m #[(.ref r0), (.int p1)] below meth c s₁ [] 0 0 := Stand.of_body Bd
  have e0 : s₁.heap = h0 := by rw [← hh, Bd.state]; rfl
  have N0 := Fr.nil n0
  refine own_cast (Q := Q53 Z r0 p1 g h0 n0) (kc := 1) (ks := 3) (ef_53 m r0 p1) ?_
  have K_1 := Keep.refl h0 []
  refine own_st (fun _ k => XS.aloadN X0.here hx rfl (hb hby d53_0) rfl rfl k) ?_
  show own_Go X0 (Q53 Z r0 p1 g h0 n0) 1 3 1 #[.val (.ref r0), .val (.int p1), .unset, .unset, .unset] [(.ref r0)]
  obtain ⟨T2, X2, e2, st2⟩ := getF X0 hx hZ hown (host := "") (Or.inl (hw _ (List.mem_of_getElem? (i := 23) rfl))) Via.refl e0 P_strength (g := (mkF m 1 #[.val (.ref r0), .val (.int p1), .unset, .unset, .unset] [(.ref r0)])) rfl rfl (hb hby d53_1)
  refine own_st st2 ?_
  show own_Go X2 (Q53 Z r0 p1 g h0 n0) 1 3 4 #[.val (.ref r0), .val (.int p1), .unset, .unset, .unset] [(.int (3 : Int32))]
  obtain ⟨T3, h3, k3, X3, e3, E3, A3, st3⟩ := newP X2 hx hZ (hw _ (List.mem_of_getElem? (i := 34) rfl)) e2 (g := (mkF m 4 #[.val (.ref r0), .val (.int p1), .unset, .unset, .unset] [(.int (3 : Int32))])) rfl (hb hby d53_4) rfl (by decide) (cap := 3) (by decide) (by decide) (by decide) (by decide)
  obtain ⟨b3, g3⟩ : ∃ z, z = h0.size := ⟨_, rfl⟩
  rw [← g3] at A3 st3
  refine own_st st3 ?_
  have ne_4 := Nat.ne_of_lt (Nat.lt_of_lt_of_le P_levels.lt (Nat.le_of_eq g3.symm))
  have G_5 := Nat.le_trans Z0 (Nat.le_of_eq g3.symm)
  have S_6 := Nat.le_trans K_1.1 (Nat.le_of_eq g3.symm)
  have f_7 := P_levels.ext E3
  have f_8 := P_strength.ext E3
  have Z_9 := Nat.le_trans Z0 E3.1
  have K_10 := K_1.ext E3
  have V3 : Arv Z h3 b3 k3 .int (3 : Int32) [(.int (0 : Int32)), (.int (0 : Int32)), (.int (0 : Int32))] (.int (0 : Int32)) := (Arv.new A3 (by decide)).pad (pad_rep [] (.int (0 : Int32)) 3)
  show own_Go X3 (Q53 Z r0 p1 g h0 n0) 1 3 6 #[.val (.ref r0), .val (.int p1), .unset, .unset, .unset] [(.ref b3)]
  refine own_st (fun _ k => XS.astoreN X3.here hx rfl (hb hby d53_6) rfl rfl (l' := #[.val (.ref r0), .val (.int p1), .val (.ref b3), .unset, .unset]) rfl k) ?_
  show own_Go X3 (Q53 Z r0 p1 g h0 n0) 1 3 7 #[.val (.ref r0), .val (.int p1), .val (.ref b3), .unset, .unset] []
  refine own_st (fun _ k => XS.iloadN X3.here hx rfl (hb hby d53_7) rfl k) ?_
  show own_Go X3 (Q53 Z r0 p1 g h0 n0) 1 3 8 #[.val (.ref r0), .val (.int p1), .val (.ref b3), .unset, .unset] [(.int p1)]
  refine own_st (fun _ k => XS.istoreN X3.here hx rfl (hb hby d53_8) rfl (l' := #[.val (.ref r0), .val (.int p1), .val (.ref b3), .val (.int p1), .unset]) rfl k) ?_
  show own_Go X3 (Q53 Z r0 p1 g h0 n0) 1 3 9 #[.val (.ref r0), .val (.int p1), .val (.ref b3), .val (.int p1), .unset] []
  refine own_st (fun _ k => XS.aloadN X3.here hx rfl (hb hby d53_9) rfl rfl k) ?_
  show own_Go X3 (Q53 Z r0 p1 g h0 n0) 1 3 10 #[.val (.ref r0), .val (.int p1), .val (.ref b3), .val (.int p1), .unset] [(.ref r0)]
  obtain ⟨T11, X11, e11, st11⟩ := getF X3 hx hZ hown (host := "") (Or.inl (hw _ (List.mem_of_getElem? (i := 23) rfl))) Via.refl e3 f_8 (g := (mkF m 10 #[.val (.ref r0), .val (.int p1), .val (.ref b3), .val (.int p1), .unset] [(.ref r0)])) rfl rfl (hb hby d53_10)
  refine own_st st11 ?_
  show own_Go X11 (Q53 Z r0 p1 g h0 n0) 1 3 13 #[.val (.ref r0), .val (.int p1), .val (.ref b3), .val (.int p1), .unset] [(.int (3 : Int32))]
  refine own_st (fun _ k => XS.iconst X11.here hx rfl (hb hby d53_13) k) ?_
  show own_Go X11 (Q53 Z r0 p1 g h0 n0) 1 3 14 #[.val (.ref r0), .val (.int p1), .val (.ref b3), .val (.int p1), .unset] [(.int (1 : Int32)), (.int (3 : Int32))]
  refine own_st (fun _ k => XS.isub X11.here hx rfl (hb hby d53_14) rfl k) ?_
  show own_Go X11 (Q53 Z r0 p1 g h0 n0) 1 3 15 #[.val (.ref r0), .val (.int p1), .val (.ref b3), .val (.int p1), .unset] [(.int (2 : Int32))]
  refine own_st (fun _ k => XS.istore X11.here hx rfl (hb hby d53_15) rfl (l' := #[.val (.ref r0), .val (.int p1), .val (.ref b3), .val (.int p1), .val (.int (2 : Int32))]) rfl k) ?_
  show own_Go X11 (Q53 Z r0 p1 g h0 n0) 1 3 17 #[.val (.ref r0), .val (.int p1), .val (.ref b3), .val (.int p1), .val (.int (2 : Int32))] []
  refine own_st (fun _ k => XS.iload X11.here hx rfl (hb hby d53_17) rfl k) ?_
  show own_Go X11 (Q53 Z r0 p1 g h0 n0) 1 3 19 #[.val (.ref r0), .val (.int p1), .val (.ref b3), .val (.int p1), .val (.int (2 : Int32))] [(.int (2 : Int32))]
  have c19_12 : ¬ ((2 : Int32) < (0 : Int32)) := (by decide)
  refine own_st (fun _ k => XS.ifNo X11.here hx rfl (hb hby d53_19) rfl ((if0 _ _).trans (flt c19_12).1) k) ?_
  show own_Go X11 (Q53 Z r0 p1 g h0 n0) 1 3 22 #[.val (.ref r0), .val (.int p1), .val (.ref b3), .val (.int p1), .val (.int (2 : Int32))] []
  refine own_st (fun _ k => XS.aloadN X11.here hx rfl (hb hby d53_22) rfl rfl k) ?_
  show own_Go X11 (Q53 Z r0 p1 g h0 n0) 1 3 23 #[.val (.ref r0), .val (.int p1), .val (.ref b3), .val (.int p1), .val (.int (2 : Int32))] [(.ref b3)]
  refine own_st (fun _ k => XS.iload X11.here hx rfl (hb hby d53_23) rfl k) ?_
  show own_Go X11 (Q53 Z r0 p1 g h0 n0) 1 3 25 #[.val (.ref r0), .val (.int p1), .val (.ref b3), .val (.int p1), .val (.int (2 : Int32))] [(.int (2 : Int32)), (.ref b3)]
  refine own_st (fun _ k => XS.iloadN X11.here hx rfl (hb hby d53_25) rfl k) ?_
  show own_Go X11 (Q53 Z r0 p1 g h0 n0) 1 3 26 #[.val (.ref r0), .val (.int p1), .val (.ref b3), .val (.int p1), .val (.int (2 : Int32))] [(.int p1), (.int (2 : Int32)), (.ref b3)]
  refine own_st (fun _ k => XS.aloadN X11.here hx rfl (hb hby d53_26) rfl rfl k) ?_
  show own_Go X11 (Q53 Z r0 p1 g h0 n0) 1 3 27 #[.val (.ref r0), .val (.int p1), .val (.ref b3), .val (.int p1), .val (.int (2 : Int32))] [(.ref r0), (.int p1), (.int (2 : Int32)), (.ref b3)]
  obtain ⟨T13, X13, e13, st13⟩ := getF X11 hx hZ hown (host := "") (Or.inl (hw _ (List.mem_of_getElem? (i := 27) rfl))) Via.refl e11 f_7 (g := (mkF m 27 #[.val (.ref r0), .val (.int p1), .val (.ref b3), .val (.int p1), .val (.int (2 : Int32))] [(.ref r0), (.int p1), (.int (2 : Int32)), (.ref b3)])) rfl rfl (hb hby d53_27)
  refine own_st st13 ?_
  show own_Go X13 (Q53 Z r0 p1 g h0 n0) 1 3 30 #[.val (.ref r0), .val (.int p1), .val (.ref b3), .val (.int p1), .val (.int (2 : Int32))] [(.int g), (.int p1), (.int (2 : Int32)), (.ref b3)]
  refine own_st (fun _ k => iremM X13 hx rfl (hb hby d53_30) rfl HG k) ?_
  show own_Go X13 (Q53 Z r0 p1 g h0 n0) 1 3 31 #[.val (.ref r0), .val (.int p1), .val (.ref b3), .val (.int p1), .val (.int (2 : Int32))] [(.int (p1 % g)), (.int (2 : Int32)), (.ref b3)]
  obtain ⟨T14, h14, X14, e14, W14, V14, st14⟩ := own_stI X13 hx hZ e13 V3 (j := (2 : Int32)) ⟨by decide, by decide⟩ (Nat.le_of_ble_eq_true rfl) (g := (mkF m 31 #[.val (.ref r0), .val (.int p1), .val (.ref b3), .val (.int p1), .val (.int (2 : Int32))] [(.int (p1 % g)), (.int (2 : Int32)), (.ref b3)])) rfl rfl (hb hby d53_31)
  refine own_st st14 ?_
  have f_15 := f_7.other W14 (Or.inl ne_4)
  have f_16 := f_8.other W14 (Or.inl ne_4)
  have Z_17 := Nat.le_trans Z_9 (Nat.le_of_eq W14.size.symm)
  have K_18 := K_10.wr W14 (Or.inr S_6)
  have U14 : Arv Z h14 b3 k3 .int (3 : Int32) [(.int (0 : Int32)), (.int (0 : Int32)), (.int (p1 % g))] (.int (0 : Int32)) := V14
  have N_19 := Fr.snoc X14 N0 G_5
  show own_Go X14 (Q53 Z r0 p1 g h0 n0) 1 3 32 #[.val (.ref r0), .val (.int p1), .val (.ref b3), .val (.int p1), .val (.int (2 : Int32))] []
  refine own_st (fun _ k => XS.iloadN X14.here hx rfl (hb hby d53_32) rfl k) ?_
  show own_Go X14 (Q53 Z r0 p1 g h0 n0) 1 3 33 #[.val (.ref r0), .val (.int p1), .val (.ref b3), .val (.int p1), .val (.int (2 : Int32))] [(.int p1)]
  refine own_st (fun _ k => XS.aloadN X14.here hx rfl (hb hby d53_33) rfl rfl k) ?_
  show own_Go X14 (Q53 Z r0 p1 g h0 n0) 1 3 34 #[.val (.ref r0), .val (.int p1), .val (.ref b3), .val (.int p1), .val (.int (2 : Int32))] [(.ref r0), (.int p1)]
  obtain ⟨T20, X20, e20, st20⟩ := getF X14 hx hZ hown (host := "") (Or.inl (hw _ (List.mem_of_getElem? (i := 27) rfl))) Via.refl e14 f_15 (g := (mkF m 34 #[.val (.ref r0), .val (.int p1), .val (.ref b3), .val (.int p1), .val (.int (2 : Int32))] [(.ref r0), (.int p1)])) rfl rfl (hb hby d53_34)
  refine own_st st20 ?_
  show own_Go X20 (Q53 Z r0 p1 g h0 n0) 1 3 37 #[.val (.ref r0), .val (.int p1), .val (.ref b3), .val (.int p1), .val (.int (2 : Int32))] [(.int g), (.int p1)]
  refine own_st (fun _ k => XS.idiv X20.here hx rfl (hb hby d53_37) rfl HG k) ?_
  show own_Go X20 (Q53 Z r0 p1 g h0 n0) 1 3 38 #[.val (.ref r0), .val (.int p1), .val (.ref b3), .val (.int p1), .val (.int (2 : Int32))] [(.int (p1 / g))]
  refine own_st (fun _ k => XS.istoreN X20.here hx rfl (hb hby d53_38) rfl (l' := #[.val (.ref r0), .val (.int p1), .val (.ref b3), .val (.int (p1 / g)), .val (.int (2 : Int32))]) rfl k) ?_
  show own_Go X20 (Q53 Z r0 p1 g h0 n0) 1 3 39 #[.val (.ref r0), .val (.int p1), .val (.ref b3), .val (.int (p1 / g)), .val (.int (2 : Int32))] []
  refine own_st (fun _ k => XS.iinc X20.here hx rfl (hb hby d53_39) rfl (l' := #[.val (.ref r0), .val (.int p1), .val (.ref b3), .val (.int (p1 / g)), .val (.int (1 : Int32))]) rfl k) ?_
  show own_Go X20 (Q53 Z r0 p1 g h0 n0) 1 3 42 #[.val (.ref r0), .val (.int p1), .val (.ref b3), .val (.int (p1 / g)), .val (.int (1 : Int32))] []
  refine own_st (fun _ k => XS.goto X20.here hx rfl (pc0 := 42) (pc' := 17) rfl (hb hby d53_42) (by decide) (by decide) k) ?_
  show own_Go X20 (Q53 Z r0 p1 g h0 n0) 1 3 17 #[.val (.ref r0), .val (.int p1), .val (.ref b3), .val (.int (p1 / g)), .val (.int (1 : Int32))] []
  refine own_st (fun _ k => XS.iload X20.here hx rfl (hb hby d53_17) rfl k) ?_
  show own_Go X20 (Q53 Z r0 p1 g h0 n0) 1 3 19 #[.val (.ref r0), .val (.int p1), .val (.ref b3), .val (.int (p1 / g)), .val (.int (1 : Int32))] [(.int (1 : Int32))]
  have c19_21 : ¬ ((1 : Int32) < (0 : Int32)) := (by decide)
  refine own_st (fun _ k => XS.ifNo X20.here hx rfl (hb hby d53_19) rfl ((if0 _ _).trans (flt c19_21).1) k) ?_
  show own_Go X20 (Q53 Z r0 p1 g h0 n0) 1 3 22 #[.val (.ref r0), .val (.int p1), .val (.ref b3), .val (.int (p1 / g)), .val (.int (1 : Int32))] []
  refine own_st (fun _ k => XS.aloadN X20.here hx rfl (hb hby d53_22) rfl rfl k) ?_
  show own_Go X20 (Q53 Z r0 p1 g h0 n0) 1 3 23 #[.val (.ref r0), .val (.int p1), .val (.ref b3), .val (.int (p1 / g)), .val (.int (1 : Int32))] [(.ref b3)]
  refine own_st (fun _ k => XS.iload X20.here hx rfl (hb hby d53_23) rfl k) ?_
  show own_Go X20 (Q53 Z r0 p1 g h0 n0) 1 3 25 #[.val (.ref r0), .val (.int p1), .val (.ref b3), .val (.int (p1 / g)), .val (.int (1 : Int32))] [(.int (1 : Int32)), (.ref b3)]
  refine own_st (fun _ k => XS.iloadN X20.here hx rfl (hb hby d53_25) rfl k) ?_
  show own_Go X20 (Q53 Z r0 p1 g h0 n0) 1 3 26 #[.val (.ref r0), .val (.int p1), .val (.ref b3), .val (.int (p1 / g)), .val (.int (1 : Int32))] [(.int (p1 / g)), (.int (1 : Int32)), (.ref b3)]
  refine own_st (fun _ k => XS.aloadN X20.here hx rfl (hb hby d53_26) rfl rfl k) ?_
  show own_Go X20 (Q53 Z r0 p1 g h0 n0) 1 3 27 #[.val (.ref r0), .val (.int p1), .val (.ref b3), .val (.int (p1 / g)), .val (.int (1 : Int32))] [(.ref r0), (.int (p1 / g)), (.int (1 : Int32)), (.ref b3)]
  obtain ⟨T22, X22, e22, st22⟩ := getF X20 hx hZ hown (host := "") (Or.inl (hw _ (List.mem_of_getElem? (i := 27) rfl))) Via.refl e20 f_15 (g := (mkF m 27 #[.val (.ref r0), .val (.int p1), .val (.ref b3), .val (.int (p1 / g)), .val (.int (1 : Int32))] [(.ref r0), (.int (p1 / g)), (.int (1 : Int32)), (.ref b3)])) rfl rfl (hb hby d53_27)
  refine own_st st22 ?_
  show own_Go X22 (Q53 Z r0 p1 g h0 n0) 1 3 30 #[.val (.ref r0), .val (.int p1), .val (.ref b3), .val (.int (p1 / g)), .val (.int (1 : Int32))] [(.int g), (.int (p1 / g)), (.int (1 : Int32)), (.ref b3)]
  refine own_st (fun _ k => iremM X22 hx rfl (hb hby d53_30) rfl HG k) ?_
  show own_Go X22 (Q53 Z r0 p1 g h0 n0) 1 3 31 #[.val (.ref r0), .val (.int p1), .val (.ref b3), .val (.int (p1 / g)), .val (.int (1 : Int32))] [(.int ((p1 / g) % g)), (.int (1 : Int32)), (.ref b3)]
  obtain ⟨T23, h23, X23, e23, W23, V23, st23⟩ := own_stI X22 hx hZ e22 U14 (j := (1 : Int32)) ⟨by decide, by decide⟩ (Nat.le_of_ble_eq_true rfl) (g := (mkF m 31 #[.val (.ref r0), .val (.int p1), .val (.ref b3), .val (.int (p1 / g)), .val (.int (1 : Int32))] [(.int ((p1 / g) % g)), (.int (1 : Int32)), (.ref b3)])) rfl rfl (hb hby d53_31)
  refine own_st st23 ?_
  have f_24 := f_15.other W23 (Or.inl ne_4)
  have f_25 := f_16.other W23 (Or.inl ne_4)
  have Z_26 := Nat.le_trans Z_17 (Nat.le_of_eq W23.size.symm)
  have K_27 := K_18.wr W23 (Or.inr S_6)
  have U23 : Arv Z h23 b3 k3 .int (3 : Int32) [(.int (0 : Int32)), (.int ((p1 / g) % g)), (.int (p1 % g))] (.int (0 : Int32)) := V23
  have N_28 := Fr.snoc X23 N_19 G_5
  show own_Go X23 (Q53 Z r0 p1 g h0 n0) 1 3 32 #[.val (.ref r0), .val (.int p1), .val (.ref b3), .val (.int (p1 / g)), .val (.int (1 : Int32))] []
  refine own_st (fun _ k => XS.iloadN X23.here hx rfl (hb hby d53_32) rfl k) ?_
  show own_Go X23 (Q53 Z r0 p1 g h0 n0) 1 3 33 #[.val (.ref r0), .val (.int p1), .val (.ref b3), .val (.int (p1 / g)), .val (.int (1 : Int32))] [(.int (p1 / g))]
  refine own_st (fun _ k => XS.aloadN X23.here hx rfl (hb hby d53_33) rfl rfl k) ?_
  show own_Go X23 (Q53 Z r0 p1 g h0 n0) 1 3 34 #[.val (.ref r0), .val (.int p1), .val (.ref b3), .val (.int (p1 / g)), .val (.int (1 : Int32))] [(.ref r0), (.int (p1 / g))]
  obtain ⟨T29, X29, e29, st29⟩ := getF X23 hx hZ hown (host := "") (Or.inl (hw _ (List.mem_of_getElem? (i := 27) rfl))) Via.refl e23 f_24 (g := (mkF m 34 #[.val (.ref r0), .val (.int p1), .val (.ref b3), .val (.int (p1 / g)), .val (.int (1 : Int32))] [(.ref r0), (.int (p1 / g))])) rfl rfl (hb hby d53_34)
  refine own_st st29 ?_
  show own_Go X29 (Q53 Z r0 p1 g h0 n0) 1 3 37 #[.val (.ref r0), .val (.int p1), .val (.ref b3), .val (.int (p1 / g)), .val (.int (1 : Int32))] [(.int g), (.int (p1 / g))]
  refine own_st (fun _ k => XS.idiv X29.here hx rfl (hb hby d53_37) rfl HG k) ?_
  show own_Go X29 (Q53 Z r0 p1 g h0 n0) 1 3 38 #[.val (.ref r0), .val (.int p1), .val (.ref b3), .val (.int (p1 / g)), .val (.int (1 : Int32))] [(.int ((p1 / g) / g))]
  refine own_st (fun _ k => XS.istoreN X29.here hx rfl (hb hby d53_38) rfl (l' := #[.val (.ref r0), .val (.int p1), .val (.ref b3), .val (.int ((p1 / g) / g)), .val (.int (1 : Int32))]) rfl k) ?_
  show own_Go X29 (Q53 Z r0 p1 g h0 n0) 1 3 39 #[.val (.ref r0), .val (.int p1), .val (.ref b3), .val (.int ((p1 / g) / g)), .val (.int (1 : Int32))] []
  refine own_st (fun _ k => XS.iinc X29.here hx rfl (hb hby d53_39) rfl (l' := #[.val (.ref r0), .val (.int p1), .val (.ref b3), .val (.int ((p1 / g) / g)), .val (.int (0 : Int32))]) rfl k) ?_
  show own_Go X29 (Q53 Z r0 p1 g h0 n0) 1 3 42 #[.val (.ref r0), .val (.int p1), .val (.ref b3), .val (.int ((p1 / g) / g)), .val (.int (0 : Int32))] []
  refine own_st (fun _ k => XS.goto X29.here hx rfl (pc0 := 42) (pc' := 17) rfl (hb hby d53_42) (by decide) (by decide) k) ?_
  show own_Go X29 (Q53 Z r0 p1 g h0 n0) 1 3 17 #[.val (.ref r0), .val (.int p1), .val (.ref b3), .val (.int ((p1 / g) / g)), .val (.int (0 : Int32))] []
  refine own_st (fun _ k => XS.iload X29.here hx rfl (hb hby d53_17) rfl k) ?_
  show own_Go X29 (Q53 Z r0 p1 g h0 n0) 1 3 19 #[.val (.ref r0), .val (.int p1), .val (.ref b3), .val (.int ((p1 / g) / g)), .val (.int (0 : Int32))] [(.int (0 : Int32))]
  have c19_30 : ¬ ((0 : Int32) < (0 : Int32)) := (by decide)
  refine own_st (fun _ k => XS.ifNo X29.here hx rfl (hb hby d53_19) rfl ((if0 _ _).trans (flt c19_30).1) k) ?_
  show own_Go X29 (Q53 Z r0 p1 g h0 n0) 1 3 22 #[.val (.ref r0), .val (.int p1), .val (.ref b3), .val (.int ((p1 / g) / g)), .val (.int (0 : Int32))] []
  refine own_st (fun _ k => XS.aloadN X29.here hx rfl (hb hby d53_22) rfl rfl k) ?_
  show own_Go X29 (Q53 Z r0 p1 g h0 n0) 1 3 23 #[.val (.ref r0), .val (.int p1), .val (.ref b3), .val (.int ((p1 / g) / g)), .val (.int (0 : Int32))] [(.ref b3)]
  refine own_st (fun _ k => XS.iload X29.here hx rfl (hb hby d53_23) rfl k) ?_
  show own_Go X29 (Q53 Z r0 p1 g h0 n0) 1 3 25 #[.val (.ref r0), .val (.int p1), .val (.ref b3), .val (.int ((p1 / g) / g)), .val (.int (0 : Int32))] [(.int (0 : Int32)), (.ref b3)]
  refine own_st (fun _ k => XS.iloadN X29.here hx rfl (hb hby d53_25) rfl k) ?_
  show own_Go X29 (Q53 Z r0 p1 g h0 n0) 1 3 26 #[.val (.ref r0), .val (.int p1), .val (.ref b3), .val (.int ((p1 / g) / g)), .val (.int (0 : Int32))] [(.int ((p1 / g) / g)), (.int (0 : Int32)), (.ref b3)]
  refine own_st (fun _ k => XS.aloadN X29.here hx rfl (hb hby d53_26) rfl rfl k) ?_
  show own_Go X29 (Q53 Z r0 p1 g h0 n0) 1 3 27 #[.val (.ref r0), .val (.int p1), .val (.ref b3), .val (.int ((p1 / g) / g)), .val (.int (0 : Int32))] [(.ref r0), (.int ((p1 / g) / g)), (.int (0 : Int32)), (.ref b3)]
  obtain ⟨T31, X31, e31, st31⟩ := getF X29 hx hZ hown (host := "") (Or.inl (hw _ (List.mem_of_getElem? (i := 27) rfl))) Via.refl e29 f_24 (g := (mkF m 27 #[.val (.ref r0), .val (.int p1), .val (.ref b3), .val (.int ((p1 / g) / g)), .val (.int (0 : Int32))] [(.ref r0), (.int ((p1 / g) / g)), (.int (0 : Int32)), (.ref b3)])) rfl rfl (hb hby d53_27)
  refine own_st st31 ?_
  show own_Go X31 (Q53 Z r0 p1 g h0 n0) 1 3 30 #[.val (.ref r0), .val (.int p1), .val (.ref b3), .val (.int ((p1 / g) / g)), .val (.int (0 : Int32))] [(.int g), (.int ((p1 / g) / g)), (.int (0 : Int32)), (.ref b3)]
  refine own_st (fun _ k => iremM X31 hx rfl (hb hby d53_30) rfl HG k) ?_
  show own_Go X31 (Q53 Z r0 p1 g h0 n0) 1 3 31 #[.val (.ref r0), .val (.int p1), .val (.ref b3), .val (.int ((p1 / g) / g)), .val (.int (0 : Int32))] [(.int (((p1 / g) / g) % g)), (.int (0 : Int32)), (.ref b3)]
  obtain ⟨T32, h32, X32, e32, W32, V32, st32⟩ := own_stI X31 hx hZ e31 U23 (j := (0 : Int32)) ⟨by decide, by decide⟩ (Nat.le_of_ble_eq_true rfl) (g := (mkF m 31 #[.val (.ref r0), .val (.int p1), .val (.ref b3), .val (.int ((p1 / g) / g)), .val (.int (0 : Int32))] [(.int (((p1 / g) / g) % g)), (.int (0 : Int32)), (.ref b3)])) rfl rfl (hb hby d53_31)
  refine own_st st32 ?_
  have f_33 := f_24.other W32 (Or.inl ne_4)
  have f_34 := f_25.other W32 (Or.inl ne_4)
  have Z_35 := Nat.le_trans Z_26 (Nat.le_of_eq W32.size.symm)
  have K_36 := K_27.wr W32 (Or.inr S_6)
  have U32 : Arv Z h32 b3 k3 .int (3 : Int32) [(.int (((p1 / g) / g) % g)), (.int ((p1 / g) % g)), (.int (p1 % g))] (.int (0 : Int32)) := V32
  have N_37 := Fr.snoc X32 N_28 G_5
  show own_Go X32 (Q53 Z r0 p1 g h0 n0) 1 3 32 #[.val (.ref r0), .val (.int p1), .val (.ref b3), .val (.int ((p1 / g) / g)), .val (.int (0 : Int32))] []
  refine own_st (fun _ k => XS.iloadN X32.here hx rfl (hb hby d53_32) rfl k) ?_
  show own_Go X32 (Q53 Z r0 p1 g h0 n0) 1 3 33 #[.val (.ref r0), .val (.int p1), .val (.ref b3), .val (.int ((p1 / g) / g)), .val (.int (0 : Int32))] [(.int ((p1 / g) / g))]
  refine own_st (fun _ k => XS.aloadN X32.here hx rfl (hb hby d53_33) rfl rfl k) ?_
  show own_Go X32 (Q53 Z r0 p1 g h0 n0) 1 3 34 #[.val (.ref r0), .val (.int p1), .val (.ref b3), .val (.int ((p1 / g) / g)), .val (.int (0 : Int32))] [(.ref r0), (.int ((p1 / g) / g))]
  obtain ⟨T38, X38, e38, st38⟩ := getF X32 hx hZ hown (host := "") (Or.inl (hw _ (List.mem_of_getElem? (i := 27) rfl))) Via.refl e32 f_33 (g := (mkF m 34 #[.val (.ref r0), .val (.int p1), .val (.ref b3), .val (.int ((p1 / g) / g)), .val (.int (0 : Int32))] [(.ref r0), (.int ((p1 / g) / g))])) rfl rfl (hb hby d53_34)
  refine own_st st38 ?_
  show own_Go X38 (Q53 Z r0 p1 g h0 n0) 1 3 37 #[.val (.ref r0), .val (.int p1), .val (.ref b3), .val (.int ((p1 / g) / g)), .val (.int (0 : Int32))] [(.int g), (.int ((p1 / g) / g))]
  refine own_st (fun _ k => XS.idiv X38.here hx rfl (hb hby d53_37) rfl HG k) ?_
  show own_Go X38 (Q53 Z r0 p1 g h0 n0) 1 3 38 #[.val (.ref r0), .val (.int p1), .val (.ref b3), .val (.int ((p1 / g) / g)), .val (.int (0 : Int32))] [(.int (((p1 / g) / g) / g))]
  refine own_st (fun _ k => XS.istoreN X38.here hx rfl (hb hby d53_38) rfl (l' := #[.val (.ref r0), .val (.int p1), .val (.ref b3), .val (.int (((p1 / g) / g) / g)), .val (.int (0 : Int32))]) rfl k) ?_
  show own_Go X38 (Q53 Z r0 p1 g h0 n0) 1 3 39 #[.val (.ref r0), .val (.int p1), .val (.ref b3), .val (.int (((p1 / g) / g) / g)), .val (.int (0 : Int32))] []
  refine own_st (fun _ k => XS.iinc X38.here hx rfl (hb hby d53_39) rfl (l' := #[.val (.ref r0), .val (.int p1), .val (.ref b3), .val (.int (((p1 / g) / g) / g)), .val (.int (-1 : Int32))]) rfl k) ?_
  show own_Go X38 (Q53 Z r0 p1 g h0 n0) 1 3 42 #[.val (.ref r0), .val (.int p1), .val (.ref b3), .val (.int (((p1 / g) / g) / g)), .val (.int (-1 : Int32))] []
  refine own_st (fun _ k => XS.goto X38.here hx rfl (pc0 := 42) (pc' := 17) rfl (hb hby d53_42) (by decide) (by decide) k) ?_
  show own_Go X38 (Q53 Z r0 p1 g h0 n0) 1 3 17 #[.val (.ref r0), .val (.int p1), .val (.ref b3), .val (.int (((p1 / g) / g) / g)), .val (.int (-1 : Int32))] []
  refine own_st (fun _ k => XS.iload X38.here hx rfl (hb hby d53_17) rfl k) ?_
  show own_Go X38 (Q53 Z r0 p1 g h0 n0) 1 3 19 #[.val (.ref r0), .val (.int p1), .val (.ref b3), .val (.int (((p1 / g) / g) / g)), .val (.int (-1 : Int32))] [(.int (-1 : Int32))]
  have c19_39 : (-1 : Int32) < (0 : Int32) := (by decide)
  refine own_st (fun _ k => XS.ifYes X38.here hx rfl (pc0 := 19) (pc' := 45) rfl (hb hby d53_19) rfl ((if0 _ _).trans (tlt c19_39).1) (by decide) (by decide) k) ?_
  show own_Go X38 (Q53 Z r0 p1 g h0 n0) 1 3 45 #[.val (.ref r0), .val (.int p1), .val (.ref b3), .val (.int (((p1 / g) / g) / g)), .val (.int (-1 : Int32))] []
  refine own_st (fun _ k => XS.aloadN X38.here hx rfl (hb hby d53_45) rfl rfl k) ?_
  show own_Go X38 (Q53 Z r0 p1 g h0 n0) 1 3 46 #[.val (.ref r0), .val (.int p1), .val (.ref b3), .val (.int (((p1 / g) / g) / g)), .val (.int (-1 : Int32))] [(.ref b3)]
  refine own_retA X38 hx Bd.returns rfl hlk e38 (hb hby d53_46) (by decide) (by decide) ?_
  exact ⟨b3, k3, rfl, N_37, K_36, G_5, S_6, U32⟩
theorem d54_0 : decode prog_55_method_4_code 0 = .ok (.aload_n 0, 1) := by decide +kernel
theorem d54_1 : decode prog_55_method_4_code 1 = .ok (.getfield 40, 3) := by decide +kernel
theorem d54_4 : decode prog_55_method_4_code 4 = .ok (.newarray .int, 2) := by decide +kernel
theorem d54_6 : decode prog_55_method_4_code 6 = .ok (.astore_n 2, 1) := by decide +kernel
theorem d54_7 : decode prog_55_method_4_code 7 = .ok (.iload_n 1, 1) := by decide +kernel
theorem d54_8 : decode prog_55_method_4_code 8 = .ok (.istore_n 3, 1) := by decide +kernel
theorem d54_9 : decode prog_55_method_4_code 9 = .ok (.aload_n 0, 1) := by decide +kernel
theorem d54_10 : decode prog_55_method_4_code 10 = .ok (.getfield 40, 3) := by decide +kernel
theorem d54_13 : decode prog_55_method_4_code 13 = .ok (.iconst 1, 1) := by decide +kernel
theorem d54_14 : decode prog_55_method_4_code 14 = .ok (.isub, 1) := by decide +kernel
theorem d54_15 : decode prog_55_method_4_code 15 = .ok (.istore 4, 2) := by decide +kernel
theorem d54_17 : decode prog_55_method_4_code 17 = .ok (.iload 4, 2) := by decide +kernel
theorem d54_19 : decode prog_55_method_4_code 19 = .ok (.ifCond .lt 26, 3) := by decide +kernel
theorem d54_22 : decode prog_55_method_4_code 22 = .ok (.aload_n 2, 1) := by decide +kernel
theorem d54_23 : decode prog_55_method_4_code 23 = .ok (.iload 4, 2) := by decide +kernel
theorem d54_25 : decode prog_55_method_4_code 25 = .ok (.iload_n 3, 1) := by decide +kernel
theorem d54_26 : decode prog_55_method_4_code 26 = .ok (.aload_n 0, 1) := by decide +kernel
theorem d54_27 : decode prog_55_method_4_code 27 = .ok (.getfield 44, 3) := by decide +kernel
theorem d54_30 : decode prog_55_method_4_code 30 = .ok (.irem, 1) := by decide +kernel
theorem d54_31 : decode prog_55_method_4_code 31 = .ok (.iastore, 1) := by decide +kernel
theorem d54_32 : decode prog_55_method_4_code 32 = .ok (.iload_n 3, 1) := by decide +kernel
theorem d54_33 : decode prog_55_method_4_code 33 = .ok (.aload_n 0, 1) := by decide +kernel
theorem d54_34 : decode prog_55_method_4_code 34 = .ok (.getfield 44, 3) := by decide +kernel
theorem d54_37 : decode prog_55_method_4_code 37 = .ok (.idiv, 1) := by decide +kernel
theorem d54_38 : decode prog_55_method_4_code 38 = .ok (.istore_n 3, 1) := by decide +kernel
theorem d54_39 : decode prog_55_method_4_code 39 = .ok (.iinc 4 (-1), 3) := by decide +kernel
theorem d54_42 : decode prog_55_method_4_code 42 = .ok (.goto (-25), 3) := by decide +kernel
theorem d54_45 : decode prog_55_method_4_code 45 = .ok (.aload_n 2, 1) := by decide +kernel
theorem d54_46 : decode prog_55_method_4_code 46 = .ok (.areturn, 1) := by decide +kernel
theorem pn_54 : plainName "com/example/gingham/gingham/designs/CoveringArraySpec" = true := by first | (simp [plainName, overriddenIn]; done) | decide +kernel
theorem ef_54 (m : MethodId) (r0 : Addr) (p1 : Int32) : entryFrame m #[(.ref r0), (.int p1)] 5 = mkF m 0 #[.val (.ref r0), .val (.int p1), .unset, .unset, .unset] [] := by first | (simp [entryFrame, mkF, argsToLocals, Value.category]; done) | rfl
def Q54 (Z : State) (r0 : Addr) (p1 : Int32) (g : Int32) (h0 : Heap) (n0 : Nat) (v : Option Value) (h : Heap) (L : List Loc) : Prop := ∃ (b : Addr) (kA : ClassId), v = some (.ref b) ∧ Fr n0 L ∧ Keep h0 h [] ∧ n0 ≤ b ∧ h0.size ≤ b ∧ Arv Z h b kA .int (4 : Int32) [(.int ((((p1 / g) / g) / g) % g)), (.int (((p1 / g) / g) % g)), (.int ((p1 / g) % g)), (.int (p1 % g))] (.int (0 : Int32))
set_option maxRecDepth 65536 in
set_option maxHeartbeats 40000000 in
theorem rm54 (l : Launch) (Z : State) (a0 : Array Value) (hw : ∀ d ∈ tables_1, d.before a0 Z = true) (ws : List Jvm.Cond) (r0 : Addr) (p1 : Int32) (g : Int32) (h0 : Heap) (n0 : Nat) (Z0 : n0 ≤ h0.size) (P_levels : Fld Z h0 r0 "com/example/gingham/gingham/designs/CoveringArraySpec" "levels" "I" (.int g)) (P_strength : Fld Z h0 r0 "com/example/gingham/gingham/designs/CoveringArraySpec" "strength" "I" (.int (4 : Int32))) (HG : g ≠ 0) :
    MetFree l (⟨"com/example/gingham/gingham/designs/CoveringArraySpec", "tupleValues", "(I)[I"⟩ : MethodName) (head1 (Jvm.Cond.code (⟨"com/example/gingham/gingham/designs/CoveringArraySpec", "tupleValues", "(I)[I"⟩ : MethodName) prog_55_method_4_code 5 (some (.array .int)) :: ws) ({ frames := 0, cells := 1, slots := 4, locals := 0 } : Room)) (fun a U => a = #[(.ref r0), (.int p1)] ∧ Z.Warmed39 U.vm ∧ U.heap = h0) (fun _ _ _ _ _ => True) (fun _ U o U' => ∃ v L, o = .returned v ∧ Q54 Z r0 p1 g h0 n0 v U'.heap L ∧ FrameEnd U o U' L ({ frames := 0, cells := 1, slots := 4, locals := 0 } : Room).cells ({ frames := 0, cells := 1, slots := 4, locals := 0 } : Room).slots) := by
  refine MetFree.of_bodySF (plainFor_of_name pn_54) hisR ?_
  intro p e s m args below meth c s₁ Bd hml0 hP hK
  obtain ⟨rfl, hZ, hh⟩ := hP
  have hx := Bd.exec
  have hby := Bd.bytes
  have hml : c.maxLocals = 5 := hml0
  have hown : s.vm.findClass "com/example/gingham/gingham/designs/CoveringArraySpec" = some m.cls := findClass_of_methodNamed Bd.named
  have hnm := (name_of_methodNamed Bd.named Bd.method).1
  have hlk : meth.locks = false := Bd.notSynchronized
  have X0 : Stand p l e ({ frames := 0, cells := 1, slots := 4, locals := 0 } : Room) s m #[(.ref r0), (.int p1)] below meth c s₁ [] 0 0 := Stand.of_body Bd
  have e0 : s₁.heap = h0 := by rw [← hh, Bd.state]; rfl
  have N0 := Fr.nil n0
  refine own_cast (Q := Q54 Z r0 p1 g h0 n0) (kc := 1) (ks := 4) (ef_54 m r0 p1) ?_
  have K_1 := Keep.refl h0 []
  refine own_st (fun _ k => XS.aloadN X0.here hx rfl (hb hby d54_0) rfl rfl k) ?_
  show own_Go X0 (Q54 Z r0 p1 g h0 n0) 1 4 1 #[.val (.ref r0), .val (.int p1), .unset, .unset, .unset] [(.ref r0)]
  obtain ⟨T2, X2, e2, st2⟩ := getF X0 hx hZ hown (host := "") (Or.inl (hw _ (List.mem_of_getElem? (i := 23) rfl))) Via.refl e0 P_strength (g := (mkF m 1 #[.val (.ref r0), .val (.int p1), .unset, .unset, .unset] [(.ref r0)])) rfl rfl (hb hby d54_1)
  refine own_st st2 ?_
  show own_Go X2 (Q54 Z r0 p1 g h0 n0) 1 4 4 #[.val (.ref r0), .val (.int p1), .unset, .unset, .unset] [(.int (4 : Int32))]
  obtain ⟨T3, h3, k3, X3, e3, E3, A3, st3⟩ := newP X2 hx hZ (hw _ (List.mem_of_getElem? (i := 34) rfl)) e2 (g := (mkF m 4 #[.val (.ref r0), .val (.int p1), .unset, .unset, .unset] [(.int (4 : Int32))])) rfl (hb hby d54_4) rfl (by decide) (cap := 4) (by decide) (by decide) (by decide) (by decide)
  obtain ⟨b3, g3⟩ : ∃ z, z = h0.size := ⟨_, rfl⟩
  rw [← g3] at A3 st3
  refine own_st st3 ?_
  have ne_4 := Nat.ne_of_lt (Nat.lt_of_lt_of_le P_levels.lt (Nat.le_of_eq g3.symm))
  have G_5 := Nat.le_trans Z0 (Nat.le_of_eq g3.symm)
  have S_6 := Nat.le_trans K_1.1 (Nat.le_of_eq g3.symm)
  have f_7 := P_levels.ext E3
  have f_8 := P_strength.ext E3
  have Z_9 := Nat.le_trans Z0 E3.1
  have K_10 := K_1.ext E3
  have V3 : Arv Z h3 b3 k3 .int (4 : Int32) [(.int (0 : Int32)), (.int (0 : Int32)), (.int (0 : Int32)), (.int (0 : Int32))] (.int (0 : Int32)) := (Arv.new A3 (by decide)).pad (pad_rep [] (.int (0 : Int32)) 4)
  show own_Go X3 (Q54 Z r0 p1 g h0 n0) 1 4 6 #[.val (.ref r0), .val (.int p1), .unset, .unset, .unset] [(.ref b3)]
  refine own_st (fun _ k => XS.astoreN X3.here hx rfl (hb hby d54_6) rfl rfl (l' := #[.val (.ref r0), .val (.int p1), .val (.ref b3), .unset, .unset]) rfl k) ?_
  show own_Go X3 (Q54 Z r0 p1 g h0 n0) 1 4 7 #[.val (.ref r0), .val (.int p1), .val (.ref b3), .unset, .unset] []
  refine own_st (fun _ k => XS.iloadN X3.here hx rfl (hb hby d54_7) rfl k) ?_
  show own_Go X3 (Q54 Z r0 p1 g h0 n0) 1 4 8 #[.val (.ref r0), .val (.int p1), .val (.ref b3), .unset, .unset] [(.int p1)]
  refine own_st (fun _ k => XS.istoreN X3.here hx rfl (hb hby d54_8) rfl (l' := #[.val (.ref r0), .val (.int p1), .val (.ref b3), .val (.int p1), .unset]) rfl k) ?_
  show own_Go X3 (Q54 Z r0 p1 g h0 n0) 1 4 9 #[.val (.ref r0), .val (.int p1), .val (.ref b3), .val (.int p1), .unset] []
  refine own_st (fun _ k => XS.aloadN X3.here hx rfl (hb hby d54_9) rfl rfl k) ?_
  show own_Go X3 (Q54 Z r0 p1 g h0 n0) 1 4 10 #[.val (.ref r0), .val (.int p1), .val (.ref b3), .val (.int p1), .unset] [(.ref r0)]
  obtain ⟨T11, X11, e11, st11⟩ := getF X3 hx hZ hown (host := "") (Or.inl (hw _ (List.mem_of_getElem? (i := 23) rfl))) Via.refl e3 f_8 (g := (mkF m 10 #[.val (.ref r0), .val (.int p1), .val (.ref b3), .val (.int p1), .unset] [(.ref r0)])) rfl rfl (hb hby d54_10)
  refine own_st st11 ?_
  show own_Go X11 (Q54 Z r0 p1 g h0 n0) 1 4 13 #[.val (.ref r0), .val (.int p1), .val (.ref b3), .val (.int p1), .unset] [(.int (4 : Int32))]
  refine own_st (fun _ k => XS.iconst X11.here hx rfl (hb hby d54_13) k) ?_
  show own_Go X11 (Q54 Z r0 p1 g h0 n0) 1 4 14 #[.val (.ref r0), .val (.int p1), .val (.ref b3), .val (.int p1), .unset] [(.int (1 : Int32)), (.int (4 : Int32))]
  refine own_st (fun _ k => XS.isub X11.here hx rfl (hb hby d54_14) rfl k) ?_
  show own_Go X11 (Q54 Z r0 p1 g h0 n0) 1 4 15 #[.val (.ref r0), .val (.int p1), .val (.ref b3), .val (.int p1), .unset] [(.int (3 : Int32))]
  refine own_st (fun _ k => XS.istore X11.here hx rfl (hb hby d54_15) rfl (l' := #[.val (.ref r0), .val (.int p1), .val (.ref b3), .val (.int p1), .val (.int (3 : Int32))]) rfl k) ?_
  show own_Go X11 (Q54 Z r0 p1 g h0 n0) 1 4 17 #[.val (.ref r0), .val (.int p1), .val (.ref b3), .val (.int p1), .val (.int (3 : Int32))] []
  refine own_st (fun _ k => XS.iload X11.here hx rfl (hb hby d54_17) rfl k) ?_
  show own_Go X11 (Q54 Z r0 p1 g h0 n0) 1 4 19 #[.val (.ref r0), .val (.int p1), .val (.ref b3), .val (.int p1), .val (.int (3 : Int32))] [(.int (3 : Int32))]
  have c19_12 : ¬ ((3 : Int32) < (0 : Int32)) := (by decide)
  refine own_st (fun _ k => XS.ifNo X11.here hx rfl (hb hby d54_19) rfl ((if0 _ _).trans (flt c19_12).1) k) ?_
  show own_Go X11 (Q54 Z r0 p1 g h0 n0) 1 4 22 #[.val (.ref r0), .val (.int p1), .val (.ref b3), .val (.int p1), .val (.int (3 : Int32))] []
  refine own_st (fun _ k => XS.aloadN X11.here hx rfl (hb hby d54_22) rfl rfl k) ?_
  show own_Go X11 (Q54 Z r0 p1 g h0 n0) 1 4 23 #[.val (.ref r0), .val (.int p1), .val (.ref b3), .val (.int p1), .val (.int (3 : Int32))] [(.ref b3)]
  refine own_st (fun _ k => XS.iload X11.here hx rfl (hb hby d54_23) rfl k) ?_
  show own_Go X11 (Q54 Z r0 p1 g h0 n0) 1 4 25 #[.val (.ref r0), .val (.int p1), .val (.ref b3), .val (.int p1), .val (.int (3 : Int32))] [(.int (3 : Int32)), (.ref b3)]
  refine own_st (fun _ k => XS.iloadN X11.here hx rfl (hb hby d54_25) rfl k) ?_
  show own_Go X11 (Q54 Z r0 p1 g h0 n0) 1 4 26 #[.val (.ref r0), .val (.int p1), .val (.ref b3), .val (.int p1), .val (.int (3 : Int32))] [(.int p1), (.int (3 : Int32)), (.ref b3)]
  refine own_st (fun _ k => XS.aloadN X11.here hx rfl (hb hby d54_26) rfl rfl k) ?_
  show own_Go X11 (Q54 Z r0 p1 g h0 n0) 1 4 27 #[.val (.ref r0), .val (.int p1), .val (.ref b3), .val (.int p1), .val (.int (3 : Int32))] [(.ref r0), (.int p1), (.int (3 : Int32)), (.ref b3)]
  obtain ⟨T13, X13, e13, st13⟩ := getF X11 hx hZ hown (host := "") (Or.inl (hw _ (List.mem_of_getElem? (i := 27) rfl))) Via.refl e11 f_7 (g := (mkF m 27 #[.val (.ref r0), .val (.int p1), .val (.ref b3), .val (.int p1), .val (.int (3 : Int32))] [(.ref r0), (.int p1), (.int (3 : Int32)), (.ref b3)])) rfl rfl (hb hby d54_27)
  refine own_st st13 ?_
  show own_Go X13 (Q54 Z r0 p1 g h0 n0) 1 4 30 #[.val (.ref r0), .val (.int p1), .val (.ref b3), .val (.int p1), .val (.int (3 : Int32))] [(.int g), (.int p1), (.int (3 : Int32)), (.ref b3)]
  refine own_st (fun _ k => iremM X13 hx rfl (hb hby d54_30) rfl HG k) ?_
  show own_Go X13 (Q54 Z r0 p1 g h0 n0) 1 4 31 #[.val (.ref r0), .val (.int p1), .val (.ref b3), .val (.int p1), .val (.int (3 : Int32))] [(.int (p1 % g)), (.int (3 : Int32)), (.ref b3)]
  obtain ⟨T14, h14, X14, e14, W14, V14, st14⟩ := own_stI X13 hx hZ e13 V3 (j := (3 : Int32)) ⟨by decide, by decide⟩ (Nat.le_of_ble_eq_true rfl) (g := (mkF m 31 #[.val (.ref r0), .val (.int p1), .val (.ref b3), .val (.int p1), .val (.int (3 : Int32))] [(.int (p1 % g)), (.int (3 : Int32)), (.ref b3)])) rfl rfl (hb hby d54_31)
  refine own_st st14 ?_
  have f_15 := f_7.other W14 (Or.inl ne_4)
  have f_16 := f_8.other W14 (Or.inl ne_4)
  have Z_17 := Nat.le_trans Z_9 (Nat.le_of_eq W14.size.symm)
  have K_18 := K_10.wr W14 (Or.inr S_6)
  have U14 : Arv Z h14 b3 k3 .int (4 : Int32) [(.int (0 : Int32)), (.int (0 : Int32)), (.int (0 : Int32)), (.int (p1 % g))] (.int (0 : Int32)) := V14
  have N_19 := Fr.snoc X14 N0 G_5
  show own_Go X14 (Q54 Z r0 p1 g h0 n0) 1 4 32 #[.val (.ref r0), .val (.int p1), .val (.ref b3), .val (.int p1), .val (.int (3 : Int32))] []
  refine own_st (fun _ k => XS.iloadN X14.here hx rfl (hb hby d54_32) rfl k) ?_
  show own_Go X14 (Q54 Z r0 p1 g h0 n0) 1 4 33 #[.val (.ref r0), .val (.int p1), .val (.ref b3), .val (.int p1), .val (.int (3 : Int32))] [(.int p1)]
  refine own_st (fun _ k => XS.aloadN X14.here hx rfl (hb hby d54_33) rfl rfl k) ?_
  show own_Go X14 (Q54 Z r0 p1 g h0 n0) 1 4 34 #[.val (.ref r0), .val (.int p1), .val (.ref b3), .val (.int p1), .val (.int (3 : Int32))] [(.ref r0), (.int p1)]
  obtain ⟨T20, X20, e20, st20⟩ := getF X14 hx hZ hown (host := "") (Or.inl (hw _ (List.mem_of_getElem? (i := 27) rfl))) Via.refl e14 f_15 (g := (mkF m 34 #[.val (.ref r0), .val (.int p1), .val (.ref b3), .val (.int p1), .val (.int (3 : Int32))] [(.ref r0), (.int p1)])) rfl rfl (hb hby d54_34)
  refine own_st st20 ?_
  show own_Go X20 (Q54 Z r0 p1 g h0 n0) 1 4 37 #[.val (.ref r0), .val (.int p1), .val (.ref b3), .val (.int p1), .val (.int (3 : Int32))] [(.int g), (.int p1)]
  refine own_st (fun _ k => XS.idiv X20.here hx rfl (hb hby d54_37) rfl HG k) ?_
  show own_Go X20 (Q54 Z r0 p1 g h0 n0) 1 4 38 #[.val (.ref r0), .val (.int p1), .val (.ref b3), .val (.int p1), .val (.int (3 : Int32))] [(.int (p1 / g))]
  refine own_st (fun _ k => XS.istoreN X20.here hx rfl (hb hby d54_38) rfl (l' := #[.val (.ref r0), .val (.int p1), .val (.ref b3), .val (.int (p1 / g)), .val (.int (3 : Int32))]) rfl k) ?_
  show own_Go X20 (Q54 Z r0 p1 g h0 n0) 1 4 39 #[.val (.ref r0), .val (.int p1), .val (.ref b3), .val (.int (p1 / g)), .val (.int (3 : Int32))] []
  refine own_st (fun _ k => XS.iinc X20.here hx rfl (hb hby d54_39) rfl (l' := #[.val (.ref r0), .val (.int p1), .val (.ref b3), .val (.int (p1 / g)), .val (.int (2 : Int32))]) rfl k) ?_
  show own_Go X20 (Q54 Z r0 p1 g h0 n0) 1 4 42 #[.val (.ref r0), .val (.int p1), .val (.ref b3), .val (.int (p1 / g)), .val (.int (2 : Int32))] []
  refine own_st (fun _ k => XS.goto X20.here hx rfl (pc0 := 42) (pc' := 17) rfl (hb hby d54_42) (by decide) (by decide) k) ?_
  show own_Go X20 (Q54 Z r0 p1 g h0 n0) 1 4 17 #[.val (.ref r0), .val (.int p1), .val (.ref b3), .val (.int (p1 / g)), .val (.int (2 : Int32))] []
  refine own_st (fun _ k => XS.iload X20.here hx rfl (hb hby d54_17) rfl k) ?_
  show own_Go X20 (Q54 Z r0 p1 g h0 n0) 1 4 19 #[.val (.ref r0), .val (.int p1), .val (.ref b3), .val (.int (p1 / g)), .val (.int (2 : Int32))] [(.int (2 : Int32))]
  have c19_21 : ¬ ((2 : Int32) < (0 : Int32)) := (by decide)
  refine own_st (fun _ k => XS.ifNo X20.here hx rfl (hb hby d54_19) rfl ((if0 _ _).trans (flt c19_21).1) k) ?_
  show own_Go X20 (Q54 Z r0 p1 g h0 n0) 1 4 22 #[.val (.ref r0), .val (.int p1), .val (.ref b3), .val (.int (p1 / g)), .val (.int (2 : Int32))] []
  refine own_st (fun _ k => XS.aloadN X20.here hx rfl (hb hby d54_22) rfl rfl k) ?_
  show own_Go X20 (Q54 Z r0 p1 g h0 n0) 1 4 23 #[.val (.ref r0), .val (.int p1), .val (.ref b3), .val (.int (p1 / g)), .val (.int (2 : Int32))] [(.ref b3)]
  refine own_st (fun _ k => XS.iload X20.here hx rfl (hb hby d54_23) rfl k) ?_
  show own_Go X20 (Q54 Z r0 p1 g h0 n0) 1 4 25 #[.val (.ref r0), .val (.int p1), .val (.ref b3), .val (.int (p1 / g)), .val (.int (2 : Int32))] [(.int (2 : Int32)), (.ref b3)]
  refine own_st (fun _ k => XS.iloadN X20.here hx rfl (hb hby d54_25) rfl k) ?_
  show own_Go X20 (Q54 Z r0 p1 g h0 n0) 1 4 26 #[.val (.ref r0), .val (.int p1), .val (.ref b3), .val (.int (p1 / g)), .val (.int (2 : Int32))] [(.int (p1 / g)), (.int (2 : Int32)), (.ref b3)]
  refine own_st (fun _ k => XS.aloadN X20.here hx rfl (hb hby d54_26) rfl rfl k) ?_
  show own_Go X20 (Q54 Z r0 p1 g h0 n0) 1 4 27 #[.val (.ref r0), .val (.int p1), .val (.ref b3), .val (.int (p1 / g)), .val (.int (2 : Int32))] [(.ref r0), (.int (p1 / g)), (.int (2 : Int32)), (.ref b3)]
  obtain ⟨T22, X22, e22, st22⟩ := getF X20 hx hZ hown (host := "") (Or.inl (hw _ (List.mem_of_getElem? (i := 27) rfl))) Via.refl e20 f_15 (g := (mkF m 27 #[.val (.ref r0), .val (.int p1), .val (.ref b3), .val (.int (p1 / g)), .val (.int (2 : Int32))] [(.ref r0), (.int (p1 / g)), (.int (2 : Int32)), (.ref b3)])) rfl rfl (hb hby d54_27)
  refine own_st st22 ?_
  show own_Go X22 (Q54 Z r0 p1 g h0 n0) 1 4 30 #[.val (.ref r0), .val (.int p1), .val (.ref b3), .val (.int (p1 / g)), .val (.int (2 : Int32))] [(.int g), (.int (p1 / g)), (.int (2 : Int32)), (.ref b3)]
  refine own_st (fun _ k => iremM X22 hx rfl (hb hby d54_30) rfl HG k) ?_
  show own_Go X22 (Q54 Z r0 p1 g h0 n0) 1 4 31 #[.val (.ref r0), .val (.int p1), .val (.ref b3), .val (.int (p1 / g)), .val (.int (2 : Int32))] [(.int ((p1 / g) % g)), (.int (2 : Int32)), (.ref b3)]
  obtain ⟨T23, h23, X23, e23, W23, V23, st23⟩ := own_stI X22 hx hZ e22 U14 (j := (2 : Int32)) ⟨by decide, by decide⟩ (Nat.le_of_ble_eq_true rfl) (g := (mkF m 31 #[.val (.ref r0), .val (.int p1), .val (.ref b3), .val (.int (p1 / g)), .val (.int (2 : Int32))] [(.int ((p1 / g) % g)), (.int (2 : Int32)), (.ref b3)])) rfl rfl (hb hby d54_31)
  refine own_st st23 ?_
  have f_24 := f_15.other W23 (Or.inl ne_4)
  have f_25 := f_16.other W23 (Or.inl ne_4)
  have Z_26 := Nat.le_trans Z_17 (Nat.le_of_eq W23.size.symm)
  have K_27 := K_18.wr W23 (Or.inr S_6)
  have U23 : Arv Z h23 b3 k3 .int (4 : Int32) [(.int (0 : Int32)), (.int (0 : Int32)), (.int ((p1 / g) % g)), (.int (p1 % g))] (.int (0 : Int32)) := V23
  have N_28 := Fr.snoc X23 N_19 G_5
  show own_Go X23 (Q54 Z r0 p1 g h0 n0) 1 4 32 #[.val (.ref r0), .val (.int p1), .val (.ref b3), .val (.int (p1 / g)), .val (.int (2 : Int32))] []
  refine own_st (fun _ k => XS.iloadN X23.here hx rfl (hb hby d54_32) rfl k) ?_
  show own_Go X23 (Q54 Z r0 p1 g h0 n0) 1 4 33 #[.val (.ref r0), .val (.int p1), .val (.ref b3), .val (.int (p1 / g)), .val (.int (2 : Int32))] [(.int (p1 / g))]
  refine own_st (fun _ k => XS.aloadN X23.here hx rfl (hb hby d54_33) rfl rfl k) ?_
  show own_Go X23 (Q54 Z r0 p1 g h0 n0) 1 4 34 #[.val (.ref r0), .val (.int p1), .val (.ref b3), .val (.int (p1 / g)), .val (.int (2 : Int32))] [(.ref r0), (.int (p1 / g))]
  obtain ⟨T29, X29, e29, st29⟩ := getF X23 hx hZ hown (host := "") (Or.inl (hw _ (List.mem_of_getElem? (i := 27) rfl))) Via.refl e23 f_24 (g := (mkF m 34 #[.val (.ref r0), .val (.int p1), .val (.ref b3), .val (.int (p1 / g)), .val (.int (2 : Int32))] [(.ref r0), (.int (p1 / g))])) rfl rfl (hb hby d54_34)
  refine own_st st29 ?_
  show own_Go X29 (Q54 Z r0 p1 g h0 n0) 1 4 37 #[.val (.ref r0), .val (.int p1), .val (.ref b3), .val (.int (p1 / g)), .val (.int (2 : Int32))] [(.int g), (.int (p1 / g))]
  refine own_st (fun _ k => XS.idiv X29.here hx rfl (hb hby d54_37) rfl HG k) ?_
  show own_Go X29 (Q54 Z r0 p1 g h0 n0) 1 4 38 #[.val (.ref r0), .val (.int p1), .val (.ref b3), .val (.int (p1 / g)), .val (.int (2 : Int32))] [(.int ((p1 / g) / g))]
  refine own_st (fun _ k => XS.istoreN X29.here hx rfl (hb hby d54_38) rfl (l' := #[.val (.ref r0), .val (.int p1), .val (.ref b3), .val (.int ((p1 / g) / g)), .val (.int (2 : Int32))]) rfl k) ?_
  show own_Go X29 (Q54 Z r0 p1 g h0 n0) 1 4 39 #[.val (.ref r0), .val (.int p1), .val (.ref b3), .val (.int ((p1 / g) / g)), .val (.int (2 : Int32))] []
  refine own_st (fun _ k => XS.iinc X29.here hx rfl (hb hby d54_39) rfl (l' := #[.val (.ref r0), .val (.int p1), .val (.ref b3), .val (.int ((p1 / g) / g)), .val (.int (1 : Int32))]) rfl k) ?_
  show own_Go X29 (Q54 Z r0 p1 g h0 n0) 1 4 42 #[.val (.ref r0), .val (.int p1), .val (.ref b3), .val (.int ((p1 / g) / g)), .val (.int (1 : Int32))] []
  refine own_st (fun _ k => XS.goto X29.here hx rfl (pc0 := 42) (pc' := 17) rfl (hb hby d54_42) (by decide) (by decide) k) ?_
  show own_Go X29 (Q54 Z r0 p1 g h0 n0) 1 4 17 #[.val (.ref r0), .val (.int p1), .val (.ref b3), .val (.int ((p1 / g) / g)), .val (.int (1 : Int32))] []
  refine own_st (fun _ k => XS.iload X29.here hx rfl (hb hby d54_17) rfl k) ?_
  show own_Go X29 (Q54 Z r0 p1 g h0 n0) 1 4 19 #[.val (.ref r0), .val (.int p1), .val (.ref b3), .val (.int ((p1 / g) / g)), .val (.int (1 : Int32))] [(.int (1 : Int32))]
  have c19_30 : ¬ ((1 : Int32) < (0 : Int32)) := (by decide)
  refine own_st (fun _ k => XS.ifNo X29.here hx rfl (hb hby d54_19) rfl ((if0 _ _).trans (flt c19_30).1) k) ?_
  show own_Go X29 (Q54 Z r0 p1 g h0 n0) 1 4 22 #[.val (.ref r0), .val (.int p1), .val (.ref b3), .val (.int ((p1 / g) / g)), .val (.int (1 : Int32))] []
  refine own_st (fun _ k => XS.aloadN X29.here hx rfl (hb hby d54_22) rfl rfl k) ?_
  show own_Go X29 (Q54 Z r0 p1 g h0 n0) 1 4 23 #[.val (.ref r0), .val (.int p1), .val (.ref b3), .val (.int ((p1 / g) / g)), .val (.int (1 : Int32))] [(.ref b3)]
  refine own_st (fun _ k => XS.iload X29.here hx rfl (hb hby d54_23) rfl k) ?_
  show own_Go X29 (Q54 Z r0 p1 g h0 n0) 1 4 25 #[.val (.ref r0), .val (.int p1), .val (.ref b3), .val (.int ((p1 / g) / g)), .val (.int (1 : Int32))] [(.int (1 : Int32)), (.ref b3)]
  refine own_st (fun _ k => XS.iloadN X29.here hx rfl (hb hby d54_25) rfl k) ?_
  show own_Go X29 (Q54 Z r0 p1 g h0 n0) 1 4 26 #[.val (.ref r0), .val (.int p1), .val (.ref b3), .val (.int ((p1 / g) / g)), .val (.int (1 : Int32))] [(.int ((p1 / g) / g)), (.int (1 : Int32)), (.ref b3)]
  refine own_st (fun _ k => XS.aloadN X29.here hx rfl (hb hby d54_26) rfl rfl k) ?_
  show own_Go X29 (Q54 Z r0 p1 g h0 n0) 1 4 27 #[.val (.ref r0), .val (.int p1), .val (.ref b3), .val (.int ((p1 / g) / g)), .val (.int (1 : Int32))] [(.ref r0), (.int ((p1 / g) / g)), (.int (1 : Int32)), (.ref b3)]
  obtain ⟨T31, X31, e31, st31⟩ := getF X29 hx hZ hown (host := "") (Or.inl (hw _ (List.mem_of_getElem? (i := 27) rfl))) Via.refl e29 f_24 (g := (mkF m 27 #[.val (.ref r0), .val (.int p1), .val (.ref b3), .val (.int ((p1 / g) / g)), .val (.int (1 : Int32))] [(.ref r0), (.int ((p1 / g) / g)), (.int (1 : Int32)), (.ref b3)])) rfl rfl (hb hby d54_27)
  refine own_st st31 ?_
  show own_Go X31 (Q54 Z r0 p1 g h0 n0) 1 4 30 #[.val (.ref r0), .val (.int p1), .val (.ref b3), .val (.int ((p1 / g) / g)), .val (.int (1 : Int32))] [(.int g), (.int ((p1 / g) / g)), (.int (1 : Int32)), (.ref b3)]
  refine own_st (fun _ k => iremM X31 hx rfl (hb hby d54_30) rfl HG k) ?_
  show own_Go X31 (Q54 Z r0 p1 g h0 n0) 1 4 31 #[.val (.ref r0), .val (.int p1), .val (.ref b3), .val (.int ((p1 / g) / g)), .val (.int (1 : Int32))] [(.int (((p1 / g) / g) % g)), (.int (1 : Int32)), (.ref b3)]
  obtain ⟨T32, h32, X32, e32, W32, V32, st32⟩ := own_stI X31 hx hZ e31 U23 (j := (1 : Int32)) ⟨by decide, by decide⟩ (Nat.le_of_ble_eq_true rfl) (g := (mkF m 31 #[.val (.ref r0), .val (.int p1), .val (.ref b3), .val (.int ((p1 / g) / g)), .val (.int (1 : Int32))] [(.int (((p1 / g) / g) % g)), (.int (1 : Int32)), (.ref b3)])) rfl rfl (hb hby d54_31)
  refine own_st st32 ?_
  have f_33 := f_24.other W32 (Or.inl ne_4)
  have f_34 := f_25.other W32 (Or.inl ne_4)
  have Z_35 := Nat.le_trans Z_26 (Nat.le_of_eq W32.size.symm)
  have K_36 := K_27.wr W32 (Or.inr S_6)
  have U32 : Arv Z h32 b3 k3 .int (4 : Int32) [(.int (0 : Int32)), (.int (((p1 / g) / g) % g)), (.int ((p1 / g) % g)), (.int (p1 % g))] (.int (0 : Int32)) := V32
  have N_37 := Fr.snoc X32 N_28 G_5
  show own_Go X32 (Q54 Z r0 p1 g h0 n0) 1 4 32 #[.val (.ref r0), .val (.int p1), .val (.ref b3), .val (.int ((p1 / g) / g)), .val (.int (1 : Int32))] []
  refine own_st (fun _ k => XS.iloadN X32.here hx rfl (hb hby d54_32) rfl k) ?_
  show own_Go X32 (Q54 Z r0 p1 g h0 n0) 1 4 33 #[.val (.ref r0), .val (.int p1), .val (.ref b3), .val (.int ((p1 / g) / g)), .val (.int (1 : Int32))] [(.int ((p1 / g) / g))]
  refine own_st (fun _ k => XS.aloadN X32.here hx rfl (hb hby d54_33) rfl rfl k) ?_
  show own_Go X32 (Q54 Z r0 p1 g h0 n0) 1 4 34 #[.val (.ref r0), .val (.int p1), .val (.ref b3), .val (.int ((p1 / g) / g)), .val (.int (1 : Int32))] [(.ref r0), (.int ((p1 / g) / g))]
  obtain ⟨T38, X38, e38, st38⟩ := getF X32 hx hZ hown (host := "") (Or.inl (hw _ (List.mem_of_getElem? (i := 27) rfl))) Via.refl e32 f_33 (g := (mkF m 34 #[.val (.ref r0), .val (.int p1), .val (.ref b3), .val (.int ((p1 / g) / g)), .val (.int (1 : Int32))] [(.ref r0), (.int ((p1 / g) / g))])) rfl rfl (hb hby d54_34)
  refine own_st st38 ?_
  show own_Go X38 (Q54 Z r0 p1 g h0 n0) 1 4 37 #[.val (.ref r0), .val (.int p1), .val (.ref b3), .val (.int ((p1 / g) / g)), .val (.int (1 : Int32))] [(.int g), (.int ((p1 / g) / g))]
  refine own_st (fun _ k => XS.idiv X38.here hx rfl (hb hby d54_37) rfl HG k) ?_
  show own_Go X38 (Q54 Z r0 p1 g h0 n0) 1 4 38 #[.val (.ref r0), .val (.int p1), .val (.ref b3), .val (.int ((p1 / g) / g)), .val (.int (1 : Int32))] [(.int (((p1 / g) / g) / g))]
  refine own_st (fun _ k => XS.istoreN X38.here hx rfl (hb hby d54_38) rfl (l' := #[.val (.ref r0), .val (.int p1), .val (.ref b3), .val (.int (((p1 / g) / g) / g)), .val (.int (1 : Int32))]) rfl k) ?_
  show own_Go X38 (Q54 Z r0 p1 g h0 n0) 1 4 39 #[.val (.ref r0), .val (.int p1), .val (.ref b3), .val (.int (((p1 / g) / g) / g)), .val (.int (1 : Int32))] []
  refine own_st (fun _ k => XS.iinc X38.here hx rfl (hb hby d54_39) rfl (l' := #[.val (.ref r0), .val (.int p1), .val (.ref b3), .val (.int (((p1 / g) / g) / g)), .val (.int (0 : Int32))]) rfl k) ?_
  show own_Go X38 (Q54 Z r0 p1 g h0 n0) 1 4 42 #[.val (.ref r0), .val (.int p1), .val (.ref b3), .val (.int (((p1 / g) / g) / g)), .val (.int (0 : Int32))] []
  refine own_st (fun _ k => XS.goto X38.here hx rfl (pc0 := 42) (pc' := 17) rfl (hb hby d54_42) (by decide) (by decide) k) ?_
  show own_Go X38 (Q54 Z r0 p1 g h0 n0) 1 4 17 #[.val (.ref r0), .val (.int p1), .val (.ref b3), .val (.int (((p1 / g) / g) / g)), .val (.int (0 : Int32))] []
  refine own_st (fun _ k => XS.iload X38.here hx rfl (hb hby d54_17) rfl k) ?_
  show own_Go X38 (Q54 Z r0 p1 g h0 n0) 1 4 19 #[.val (.ref r0), .val (.int p1), .val (.ref b3), .val (.int (((p1 / g) / g) / g)), .val (.int (0 : Int32))] [(.int (0 : Int32))]
  have c19_39 : ¬ ((0 : Int32) < (0 : Int32)) := (by decide)
  refine own_st (fun _ k => XS.ifNo X38.here hx rfl (hb hby d54_19) rfl ((if0 _ _).trans (flt c19_39).1) k) ?_
  show own_Go X38 (Q54 Z r0 p1 g h0 n0) 1 4 22 #[.val (.ref r0), .val (.int p1), .val (.ref b3), .val (.int (((p1 / g) / g) / g)), .val (.int (0 : Int32))] []
  refine own_st (fun _ k => XS.aloadN X38.here hx rfl (hb hby d54_22) rfl rfl k) ?_
  show own_Go X38 (Q54 Z r0 p1 g h0 n0) 1 4 23 #[.val (.ref r0), .val (.int p1), .val (.ref b3), .val (.int (((p1 / g) / g) / g)), .val (.int (0 : Int32))] [(.ref b3)]
  refine own_st (fun _ k => XS.iload X38.here hx rfl (hb hby d54_23) rfl k) ?_
  show own_Go X38 (Q54 Z r0 p1 g h0 n0) 1 4 25 #[.val (.ref r0), .val (.int p1), .val (.ref b3), .val (.int (((p1 / g) / g) / g)), .val (.int (0 : Int32))] [(.int (0 : Int32)), (.ref b3)]
  refine own_st (fun _ k => XS.iloadN X38.here hx rfl (hb hby d54_25) rfl k) ?_
  show own_Go X38 (Q54 Z r0 p1 g h0 n0) 1 4 26 #[.val (.ref r0), .val (.int p1), .val (.ref b3), .val (.int (((p1 / g) / g) / g)), .val (.int (0 : Int32))] [(.int (((p1 / g) / g) / g)), (.int (0 : Int32)), (.ref b3)]
  refine own_st (fun _ k => XS.aloadN X38.here hx rfl (hb hby d54_26) rfl rfl k) ?_
  show own_Go X38 (Q54 Z r0 p1 g h0 n0) 1 4 27 #[.val (.ref r0), .val (.int p1), .val (.ref b3), .val (.int (((p1 / g) / g) / g)), .val (.int (0 : Int32))] [(.ref r0), (.int (((p1 / g) / g) / g)), (.int (0 : Int32)), (.ref b3)]
  obtain ⟨T40, X40, e40, st40⟩ := getF X38 hx hZ hown (host := "") (Or.inl (hw _ (List.mem_of_getElem? (i := 27) rfl))) Via.refl e38 f_33 (g := (mkF m 27 #[.val (.ref r0), .val (.int p1), .val (.ref b3), .val (.int (((p1 / g) / g) / g)), .val (.int (0 : Int32))] [(.ref r0), (.int (((p1 / g) / g) / g)), (.int (0 : Int32)), (.ref b3)])) rfl rfl (hb hby d54_27)
  refine own_st st40 ?_
  show own_Go X40 (Q54 Z r0 p1 g h0 n0) 1 4 30 #[.val (.ref r0), .val (.int p1), .val (.ref b3), .val (.int (((p1 / g) / g) / g)), .val (.int (0 : Int32))] [(.int g), (.int (((p1 / g) / g) / g)), (.int (0 : Int32)), (.ref b3)]
  refine own_st (fun _ k => iremM X40 hx rfl (hb hby d54_30) rfl HG k) ?_
  show own_Go X40 (Q54 Z r0 p1 g h0 n0) 1 4 31 #[.val (.ref r0), .val (.int p1), .val (.ref b3), .val (.int (((p1 / g) / g) / g)), .val (.int (0 : Int32))] [(.int ((((p1 / g) / g) / g) % g)), (.int (0 : Int32)), (.ref b3)]
  obtain ⟨T41, h41, X41, e41, W41, V41, st41⟩ := own_stI X40 hx hZ e40 U32 (j := (0 : Int32)) ⟨by decide, by decide⟩ (Nat.le_of_ble_eq_true rfl) (g := (mkF m 31 #[.val (.ref r0), .val (.int p1), .val (.ref b3), .val (.int (((p1 / g) / g) / g)), .val (.int (0 : Int32))] [(.int ((((p1 / g) / g) / g) % g)), (.int (0 : Int32)), (.ref b3)])) rfl rfl (hb hby d54_31)
  refine own_st st41 ?_
  have f_42 := f_33.other W41 (Or.inl ne_4)
  have f_43 := f_34.other W41 (Or.inl ne_4)
  have Z_44 := Nat.le_trans Z_35 (Nat.le_of_eq W41.size.symm)
  have K_45 := K_36.wr W41 (Or.inr S_6)
  have U41 : Arv Z h41 b3 k3 .int (4 : Int32) [(.int ((((p1 / g) / g) / g) % g)), (.int (((p1 / g) / g) % g)), (.int ((p1 / g) % g)), (.int (p1 % g))] (.int (0 : Int32)) := V41
  have N_46 := Fr.snoc X41 N_37 G_5
  show own_Go X41 (Q54 Z r0 p1 g h0 n0) 1 4 32 #[.val (.ref r0), .val (.int p1), .val (.ref b3), .val (.int (((p1 / g) / g) / g)), .val (.int (0 : Int32))] []
  refine own_st (fun _ k => XS.iloadN X41.here hx rfl (hb hby d54_32) rfl k) ?_
  show own_Go X41 (Q54 Z r0 p1 g h0 n0) 1 4 33 #[.val (.ref r0), .val (.int p1), .val (.ref b3), .val (.int (((p1 / g) / g) / g)), .val (.int (0 : Int32))] [(.int (((p1 / g) / g) / g))]
  refine own_st (fun _ k => XS.aloadN X41.here hx rfl (hb hby d54_33) rfl rfl k) ?_
  show own_Go X41 (Q54 Z r0 p1 g h0 n0) 1 4 34 #[.val (.ref r0), .val (.int p1), .val (.ref b3), .val (.int (((p1 / g) / g) / g)), .val (.int (0 : Int32))] [(.ref r0), (.int (((p1 / g) / g) / g))]
  obtain ⟨T47, X47, e47, st47⟩ := getF X41 hx hZ hown (host := "") (Or.inl (hw _ (List.mem_of_getElem? (i := 27) rfl))) Via.refl e41 f_42 (g := (mkF m 34 #[.val (.ref r0), .val (.int p1), .val (.ref b3), .val (.int (((p1 / g) / g) / g)), .val (.int (0 : Int32))] [(.ref r0), (.int (((p1 / g) / g) / g))])) rfl rfl (hb hby d54_34)
  refine own_st st47 ?_
  show own_Go X47 (Q54 Z r0 p1 g h0 n0) 1 4 37 #[.val (.ref r0), .val (.int p1), .val (.ref b3), .val (.int (((p1 / g) / g) / g)), .val (.int (0 : Int32))] [(.int g), (.int (((p1 / g) / g) / g))]
  refine own_st (fun _ k => XS.idiv X47.here hx rfl (hb hby d54_37) rfl HG k) ?_
  show own_Go X47 (Q54 Z r0 p1 g h0 n0) 1 4 38 #[.val (.ref r0), .val (.int p1), .val (.ref b3), .val (.int (((p1 / g) / g) / g)), .val (.int (0 : Int32))] [(.int ((((p1 / g) / g) / g) / g))]
  refine own_st (fun _ k => XS.istoreN X47.here hx rfl (hb hby d54_38) rfl (l' := #[.val (.ref r0), .val (.int p1), .val (.ref b3), .val (.int ((((p1 / g) / g) / g) / g)), .val (.int (0 : Int32))]) rfl k) ?_
  show own_Go X47 (Q54 Z r0 p1 g h0 n0) 1 4 39 #[.val (.ref r0), .val (.int p1), .val (.ref b3), .val (.int ((((p1 / g) / g) / g) / g)), .val (.int (0 : Int32))] []
  refine own_st (fun _ k => XS.iinc X47.here hx rfl (hb hby d54_39) rfl (l' := #[.val (.ref r0), .val (.int p1), .val (.ref b3), .val (.int ((((p1 / g) / g) / g) / g)), .val (.int (-1 : Int32))]) rfl k) ?_
  show own_Go X47 (Q54 Z r0 p1 g h0 n0) 1 4 42 #[.val (.ref r0), .val (.int p1), .val (.ref b3), .val (.int ((((p1 / g) / g) / g) / g)), .val (.int (-1 : Int32))] []
  refine own_st (fun _ k => XS.goto X47.here hx rfl (pc0 := 42) (pc' := 17) rfl (hb hby d54_42) (by decide) (by decide) k) ?_
  show own_Go X47 (Q54 Z r0 p1 g h0 n0) 1 4 17 #[.val (.ref r0), .val (.int p1), .val (.ref b3), .val (.int ((((p1 / g) / g) / g) / g)), .val (.int (-1 : Int32))] []
  refine own_st (fun _ k => XS.iload X47.here hx rfl (hb hby d54_17) rfl k) ?_
  show own_Go X47 (Q54 Z r0 p1 g h0 n0) 1 4 19 #[.val (.ref r0), .val (.int p1), .val (.ref b3), .val (.int ((((p1 / g) / g) / g) / g)), .val (.int (-1 : Int32))] [(.int (-1 : Int32))]
  have c19_48 : (-1 : Int32) < (0 : Int32) := (by decide)
  refine own_st (fun _ k => XS.ifYes X47.here hx rfl (pc0 := 19) (pc' := 45) rfl (hb hby d54_19) rfl ((if0 _ _).trans (tlt c19_48).1) (by decide) (by decide) k) ?_
  show own_Go X47 (Q54 Z r0 p1 g h0 n0) 1 4 45 #[.val (.ref r0), .val (.int p1), .val (.ref b3), .val (.int ((((p1 / g) / g) / g) / g)), .val (.int (-1 : Int32))] []
  refine own_st (fun _ k => XS.aloadN X47.here hx rfl (hb hby d54_45) rfl rfl k) ?_
  show own_Go X47 (Q54 Z r0 p1 g h0 n0) 1 4 46 #[.val (.ref r0), .val (.int p1), .val (.ref b3), .val (.int ((((p1 / g) / g) / g) / g)), .val (.int (-1 : Int32))] [(.ref b3)]
  refine own_retA X47 hx Bd.returns rfl hlk e47 (hb hby d54_46) (by decide) (by decide) ?_
  exact ⟨b3, k3, rfl, N_46, K_45, G_5, S_6, U41⟩
theorem d6_0 : decode method_2_code 0 = .ok (.iload_n 0, 1) := by decide +kernel
theorem d6_1 : decode method_2_code 1 = .ok (.ifCond .lt 12, 3) := by decide +kernel
theorem d6_4 : decode method_2_code 4 = .ok (.iload_n 0, 1) := by decide +kernel
theorem d6_5 : decode method_2_code 5 = .ok (.iload_n 1, 1) := by decide +kernel
theorem d6_6 : decode method_2_code 6 = .ok (.if_icmp .ge 7, 3) := by decide +kernel
theorem d6_9 : decode method_2_code 9 = .ok (.iconst 1, 1) := by decide +kernel
theorem d6_10 : decode method_2_code 10 = .ok (.goto 4, 3) := by decide +kernel
theorem d6_13 : decode method_2_code 13 = .ok (.iconst 0, 1) := by decide +kernel
theorem d6_14 : decode method_2_code 14 = .ok (.ireturn, 1) := by decide +kernel
theorem pn_6 : plainName "com/example/gingham/gingham/designs/CoveringArraySpecTupleValuesPinLaw" = true := by first | (simp [plainName, overriddenIn]; done) | decide +kernel
theorem ef_6 (m : MethodId) (p0 : Int32) (p1 : Int32) : entryFrame m #[(.int p0), (.int p1)] 2 = mkF m 0 #[.val (.int p0), .val (.int p1)] [] := by first | (simp [entryFrame, mkF, argsToLocals, Value.category]; done) | rfl
def Q6 (Z : State) (p0 : Int32) (p1 : Int32)  (h0 : Heap) (n0 : Nat) (v : Option Value) (h : Heap) (L : List Loc) : Prop := v = some (.int (own_ir p0 p1)) ∧ Fr n0 L ∧ h = h0
set_option maxRecDepth 65536 in
set_option maxHeartbeats 40000000 in
theorem rm6 (l : Launch) (Z : State) (a0 : Array Value) (hw : ∀ d ∈ tables_1, d.before a0 Z = true) (ws : List Jvm.Cond) (p0 : Int32) (p1 : Int32)  (h0 : Heap) (n0 : Nat) (Z0 : n0 ≤ h0.size)  :
    MetFree l (⟨"com/example/gingham/gingham/designs/CoveringArraySpecTupleValuesPinLaw", "inRange", "(II)Z"⟩ : MethodName) (head1 (Jvm.Cond.code (⟨"com/example/gingham/gingham/designs/CoveringArraySpecTupleValuesPinLaw", "inRange", "(II)Z"⟩ : MethodName) method_2_code 2 (some .boolean) :: ws) ({ frames := 0, cells := 0, slots := 0, locals := 0 } : Room)) (fun a U => a = #[(.int p0), (.int p1)] ∧ Z.Warmed39 U.vm ∧ U.heap = h0) (fun _ _ _ _ _ => True) (fun _ U o U' => ∃ v L, o = .returned v ∧ Q6 Z p0 p1 h0 n0 v U'.heap L ∧ FrameEnd U o U' L ({ frames := 0, cells := 0, slots := 0, locals := 0 } : Room).cells ({ frames := 0, cells := 0, slots := 0, locals := 0 } : Room).slots) := by
  refine MetFree.of_bodySF (plainFor_of_name pn_6) hisR ?_
  intro p e s m args below meth c s₁ Bd hml0 hP hK
  obtain ⟨rfl, hZ, hh⟩ := hP
  have hx := Bd.exec
  have hby := Bd.bytes
  have hml : c.maxLocals = 2 := hml0
  have hown : s.vm.findClass "com/example/gingham/gingham/designs/CoveringArraySpecTupleValuesPinLaw" = some m.cls := findClass_of_methodNamed Bd.named
  have hnm := (name_of_methodNamed Bd.named Bd.method).1
  have hlk : meth.locks = false := Bd.notSynchronized
  have X0 : Stand p l e ({ frames := 0, cells := 0, slots := 0, locals := 0 } : Room) s m #[(.int p0), (.int p1)] below meth c s₁ [] 0 0 := Stand.of_body Bd
  have e0 : s₁.heap = h0 := by rw [← hh, Bd.state]; rfl
  have N0 := Fr.nil n0
  refine own_cast (Q := Q6 Z p0 p1 h0 n0) (kc := 0) (ks := 0) (ef_6 m p0 p1) ?_
  refine own_st (fun _ k => XS.iloadN X0.here hx rfl (hb hby d6_0) rfl k) ?_
  show own_Go X0 (Q6 Z p0 p1 h0 n0) 0 0 1 #[.val (.int p0), .val (.int p1)] [(.int p0)]
  by_cases c1_1 : p0 < (0 : Int32)
  · skip
    refine own_st (fun _ k => XS.ifYes X0.here hx rfl (pc0 := 1) (pc' := 13) rfl (hb hby d6_1) rfl ((if0 _ _).trans (tlt c1_1).1) (by decide) (by decide) k) ?_
    show own_Go X0 (Q6 Z p0 p1 h0 n0) 0 0 13 #[.val (.int p0), .val (.int p1)] []
    refine own_st (fun _ k => XS.iconst X0.here hx rfl (hb hby d6_13) k) ?_
    show own_Go X0 (Q6 Z p0 p1 h0 n0) 0 0 14 #[.val (.int p0), .val (.int p1)] [(.int (0 : Int32))]
    refine own_retN X0 hx Bd.returns (by simp) hlk e0 (hb hby d6_14) (by decide) (by decide) ?_
    exact ⟨by simp [own_ir, own_nar0, own_nar1, c1_1], N0, rfl⟩
  · skip
    refine own_st (fun _ k => XS.ifNo X0.here hx rfl (hb hby d6_1) rfl ((if0 _ _).trans (flt c1_1).1) k) ?_
    show own_Go X0 (Q6 Z p0 p1 h0 n0) 0 0 4 #[.val (.int p0), .val (.int p1)] []
    refine own_st (fun _ k => XS.iloadN X0.here hx rfl (hb hby d6_4) rfl k) ?_
    show own_Go X0 (Q6 Z p0 p1 h0 n0) 0 0 5 #[.val (.int p0), .val (.int p1)] [(.int p0)]
    refine own_st (fun _ k => XS.iloadN X0.here hx rfl (hb hby d6_5) rfl k) ?_
    show own_Go X0 (Q6 Z p0 p1 h0 n0) 0 0 6 #[.val (.int p0), .val (.int p1)] [(.int p1), (.int p0)]
    by_cases c6_2 : p0 < p1
    · skip
      refine own_st (fun _ k => XS.icmpNo X0.here hx rfl (hb hby d6_6) rfl (tlt c6_2).2.1 k) ?_
      show own_Go X0 (Q6 Z p0 p1 h0 n0) 0 0 9 #[.val (.int p0), .val (.int p1)] []
      refine own_st (fun _ k => XS.iconst X0.here hx rfl (hb hby d6_9) k) ?_
      show own_Go X0 (Q6 Z p0 p1 h0 n0) 0 0 10 #[.val (.int p0), .val (.int p1)] [(.int (1 : Int32))]
      refine own_st (fun _ k => XS.goto X0.here hx rfl (pc0 := 10) (pc' := 14) rfl (hb hby d6_10) (by decide) (by decide) k) ?_
      show own_Go X0 (Q6 Z p0 p1 h0 n0) 0 0 14 #[.val (.int p0), .val (.int p1)] [(.int (1 : Int32))]
      refine own_retN X0 hx Bd.returns (by simp) hlk e0 (hb hby d6_14) (by decide) (by decide) ?_
      exact ⟨by simp [own_ir, own_nar0, own_nar1, c1_1, c6_2], N0, rfl⟩
    · skip
      refine own_st (fun _ k => XS.icmpYes X0.here hx rfl (pc0 := 6) (pc' := 13) rfl (hb hby d6_6) rfl (flt c6_2).2.1 (by decide) (by decide) k) ?_
      show own_Go X0 (Q6 Z p0 p1 h0 n0) 0 0 13 #[.val (.int p0), .val (.int p1)] []
      refine own_st (fun _ k => XS.iconst X0.here hx rfl (hb hby d6_13) k) ?_
      show own_Go X0 (Q6 Z p0 p1 h0 n0) 0 0 14 #[.val (.int p0), .val (.int p1)] [(.int (0 : Int32))]
      refine own_retN X0 hx Bd.returns (by simp) hlk e0 (hb hby d6_14) (by decide) (by decide) ?_
      exact ⟨by simp [own_ir, own_nar0, own_nar1, c1_1, c6_2], N0, rfl⟩
theorem pn_0 : plainName "com/example/gingham/gingham/designs/CoveringArraySpecTupleValuesPinLaw" = true := by first | (simp [plainName, overriddenIn]; done) | decide +kernel
theorem pd_0_0 : parseMethodDescriptor "(IIII)V" = some ⟨[.int, .int, .int, .int], none⟩ := by decide +kernel
theorem pd_0_1 : parseMethodDescriptor "(I)[I" = some ⟨[.int], some (.array .int)⟩ := by decide +kernel
theorem pd_0_2 : parseMethodDescriptor "(II)Z" = some ⟨[.int, .int], some .boolean⟩ := by decide +kernel
theorem ef_0 (m : MethodId) (p0 : Int32) (p1 : Int32) (q2 : Int64) (p3 : Int32) : entryFrame m #[(.int p0), (.int p1), (.long q2), (.int p3)] maxLocals = mkF m 0 #[.val (.int p0), .val (.int p1), .val (.long q2), .second, .val (.int p3), .unset, .unset, .unset, .unset, .unset, .unset, .unset, .unset, .unset, .unset, .unset] [] := by first | (simp [entryFrame, mkF, argsToLocals, Value.category, maxLocals]; done) | rfl
def Q0 (Z : State) (p0 : Int32) (p1 : Int32) (q2 : Int64) (p3 : Int32)  (h0 : Heap) (n0 : Nat) (v : Option Value) (h : Heap) (L : List Loc) : Prop := v = some (.int 1) ∧ Fr n0 L
set_option maxRecDepth 65536 in
set_option maxHeartbeats 40000000 in
theorem rm0 (l : Launch) (Z : State) (a0 : Array Value) (hw : ∀ d ∈ tables_1, d.before a0 Z = true) (ws : List Jvm.Cond) (p0 : Int32) (p1 : Int32) (q2 : Int64) (p3 : Int32)  (h0 : Heap) (n0 : Nat) (Z0 : n0 ≤ h0.size)  :
    MetFree l x (head1 (Jvm.Cond.code x code maxLocals ret :: ws) room_1) (fun a U => a = #[(.int p0), (.int p1), (.long q2), (.int p3)] ∧ Z.Warmed39 U.vm ∧ U.heap = h0) (fun _ _ _ _ _ => True) (fun _ U o U' => ∃ v L, o = .returned v ∧ Q0 Z p0 p1 q2 p3 h0 n0 v U'.heap L ∧ FrameEnd U o U' L 2 8) := by
  refine MetFree.of_bodySF (plainFor_of_name pn_0) hisR ?_
  intro p e s m args below meth c s₁ Bd hml0 hP hK
  obtain ⟨rfl, hZ, hh⟩ := hP
  have hx := Bd.exec
  have hby := Bd.bytes
  have hml : c.maxLocals = 16 := hml0
  have hown : s.vm.findClass "com/example/gingham/gingham/designs/CoveringArraySpecTupleValuesPinLaw" = some m.cls := findClass_of_methodNamed Bd.named
  have hnm := (name_of_methodNamed Bd.named Bd.method).1
  have hlk : meth.locks = false := Bd.notSynchronized
  have X0 : Stand p l e room_1 s m #[(.int p0), (.int p1), (.long q2), (.int p3)] below meth c s₁ [] 0 0 := Stand.of_body Bd
  have e0 : s₁.heap = h0 := by rw [← hh, Bd.state]; rfl
  have N0 := Fr.nil n0
  refine own_cast (Q := Q0 Z p0 p1 q2 p3 h0 n0) (kc := 2) (ks := 8) (ef_0 m p0 p1 q2 p3) ?_
  refine own_st (fun _ k => XS.iconst X0.here hx rfl (hb hby at_0) k) ?_
  show own_Go X0 (Q0 Z p0 p1 q2 p3 h0 n0) 2 8 1 #[.val (.int p0), .val (.int p1), .val (.long q2), .second, .val (.int p3), .unset, .unset, .unset, .unset, .unset, .unset, .unset, .unset, .unset, .unset, .unset] [(.int (1 : Int32))]
  refine own_st (fun _ k => XS.iloadN X0.here hx rfl (hb hby at_1) rfl k) ?_
  show own_Go X0 (Q0 Z p0 p1 q2 p3 h0 n0) 2 8 2 #[.val (.int p0), .val (.int p1), .val (.long q2), .second, .val (.int p3), .unset, .unset, .unset, .unset, .unset, .unset, .unset, .unset, .unset, .unset, .unset] [(.int p0), (.int (1 : Int32))]
  refine own_st (fun _ k => XS.iconst X0.here hx rfl (hb hby at_2) k) ?_
  show own_Go X0 (Q0 Z p0 p1 q2 p3 h0 n0) 2 8 3 #[.val (.int p0), .val (.int p1), .val (.long q2), .second, .val (.int p3), .unset, .unset, .unset, .unset, .unset, .unset, .unset, .unset, .unset, .unset, .unset] [(.int (3 : Int32)), (.int p0), (.int (1 : Int32))]
  refine own_st (fun _ k => XS.iand X0.here hx rfl (hb hby at_3) rfl k) ?_
  show own_Go X0 (Q0 Z p0 p1 q2 p3 h0 n0) 2 8 4 #[.val (.int p0), .val (.int p1), .val (.long q2), .second, .val (.int p3), .unset, .unset, .unset, .unset, .unset, .unset, .unset, .unset, .unset, .unset, .unset] [(.int (p0 &&& (3 : Int32))), (.int (1 : Int32))]
  refine own_st (fun _ k => XS.iadd X0.here hx rfl (hb hby at_4) rfl k) ?_
  show own_Go X0 (Q0 Z p0 p1 q2 p3 h0 n0) 2 8 5 #[.val (.int p0), .val (.int p1), .val (.long q2), .second, .val (.int p3), .unset, .unset, .unset, .unset, .unset, .unset, .unset, .unset, .unset, .unset, .unset] [(.int ((1 : Int32) + (p0 &&& (3 : Int32))))]
  refine own_st (fun _ k => XS.istore X0.here hx rfl (hb hby at_5) rfl (l' := #[.val (.int p0), .val (.int p1), .val (.long q2), .second, .val (.int p3), .val (.int ((1 : Int32) + (p0 &&& (3 : Int32)))), .unset, .unset, .unset, .unset, .unset, .unset, .unset, .unset, .unset, .unset]) rfl k) ?_
  show own_Go X0 (Q0 Z p0 p1 q2 p3 h0 n0) 2 8 7 #[.val (.int p0), .val (.int p1), .val (.long q2), .second, .val (.int p3), .val (.int ((1 : Int32) + (p0 &&& (3 : Int32)))), .unset, .unset, .unset, .unset, .unset, .unset, .unset, .unset, .unset, .unset] []
  generalize htt : ((1 : Int32) + (p0 &&& (3 : Int32))) = tt
  show own_Go X0 (Q0 Z p0 p1 q2 p3 h0 n0) 2 8 7 #[.val (.int p0), .val (.int p1), .val (.long q2), .second, .val (.int p3), .val (.int tt), .unset, .unset, .unset, .unset, .unset, .unset, .unset, .unset, .unset, .unset] []
  rcases own_tt htt with rfl | rfl | rfl | rfl
  · skip
    show own_Go X0 (Q0 Z p0 p1 q2 p3 h0 n0) 2 8 7 #[.val (.int p0), .val (.int p1), .val (.long q2), .second, .val (.int p3), .val (.int (1 : Int32)), .unset, .unset, .unset, .unset, .unset, .unset, .unset, .unset, .unset, .unset] []
    refine own_st (fun _ k => XS.iload X0.here hx rfl (hb hby at_7) rfl k) ?_
    show own_Go X0 (Q0 Z p0 p1 q2 p3 h0 n0) 2 8 9 #[.val (.int p0), .val (.int p1), .val (.long q2), .second, .val (.int p3), .val (.int (1 : Int32)), .unset, .unset, .unset, .unset, .unset, .unset, .unset, .unset, .unset, .unset] [(.int (1 : Int32))]
    refine own_st (fun _ k => XS.iconst X0.here hx rfl (hb hby at_9) k) ?_
    show own_Go X0 (Q0 Z p0 p1 q2 p3 h0 n0) 2 8 10 #[.val (.int p0), .val (.int p1), .val (.long q2), .second, .val (.int p3), .val (.int (1 : Int32)), .unset, .unset, .unset, .unset, .unset, .unset, .unset, .unset, .unset, .unset] [(.int (1 : Int32)), (.int (1 : Int32))]
    have c10_1 : (1 : Int32) = (1 : Int32) := (by decide)
    refine own_st (fun _ k => XS.icmpNo X0.here hx rfl (hb hby at_10) rfl (teq c10_1).2 k) ?_
    show own_Go X0 (Q0 Z p0 p1 q2 p3 h0 n0) 2 8 13 #[.val (.int p0), .val (.int p1), .val (.long q2), .second, .val (.int p3), .val (.int (1 : Int32)), .unset, .unset, .unset, .unset, .unset, .unset, .unset, .unset, .unset, .unset] []
    refine own_st (fun t k => X0.ldcInt hx hown (mvT hZ (hw _ (List.mem_of_getElem? (i := 0) rfl))) (g := (mkF m 13 #[.val (.int p0), .val (.int p1), .val (.long q2), .second, .val (.int p3), .val (.int (1 : Int32)), .unset, .unset, .unset, .unset, .unset, .unset, .unset, .unset, .unset, .unset] [])) rfl (hb hby at_13) t k) ?_
    show own_Go X0 (Q0 Z p0 p1 q2 p3 h0 n0) 2 8 15 #[.val (.int p0), .val (.int p1), .val (.long q2), .second, .val (.int p3), .val (.int (1 : Int32)), .unset, .unset, .unset, .unset, .unset, .unset, .unset, .unset, .unset, .unset] [(.int (2147483639 : Int32))]
    refine own_st (fun _ k => XS.goto X0.here hx rfl (pc0 := 15) (pc' := 44) rfl (hb hby at_15) (by decide) (by decide) k) ?_
    show own_Go X0 (Q0 Z p0 p1 q2 p3 h0 n0) 2 8 44 #[.val (.int p0), .val (.int p1), .val (.long q2), .second, .val (.int p3), .val (.int (1 : Int32)), .unset, .unset, .unset, .unset, .unset, .unset, .unset, .unset, .unset, .unset] [(.int (2147483639 : Int32))]
    refine own_st (fun _ k => XS.istore X0.here hx rfl (hb hby at_44) rfl (l' := #[.val (.int p0), .val (.int p1), .val (.long q2), .second, .val (.int p3), .val (.int (1 : Int32)), .val (.int (2147483639 : Int32)), .unset, .unset, .unset, .unset, .unset, .unset, .unset, .unset, .unset]) rfl k) ?_
    show own_Go X0 (Q0 Z p0 p1 q2 p3 h0 n0) 2 8 46 #[.val (.int p0), .val (.int p1), .val (.long q2), .second, .val (.int p3), .val (.int (1 : Int32)), .val (.int (2147483639 : Int32)), .unset, .unset, .unset, .unset, .unset, .unset, .unset, .unset, .unset] []
    refine own_st (fun _ k => XS.iconst X0.here hx rfl (hb hby at_46) k) ?_
    show own_Go X0 (Q0 Z p0 p1 q2 p3 h0 n0) 2 8 47 #[.val (.int p0), .val (.int p1), .val (.long q2), .second, .val (.int p3), .val (.int (1 : Int32)), .val (.int (2147483639 : Int32)), .unset, .unset, .unset, .unset, .unset, .unset, .unset, .unset, .unset] [(.int (2 : Int32))]
    refine own_st (fun _ k => XS.iloadN X0.here hx rfl (hb hby at_47) rfl k) ?_
    show own_Go X0 (Q0 Z p0 p1 q2 p3 h0 n0) 2 8 48 #[.val (.int p0), .val (.int p1), .val (.long q2), .second, .val (.int p3), .val (.int (1 : Int32)), .val (.int (2147483639 : Int32)), .unset, .unset, .unset, .unset, .unset, .unset, .unset, .unset, .unset] [(.int p1), (.int (2 : Int32))]
    refine own_st (fun t k => X0.ldcInt hx hown (mvT hZ (hw _ (List.mem_of_getElem? (i := 1) rfl))) (g := (mkF m 48 #[.val (.int p0), .val (.int p1), .val (.long q2), .second, .val (.int p3), .val (.int (1 : Int32)), .val (.int (2147483639 : Int32)), .unset, .unset, .unset, .unset, .unset, .unset, .unset, .unset, .unset] [(.int p1), (.int (2 : Int32))])) rfl (hb hby at_48) t k) ?_
    show own_Go X0 (Q0 Z p0 p1 q2 p3 h0 n0) 2 8 50 #[.val (.int p0), .val (.int p1), .val (.long q2), .second, .val (.int p3), .val (.int (1 : Int32)), .val (.int (2147483639 : Int32)), .unset, .unset, .unset, .unset, .unset, .unset, .unset, .unset, .unset] [(.int (2147483647 : Int32)), (.int p1), (.int (2 : Int32))]
    refine own_st (fun _ k => XS.iand X0.here hx rfl (hb hby at_50) rfl k) ?_
    show own_Go X0 (Q0 Z p0 p1 q2 p3 h0 n0) 2 8 51 #[.val (.int p0), .val (.int p1), .val (.long q2), .second, .val (.int p3), .val (.int (1 : Int32)), .val (.int (2147483639 : Int32)), .unset, .unset, .unset, .unset, .unset, .unset, .unset, .unset, .unset] [(.int (p1 &&& (2147483647 : Int32))), (.int (2 : Int32))]
    refine own_st (fun _ k => XS.iload X0.here hx rfl (hb hby at_51) rfl k) ?_
    show own_Go X0 (Q0 Z p0 p1 q2 p3 h0 n0) 2 8 53 #[.val (.int p0), .val (.int p1), .val (.long q2), .second, .val (.int p3), .val (.int (1 : Int32)), .val (.int (2147483639 : Int32)), .unset, .unset, .unset, .unset, .unset, .unset, .unset, .unset, .unset] [(.int (2147483639 : Int32)), (.int (p1 &&& (2147483647 : Int32))), (.int (2 : Int32))]
    refine own_st (fun _ k => XS.iconst X0.here hx rfl (hb hby at_53) k) ?_
    show own_Go X0 (Q0 Z p0 p1 q2 p3 h0 n0) 2 8 54 #[.val (.int p0), .val (.int p1), .val (.long q2), .second, .val (.int p3), .val (.int (1 : Int32)), .val (.int (2147483639 : Int32)), .unset, .unset, .unset, .unset, .unset, .unset, .unset, .unset, .unset] [(.int (1 : Int32)), (.int (2147483639 : Int32)), (.int (p1 &&& (2147483647 : Int32))), (.int (2 : Int32))]
    refine own_st (fun _ k => XS.isub X0.here hx rfl (hb hby at_54) rfl k) ?_
    show own_Go X0 (Q0 Z p0 p1 q2 p3 h0 n0) 2 8 55 #[.val (.int p0), .val (.int p1), .val (.long q2), .second, .val (.int p3), .val (.int (1 : Int32)), .val (.int (2147483639 : Int32)), .unset, .unset, .unset, .unset, .unset, .unset, .unset, .unset, .unset] [(.int (2147483638 : Int32)), (.int (p1 &&& (2147483647 : Int32))), (.int (2 : Int32))]
    refine own_st (fun _ k => iremM X0 hx rfl (hb hby at_55) rfl (by decide) k) ?_
    show own_Go X0 (Q0 Z p0 p1 q2 p3 h0 n0) 2 8 56 #[.val (.int p0), .val (.int p1), .val (.long q2), .second, .val (.int p3), .val (.int (1 : Int32)), .val (.int (2147483639 : Int32)), .unset, .unset, .unset, .unset, .unset, .unset, .unset, .unset, .unset] [(.int ((p1 &&& (2147483647 : Int32)) % (2147483638 : Int32))), (.int (2 : Int32))]
    refine own_st (fun _ k => XS.iadd X0.here hx rfl (hb hby at_56) rfl k) ?_
    show own_Go X0 (Q0 Z p0 p1 q2 p3 h0 n0) 2 8 57 #[.val (.int p0), .val (.int p1), .val (.long q2), .second, .val (.int p3), .val (.int (1 : Int32)), .val (.int (2147483639 : Int32)), .unset, .unset, .unset, .unset, .unset, .unset, .unset, .unset, .unset] [(.int ((2 : Int32) + ((p1 &&& (2147483647 : Int32)) % (2147483638 : Int32))))]
    refine own_st (fun _ k => XS.istore X0.here hx rfl (hb hby at_57) rfl (l' := #[.val (.int p0), .val (.int p1), .val (.long q2), .second, .val (.int p3), .val (.int (1 : Int32)), .val (.int (2147483639 : Int32)), .val (.int ((2 : Int32) + ((p1 &&& (2147483647 : Int32)) % (2147483638 : Int32)))), .unset, .unset, .unset, .unset, .unset, .unset, .unset, .unset]) rfl k) ?_
    show own_Go X0 (Q0 Z p0 p1 q2 p3 h0 n0) 2 8 59 #[.val (.int p0), .val (.int p1), .val (.long q2), .second, .val (.int p3), .val (.int (1 : Int32)), .val (.int (2147483639 : Int32)), .val (.int ((2 : Int32) + ((p1 &&& (2147483647 : Int32)) % (2147483638 : Int32)))), .unset, .unset, .unset, .unset, .unset, .unset, .unset, .unset] []
    generalize hgg : ((2 : Int32) + ((p1 &&& (2147483647 : Int32)) % (2147483638 : Int32))) = gg
    show own_Go X0 (Q0 Z p0 p1 q2 p3 h0 n0) 2 8 59 #[.val (.int p0), .val (.int p1), .val (.long q2), .second, .val (.int p3), .val (.int (1 : Int32)), .val (.int (2147483639 : Int32)), .val (.int gg), .unset, .unset, .unset, .unset, .unset, .unset, .unset, .unset] []
    have hG : 2 ≤ gg.toInt ∧ gg.toInt ≤ 2147483639 := own_gb (M := 2147483638) (by decide) (by decide) (by decide) hgg
    refine own_st (fun _ k => XS.iload X0.here hx rfl (hb hby at_59) rfl k) ?_
    show own_Go X0 (Q0 Z p0 p1 q2 p3 h0 n0) 2 8 61 #[.val (.int p0), .val (.int p1), .val (.long q2), .second, .val (.int p3), .val (.int (1 : Int32)), .val (.int (2147483639 : Int32)), .val (.int gg), .unset, .unset, .unset, .unset, .unset, .unset, .unset, .unset] [(.int gg)]
    refine own_st (fun _ k => XS.i2l X0.here hx rfl (hb hby at_61) rfl k) ?_
    show own_Go X0 (Q0 Z p0 p1 q2 p3 h0 n0) 2 8 62 #[.val (.int p0), .val (.int p1), .val (.long q2), .second, .val (.int p3), .val (.int (1 : Int32)), .val (.int (2147483639 : Int32)), .val (.int gg), .unset, .unset, .unset, .unset, .unset, .unset, .unset, .unset] [(.long (gg.toInt64))]
    refine own_st (fun _ k => XS.lstore X0.here hx rfl (hb hby at_62) rfl (l' := #[.val (.int p0), .val (.int p1), .val (.long q2), .second, .val (.int p3), .val (.int (1 : Int32)), .val (.int (2147483639 : Int32)), .val (.int gg), .val (.long (gg.toInt64)), .second, .unset, .unset, .unset, .unset, .unset, .unset]) rfl k) ?_
    show own_Go X0 (Q0 Z p0 p1 q2 p3 h0 n0) 2 8 64 #[.val (.int p0), .val (.int p1), .val (.long q2), .second, .val (.int p3), .val (.int (1 : Int32)), .val (.int (2147483639 : Int32)), .val (.int gg), .val (.long (gg.toInt64)), .second, .unset, .unset, .unset, .unset, .unset, .unset] []
    refine own_st (fun _ k => XS.iload X0.here hx rfl (hb hby at_64) rfl k) ?_
    show own_Go X0 (Q0 Z p0 p1 q2 p3 h0 n0) 2 8 66 #[.val (.int p0), .val (.int p1), .val (.long q2), .second, .val (.int p3), .val (.int (1 : Int32)), .val (.int (2147483639 : Int32)), .val (.int gg), .val (.long (gg.toInt64)), .second, .unset, .unset, .unset, .unset, .unset, .unset] [(.int (1 : Int32))]
    refine own_st (fun _ k => XS.iconst X0.here hx rfl (hb hby at_66) k) ?_
    show own_Go X0 (Q0 Z p0 p1 q2 p3 h0 n0) 2 8 67 #[.val (.int p0), .val (.int p1), .val (.long q2), .second, .val (.int p3), .val (.int (1 : Int32)), .val (.int (2147483639 : Int32)), .val (.int gg), .val (.long (gg.toInt64)), .second, .unset, .unset, .unset, .unset, .unset, .unset] [(.int (2 : Int32)), (.int (1 : Int32))]
    have c67_2 : (1 : Int32) < (2 : Int32) := (by decide)
    refine own_st (fun _ k => XS.icmpYes X0.here hx rfl (pc0 := 67) (pc' := 78) rfl (hb hby at_67) rfl (tlt c67_2).1 (by decide) (by decide) k) ?_
    show own_Go X0 (Q0 Z p0 p1 q2 p3 h0 n0) 2 8 78 #[.val (.int p0), .val (.int p1), .val (.long q2), .second, .val (.int p3), .val (.int (1 : Int32)), .val (.int (2147483639 : Int32)), .val (.int gg), .val (.long (gg.toInt64)), .second, .unset, .unset, .unset, .unset, .unset, .unset] []
    refine own_st (fun _ k => XS.iload X0.here hx rfl (hb hby at_78) rfl k) ?_
    show own_Go X0 (Q0 Z p0 p1 q2 p3 h0 n0) 2 8 80 #[.val (.int p0), .val (.int p1), .val (.long q2), .second, .val (.int p3), .val (.int (1 : Int32)), .val (.int (2147483639 : Int32)), .val (.int gg), .val (.long (gg.toInt64)), .second, .unset, .unset, .unset, .unset, .unset, .unset] [(.int (1 : Int32))]
    refine own_st (fun _ k => XS.iconst X0.here hx rfl (hb hby at_80) k) ?_
    show own_Go X0 (Q0 Z p0 p1 q2 p3 h0 n0) 2 8 81 #[.val (.int p0), .val (.int p1), .val (.long q2), .second, .val (.int p3), .val (.int (1 : Int32)), .val (.int (2147483639 : Int32)), .val (.int gg), .val (.long (gg.toInt64)), .second, .unset, .unset, .unset, .unset, .unset, .unset] [(.int (3 : Int32)), (.int (1 : Int32))]
    have c81_3 : (1 : Int32) < (3 : Int32) := (by decide)
    refine own_st (fun _ k => XS.icmpYes X0.here hx rfl (pc0 := 81) (pc' := 92) rfl (hb hby at_81) rfl (tlt c81_3).1 (by decide) (by decide) k) ?_
    show own_Go X0 (Q0 Z p0 p1 q2 p3 h0 n0) 2 8 92 #[.val (.int p0), .val (.int p1), .val (.long q2), .second, .val (.int p3), .val (.int (1 : Int32)), .val (.int (2147483639 : Int32)), .val (.int gg), .val (.long (gg.toInt64)), .second, .unset, .unset, .unset, .unset, .unset, .unset] []
    refine own_st (fun _ k => XS.iload X0.here hx rfl (hb hby at_92) rfl k) ?_
    show own_Go X0 (Q0 Z p0 p1 q2 p3 h0 n0) 2 8 94 #[.val (.int p0), .val (.int p1), .val (.long q2), .second, .val (.int p3), .val (.int (1 : Int32)), .val (.int (2147483639 : Int32)), .val (.int gg), .val (.long (gg.toInt64)), .second, .unset, .unset, .unset, .unset, .unset, .unset] [(.int (1 : Int32))]
    refine own_st (fun _ k => XS.iconst X0.here hx rfl (hb hby at_94) k) ?_
    show own_Go X0 (Q0 Z p0 p1 q2 p3 h0 n0) 2 8 95 #[.val (.int p0), .val (.int p1), .val (.long q2), .second, .val (.int p3), .val (.int (1 : Int32)), .val (.int (2147483639 : Int32)), .val (.int gg), .val (.long (gg.toInt64)), .second, .unset, .unset, .unset, .unset, .unset, .unset] [(.int (4 : Int32)), (.int (1 : Int32))]
    have c95_4 : (1 : Int32) < (4 : Int32) := (by decide)
    refine own_st (fun _ k => XS.icmpYes X0.here hx rfl (pc0 := 95) (pc' := 106) rfl (hb hby at_95) rfl (tlt c95_4).1 (by decide) (by decide) k) ?_
    show own_Go X0 (Q0 Z p0 p1 q2 p3 h0 n0) 2 8 106 #[.val (.int p0), .val (.int p1), .val (.long q2), .second, .val (.int p3), .val (.int (1 : Int32)), .val (.int (2147483639 : Int32)), .val (.int gg), .val (.long (gg.toInt64)), .second, .unset, .unset, .unset, .unset, .unset, .unset] []
    have u1 : gg.toInt ≤ 2147483639 := hG.2
    have v1 : 0 < gg.toInt := by omega
    have pq1 : (own_pw1 gg).toInt = gg.toInt := own_p1 gg
    have r1 : (gg.toInt64).toInt = gg.toInt := c_i2l gg
    generalize hcc : (gg.toInt64) = cc
    show own_Go X0 (Q0 Z p0 p1 q2 p3 h0 n0) 2 8 106 #[.val (.int p0), .val (.int p1), .val (.long q2), .second, .val (.int p3), .val (.int (1 : Int32)), .val (.int (2147483639 : Int32)), .val (.int gg), .val (.long cc), .second, .unset, .unset, .unset, .unset, .unset, .unset] []
    have hC : cc.toInt = gg.toInt := by rw [← hcc]; exact r1
    refine own_st (fun _ k => XS.lloadN X0.here hx rfl (hb hby at_106) rfl k) ?_
    show own_Go X0 (Q0 Z p0 p1 q2 p3 h0 n0) 2 8 107 #[.val (.int p0), .val (.int p1), .val (.long q2), .second, .val (.int p3), .val (.int (1 : Int32)), .val (.int (2147483639 : Int32)), .val (.int gg), .val (.long cc), .second, .unset, .unset, .unset, .unset, .unset, .unset] [(.long q2)]
    refine own_st (fun t k => X0.ldc2Long hx hown (mvT hZ (hw _ (List.mem_of_getElem? (i := 2) rfl))) (g := (mkF m 107 #[.val (.int p0), .val (.int p1), .val (.long q2), .second, .val (.int p3), .val (.int (1 : Int32)), .val (.int (2147483639 : Int32)), .val (.int gg), .val (.long cc), .second, .unset, .unset, .unset, .unset, .unset, .unset] [(.long q2)])) rfl (hb hby at_107) t k) ?_
    show own_Go X0 (Q0 Z p0 p1 q2 p3 h0 n0) 2 8 110 #[.val (.int p0), .val (.int p1), .val (.long q2), .second, .val (.int p3), .val (.int (1 : Int32)), .val (.int (2147483639 : Int32)), .val (.int gg), .val (.long cc), .second, .unset, .unset, .unset, .unset, .unset, .unset] [(.long (9223372036854775807 : Int64)), (.long q2)]
    refine own_st (fun _ k => XS.land X0.here hx rfl (hb hby at_110) rfl k) ?_
    show own_Go X0 (Q0 Z p0 p1 q2 p3 h0 n0) 2 8 111 #[.val (.int p0), .val (.int p1), .val (.long q2), .second, .val (.int p3), .val (.int (1 : Int32)), .val (.int (2147483639 : Int32)), .val (.int gg), .val (.long cc), .second, .unset, .unset, .unset, .unset, .unset, .unset] [(.long (q2 &&& (9223372036854775807 : Int64)))]
    refine own_st (fun _ k => XS.lload X0.here hx rfl (hb hby at_111) rfl k) ?_
    show own_Go X0 (Q0 Z p0 p1 q2 p3 h0 n0) 2 8 113 #[.val (.int p0), .val (.int p1), .val (.long q2), .second, .val (.int p3), .val (.int (1 : Int32)), .val (.int (2147483639 : Int32)), .val (.int gg), .val (.long cc), .second, .unset, .unset, .unset, .unset, .unset, .unset] [(.long cc), (.long (q2 &&& (9223372036854775807 : Int64)))]
    refine own_st (fun _ k => own_lrem X0 hx rfl (hb hby at_113) rfl (own_cnz hC v1) k) ?_
    show own_Go X0 (Q0 Z p0 p1 q2 p3 h0 n0) 2 8 114 #[.val (.int p0), .val (.int p1), .val (.long q2), .second, .val (.int p3), .val (.int (1 : Int32)), .val (.int (2147483639 : Int32)), .val (.int gg), .val (.long cc), .second, .unset, .unset, .unset, .unset, .unset, .unset] [(.long ((q2 &&& (9223372036854775807 : Int64)) % cc))]
    refine own_st (fun _ k => XS.l2i X0.here hx rfl (hb hby at_114) rfl k) ?_
    show own_Go X0 (Q0 Z p0 p1 q2 p3 h0 n0) 2 8 115 #[.val (.int p0), .val (.int p1), .val (.long q2), .second, .val (.int p3), .val (.int (1 : Int32)), .val (.int (2147483639 : Int32)), .val (.int gg), .val (.long cc), .second, .unset, .unset, .unset, .unset, .unset, .unset] [(.int (((q2 &&& (9223372036854775807 : Int64)) % cc).toInt32))]
    refine own_st (fun _ k => XS.istore X0.here hx rfl (hb hby at_115) rfl (l' := #[.val (.int p0), .val (.int p1), .val (.long q2), .second, .val (.int p3), .val (.int (1 : Int32)), .val (.int (2147483639 : Int32)), .val (.int gg), .val (.long cc), .second, .val (.int (((q2 &&& (9223372036854775807 : Int64)) % cc).toInt32)), .unset, .unset, .unset, .unset, .unset]) rfl k) ?_
    show own_Go X0 (Q0 Z p0 p1 q2 p3 h0 n0) 2 8 117 #[.val (.int p0), .val (.int p1), .val (.long q2), .second, .val (.int p3), .val (.int (1 : Int32)), .val (.int (2147483639 : Int32)), .val (.int gg), .val (.long cc), .second, .val (.int (((q2 &&& (9223372036854775807 : Int64)) % cc).toInt32)), .unset, .unset, .unset, .unset, .unset] []
    generalize htp : (((q2 &&& (9223372036854775807 : Int64)) % cc).toInt32) = tp
    show own_Go X0 (Q0 Z p0 p1 q2 p3 h0 n0) 2 8 117 #[.val (.int p0), .val (.int p1), .val (.long q2), .second, .val (.int p3), .val (.int (1 : Int32)), .val (.int (2147483639 : Int32)), .val (.int gg), .val (.long cc), .second, .val (.int tp), .unset, .unset, .unset, .unset, .unset] []
    have hT := own_tp hC v1 (by omega) htp
    have k0 : 0 ≤ tp.toInt := hT.1
    have l0 : tp.toInt < gg.toInt := hT.2
    refine own_st (fun _ k => XS.iload X0.here hx rfl (hb hby at_117) rfl k) ?_
    show own_Go X0 (Q0 Z p0 p1 q2 p3 h0 n0) 2 8 119 #[.val (.int p0), .val (.int p1), .val (.long q2), .second, .val (.int p3), .val (.int (1 : Int32)), .val (.int (2147483639 : Int32)), .val (.int gg), .val (.long cc), .second, .val (.int tp), .unset, .unset, .unset, .unset, .unset] [(.int (1 : Int32))]
    refine own_st (fun _ k => XS.iload X0.here hx rfl (hb hby at_119) rfl k) ?_
    show own_Go X0 (Q0 Z p0 p1 q2 p3 h0 n0) 2 8 121 #[.val (.int p0), .val (.int p1), .val (.long q2), .second, .val (.int p3), .val (.int (1 : Int32)), .val (.int (2147483639 : Int32)), .val (.int gg), .val (.long cc), .second, .val (.int tp), .unset, .unset, .unset, .unset, .unset] [(.int p3), (.int (1 : Int32))]
    refine own_st (fun _ k => XS.bipush X0.here hx rfl (hb hby at_121) k) ?_
    show own_Go X0 (Q0 Z p0 p1 q2 p3 h0 n0) 2 8 123 #[.val (.int p0), .val (.int p1), .val (.long q2), .second, .val (.int p3), .val (.int (1 : Int32)), .val (.int (2147483639 : Int32)), .val (.int gg), .val (.long cc), .second, .val (.int tp), .unset, .unset, .unset, .unset, .unset] [(.int (7 : Int32)), (.int p3), (.int (1 : Int32))]
    refine own_st (fun _ k => XS.iand X0.here hx rfl (hb hby at_123) rfl k) ?_
    show own_Go X0 (Q0 Z p0 p1 q2 p3 h0 n0) 2 8 124 #[.val (.int p0), .val (.int p1), .val (.long q2), .second, .val (.int p3), .val (.int (1 : Int32)), .val (.int (2147483639 : Int32)), .val (.int gg), .val (.long cc), .second, .val (.int tp), .unset, .unset, .unset, .unset, .unset] [(.int (p3 &&& (7 : Int32))), (.int (1 : Int32))]
    refine own_st (fun _ k => XS.iadd X0.here hx rfl (hb hby at_124) rfl k) ?_
    show own_Go X0 (Q0 Z p0 p1 q2 p3 h0 n0) 2 8 125 #[.val (.int p0), .val (.int p1), .val (.long q2), .second, .val (.int p3), .val (.int (1 : Int32)), .val (.int (2147483639 : Int32)), .val (.int gg), .val (.long cc), .second, .val (.int tp), .unset, .unset, .unset, .unset, .unset] [(.int ((1 : Int32) + (p3 &&& (7 : Int32))))]
    refine own_st (fun _ k => XS.istore X0.here hx rfl (hb hby at_125) rfl (l' := #[.val (.int p0), .val (.int p1), .val (.long q2), .second, .val (.int p3), .val (.int (1 : Int32)), .val (.int (2147483639 : Int32)), .val (.int gg), .val (.long cc), .second, .val (.int tp), .val (.int ((1 : Int32) + (p3 &&& (7 : Int32)))), .unset, .unset, .unset, .unset]) rfl k) ?_
    show own_Go X0 (Q0 Z p0 p1 q2 p3 h0 n0) 2 8 127 #[.val (.int p0), .val (.int p1), .val (.long q2), .second, .val (.int p3), .val (.int (1 : Int32)), .val (.int (2147483639 : Int32)), .val (.int gg), .val (.long cc), .second, .val (.int tp), .val (.int ((1 : Int32) + (p3 &&& (7 : Int32)))), .unset, .unset, .unset, .unset] []
    generalize hcl : ((1 : Int32) + (p3 &&& (7 : Int32))) = cl
    show own_Go X0 (Q0 Z p0 p1 q2 p3 h0 n0) 2 8 127 #[.val (.int p0), .val (.int p1), .val (.long q2), .second, .val (.int p3), .val (.int (1 : Int32)), .val (.int (2147483639 : Int32)), .val (.int gg), .val (.long cc), .second, .val (.int tp), .val (.int cl), .unset, .unset, .unset, .unset] []
    have hCl := own_cl (t := (1 : Int32)) (by decide) hcl
    obtain ⟨T5, h5, X5, e5, E5, A5, D5, -, st5⟩ := newO X0 hx hZ hown (hw _ (List.mem_of_getElem? (i := 3) rfl)) (hw _ (List.mem_of_getElem? (i := 4) rfl)) (hw _ (List.mem_of_getElem? (i := 5) rfl)) e0 (g := (mkF m 127 #[.val (.int p0), .val (.int p1), .val (.long q2), .second, .val (.int p3), .val (.int (1 : Int32)), .val (.int (2147483639 : Int32)), .val (.int gg), .val (.long cc), .second, .val (.int tp), .val (.int cl), .unset, .unset, .unset, .unset] [])) rfl (hb hby at_127) (by decide) (by decide)
    obtain ⟨b5, g5⟩ : ∃ z, z = h0.size := ⟨_, rfl⟩
    rw [← g5] at A5 D5 st5
    refine own_st st5 ?_
    have G_6 := Nat.le_trans Z0 (Nat.le_of_eq g5.symm)
    have Z_7 := Nat.le_trans Z0 E5.1
    have F_rows_5 : Fld Z h5 b5 "com/example/gingham/gingham/designs/CoveringArraySpec" "rows" "I" (.int (0 : Int32)) := D5 (Or.inr (hw _ (List.mem_of_getElem? (i := 22) rfl))) (ty := .int) (by decide)
    have F_strength_5 : Fld Z h5 b5 "com/example/gingham/gingham/designs/CoveringArraySpec" "strength" "I" (.int (0 : Int32)) := D5 (Or.inr (hw _ (List.mem_of_getElem? (i := 24) rfl))) (ty := .int) (by decide)
    have F_columns_5 : Fld Z h5 b5 "com/example/gingham/gingham/designs/CoveringArraySpec" "columns" "I" (.int (0 : Int32)) := D5 (Or.inr (hw _ (List.mem_of_getElem? (i := 26) rfl))) (ty := .int) (by decide)
    have F_levels_5 : Fld Z h5 b5 "com/example/gingham/gingham/designs/CoveringArraySpec" "levels" "I" (.int (0 : Int32)) := D5 (Or.inr (hw _ (List.mem_of_getElem? (i := 28) rfl))) (ty := .int) (by decide)
    show own_Go X5 (Q0 Z p0 p1 q2 p3 h0 n0) 2 8 130 #[.val (.int p0), .val (.int p1), .val (.long q2), .second, .val (.int p3), .val (.int (1 : Int32)), .val (.int (2147483639 : Int32)), .val (.int gg), .val (.long cc), .second, .val (.int tp), .val (.int cl), .unset, .unset, .unset, .unset] [(.ref b5)]
    refine own_st (fun _ k => XS.dup X5.here hx rfl (hb hby at_130) rfl rfl k) ?_
    show own_Go X5 (Q0 Z p0 p1 q2 p3 h0 n0) 2 8 131 #[.val (.int p0), .val (.int p1), .val (.long q2), .second, .val (.int p3), .val (.int (1 : Int32)), .val (.int (2147483639 : Int32)), .val (.int gg), .val (.long cc), .second, .val (.int tp), .val (.int cl), .unset, .unset, .unset, .unset] [(.ref b5), (.ref b5)]
    refine own_st (fun _ k => XS.iconst X5.here hx rfl (hb hby at_131) k) ?_
    show own_Go X5 (Q0 Z p0 p1 q2 p3 h0 n0) 2 8 132 #[.val (.int p0), .val (.int p1), .val (.long q2), .second, .val (.int p3), .val (.int (1 : Int32)), .val (.int (2147483639 : Int32)), .val (.int gg), .val (.long cc), .second, .val (.int tp), .val (.int cl), .unset, .unset, .unset, .unset] [(.int (1 : Int32)), (.ref b5), (.ref b5)]
    refine own_st (fun _ k => XS.iload X5.here hx rfl (hb hby at_132) rfl k) ?_
    show own_Go X5 (Q0 Z p0 p1 q2 p3 h0 n0) 2 8 134 #[.val (.int p0), .val (.int p1), .val (.long q2), .second, .val (.int p3), .val (.int (1 : Int32)), .val (.int (2147483639 : Int32)), .val (.int gg), .val (.long cc), .second, .val (.int tp), .val (.int cl), .unset, .unset, .unset, .unset] [(.int (1 : Int32)), (.int (1 : Int32)), (.ref b5), (.ref b5)]
    refine own_st (fun _ k => XS.iload X5.here hx rfl (hb hby at_134) rfl k) ?_
    show own_Go X5 (Q0 Z p0 p1 q2 p3 h0 n0) 2 8 136 #[.val (.int p0), .val (.int p1), .val (.long q2), .second, .val (.int p3), .val (.int (1 : Int32)), .val (.int (2147483639 : Int32)), .val (.int gg), .val (.long cc), .second, .val (.int tp), .val (.int cl), .unset, .unset, .unset, .unset] [(.int cl), (.int (1 : Int32)), (.int (1 : Int32)), (.ref b5), (.ref b5)]
    refine own_st (fun _ k => XS.iload X5.here hx rfl (hb hby at_136) rfl k) ?_
    show own_Go X5 (Q0 Z p0 p1 q2 p3 h0 n0) 2 8 138 #[.val (.int p0), .val (.int p1), .val (.long q2), .second, .val (.int p3), .val (.int (1 : Int32)), .val (.int (2147483639 : Int32)), .val (.int gg), .val (.long cc), .second, .val (.int tp), .val (.int cl), .unset, .unset, .unset, .unset] [(.int gg), (.int cl), (.int (1 : Int32)), (.int (1 : Int32)), (.ref b5), (.ref b5)]
    refine own_callI (W := 1) X5 hx hZ hown (hw _ (List.mem_of_getElem? (i := 6) rfl)) (hw _ (List.mem_of_getElem? (i := 7) rfl)) (hw _ (List.mem_of_getElem? (i := 5) rfl)) (hw _ (List.mem_of_getElem? (i := 8) rfl)) rfl (by decide) (rm11 l Z a0 hw [] b5 cl gg h5 n0 Z_7 A5 G_6 F_rows_5 F_strength_5 F_columns_5 F_levels_5 (own_le64 pq1 (by omega)) (own_nn32 pq1 (by omega) (by omega)) (own_g2 hG.1) hCl.1 hCl.2) (by decide) (by decide) (by rw [hml]; rfl) b5 [(.int (1 : Int32)), (.int (1 : Int32)), (.int cl), (.int gg)] [(.ref b5)] (lenOf pd_0_0 rfl) rfl rfl (Nat.le_of_ble_eq_true rfl) (hb hby at_138) e5 (by decide) (by decide) ?_
    rintro _ T8 L8 X8 ⟨rfl, N8q, K8q, F8_rows, F8_strength, F8_columns, F8_levels⟩
    have N_9 := Fr.app N0 N8q
    have f_10 := A5.keep K8q
    have Z_11 := Nat.le_trans Z_7 K8q.1
    show own_Go X8 (Q0 Z p0 p1 q2 p3 h0 n0) 2 8 141 #[.val (.int p0), .val (.int p1), .val (.long q2), .second, .val (.int p3), .val (.int (1 : Int32)), .val (.int (2147483639 : Int32)), .val (.int gg), .val (.long cc), .second, .val (.int tp), .val (.int cl), .unset, .unset, .unset, .unset] [(.ref b5)]
    refine own_st (fun _ k => XS.astore X8.here hx rfl (hb hby at_141) rfl rfl (l' := #[.val (.int p0), .val (.int p1), .val (.long q2), .second, .val (.int p3), .val (.int (1 : Int32)), .val (.int (2147483639 : Int32)), .val (.int gg), .val (.long cc), .second, .val (.int tp), .val (.int cl), .val (.ref b5), .unset, .unset, .unset]) rfl k) ?_
    show own_Go X8 (Q0 Z p0 p1 q2 p3 h0 n0) 2 8 143 #[.val (.int p0), .val (.int p1), .val (.long q2), .second, .val (.int p3), .val (.int (1 : Int32)), .val (.int (2147483639 : Int32)), .val (.int gg), .val (.long cc), .second, .val (.int tp), .val (.int cl), .val (.ref b5), .unset, .unset, .unset] []
    refine own_st (fun _ k => XS.aload X8.here hx rfl (hb hby at_143) rfl rfl k) ?_
    show own_Go X8 (Q0 Z p0 p1 q2 p3 h0 n0) 2 8 145 #[.val (.int p0), .val (.int p1), .val (.long q2), .second, .val (.int p3), .val (.int (1 : Int32)), .val (.int (2147483639 : Int32)), .val (.int gg), .val (.long cc), .second, .val (.int tp), .val (.int cl), .val (.ref b5), .unset, .unset, .unset] [(.ref b5)]
    refine own_st (fun _ k => XS.iload X8.here hx rfl (hb hby at_145) rfl k) ?_
    show own_Go X8 (Q0 Z p0 p1 q2 p3 h0 n0) 2 8 147 #[.val (.int p0), .val (.int p1), .val (.long q2), .second, .val (.int p3), .val (.int (1 : Int32)), .val (.int (2147483639 : Int32)), .val (.int gg), .val (.long cc), .second, .val (.int tp), .val (.int cl), .val (.ref b5), .unset, .unset, .unset] [(.int tp), (.ref b5)]
    refine own_callV (W := 0) X8 hx hZ hown (hw _ (List.mem_of_getElem? (i := 29) rfl)) (hw _ (List.mem_of_getElem? (i := 30) rfl)) (hw _ (List.mem_of_getElem? (i := 32) rfl)) (hw _ (List.mem_of_getElem? (i := 31) rfl)) (hw _ (List.mem_of_getElem? (i := 5) rfl)) (hw _ (List.mem_of_getElem? (i := 33) rfl)) (by decide) (rm51 l Z a0 hw [] b5 tp gg T8.heap n0 Z_11 F8_levels F8_strength (own_gnz hG.1)) (by decide) (by decide) (by rw [hml]; rfl) b5 [(.int tp)] [] (lenOf pd_0_1 rfl) rfl rfl (Nat.le_of_ble_eq_true rfl) (hb hby at_147) (Eq.refl T8.heap) f_10 (by decide) (by decide) ?_
    rintro _ T12 L12 X12 ⟨b12, k12, rfl, N12q, K12q, G12q, S12q, V12q⟩
    have N_13 := Fr.app N_9 N12q
    have f_14 := f_10.keep K12q
    have f_15 := F8_rows.keep K12q nin0
    have f_16 := F8_strength.keep K12q nin0
    have f_17 := F8_columns.keep K12q nin0
    have f_18 := F8_levels.keep K12q nin0
    have Z_19 := Nat.le_trans Z_11 K12q.1
    show own_Go X12 (Q0 Z p0 p1 q2 p3 h0 n0) 2 8 150 #[.val (.int p0), .val (.int p1), .val (.long q2), .second, .val (.int p3), .val (.int (1 : Int32)), .val (.int (2147483639 : Int32)), .val (.int gg), .val (.long cc), .second, .val (.int tp), .val (.int cl), .val (.ref b5), .unset, .unset, .unset] [(.ref b12)]
    refine own_st (fun _ k => XS.astore X12.here hx rfl (hb hby at_150) rfl rfl (l' := #[.val (.int p0), .val (.int p1), .val (.long q2), .second, .val (.int p3), .val (.int (1 : Int32)), .val (.int (2147483639 : Int32)), .val (.int gg), .val (.long cc), .second, .val (.int tp), .val (.int cl), .val (.ref b5), .val (.ref b12), .unset, .unset]) rfl k) ?_
    show own_Go X12 (Q0 Z p0 p1 q2 p3 h0 n0) 2 8 152 #[.val (.int p0), .val (.int p1), .val (.long q2), .second, .val (.int p3), .val (.int (1 : Int32)), .val (.int (2147483639 : Int32)), .val (.int gg), .val (.long cc), .second, .val (.int tp), .val (.int cl), .val (.ref b5), .val (.ref b12), .unset, .unset] []
    refine own_st (fun _ k => XS.aload X12.here hx rfl (hb hby at_152) rfl rfl k) ?_
    show own_Go X12 (Q0 Z p0 p1 q2 p3 h0 n0) 2 8 154 #[.val (.int p0), .val (.int p1), .val (.long q2), .second, .val (.int p3), .val (.int (1 : Int32)), .val (.int (2147483639 : Int32)), .val (.int gg), .val (.long cc), .second, .val (.int tp), .val (.int cl), .val (.ref b5), .val (.ref b12), .unset, .unset] [(.ref b12)]
    refine own_st (fun _ k => own_len X12 hx hZ (Eq.refl T12.heap) V12q (g := (mkF m 154 #[.val (.int p0), .val (.int p1), .val (.long q2), .second, .val (.int p3), .val (.int (1 : Int32)), .val (.int (2147483639 : Int32)), .val (.int gg), .val (.long cc), .second, .val (.int tp), .val (.int cl), .val (.ref b5), .val (.ref b12), .unset, .unset] [(.ref b12)])) rfl rfl (hb hby at_154) _ k) ?_
    show own_Go X12 (Q0 Z p0 p1 q2 p3 h0 n0) 2 8 155 #[.val (.int p0), .val (.int p1), .val (.long q2), .second, .val (.int p3), .val (.int (1 : Int32)), .val (.int (2147483639 : Int32)), .val (.int gg), .val (.long cc), .second, .val (.int tp), .val (.int cl), .val (.ref b5), .val (.ref b12), .unset, .unset] [(.int (1 : Int32))]
    refine own_st (fun _ k => XS.iload X12.here hx rfl (hb hby at_155) rfl k) ?_
    show own_Go X12 (Q0 Z p0 p1 q2 p3 h0 n0) 2 8 157 #[.val (.int p0), .val (.int p1), .val (.long q2), .second, .val (.int p3), .val (.int (1 : Int32)), .val (.int (2147483639 : Int32)), .val (.int gg), .val (.long cc), .second, .val (.int tp), .val (.int cl), .val (.ref b5), .val (.ref b12), .unset, .unset] [(.int (1 : Int32)), (.int (1 : Int32))]
    have c157_20 : (1 : Int32) = (1 : Int32) := (by decide)
    refine own_st (fun _ k => XS.icmpYes X12.here hx rfl (pc0 := 157) (pc' := 162) rfl (hb hby at_157) rfl (teq c157_20).1 (by decide) (by decide) k) ?_
    show own_Go X12 (Q0 Z p0 p1 q2 p3 h0 n0) 2 8 162 #[.val (.int p0), .val (.int p1), .val (.long q2), .second, .val (.int p3), .val (.int (1 : Int32)), .val (.int (2147483639 : Int32)), .val (.int gg), .val (.long cc), .second, .val (.int tp), .val (.int cl), .val (.ref b5), .val (.ref b12), .unset, .unset] []
    refine own_st (fun _ k => XS.aload X12.here hx rfl (hb hby at_162) rfl rfl k) ?_
    show own_Go X12 (Q0 Z p0 p1 q2 p3 h0 n0) 2 8 164 #[.val (.int p0), .val (.int p1), .val (.long q2), .second, .val (.int p3), .val (.int (1 : Int32)), .val (.int (2147483639 : Int32)), .val (.int gg), .val (.long cc), .second, .val (.int tp), .val (.int cl), .val (.ref b5), .val (.ref b12), .unset, .unset] [(.ref b12)]
    refine own_st (fun _ k => XS.iconst X12.here hx rfl (hb hby at_164) k) ?_
    show own_Go X12 (Q0 Z p0 p1 q2 p3 h0 n0) 2 8 165 #[.val (.int p0), .val (.int p1), .val (.long q2), .second, .val (.int p3), .val (.int (1 : Int32)), .val (.int (2147483639 : Int32)), .val (.int gg), .val (.long cc), .second, .val (.int tp), .val (.int cl), .val (.ref b5), .val (.ref b12), .unset, .unset] [(.int (0 : Int32)), (.ref b12)]
    refine own_st (fun _ k => own_ldI X12 hx hZ (Eq.refl T12.heap) V12q (j := (0 : Int32)) ⟨by decide, by decide⟩ (v := (.int (tp % gg))) rfl (g := (mkF m 165 #[.val (.int p0), .val (.int p1), .val (.long q2), .second, .val (.int p3), .val (.int (1 : Int32)), .val (.int (2147483639 : Int32)), .val (.int gg), .val (.long cc), .second, .val (.int tp), .val (.int cl), .val (.ref b5), .val (.ref b12), .unset, .unset] [(.int (0 : Int32)), (.ref b12)])) rfl rfl (hb hby at_165) _ k) ?_
    show own_Go X12 (Q0 Z p0 p1 q2 p3 h0 n0) 2 8 166 #[.val (.int p0), .val (.int p1), .val (.long q2), .second, .val (.int p3), .val (.int (1 : Int32)), .val (.int (2147483639 : Int32)), .val (.int gg), .val (.long cc), .second, .val (.int tp), .val (.int cl), .val (.ref b5), .val (.ref b12), .unset, .unset] [(.int (tp % gg))]
    refine own_st (fun _ k => XS.iload X12.here hx rfl (hb hby at_166) rfl k) ?_
    show own_Go X12 (Q0 Z p0 p1 q2 p3 h0 n0) 2 8 168 #[.val (.int p0), .val (.int p1), .val (.long q2), .second, .val (.int p3), .val (.int (1 : Int32)), .val (.int (2147483639 : Int32)), .val (.int gg), .val (.long cc), .second, .val (.int tp), .val (.int cl), .val (.ref b5), .val (.ref b12), .unset, .unset] [(.int gg), (.int (tp % gg))]
    refine own_callS (W := 0) X12 hx hZ hown (hw _ (List.mem_of_getElem? (i := 35) rfl)) (hw _ (List.mem_of_getElem? (i := 36) rfl)) (hw _ (List.mem_of_getElem? (i := 37) rfl)) (hw _ (List.mem_of_getElem? (i := 38) rfl)) (by decide) (rm6 l Z a0 hw [] (tp % gg) gg  T12.heap n0 Z_19 ) (by decide) (by decide) (by rw [hml]; rfl) [(.int (tp % gg)), (.int gg)] [] (lenOf pd_0_2 rfl) rfl rfl (Nat.le_of_ble_eq_true rfl) (hb hby at_168) (Eq.refl T12.heap) (by decide) (by decide) ?_
    rintro _ T21 L21 X21 ⟨rfl, N21q, e21⟩
    have N_22 := Fr.app N_13 N21q
    show own_Go X21 (Q0 Z p0 p1 q2 p3 h0 n0) 2 8 171 #[.val (.int p0), .val (.int p1), .val (.long q2), .second, .val (.int p3), .val (.int (1 : Int32)), .val (.int (2147483639 : Int32)), .val (.int gg), .val (.long cc), .second, .val (.int tp), .val (.int cl), .val (.ref b5), .val (.ref b12), .unset, .unset] [(.int (own_ir (tp % gg) gg))]
    have c171_23 : ¬ ((own_ir (tp % gg) gg) = (0 : Int32)) := own_ir1 k0 hG.1
    refine own_st (fun _ k => XS.ifYes X21.here hx rfl (pc0 := 171) (pc' := 176) rfl (hb hby at_171) rfl ((if0 _ _).trans (feq c171_23).2) (by decide) (by decide) k) ?_
    show own_Go X21 (Q0 Z p0 p1 q2 p3 h0 n0) 2 8 176 #[.val (.int p0), .val (.int p1), .val (.long q2), .second, .val (.int p3), .val (.int (1 : Int32)), .val (.int (2147483639 : Int32)), .val (.int gg), .val (.long cc), .second, .val (.int tp), .val (.int cl), .val (.ref b5), .val (.ref b12), .unset, .unset] []
    refine own_st (fun _ k => XS.aload X21.here hx rfl (hb hby at_176) rfl rfl k) ?_
    show own_Go X21 (Q0 Z p0 p1 q2 p3 h0 n0) 2 8 178 #[.val (.int p0), .val (.int p1), .val (.long q2), .second, .val (.int p3), .val (.int (1 : Int32)), .val (.int (2147483639 : Int32)), .val (.int gg), .val (.long cc), .second, .val (.int tp), .val (.int cl), .val (.ref b5), .val (.ref b12), .unset, .unset] [(.ref b12)]
    refine own_st (fun _ k => XS.iconst X21.here hx rfl (hb hby at_178) k) ?_
    show own_Go X21 (Q0 Z p0 p1 q2 p3 h0 n0) 2 8 179 #[.val (.int p0), .val (.int p1), .val (.long q2), .second, .val (.int p3), .val (.int (1 : Int32)), .val (.int (2147483639 : Int32)), .val (.int gg), .val (.long cc), .second, .val (.int tp), .val (.int cl), .val (.ref b5), .val (.ref b12), .unset, .unset] [(.int (0 : Int32)), (.ref b12)]
    refine own_st (fun _ k => own_ldI X21 hx hZ e21 V12q (j := (0 : Int32)) ⟨by decide, by decide⟩ (v := (.int (tp % gg))) rfl (g := (mkF m 179 #[.val (.int p0), .val (.int p1), .val (.long q2), .second, .val (.int p3), .val (.int (1 : Int32)), .val (.int (2147483639 : Int32)), .val (.int gg), .val (.long cc), .second, .val (.int tp), .val (.int cl), .val (.ref b5), .val (.ref b12), .unset, .unset] [(.int (0 : Int32)), (.ref b12)])) rfl rfl (hb hby at_179) _ k) ?_
    show own_Go X21 (Q0 Z p0 p1 q2 p3 h0 n0) 2 8 180 #[.val (.int p0), .val (.int p1), .val (.long q2), .second, .val (.int p3), .val (.int (1 : Int32)), .val (.int (2147483639 : Int32)), .val (.int gg), .val (.long cc), .second, .val (.int tp), .val (.int cl), .val (.ref b5), .val (.ref b12), .unset, .unset] [(.int (tp % gg))]
    refine own_st (fun _ k => XS.i2l X21.here hx rfl (hb hby at_180) rfl k) ?_
    show own_Go X21 (Q0 Z p0 p1 q2 p3 h0 n0) 2 8 181 #[.val (.int p0), .val (.int p1), .val (.long q2), .second, .val (.int p3), .val (.int (1 : Int32)), .val (.int (2147483639 : Int32)), .val (.int gg), .val (.long cc), .second, .val (.int tp), .val (.int cl), .val (.ref b5), .val (.ref b12), .unset, .unset] [(.long ((tp % gg).toInt64))]
    refine own_st (fun _ k => XS.lstore X21.here hx rfl (hb hby at_181) rfl (l' := #[.val (.int p0), .val (.int p1), .val (.long q2), .second, .val (.int p3), .val (.int (1 : Int32)), .val (.int (2147483639 : Int32)), .val (.int gg), .val (.long cc), .second, .val (.int tp), .val (.int cl), .val (.ref b5), .val (.ref b12), .val (.long ((tp % gg).toInt64)), .second]) rfl k) ?_
    show own_Go X21 (Q0 Z p0 p1 q2 p3 h0 n0) 2 8 183 #[.val (.int p0), .val (.int p1), .val (.long q2), .second, .val (.int p3), .val (.int (1 : Int32)), .val (.int (2147483639 : Int32)), .val (.int gg), .val (.long cc), .second, .val (.int tp), .val (.int cl), .val (.ref b5), .val (.ref b12), .val (.long ((tp % gg).toInt64)), .second] []
    refine own_st (fun _ k => XS.iload X21.here hx rfl (hb hby at_183) rfl k) ?_
    show own_Go X21 (Q0 Z p0 p1 q2 p3 h0 n0) 2 8 185 #[.val (.int p0), .val (.int p1), .val (.long q2), .second, .val (.int p3), .val (.int (1 : Int32)), .val (.int (2147483639 : Int32)), .val (.int gg), .val (.long cc), .second, .val (.int tp), .val (.int cl), .val (.ref b5), .val (.ref b12), .val (.long ((tp % gg).toInt64)), .second] [(.int (1 : Int32))]
    refine own_st (fun _ k => XS.iconst X21.here hx rfl (hb hby at_185) k) ?_
    show own_Go X21 (Q0 Z p0 p1 q2 p3 h0 n0) 2 8 186 #[.val (.int p0), .val (.int p1), .val (.long q2), .second, .val (.int p3), .val (.int (1 : Int32)), .val (.int (2147483639 : Int32)), .val (.int gg), .val (.long cc), .second, .val (.int tp), .val (.int cl), .val (.ref b5), .val (.ref b12), .val (.long ((tp % gg).toInt64)), .second] [(.int (2 : Int32)), (.int (1 : Int32))]
    have c186_24 : (1 : Int32) < (2 : Int32) := (by decide)
    refine own_st (fun _ k => XS.icmpYes X21.here hx rfl (pc0 := 186) (pc' := 217) rfl (hb hby at_186) rfl (tlt c186_24).1 (by decide) (by decide) k) ?_
    show own_Go X21 (Q0 Z p0 p1 q2 p3 h0 n0) 2 8 217 #[.val (.int p0), .val (.int p1), .val (.long q2), .second, .val (.int p3), .val (.int (1 : Int32)), .val (.int (2147483639 : Int32)), .val (.int gg), .val (.long cc), .second, .val (.int tp), .val (.int cl), .val (.ref b5), .val (.ref b12), .val (.long ((tp % gg).toInt64)), .second] []
    refine own_st (fun _ k => XS.iload X21.here hx rfl (hb hby at_217) rfl k) ?_
    show own_Go X21 (Q0 Z p0 p1 q2 p3 h0 n0) 2 8 219 #[.val (.int p0), .val (.int p1), .val (.long q2), .second, .val (.int p3), .val (.int (1 : Int32)), .val (.int (2147483639 : Int32)), .val (.int gg), .val (.long cc), .second, .val (.int tp), .val (.int cl), .val (.ref b5), .val (.ref b12), .val (.long ((tp % gg).toInt64)), .second] [(.int (1 : Int32))]
    refine own_st (fun _ k => XS.iconst X21.here hx rfl (hb hby at_219) k) ?_
    show own_Go X21 (Q0 Z p0 p1 q2 p3 h0 n0) 2 8 220 #[.val (.int p0), .val (.int p1), .val (.long q2), .second, .val (.int p3), .val (.int (1 : Int32)), .val (.int (2147483639 : Int32)), .val (.int gg), .val (.long cc), .second, .val (.int tp), .val (.int cl), .val (.ref b5), .val (.ref b12), .val (.long ((tp % gg).toInt64)), .second] [(.int (3 : Int32)), (.int (1 : Int32))]
    have c220_25 : (1 : Int32) < (3 : Int32) := (by decide)
    refine own_st (fun _ k => XS.icmpYes X21.here hx rfl (pc0 := 220) (pc' := 251) rfl (hb hby at_220) rfl (tlt c220_25).1 (by decide) (by decide) k) ?_
    show own_Go X21 (Q0 Z p0 p1 q2 p3 h0 n0) 2 8 251 #[.val (.int p0), .val (.int p1), .val (.long q2), .second, .val (.int p3), .val (.int (1 : Int32)), .val (.int (2147483639 : Int32)), .val (.int gg), .val (.long cc), .second, .val (.int tp), .val (.int cl), .val (.ref b5), .val (.ref b12), .val (.long ((tp % gg).toInt64)), .second] []
    refine own_st (fun _ k => XS.iload X21.here hx rfl (hb hby at_251) rfl k) ?_
    show own_Go X21 (Q0 Z p0 p1 q2 p3 h0 n0) 2 8 253 #[.val (.int p0), .val (.int p1), .val (.long q2), .second, .val (.int p3), .val (.int (1 : Int32)), .val (.int (2147483639 : Int32)), .val (.int gg), .val (.long cc), .second, .val (.int tp), .val (.int cl), .val (.ref b5), .val (.ref b12), .val (.long ((tp % gg).toInt64)), .second] [(.int (1 : Int32))]
    refine own_st (fun _ k => XS.iconst X21.here hx rfl (hb hby at_253) k) ?_
    show own_Go X21 (Q0 Z p0 p1 q2 p3 h0 n0) 2 8 254 #[.val (.int p0), .val (.int p1), .val (.long q2), .second, .val (.int p3), .val (.int (1 : Int32)), .val (.int (2147483639 : Int32)), .val (.int gg), .val (.long cc), .second, .val (.int tp), .val (.int cl), .val (.ref b5), .val (.ref b12), .val (.long ((tp % gg).toInt64)), .second] [(.int (4 : Int32)), (.int (1 : Int32))]
    have c254_26 : (1 : Int32) < (4 : Int32) := (by decide)
    refine own_st (fun _ k => XS.icmpYes X21.here hx rfl (pc0 := 254) (pc' := 285) rfl (hb hby at_254) rfl (tlt c254_26).1 (by decide) (by decide) k) ?_
    show own_Go X21 (Q0 Z p0 p1 q2 p3 h0 n0) 2 8 285 #[.val (.int p0), .val (.int p1), .val (.long q2), .second, .val (.int p3), .val (.int (1 : Int32)), .val (.int (2147483639 : Int32)), .val (.int gg), .val (.long cc), .second, .val (.int tp), .val (.int cl), .val (.ref b5), .val (.ref b12), .val (.long ((tp % gg).toInt64)), .second] []
    refine own_st (fun _ k => XS.lload X21.here hx rfl (hb hby at_285) rfl k) ?_
    show own_Go X21 (Q0 Z p0 p1 q2 p3 h0 n0) 2 8 287 #[.val (.int p0), .val (.int p1), .val (.long q2), .second, .val (.int p3), .val (.int (1 : Int32)), .val (.int (2147483639 : Int32)), .val (.int gg), .val (.long cc), .second, .val (.int tp), .val (.int cl), .val (.ref b5), .val (.ref b12), .val (.long ((tp % gg).toInt64)), .second] [(.long ((tp % gg).toInt64))]
    refine own_st (fun _ k => XS.iload X21.here hx rfl (hb hby at_287) rfl k) ?_
    show own_Go X21 (Q0 Z p0 p1 q2 p3 h0 n0) 2 8 289 #[.val (.int p0), .val (.int p1), .val (.long q2), .second, .val (.int p3), .val (.int (1 : Int32)), .val (.int (2147483639 : Int32)), .val (.int gg), .val (.long cc), .second, .val (.int tp), .val (.int cl), .val (.ref b5), .val (.ref b12), .val (.long ((tp % gg).toInt64)), .second] [(.int tp), (.long ((tp % gg).toInt64))]
    refine own_st (fun _ k => XS.i2l X21.here hx rfl (hb hby at_289) rfl k) ?_
    show own_Go X21 (Q0 Z p0 p1 q2 p3 h0 n0) 2 8 290 #[.val (.int p0), .val (.int p1), .val (.long q2), .second, .val (.int p3), .val (.int (1 : Int32)), .val (.int (2147483639 : Int32)), .val (.int gg), .val (.long cc), .second, .val (.int tp), .val (.int cl), .val (.ref b5), .val (.ref b12), .val (.long ((tp % gg).toInt64)), .second] [(.long (tp.toInt64)), (.long ((tp % gg).toInt64))]
    refine own_st (fun _ k => XS.lcmp X21.here hx rfl (hb hby at_290) rfl k) ?_
    show own_Go X21 (Q0 Z p0 p1 q2 p3 h0 n0) 2 8 291 #[.val (.int p0), .val (.int p1), .val (.long q2), .second, .val (.int p3), .val (.int (1 : Int32)), .val (.int (2147483639 : Int32)), .val (.int gg), .val (.long cc), .second, .val (.int tp), .val (.int cl), .val (.ref b5), .val (.ref b12), .val (.long ((tp % gg).toInt64)), .second] [(.int (lcmpW ((tp % gg).toInt64) (tp.toInt64)))]
    have c291_27 : ((tp % gg).toInt64) = (tp.toInt64) := Int64.toInt_inj.mp (by rw [c_i2l tp]; exact (own_h0 k0 l0))
    refine own_st (fun _ k => XS.ifNo X21.here hx rfl (hb hby at_291) rfl ((if0 _ _).trans (teq ((lw_eq _ _).mpr c291_27)).2) k) ?_
    show own_Go X21 (Q0 Z p0 p1 q2 p3 h0 n0) 2 8 294 #[.val (.int p0), .val (.int p1), .val (.long q2), .second, .val (.int p3), .val (.int (1 : Int32)), .val (.int (2147483639 : Int32)), .val (.int gg), .val (.long cc), .second, .val (.int tp), .val (.int cl), .val (.ref b5), .val (.ref b12), .val (.long ((tp % gg).toInt64)), .second] []
    refine own_st (fun _ k => XS.iconst X21.here hx rfl (hb hby at_294) k) ?_
    show own_Go X21 (Q0 Z p0 p1 q2 p3 h0 n0) 2 8 295 #[.val (.int p0), .val (.int p1), .val (.long q2), .second, .val (.int p3), .val (.int (1 : Int32)), .val (.int (2147483639 : Int32)), .val (.int gg), .val (.long cc), .second, .val (.int tp), .val (.int cl), .val (.ref b5), .val (.ref b12), .val (.long ((tp % gg).toInt64)), .second] [(.int (1 : Int32))]
    refine own_st (fun _ k => XS.goto X21.here hx rfl (pc0 := 295) (pc' := 299) rfl (hb hby at_295) (by decide) (by decide) k) ?_
    show own_Go X21 (Q0 Z p0 p1 q2 p3 h0 n0) 2 8 299 #[.val (.int p0), .val (.int p1), .val (.long q2), .second, .val (.int p3), .val (.int (1 : Int32)), .val (.int (2147483639 : Int32)), .val (.int gg), .val (.long cc), .second, .val (.int tp), .val (.int cl), .val (.ref b5), .val (.ref b12), .val (.long ((tp % gg).toInt64)), .second] [(.int (1 : Int32))]
    refine own_retN X21 hx Bd.returns (by simp) hlk e21 (hb hby at_299) (by decide) (by decide) ?_
    exact ⟨rfl, N_22⟩
  · skip
    show own_Go X0 (Q0 Z p0 p1 q2 p3 h0 n0) 2 8 7 #[.val (.int p0), .val (.int p1), .val (.long q2), .second, .val (.int p3), .val (.int (2 : Int32)), .unset, .unset, .unset, .unset, .unset, .unset, .unset, .unset, .unset, .unset] []
    refine own_st (fun _ k => XS.iload X0.here hx rfl (hb hby at_7) rfl k) ?_
    show own_Go X0 (Q0 Z p0 p1 q2 p3 h0 n0) 2 8 9 #[.val (.int p0), .val (.int p1), .val (.long q2), .second, .val (.int p3), .val (.int (2 : Int32)), .unset, .unset, .unset, .unset, .unset, .unset, .unset, .unset, .unset, .unset] [(.int (2 : Int32))]
    refine own_st (fun _ k => XS.iconst X0.here hx rfl (hb hby at_9) k) ?_
    show own_Go X0 (Q0 Z p0 p1 q2 p3 h0 n0) 2 8 10 #[.val (.int p0), .val (.int p1), .val (.long q2), .second, .val (.int p3), .val (.int (2 : Int32)), .unset, .unset, .unset, .unset, .unset, .unset, .unset, .unset, .unset, .unset] [(.int (1 : Int32)), (.int (2 : Int32))]
    have c10_28 : ¬ ((2 : Int32) = (1 : Int32)) := (by decide)
    refine own_st (fun _ k => XS.icmpYes X0.here hx rfl (pc0 := 10) (pc' := 18) rfl (hb hby at_10) rfl (feq c10_28).2 (by decide) (by decide) k) ?_
    show own_Go X0 (Q0 Z p0 p1 q2 p3 h0 n0) 2 8 18 #[.val (.int p0), .val (.int p1), .val (.long q2), .second, .val (.int p3), .val (.int (2 : Int32)), .unset, .unset, .unset, .unset, .unset, .unset, .unset, .unset, .unset, .unset] []
    refine own_st (fun _ k => XS.iload X0.here hx rfl (hb hby at_18) rfl k) ?_
    show own_Go X0 (Q0 Z p0 p1 q2 p3 h0 n0) 2 8 20 #[.val (.int p0), .val (.int p1), .val (.long q2), .second, .val (.int p3), .val (.int (2 : Int32)), .unset, .unset, .unset, .unset, .unset, .unset, .unset, .unset, .unset, .unset] [(.int (2 : Int32))]
    refine own_st (fun _ k => XS.iconst X0.here hx rfl (hb hby at_20) k) ?_
    show own_Go X0 (Q0 Z p0 p1 q2 p3 h0 n0) 2 8 21 #[.val (.int p0), .val (.int p1), .val (.long q2), .second, .val (.int p3), .val (.int (2 : Int32)), .unset, .unset, .unset, .unset, .unset, .unset, .unset, .unset, .unset, .unset] [(.int (2 : Int32)), (.int (2 : Int32))]
    have c21_29 : (2 : Int32) = (2 : Int32) := (by decide)
    refine own_st (fun _ k => XS.icmpNo X0.here hx rfl (hb hby at_21) rfl (teq c21_29).2 k) ?_
    show own_Go X0 (Q0 Z p0 p1 q2 p3 h0 n0) 2 8 24 #[.val (.int p0), .val (.int p1), .val (.long q2), .second, .val (.int p3), .val (.int (2 : Int32)), .unset, .unset, .unset, .unset, .unset, .unset, .unset, .unset, .unset, .unset] []
    refine own_st (fun t k => X0.ldcInt hx hown (mvT hZ (hw _ (List.mem_of_getElem? (i := 39) rfl))) (g := (mkF m 24 #[.val (.int p0), .val (.int p1), .val (.long q2), .second, .val (.int p3), .val (.int (2 : Int32)), .unset, .unset, .unset, .unset, .unset, .unset, .unset, .unset, .unset, .unset] [])) rfl (hb hby at_24) t k) ?_
    show own_Go X0 (Q0 Z p0 p1 q2 p3 h0 n0) 2 8 26 #[.val (.int p0), .val (.int p1), .val (.long q2), .second, .val (.int p3), .val (.int (2 : Int32)), .unset, .unset, .unset, .unset, .unset, .unset, .unset, .unset, .unset, .unset] [(.int (46340 : Int32))]
    refine own_st (fun _ k => XS.goto X0.here hx rfl (pc0 := 26) (pc' := 44) rfl (hb hby at_26) (by decide) (by decide) k) ?_
    show own_Go X0 (Q0 Z p0 p1 q2 p3 h0 n0) 2 8 44 #[.val (.int p0), .val (.int p1), .val (.long q2), .second, .val (.int p3), .val (.int (2 : Int32)), .unset, .unset, .unset, .unset, .unset, .unset, .unset, .unset, .unset, .unset] [(.int (46340 : Int32))]
    refine own_st (fun _ k => XS.istore X0.here hx rfl (hb hby at_44) rfl (l' := #[.val (.int p0), .val (.int p1), .val (.long q2), .second, .val (.int p3), .val (.int (2 : Int32)), .val (.int (46340 : Int32)), .unset, .unset, .unset, .unset, .unset, .unset, .unset, .unset, .unset]) rfl k) ?_
    show own_Go X0 (Q0 Z p0 p1 q2 p3 h0 n0) 2 8 46 #[.val (.int p0), .val (.int p1), .val (.long q2), .second, .val (.int p3), .val (.int (2 : Int32)), .val (.int (46340 : Int32)), .unset, .unset, .unset, .unset, .unset, .unset, .unset, .unset, .unset] []
    refine own_st (fun _ k => XS.iconst X0.here hx rfl (hb hby at_46) k) ?_
    show own_Go X0 (Q0 Z p0 p1 q2 p3 h0 n0) 2 8 47 #[.val (.int p0), .val (.int p1), .val (.long q2), .second, .val (.int p3), .val (.int (2 : Int32)), .val (.int (46340 : Int32)), .unset, .unset, .unset, .unset, .unset, .unset, .unset, .unset, .unset] [(.int (2 : Int32))]
    refine own_st (fun _ k => XS.iloadN X0.here hx rfl (hb hby at_47) rfl k) ?_
    show own_Go X0 (Q0 Z p0 p1 q2 p3 h0 n0) 2 8 48 #[.val (.int p0), .val (.int p1), .val (.long q2), .second, .val (.int p3), .val (.int (2 : Int32)), .val (.int (46340 : Int32)), .unset, .unset, .unset, .unset, .unset, .unset, .unset, .unset, .unset] [(.int p1), (.int (2 : Int32))]
    refine own_st (fun t k => X0.ldcInt hx hown (mvT hZ (hw _ (List.mem_of_getElem? (i := 1) rfl))) (g := (mkF m 48 #[.val (.int p0), .val (.int p1), .val (.long q2), .second, .val (.int p3), .val (.int (2 : Int32)), .val (.int (46340 : Int32)), .unset, .unset, .unset, .unset, .unset, .unset, .unset, .unset, .unset] [(.int p1), (.int (2 : Int32))])) rfl (hb hby at_48) t k) ?_
    show own_Go X0 (Q0 Z p0 p1 q2 p3 h0 n0) 2 8 50 #[.val (.int p0), .val (.int p1), .val (.long q2), .second, .val (.int p3), .val (.int (2 : Int32)), .val (.int (46340 : Int32)), .unset, .unset, .unset, .unset, .unset, .unset, .unset, .unset, .unset] [(.int (2147483647 : Int32)), (.int p1), (.int (2 : Int32))]
    refine own_st (fun _ k => XS.iand X0.here hx rfl (hb hby at_50) rfl k) ?_
    show own_Go X0 (Q0 Z p0 p1 q2 p3 h0 n0) 2 8 51 #[.val (.int p0), .val (.int p1), .val (.long q2), .second, .val (.int p3), .val (.int (2 : Int32)), .val (.int (46340 : Int32)), .unset, .unset, .unset, .unset, .unset, .unset, .unset, .unset, .unset] [(.int (p1 &&& (2147483647 : Int32))), (.int (2 : Int32))]
    refine own_st (fun _ k => XS.iload X0.here hx rfl (hb hby at_51) rfl k) ?_
    show own_Go X0 (Q0 Z p0 p1 q2 p3 h0 n0) 2 8 53 #[.val (.int p0), .val (.int p1), .val (.long q2), .second, .val (.int p3), .val (.int (2 : Int32)), .val (.int (46340 : Int32)), .unset, .unset, .unset, .unset, .unset, .unset, .unset, .unset, .unset] [(.int (46340 : Int32)), (.int (p1 &&& (2147483647 : Int32))), (.int (2 : Int32))]
    refine own_st (fun _ k => XS.iconst X0.here hx rfl (hb hby at_53) k) ?_
    show own_Go X0 (Q0 Z p0 p1 q2 p3 h0 n0) 2 8 54 #[.val (.int p0), .val (.int p1), .val (.long q2), .second, .val (.int p3), .val (.int (2 : Int32)), .val (.int (46340 : Int32)), .unset, .unset, .unset, .unset, .unset, .unset, .unset, .unset, .unset] [(.int (1 : Int32)), (.int (46340 : Int32)), (.int (p1 &&& (2147483647 : Int32))), (.int (2 : Int32))]
    refine own_st (fun _ k => XS.isub X0.here hx rfl (hb hby at_54) rfl k) ?_
    show own_Go X0 (Q0 Z p0 p1 q2 p3 h0 n0) 2 8 55 #[.val (.int p0), .val (.int p1), .val (.long q2), .second, .val (.int p3), .val (.int (2 : Int32)), .val (.int (46340 : Int32)), .unset, .unset, .unset, .unset, .unset, .unset, .unset, .unset, .unset] [(.int (46339 : Int32)), (.int (p1 &&& (2147483647 : Int32))), (.int (2 : Int32))]
    refine own_st (fun _ k => iremM X0 hx rfl (hb hby at_55) rfl (by decide) k) ?_
    show own_Go X0 (Q0 Z p0 p1 q2 p3 h0 n0) 2 8 56 #[.val (.int p0), .val (.int p1), .val (.long q2), .second, .val (.int p3), .val (.int (2 : Int32)), .val (.int (46340 : Int32)), .unset, .unset, .unset, .unset, .unset, .unset, .unset, .unset, .unset] [(.int ((p1 &&& (2147483647 : Int32)) % (46339 : Int32))), (.int (2 : Int32))]
    refine own_st (fun _ k => XS.iadd X0.here hx rfl (hb hby at_56) rfl k) ?_
    show own_Go X0 (Q0 Z p0 p1 q2 p3 h0 n0) 2 8 57 #[.val (.int p0), .val (.int p1), .val (.long q2), .second, .val (.int p3), .val (.int (2 : Int32)), .val (.int (46340 : Int32)), .unset, .unset, .unset, .unset, .unset, .unset, .unset, .unset, .unset] [(.int ((2 : Int32) + ((p1 &&& (2147483647 : Int32)) % (46339 : Int32))))]
    refine own_st (fun _ k => XS.istore X0.here hx rfl (hb hby at_57) rfl (l' := #[.val (.int p0), .val (.int p1), .val (.long q2), .second, .val (.int p3), .val (.int (2 : Int32)), .val (.int (46340 : Int32)), .val (.int ((2 : Int32) + ((p1 &&& (2147483647 : Int32)) % (46339 : Int32)))), .unset, .unset, .unset, .unset, .unset, .unset, .unset, .unset]) rfl k) ?_
    show own_Go X0 (Q0 Z p0 p1 q2 p3 h0 n0) 2 8 59 #[.val (.int p0), .val (.int p1), .val (.long q2), .second, .val (.int p3), .val (.int (2 : Int32)), .val (.int (46340 : Int32)), .val (.int ((2 : Int32) + ((p1 &&& (2147483647 : Int32)) % (46339 : Int32)))), .unset, .unset, .unset, .unset, .unset, .unset, .unset, .unset] []
    generalize hgg : ((2 : Int32) + ((p1 &&& (2147483647 : Int32)) % (46339 : Int32))) = gg
    show own_Go X0 (Q0 Z p0 p1 q2 p3 h0 n0) 2 8 59 #[.val (.int p0), .val (.int p1), .val (.long q2), .second, .val (.int p3), .val (.int (2 : Int32)), .val (.int (46340 : Int32)), .val (.int gg), .unset, .unset, .unset, .unset, .unset, .unset, .unset, .unset] []
    have hG : 2 ≤ gg.toInt ∧ gg.toInt ≤ 46340 := own_gb (M := 46339) (by decide) (by decide) (by decide) hgg
    refine own_st (fun _ k => XS.iload X0.here hx rfl (hb hby at_59) rfl k) ?_
    show own_Go X0 (Q0 Z p0 p1 q2 p3 h0 n0) 2 8 61 #[.val (.int p0), .val (.int p1), .val (.long q2), .second, .val (.int p3), .val (.int (2 : Int32)), .val (.int (46340 : Int32)), .val (.int gg), .unset, .unset, .unset, .unset, .unset, .unset, .unset, .unset] [(.int gg)]
    refine own_st (fun _ k => XS.i2l X0.here hx rfl (hb hby at_61) rfl k) ?_
    show own_Go X0 (Q0 Z p0 p1 q2 p3 h0 n0) 2 8 62 #[.val (.int p0), .val (.int p1), .val (.long q2), .second, .val (.int p3), .val (.int (2 : Int32)), .val (.int (46340 : Int32)), .val (.int gg), .unset, .unset, .unset, .unset, .unset, .unset, .unset, .unset] [(.long (gg.toInt64))]
    refine own_st (fun _ k => XS.lstore X0.here hx rfl (hb hby at_62) rfl (l' := #[.val (.int p0), .val (.int p1), .val (.long q2), .second, .val (.int p3), .val (.int (2 : Int32)), .val (.int (46340 : Int32)), .val (.int gg), .val (.long (gg.toInt64)), .second, .unset, .unset, .unset, .unset, .unset, .unset]) rfl k) ?_
    show own_Go X0 (Q0 Z p0 p1 q2 p3 h0 n0) 2 8 64 #[.val (.int p0), .val (.int p1), .val (.long q2), .second, .val (.int p3), .val (.int (2 : Int32)), .val (.int (46340 : Int32)), .val (.int gg), .val (.long (gg.toInt64)), .second, .unset, .unset, .unset, .unset, .unset, .unset] []
    refine own_st (fun _ k => XS.iload X0.here hx rfl (hb hby at_64) rfl k) ?_
    show own_Go X0 (Q0 Z p0 p1 q2 p3 h0 n0) 2 8 66 #[.val (.int p0), .val (.int p1), .val (.long q2), .second, .val (.int p3), .val (.int (2 : Int32)), .val (.int (46340 : Int32)), .val (.int gg), .val (.long (gg.toInt64)), .second, .unset, .unset, .unset, .unset, .unset, .unset] [(.int (2 : Int32))]
    refine own_st (fun _ k => XS.iconst X0.here hx rfl (hb hby at_66) k) ?_
    show own_Go X0 (Q0 Z p0 p1 q2 p3 h0 n0) 2 8 67 #[.val (.int p0), .val (.int p1), .val (.long q2), .second, .val (.int p3), .val (.int (2 : Int32)), .val (.int (46340 : Int32)), .val (.int gg), .val (.long (gg.toInt64)), .second, .unset, .unset, .unset, .unset, .unset, .unset] [(.int (2 : Int32)), (.int (2 : Int32))]
    have c67_30 : ¬ ((2 : Int32) < (2 : Int32)) := (by decide)
    refine own_st (fun _ k => XS.icmpNo X0.here hx rfl (hb hby at_67) rfl (flt c67_30).1 k) ?_
    show own_Go X0 (Q0 Z p0 p1 q2 p3 h0 n0) 2 8 70 #[.val (.int p0), .val (.int p1), .val (.long q2), .second, .val (.int p3), .val (.int (2 : Int32)), .val (.int (46340 : Int32)), .val (.int gg), .val (.long (gg.toInt64)), .second, .unset, .unset, .unset, .unset, .unset, .unset] []
    refine own_st (fun _ k => XS.lload X0.here hx rfl (hb hby at_70) rfl k) ?_
    show own_Go X0 (Q0 Z p0 p1 q2 p3 h0 n0) 2 8 72 #[.val (.int p0), .val (.int p1), .val (.long q2), .second, .val (.int p3), .val (.int (2 : Int32)), .val (.int (46340 : Int32)), .val (.int gg), .val (.long (gg.toInt64)), .second, .unset, .unset, .unset, .unset, .unset, .unset] [(.long (gg.toInt64))]
    refine own_st (fun _ k => XS.iload X0.here hx rfl (hb hby at_72) rfl k) ?_
    show own_Go X0 (Q0 Z p0 p1 q2 p3 h0 n0) 2 8 74 #[.val (.int p0), .val (.int p1), .val (.long q2), .second, .val (.int p3), .val (.int (2 : Int32)), .val (.int (46340 : Int32)), .val (.int gg), .val (.long (gg.toInt64)), .second, .unset, .unset, .unset, .unset, .unset, .unset] [(.int gg), (.long (gg.toInt64))]
    refine own_st (fun _ k => XS.i2l X0.here hx rfl (hb hby at_74) rfl k) ?_
    show own_Go X0 (Q0 Z p0 p1 q2 p3 h0 n0) 2 8 75 #[.val (.int p0), .val (.int p1), .val (.long q2), .second, .val (.int p3), .val (.int (2 : Int32)), .val (.int (46340 : Int32)), .val (.int gg), .val (.long (gg.toInt64)), .second, .unset, .unset, .unset, .unset, .unset, .unset] [(.long (gg.toInt64)), (.long (gg.toInt64))]
    refine own_st (fun _ k => XS.lmul X0.here hx rfl (hb hby at_75) rfl k) ?_
    show own_Go X0 (Q0 Z p0 p1 q2 p3 h0 n0) 2 8 76 #[.val (.int p0), .val (.int p1), .val (.long q2), .second, .val (.int p3), .val (.int (2 : Int32)), .val (.int (46340 : Int32)), .val (.int gg), .val (.long (gg.toInt64)), .second, .unset, .unset, .unset, .unset, .unset, .unset] [(.long ((gg.toInt64) * (gg.toInt64)))]
    refine own_st (fun _ k => XS.lstore X0.here hx rfl (hb hby at_76) rfl (l' := #[.val (.int p0), .val (.int p1), .val (.long q2), .second, .val (.int p3), .val (.int (2 : Int32)), .val (.int (46340 : Int32)), .val (.int gg), .val (.long ((gg.toInt64) * (gg.toInt64))), .second, .unset, .unset, .unset, .unset, .unset, .unset]) rfl k) ?_
    show own_Go X0 (Q0 Z p0 p1 q2 p3 h0 n0) 2 8 78 #[.val (.int p0), .val (.int p1), .val (.long q2), .second, .val (.int p3), .val (.int (2 : Int32)), .val (.int (46340 : Int32)), .val (.int gg), .val (.long ((gg.toInt64) * (gg.toInt64))), .second, .unset, .unset, .unset, .unset, .unset, .unset] []
    refine own_st (fun _ k => XS.iload X0.here hx rfl (hb hby at_78) rfl k) ?_
    show own_Go X0 (Q0 Z p0 p1 q2 p3 h0 n0) 2 8 80 #[.val (.int p0), .val (.int p1), .val (.long q2), .second, .val (.int p3), .val (.int (2 : Int32)), .val (.int (46340 : Int32)), .val (.int gg), .val (.long ((gg.toInt64) * (gg.toInt64))), .second, .unset, .unset, .unset, .unset, .unset, .unset] [(.int (2 : Int32))]
    refine own_st (fun _ k => XS.iconst X0.here hx rfl (hb hby at_80) k) ?_
    show own_Go X0 (Q0 Z p0 p1 q2 p3 h0 n0) 2 8 81 #[.val (.int p0), .val (.int p1), .val (.long q2), .second, .val (.int p3), .val (.int (2 : Int32)), .val (.int (46340 : Int32)), .val (.int gg), .val (.long ((gg.toInt64) * (gg.toInt64))), .second, .unset, .unset, .unset, .unset, .unset, .unset] [(.int (3 : Int32)), (.int (2 : Int32))]
    have c81_31 : (2 : Int32) < (3 : Int32) := (by decide)
    refine own_st (fun _ k => XS.icmpYes X0.here hx rfl (pc0 := 81) (pc' := 92) rfl (hb hby at_81) rfl (tlt c81_31).1 (by decide) (by decide) k) ?_
    show own_Go X0 (Q0 Z p0 p1 q2 p3 h0 n0) 2 8 92 #[.val (.int p0), .val (.int p1), .val (.long q2), .second, .val (.int p3), .val (.int (2 : Int32)), .val (.int (46340 : Int32)), .val (.int gg), .val (.long ((gg.toInt64) * (gg.toInt64))), .second, .unset, .unset, .unset, .unset, .unset, .unset] []
    refine own_st (fun _ k => XS.iload X0.here hx rfl (hb hby at_92) rfl k) ?_
    show own_Go X0 (Q0 Z p0 p1 q2 p3 h0 n0) 2 8 94 #[.val (.int p0), .val (.int p1), .val (.long q2), .second, .val (.int p3), .val (.int (2 : Int32)), .val (.int (46340 : Int32)), .val (.int gg), .val (.long ((gg.toInt64) * (gg.toInt64))), .second, .unset, .unset, .unset, .unset, .unset, .unset] [(.int (2 : Int32))]
    refine own_st (fun _ k => XS.iconst X0.here hx rfl (hb hby at_94) k) ?_
    show own_Go X0 (Q0 Z p0 p1 q2 p3 h0 n0) 2 8 95 #[.val (.int p0), .val (.int p1), .val (.long q2), .second, .val (.int p3), .val (.int (2 : Int32)), .val (.int (46340 : Int32)), .val (.int gg), .val (.long ((gg.toInt64) * (gg.toInt64))), .second, .unset, .unset, .unset, .unset, .unset, .unset] [(.int (4 : Int32)), (.int (2 : Int32))]
    have c95_32 : (2 : Int32) < (4 : Int32) := (by decide)
    refine own_st (fun _ k => XS.icmpYes X0.here hx rfl (pc0 := 95) (pc' := 106) rfl (hb hby at_95) rfl (tlt c95_32).1 (by decide) (by decide) k) ?_
    show own_Go X0 (Q0 Z p0 p1 q2 p3 h0 n0) 2 8 106 #[.val (.int p0), .val (.int p1), .val (.long q2), .second, .val (.int p3), .val (.int (2 : Int32)), .val (.int (46340 : Int32)), .val (.int gg), .val (.long ((gg.toInt64) * (gg.toInt64))), .second, .unset, .unset, .unset, .unset, .unset, .unset] []
    have u1 : gg.toInt ≤ 46340 := hG.2
    have v1 : 0 < gg.toInt := by omega
    have pq1 : (own_pw1 gg).toInt = gg.toInt := own_p1 gg
    have r1 : (gg.toInt64).toInt = gg.toInt := c_i2l gg
    have u2 := own_ub2 (a := gg.toInt) (b := gg.toInt) (A := 46340) (B := 46340) (by omega) (by omega) u1 hG.2
    have v2 : 0 < gg.toInt * gg.toInt := Int.mul_pos v1 v1
    have pq2 : (own_pw2 gg).toInt = gg.toInt * gg.toInt := own_mulx pq1 (by omega) (by omega)
    have r2 : (gg.toInt64 * gg.toInt64).toInt = gg.toInt * gg.toInt := own_mulx r1 (by omega) (by omega)
    generalize hcc : ((gg.toInt64) * (gg.toInt64)) = cc
    show own_Go X0 (Q0 Z p0 p1 q2 p3 h0 n0) 2 8 106 #[.val (.int p0), .val (.int p1), .val (.long q2), .second, .val (.int p3), .val (.int (2 : Int32)), .val (.int (46340 : Int32)), .val (.int gg), .val (.long cc), .second, .unset, .unset, .unset, .unset, .unset, .unset] []
    have hC : cc.toInt = gg.toInt * gg.toInt := by rw [← hcc]; exact r2
    refine own_st (fun _ k => XS.lloadN X0.here hx rfl (hb hby at_106) rfl k) ?_
    show own_Go X0 (Q0 Z p0 p1 q2 p3 h0 n0) 2 8 107 #[.val (.int p0), .val (.int p1), .val (.long q2), .second, .val (.int p3), .val (.int (2 : Int32)), .val (.int (46340 : Int32)), .val (.int gg), .val (.long cc), .second, .unset, .unset, .unset, .unset, .unset, .unset] [(.long q2)]
    refine own_st (fun t k => X0.ldc2Long hx hown (mvT hZ (hw _ (List.mem_of_getElem? (i := 2) rfl))) (g := (mkF m 107 #[.val (.int p0), .val (.int p1), .val (.long q2), .second, .val (.int p3), .val (.int (2 : Int32)), .val (.int (46340 : Int32)), .val (.int gg), .val (.long cc), .second, .unset, .unset, .unset, .unset, .unset, .unset] [(.long q2)])) rfl (hb hby at_107) t k) ?_
    show own_Go X0 (Q0 Z p0 p1 q2 p3 h0 n0) 2 8 110 #[.val (.int p0), .val (.int p1), .val (.long q2), .second, .val (.int p3), .val (.int (2 : Int32)), .val (.int (46340 : Int32)), .val (.int gg), .val (.long cc), .second, .unset, .unset, .unset, .unset, .unset, .unset] [(.long (9223372036854775807 : Int64)), (.long q2)]
    refine own_st (fun _ k => XS.land X0.here hx rfl (hb hby at_110) rfl k) ?_
    show own_Go X0 (Q0 Z p0 p1 q2 p3 h0 n0) 2 8 111 #[.val (.int p0), .val (.int p1), .val (.long q2), .second, .val (.int p3), .val (.int (2 : Int32)), .val (.int (46340 : Int32)), .val (.int gg), .val (.long cc), .second, .unset, .unset, .unset, .unset, .unset, .unset] [(.long (q2 &&& (9223372036854775807 : Int64)))]
    refine own_st (fun _ k => XS.lload X0.here hx rfl (hb hby at_111) rfl k) ?_
    show own_Go X0 (Q0 Z p0 p1 q2 p3 h0 n0) 2 8 113 #[.val (.int p0), .val (.int p1), .val (.long q2), .second, .val (.int p3), .val (.int (2 : Int32)), .val (.int (46340 : Int32)), .val (.int gg), .val (.long cc), .second, .unset, .unset, .unset, .unset, .unset, .unset] [(.long cc), (.long (q2 &&& (9223372036854775807 : Int64)))]
    refine own_st (fun _ k => own_lrem X0 hx rfl (hb hby at_113) rfl (own_cnz hC v2) k) ?_
    show own_Go X0 (Q0 Z p0 p1 q2 p3 h0 n0) 2 8 114 #[.val (.int p0), .val (.int p1), .val (.long q2), .second, .val (.int p3), .val (.int (2 : Int32)), .val (.int (46340 : Int32)), .val (.int gg), .val (.long cc), .second, .unset, .unset, .unset, .unset, .unset, .unset] [(.long ((q2 &&& (9223372036854775807 : Int64)) % cc))]
    refine own_st (fun _ k => XS.l2i X0.here hx rfl (hb hby at_114) rfl k) ?_
    show own_Go X0 (Q0 Z p0 p1 q2 p3 h0 n0) 2 8 115 #[.val (.int p0), .val (.int p1), .val (.long q2), .second, .val (.int p3), .val (.int (2 : Int32)), .val (.int (46340 : Int32)), .val (.int gg), .val (.long cc), .second, .unset, .unset, .unset, .unset, .unset, .unset] [(.int (((q2 &&& (9223372036854775807 : Int64)) % cc).toInt32))]
    refine own_st (fun _ k => XS.istore X0.here hx rfl (hb hby at_115) rfl (l' := #[.val (.int p0), .val (.int p1), .val (.long q2), .second, .val (.int p3), .val (.int (2 : Int32)), .val (.int (46340 : Int32)), .val (.int gg), .val (.long cc), .second, .val (.int (((q2 &&& (9223372036854775807 : Int64)) % cc).toInt32)), .unset, .unset, .unset, .unset, .unset]) rfl k) ?_
    show own_Go X0 (Q0 Z p0 p1 q2 p3 h0 n0) 2 8 117 #[.val (.int p0), .val (.int p1), .val (.long q2), .second, .val (.int p3), .val (.int (2 : Int32)), .val (.int (46340 : Int32)), .val (.int gg), .val (.long cc), .second, .val (.int (((q2 &&& (9223372036854775807 : Int64)) % cc).toInt32)), .unset, .unset, .unset, .unset, .unset] []
    generalize htp : (((q2 &&& (9223372036854775807 : Int64)) % cc).toInt32) = tp
    show own_Go X0 (Q0 Z p0 p1 q2 p3 h0 n0) 2 8 117 #[.val (.int p0), .val (.int p1), .val (.long q2), .second, .val (.int p3), .val (.int (2 : Int32)), .val (.int (46340 : Int32)), .val (.int gg), .val (.long cc), .second, .val (.int tp), .unset, .unset, .unset, .unset, .unset] []
    have hT := own_tp hC v2 (by omega) htp
    have k0 : 0 ≤ tp.toInt := hT.1
    have l0 : tp.toInt < gg.toInt * gg.toInt := hT.2
    have k1 := own_dnn k0 hG.1
    have l1 : (tp / gg).toInt < gg.toInt := own_dlt k0 hG.1 l0
    refine own_st (fun _ k => XS.iload X0.here hx rfl (hb hby at_117) rfl k) ?_
    show own_Go X0 (Q0 Z p0 p1 q2 p3 h0 n0) 2 8 119 #[.val (.int p0), .val (.int p1), .val (.long q2), .second, .val (.int p3), .val (.int (2 : Int32)), .val (.int (46340 : Int32)), .val (.int gg), .val (.long cc), .second, .val (.int tp), .unset, .unset, .unset, .unset, .unset] [(.int (2 : Int32))]
    refine own_st (fun _ k => XS.iload X0.here hx rfl (hb hby at_119) rfl k) ?_
    show own_Go X0 (Q0 Z p0 p1 q2 p3 h0 n0) 2 8 121 #[.val (.int p0), .val (.int p1), .val (.long q2), .second, .val (.int p3), .val (.int (2 : Int32)), .val (.int (46340 : Int32)), .val (.int gg), .val (.long cc), .second, .val (.int tp), .unset, .unset, .unset, .unset, .unset] [(.int p3), (.int (2 : Int32))]
    refine own_st (fun _ k => XS.bipush X0.here hx rfl (hb hby at_121) k) ?_
    show own_Go X0 (Q0 Z p0 p1 q2 p3 h0 n0) 2 8 123 #[.val (.int p0), .val (.int p1), .val (.long q2), .second, .val (.int p3), .val (.int (2 : Int32)), .val (.int (46340 : Int32)), .val (.int gg), .val (.long cc), .second, .val (.int tp), .unset, .unset, .unset, .unset, .unset] [(.int (7 : Int32)), (.int p3), (.int (2 : Int32))]
    refine own_st (fun _ k => XS.iand X0.here hx rfl (hb hby at_123) rfl k) ?_
    show own_Go X0 (Q0 Z p0 p1 q2 p3 h0 n0) 2 8 124 #[.val (.int p0), .val (.int p1), .val (.long q2), .second, .val (.int p3), .val (.int (2 : Int32)), .val (.int (46340 : Int32)), .val (.int gg), .val (.long cc), .second, .val (.int tp), .unset, .unset, .unset, .unset, .unset] [(.int (p3 &&& (7 : Int32))), (.int (2 : Int32))]
    refine own_st (fun _ k => XS.iadd X0.here hx rfl (hb hby at_124) rfl k) ?_
    show own_Go X0 (Q0 Z p0 p1 q2 p3 h0 n0) 2 8 125 #[.val (.int p0), .val (.int p1), .val (.long q2), .second, .val (.int p3), .val (.int (2 : Int32)), .val (.int (46340 : Int32)), .val (.int gg), .val (.long cc), .second, .val (.int tp), .unset, .unset, .unset, .unset, .unset] [(.int ((2 : Int32) + (p3 &&& (7 : Int32))))]
    refine own_st (fun _ k => XS.istore X0.here hx rfl (hb hby at_125) rfl (l' := #[.val (.int p0), .val (.int p1), .val (.long q2), .second, .val (.int p3), .val (.int (2 : Int32)), .val (.int (46340 : Int32)), .val (.int gg), .val (.long cc), .second, .val (.int tp), .val (.int ((2 : Int32) + (p3 &&& (7 : Int32)))), .unset, .unset, .unset, .unset]) rfl k) ?_
    show own_Go X0 (Q0 Z p0 p1 q2 p3 h0 n0) 2 8 127 #[.val (.int p0), .val (.int p1), .val (.long q2), .second, .val (.int p3), .val (.int (2 : Int32)), .val (.int (46340 : Int32)), .val (.int gg), .val (.long cc), .second, .val (.int tp), .val (.int ((2 : Int32) + (p3 &&& (7 : Int32)))), .unset, .unset, .unset, .unset] []
    generalize hcl : ((2 : Int32) + (p3 &&& (7 : Int32))) = cl
    show own_Go X0 (Q0 Z p0 p1 q2 p3 h0 n0) 2 8 127 #[.val (.int p0), .val (.int p1), .val (.long q2), .second, .val (.int p3), .val (.int (2 : Int32)), .val (.int (46340 : Int32)), .val (.int gg), .val (.long cc), .second, .val (.int tp), .val (.int cl), .unset, .unset, .unset, .unset] []
    have hCl := own_cl (t := (2 : Int32)) (by decide) hcl
    obtain ⟨T33, h33, X33, e33, E33, A33, D33, -, st33⟩ := newO X0 hx hZ hown (hw _ (List.mem_of_getElem? (i := 3) rfl)) (hw _ (List.mem_of_getElem? (i := 4) rfl)) (hw _ (List.mem_of_getElem? (i := 5) rfl)) e0 (g := (mkF m 127 #[.val (.int p0), .val (.int p1), .val (.long q2), .second, .val (.int p3), .val (.int (2 : Int32)), .val (.int (46340 : Int32)), .val (.int gg), .val (.long cc), .second, .val (.int tp), .val (.int cl), .unset, .unset, .unset, .unset] [])) rfl (hb hby at_127) (by decide) (by decide)
    obtain ⟨b33, g33⟩ : ∃ z, z = h0.size := ⟨_, rfl⟩
    rw [← g33] at A33 D33 st33
    refine own_st st33 ?_
    have G_34 := Nat.le_trans Z0 (Nat.le_of_eq g33.symm)
    have Z_35 := Nat.le_trans Z0 E33.1
    have F_rows_33 : Fld Z h33 b33 "com/example/gingham/gingham/designs/CoveringArraySpec" "rows" "I" (.int (0 : Int32)) := D33 (Or.inr (hw _ (List.mem_of_getElem? (i := 22) rfl))) (ty := .int) (by decide)
    have F_strength_33 : Fld Z h33 b33 "com/example/gingham/gingham/designs/CoveringArraySpec" "strength" "I" (.int (0 : Int32)) := D33 (Or.inr (hw _ (List.mem_of_getElem? (i := 24) rfl))) (ty := .int) (by decide)
    have F_columns_33 : Fld Z h33 b33 "com/example/gingham/gingham/designs/CoveringArraySpec" "columns" "I" (.int (0 : Int32)) := D33 (Or.inr (hw _ (List.mem_of_getElem? (i := 26) rfl))) (ty := .int) (by decide)
    have F_levels_33 : Fld Z h33 b33 "com/example/gingham/gingham/designs/CoveringArraySpec" "levels" "I" (.int (0 : Int32)) := D33 (Or.inr (hw _ (List.mem_of_getElem? (i := 28) rfl))) (ty := .int) (by decide)
    show own_Go X33 (Q0 Z p0 p1 q2 p3 h0 n0) 2 8 130 #[.val (.int p0), .val (.int p1), .val (.long q2), .second, .val (.int p3), .val (.int (2 : Int32)), .val (.int (46340 : Int32)), .val (.int gg), .val (.long cc), .second, .val (.int tp), .val (.int cl), .unset, .unset, .unset, .unset] [(.ref b33)]
    refine own_st (fun _ k => XS.dup X33.here hx rfl (hb hby at_130) rfl rfl k) ?_
    show own_Go X33 (Q0 Z p0 p1 q2 p3 h0 n0) 2 8 131 #[.val (.int p0), .val (.int p1), .val (.long q2), .second, .val (.int p3), .val (.int (2 : Int32)), .val (.int (46340 : Int32)), .val (.int gg), .val (.long cc), .second, .val (.int tp), .val (.int cl), .unset, .unset, .unset, .unset] [(.ref b33), (.ref b33)]
    refine own_st (fun _ k => XS.iconst X33.here hx rfl (hb hby at_131) k) ?_
    show own_Go X33 (Q0 Z p0 p1 q2 p3 h0 n0) 2 8 132 #[.val (.int p0), .val (.int p1), .val (.long q2), .second, .val (.int p3), .val (.int (2 : Int32)), .val (.int (46340 : Int32)), .val (.int gg), .val (.long cc), .second, .val (.int tp), .val (.int cl), .unset, .unset, .unset, .unset] [(.int (1 : Int32)), (.ref b33), (.ref b33)]
    refine own_st (fun _ k => XS.iload X33.here hx rfl (hb hby at_132) rfl k) ?_
    show own_Go X33 (Q0 Z p0 p1 q2 p3 h0 n0) 2 8 134 #[.val (.int p0), .val (.int p1), .val (.long q2), .second, .val (.int p3), .val (.int (2 : Int32)), .val (.int (46340 : Int32)), .val (.int gg), .val (.long cc), .second, .val (.int tp), .val (.int cl), .unset, .unset, .unset, .unset] [(.int (2 : Int32)), (.int (1 : Int32)), (.ref b33), (.ref b33)]
    refine own_st (fun _ k => XS.iload X33.here hx rfl (hb hby at_134) rfl k) ?_
    show own_Go X33 (Q0 Z p0 p1 q2 p3 h0 n0) 2 8 136 #[.val (.int p0), .val (.int p1), .val (.long q2), .second, .val (.int p3), .val (.int (2 : Int32)), .val (.int (46340 : Int32)), .val (.int gg), .val (.long cc), .second, .val (.int tp), .val (.int cl), .unset, .unset, .unset, .unset] [(.int cl), (.int (2 : Int32)), (.int (1 : Int32)), (.ref b33), (.ref b33)]
    refine own_st (fun _ k => XS.iload X33.here hx rfl (hb hby at_136) rfl k) ?_
    show own_Go X33 (Q0 Z p0 p1 q2 p3 h0 n0) 2 8 138 #[.val (.int p0), .val (.int p1), .val (.long q2), .second, .val (.int p3), .val (.int (2 : Int32)), .val (.int (46340 : Int32)), .val (.int gg), .val (.long cc), .second, .val (.int tp), .val (.int cl), .unset, .unset, .unset, .unset] [(.int gg), (.int cl), (.int (2 : Int32)), (.int (1 : Int32)), (.ref b33), (.ref b33)]
    refine own_callI (W := 1) X33 hx hZ hown (hw _ (List.mem_of_getElem? (i := 6) rfl)) (hw _ (List.mem_of_getElem? (i := 7) rfl)) (hw _ (List.mem_of_getElem? (i := 5) rfl)) (hw _ (List.mem_of_getElem? (i := 8) rfl)) rfl (by decide) (rm12 l Z a0 hw [] b33 cl gg h33 n0 Z_35 A33 G_34 F_rows_33 F_strength_33 F_columns_33 F_levels_33 (own_le64 pq1 (by omega)) (own_le64 pq2 (by omega)) (own_nn32 pq2 (by omega) (by omega)) (own_g2 hG.1) hCl.1 hCl.2) (by decide) (by decide) (by rw [hml]; rfl) b33 [(.int (1 : Int32)), (.int (2 : Int32)), (.int cl), (.int gg)] [(.ref b33)] (lenOf pd_0_0 rfl) rfl rfl (Nat.le_of_ble_eq_true rfl) (hb hby at_138) e33 (by decide) (by decide) ?_
    rintro _ T36 L36 X36 ⟨rfl, N36q, K36q, F36_rows, F36_strength, F36_columns, F36_levels⟩
    have N_37 := Fr.app N0 N36q
    have f_38 := A33.keep K36q
    have Z_39 := Nat.le_trans Z_35 K36q.1
    show own_Go X36 (Q0 Z p0 p1 q2 p3 h0 n0) 2 8 141 #[.val (.int p0), .val (.int p1), .val (.long q2), .second, .val (.int p3), .val (.int (2 : Int32)), .val (.int (46340 : Int32)), .val (.int gg), .val (.long cc), .second, .val (.int tp), .val (.int cl), .unset, .unset, .unset, .unset] [(.ref b33)]
    refine own_st (fun _ k => XS.astore X36.here hx rfl (hb hby at_141) rfl rfl (l' := #[.val (.int p0), .val (.int p1), .val (.long q2), .second, .val (.int p3), .val (.int (2 : Int32)), .val (.int (46340 : Int32)), .val (.int gg), .val (.long cc), .second, .val (.int tp), .val (.int cl), .val (.ref b33), .unset, .unset, .unset]) rfl k) ?_
    show own_Go X36 (Q0 Z p0 p1 q2 p3 h0 n0) 2 8 143 #[.val (.int p0), .val (.int p1), .val (.long q2), .second, .val (.int p3), .val (.int (2 : Int32)), .val (.int (46340 : Int32)), .val (.int gg), .val (.long cc), .second, .val (.int tp), .val (.int cl), .val (.ref b33), .unset, .unset, .unset] []
    refine own_st (fun _ k => XS.aload X36.here hx rfl (hb hby at_143) rfl rfl k) ?_
    show own_Go X36 (Q0 Z p0 p1 q2 p3 h0 n0) 2 8 145 #[.val (.int p0), .val (.int p1), .val (.long q2), .second, .val (.int p3), .val (.int (2 : Int32)), .val (.int (46340 : Int32)), .val (.int gg), .val (.long cc), .second, .val (.int tp), .val (.int cl), .val (.ref b33), .unset, .unset, .unset] [(.ref b33)]
    refine own_st (fun _ k => XS.iload X36.here hx rfl (hb hby at_145) rfl k) ?_
    show own_Go X36 (Q0 Z p0 p1 q2 p3 h0 n0) 2 8 147 #[.val (.int p0), .val (.int p1), .val (.long q2), .second, .val (.int p3), .val (.int (2 : Int32)), .val (.int (46340 : Int32)), .val (.int gg), .val (.long cc), .second, .val (.int tp), .val (.int cl), .val (.ref b33), .unset, .unset, .unset] [(.int tp), (.ref b33)]
    refine own_callV (W := 0) X36 hx hZ hown (hw _ (List.mem_of_getElem? (i := 29) rfl)) (hw _ (List.mem_of_getElem? (i := 30) rfl)) (hw _ (List.mem_of_getElem? (i := 32) rfl)) (hw _ (List.mem_of_getElem? (i := 31) rfl)) (hw _ (List.mem_of_getElem? (i := 5) rfl)) (hw _ (List.mem_of_getElem? (i := 33) rfl)) (by decide) (rm52 l Z a0 hw [] b33 tp gg T36.heap n0 Z_39 F36_levels F36_strength (own_gnz hG.1)) (by decide) (by decide) (by rw [hml]; rfl) b33 [(.int tp)] [] (lenOf pd_0_1 rfl) rfl rfl (Nat.le_of_ble_eq_true rfl) (hb hby at_147) (Eq.refl T36.heap) f_38 (by decide) (by decide) ?_
    rintro _ T40 L40 X40 ⟨b40, k40, rfl, N40q, K40q, G40q, S40q, V40q⟩
    have N_41 := Fr.app N_37 N40q
    have f_42 := f_38.keep K40q
    have f_43 := F36_rows.keep K40q nin0
    have f_44 := F36_strength.keep K40q nin0
    have f_45 := F36_columns.keep K40q nin0
    have f_46 := F36_levels.keep K40q nin0
    have Z_47 := Nat.le_trans Z_39 K40q.1
    show own_Go X40 (Q0 Z p0 p1 q2 p3 h0 n0) 2 8 150 #[.val (.int p0), .val (.int p1), .val (.long q2), .second, .val (.int p3), .val (.int (2 : Int32)), .val (.int (46340 : Int32)), .val (.int gg), .val (.long cc), .second, .val (.int tp), .val (.int cl), .val (.ref b33), .unset, .unset, .unset] [(.ref b40)]
    refine own_st (fun _ k => XS.astore X40.here hx rfl (hb hby at_150) rfl rfl (l' := #[.val (.int p0), .val (.int p1), .val (.long q2), .second, .val (.int p3), .val (.int (2 : Int32)), .val (.int (46340 : Int32)), .val (.int gg), .val (.long cc), .second, .val (.int tp), .val (.int cl), .val (.ref b33), .val (.ref b40), .unset, .unset]) rfl k) ?_
    show own_Go X40 (Q0 Z p0 p1 q2 p3 h0 n0) 2 8 152 #[.val (.int p0), .val (.int p1), .val (.long q2), .second, .val (.int p3), .val (.int (2 : Int32)), .val (.int (46340 : Int32)), .val (.int gg), .val (.long cc), .second, .val (.int tp), .val (.int cl), .val (.ref b33), .val (.ref b40), .unset, .unset] []
    refine own_st (fun _ k => XS.aload X40.here hx rfl (hb hby at_152) rfl rfl k) ?_
    show own_Go X40 (Q0 Z p0 p1 q2 p3 h0 n0) 2 8 154 #[.val (.int p0), .val (.int p1), .val (.long q2), .second, .val (.int p3), .val (.int (2 : Int32)), .val (.int (46340 : Int32)), .val (.int gg), .val (.long cc), .second, .val (.int tp), .val (.int cl), .val (.ref b33), .val (.ref b40), .unset, .unset] [(.ref b40)]
    refine own_st (fun _ k => own_len X40 hx hZ (Eq.refl T40.heap) V40q (g := (mkF m 154 #[.val (.int p0), .val (.int p1), .val (.long q2), .second, .val (.int p3), .val (.int (2 : Int32)), .val (.int (46340 : Int32)), .val (.int gg), .val (.long cc), .second, .val (.int tp), .val (.int cl), .val (.ref b33), .val (.ref b40), .unset, .unset] [(.ref b40)])) rfl rfl (hb hby at_154) _ k) ?_
    show own_Go X40 (Q0 Z p0 p1 q2 p3 h0 n0) 2 8 155 #[.val (.int p0), .val (.int p1), .val (.long q2), .second, .val (.int p3), .val (.int (2 : Int32)), .val (.int (46340 : Int32)), .val (.int gg), .val (.long cc), .second, .val (.int tp), .val (.int cl), .val (.ref b33), .val (.ref b40), .unset, .unset] [(.int (2 : Int32))]
    refine own_st (fun _ k => XS.iload X40.here hx rfl (hb hby at_155) rfl k) ?_
    show own_Go X40 (Q0 Z p0 p1 q2 p3 h0 n0) 2 8 157 #[.val (.int p0), .val (.int p1), .val (.long q2), .second, .val (.int p3), .val (.int (2 : Int32)), .val (.int (46340 : Int32)), .val (.int gg), .val (.long cc), .second, .val (.int tp), .val (.int cl), .val (.ref b33), .val (.ref b40), .unset, .unset] [(.int (2 : Int32)), (.int (2 : Int32))]
    have c157_48 : (2 : Int32) = (2 : Int32) := (by decide)
    refine own_st (fun _ k => XS.icmpYes X40.here hx rfl (pc0 := 157) (pc' := 162) rfl (hb hby at_157) rfl (teq c157_48).1 (by decide) (by decide) k) ?_
    show own_Go X40 (Q0 Z p0 p1 q2 p3 h0 n0) 2 8 162 #[.val (.int p0), .val (.int p1), .val (.long q2), .second, .val (.int p3), .val (.int (2 : Int32)), .val (.int (46340 : Int32)), .val (.int gg), .val (.long cc), .second, .val (.int tp), .val (.int cl), .val (.ref b33), .val (.ref b40), .unset, .unset] []
    refine own_st (fun _ k => XS.aload X40.here hx rfl (hb hby at_162) rfl rfl k) ?_
    show own_Go X40 (Q0 Z p0 p1 q2 p3 h0 n0) 2 8 164 #[.val (.int p0), .val (.int p1), .val (.long q2), .second, .val (.int p3), .val (.int (2 : Int32)), .val (.int (46340 : Int32)), .val (.int gg), .val (.long cc), .second, .val (.int tp), .val (.int cl), .val (.ref b33), .val (.ref b40), .unset, .unset] [(.ref b40)]
    refine own_st (fun _ k => XS.iconst X40.here hx rfl (hb hby at_164) k) ?_
    show own_Go X40 (Q0 Z p0 p1 q2 p3 h0 n0) 2 8 165 #[.val (.int p0), .val (.int p1), .val (.long q2), .second, .val (.int p3), .val (.int (2 : Int32)), .val (.int (46340 : Int32)), .val (.int gg), .val (.long cc), .second, .val (.int tp), .val (.int cl), .val (.ref b33), .val (.ref b40), .unset, .unset] [(.int (0 : Int32)), (.ref b40)]
    refine own_st (fun _ k => own_ldI X40 hx hZ (Eq.refl T40.heap) V40q (j := (0 : Int32)) ⟨by decide, by decide⟩ (v := (.int ((tp / gg) % gg))) rfl (g := (mkF m 165 #[.val (.int p0), .val (.int p1), .val (.long q2), .second, .val (.int p3), .val (.int (2 : Int32)), .val (.int (46340 : Int32)), .val (.int gg), .val (.long cc), .second, .val (.int tp), .val (.int cl), .val (.ref b33), .val (.ref b40), .unset, .unset] [(.int (0 : Int32)), (.ref b40)])) rfl rfl (hb hby at_165) _ k) ?_
    show own_Go X40 (Q0 Z p0 p1 q2 p3 h0 n0) 2 8 166 #[.val (.int p0), .val (.int p1), .val (.long q2), .second, .val (.int p3), .val (.int (2 : Int32)), .val (.int (46340 : Int32)), .val (.int gg), .val (.long cc), .second, .val (.int tp), .val (.int cl), .val (.ref b33), .val (.ref b40), .unset, .unset] [(.int ((tp / gg) % gg))]
    refine own_st (fun _ k => XS.iload X40.here hx rfl (hb hby at_166) rfl k) ?_
    show own_Go X40 (Q0 Z p0 p1 q2 p3 h0 n0) 2 8 168 #[.val (.int p0), .val (.int p1), .val (.long q2), .second, .val (.int p3), .val (.int (2 : Int32)), .val (.int (46340 : Int32)), .val (.int gg), .val (.long cc), .second, .val (.int tp), .val (.int cl), .val (.ref b33), .val (.ref b40), .unset, .unset] [(.int gg), (.int ((tp / gg) % gg))]
    refine own_callS (W := 0) X40 hx hZ hown (hw _ (List.mem_of_getElem? (i := 35) rfl)) (hw _ (List.mem_of_getElem? (i := 36) rfl)) (hw _ (List.mem_of_getElem? (i := 37) rfl)) (hw _ (List.mem_of_getElem? (i := 38) rfl)) (by decide) (rm6 l Z a0 hw [] ((tp / gg) % gg) gg  T40.heap n0 Z_47 ) (by decide) (by decide) (by rw [hml]; rfl) [(.int ((tp / gg) % gg)), (.int gg)] [] (lenOf pd_0_2 rfl) rfl rfl (Nat.le_of_ble_eq_true rfl) (hb hby at_168) (Eq.refl T40.heap) (by decide) (by decide) ?_
    rintro _ T49 L49 X49 ⟨rfl, N49q, e49⟩
    have N_50 := Fr.app N_41 N49q
    show own_Go X49 (Q0 Z p0 p1 q2 p3 h0 n0) 2 8 171 #[.val (.int p0), .val (.int p1), .val (.long q2), .second, .val (.int p3), .val (.int (2 : Int32)), .val (.int (46340 : Int32)), .val (.int gg), .val (.long cc), .second, .val (.int tp), .val (.int cl), .val (.ref b33), .val (.ref b40), .unset, .unset] [(.int (own_ir ((tp / gg) % gg) gg))]
    have c171_51 : ¬ ((own_ir ((tp / gg) % gg) gg) = (0 : Int32)) := own_ir1 k1 hG.1
    refine own_st (fun _ k => XS.ifYes X49.here hx rfl (pc0 := 171) (pc' := 176) rfl (hb hby at_171) rfl ((if0 _ _).trans (feq c171_51).2) (by decide) (by decide) k) ?_
    show own_Go X49 (Q0 Z p0 p1 q2 p3 h0 n0) 2 8 176 #[.val (.int p0), .val (.int p1), .val (.long q2), .second, .val (.int p3), .val (.int (2 : Int32)), .val (.int (46340 : Int32)), .val (.int gg), .val (.long cc), .second, .val (.int tp), .val (.int cl), .val (.ref b33), .val (.ref b40), .unset, .unset] []
    refine own_st (fun _ k => XS.aload X49.here hx rfl (hb hby at_176) rfl rfl k) ?_
    show own_Go X49 (Q0 Z p0 p1 q2 p3 h0 n0) 2 8 178 #[.val (.int p0), .val (.int p1), .val (.long q2), .second, .val (.int p3), .val (.int (2 : Int32)), .val (.int (46340 : Int32)), .val (.int gg), .val (.long cc), .second, .val (.int tp), .val (.int cl), .val (.ref b33), .val (.ref b40), .unset, .unset] [(.ref b40)]
    refine own_st (fun _ k => XS.iconst X49.here hx rfl (hb hby at_178) k) ?_
    show own_Go X49 (Q0 Z p0 p1 q2 p3 h0 n0) 2 8 179 #[.val (.int p0), .val (.int p1), .val (.long q2), .second, .val (.int p3), .val (.int (2 : Int32)), .val (.int (46340 : Int32)), .val (.int gg), .val (.long cc), .second, .val (.int tp), .val (.int cl), .val (.ref b33), .val (.ref b40), .unset, .unset] [(.int (0 : Int32)), (.ref b40)]
    refine own_st (fun _ k => own_ldI X49 hx hZ e49 V40q (j := (0 : Int32)) ⟨by decide, by decide⟩ (v := (.int ((tp / gg) % gg))) rfl (g := (mkF m 179 #[.val (.int p0), .val (.int p1), .val (.long q2), .second, .val (.int p3), .val (.int (2 : Int32)), .val (.int (46340 : Int32)), .val (.int gg), .val (.long cc), .second, .val (.int tp), .val (.int cl), .val (.ref b33), .val (.ref b40), .unset, .unset] [(.int (0 : Int32)), (.ref b40)])) rfl rfl (hb hby at_179) _ k) ?_
    show own_Go X49 (Q0 Z p0 p1 q2 p3 h0 n0) 2 8 180 #[.val (.int p0), .val (.int p1), .val (.long q2), .second, .val (.int p3), .val (.int (2 : Int32)), .val (.int (46340 : Int32)), .val (.int gg), .val (.long cc), .second, .val (.int tp), .val (.int cl), .val (.ref b33), .val (.ref b40), .unset, .unset] [(.int ((tp / gg) % gg))]
    refine own_st (fun _ k => XS.i2l X49.here hx rfl (hb hby at_180) rfl k) ?_
    show own_Go X49 (Q0 Z p0 p1 q2 p3 h0 n0) 2 8 181 #[.val (.int p0), .val (.int p1), .val (.long q2), .second, .val (.int p3), .val (.int (2 : Int32)), .val (.int (46340 : Int32)), .val (.int gg), .val (.long cc), .second, .val (.int tp), .val (.int cl), .val (.ref b33), .val (.ref b40), .unset, .unset] [(.long (((tp / gg) % gg).toInt64))]
    refine own_st (fun _ k => XS.lstore X49.here hx rfl (hb hby at_181) rfl (l' := #[.val (.int p0), .val (.int p1), .val (.long q2), .second, .val (.int p3), .val (.int (2 : Int32)), .val (.int (46340 : Int32)), .val (.int gg), .val (.long cc), .second, .val (.int tp), .val (.int cl), .val (.ref b33), .val (.ref b40), .val (.long (((tp / gg) % gg).toInt64)), .second]) rfl k) ?_
    show own_Go X49 (Q0 Z p0 p1 q2 p3 h0 n0) 2 8 183 #[.val (.int p0), .val (.int p1), .val (.long q2), .second, .val (.int p3), .val (.int (2 : Int32)), .val (.int (46340 : Int32)), .val (.int gg), .val (.long cc), .second, .val (.int tp), .val (.int cl), .val (.ref b33), .val (.ref b40), .val (.long (((tp / gg) % gg).toInt64)), .second] []
    refine own_st (fun _ k => XS.iload X49.here hx rfl (hb hby at_183) rfl k) ?_
    show own_Go X49 (Q0 Z p0 p1 q2 p3 h0 n0) 2 8 185 #[.val (.int p0), .val (.int p1), .val (.long q2), .second, .val (.int p3), .val (.int (2 : Int32)), .val (.int (46340 : Int32)), .val (.int gg), .val (.long cc), .second, .val (.int tp), .val (.int cl), .val (.ref b33), .val (.ref b40), .val (.long (((tp / gg) % gg).toInt64)), .second] [(.int (2 : Int32))]
    refine own_st (fun _ k => XS.iconst X49.here hx rfl (hb hby at_185) k) ?_
    show own_Go X49 (Q0 Z p0 p1 q2 p3 h0 n0) 2 8 186 #[.val (.int p0), .val (.int p1), .val (.long q2), .second, .val (.int p3), .val (.int (2 : Int32)), .val (.int (46340 : Int32)), .val (.int gg), .val (.long cc), .second, .val (.int tp), .val (.int cl), .val (.ref b33), .val (.ref b40), .val (.long (((tp / gg) % gg).toInt64)), .second] [(.int (2 : Int32)), (.int (2 : Int32))]
    have c186_52 : ¬ ((2 : Int32) < (2 : Int32)) := (by decide)
    refine own_st (fun _ k => XS.icmpNo X49.here hx rfl (hb hby at_186) rfl (flt c186_52).1 k) ?_
    show own_Go X49 (Q0 Z p0 p1 q2 p3 h0 n0) 2 8 189 #[.val (.int p0), .val (.int p1), .val (.long q2), .second, .val (.int p3), .val (.int (2 : Int32)), .val (.int (46340 : Int32)), .val (.int gg), .val (.long cc), .second, .val (.int tp), .val (.int cl), .val (.ref b33), .val (.ref b40), .val (.long (((tp / gg) % gg).toInt64)), .second] []
    refine own_st (fun _ k => XS.aload X49.here hx rfl (hb hby at_189) rfl rfl k) ?_
    show own_Go X49 (Q0 Z p0 p1 q2 p3 h0 n0) 2 8 191 #[.val (.int p0), .val (.int p1), .val (.long q2), .second, .val (.int p3), .val (.int (2 : Int32)), .val (.int (46340 : Int32)), .val (.int gg), .val (.long cc), .second, .val (.int tp), .val (.int cl), .val (.ref b33), .val (.ref b40), .val (.long (((tp / gg) % gg).toInt64)), .second] [(.ref b40)]
    refine own_st (fun _ k => XS.iconst X49.here hx rfl (hb hby at_191) k) ?_
    show own_Go X49 (Q0 Z p0 p1 q2 p3 h0 n0) 2 8 192 #[.val (.int p0), .val (.int p1), .val (.long q2), .second, .val (.int p3), .val (.int (2 : Int32)), .val (.int (46340 : Int32)), .val (.int gg), .val (.long cc), .second, .val (.int tp), .val (.int cl), .val (.ref b33), .val (.ref b40), .val (.long (((tp / gg) % gg).toInt64)), .second] [(.int (1 : Int32)), (.ref b40)]
    refine own_st (fun _ k => own_ldI X49 hx hZ e49 V40q (j := (1 : Int32)) ⟨by decide, by decide⟩ (v := (.int (tp % gg))) rfl (g := (mkF m 192 #[.val (.int p0), .val (.int p1), .val (.long q2), .second, .val (.int p3), .val (.int (2 : Int32)), .val (.int (46340 : Int32)), .val (.int gg), .val (.long cc), .second, .val (.int tp), .val (.int cl), .val (.ref b33), .val (.ref b40), .val (.long (((tp / gg) % gg).toInt64)), .second] [(.int (1 : Int32)), (.ref b40)])) rfl rfl (hb hby at_192) _ k) ?_
    show own_Go X49 (Q0 Z p0 p1 q2 p3 h0 n0) 2 8 193 #[.val (.int p0), .val (.int p1), .val (.long q2), .second, .val (.int p3), .val (.int (2 : Int32)), .val (.int (46340 : Int32)), .val (.int gg), .val (.long cc), .second, .val (.int tp), .val (.int cl), .val (.ref b33), .val (.ref b40), .val (.long (((tp / gg) % gg).toInt64)), .second] [(.int (tp % gg))]
    refine own_st (fun _ k => XS.iload X49.here hx rfl (hb hby at_193) rfl k) ?_
    show own_Go X49 (Q0 Z p0 p1 q2 p3 h0 n0) 2 8 195 #[.val (.int p0), .val (.int p1), .val (.long q2), .second, .val (.int p3), .val (.int (2 : Int32)), .val (.int (46340 : Int32)), .val (.int gg), .val (.long cc), .second, .val (.int tp), .val (.int cl), .val (.ref b33), .val (.ref b40), .val (.long (((tp / gg) % gg).toInt64)), .second] [(.int gg), (.int (tp % gg))]
    refine own_callS (W := 0) X49 hx hZ hown (hw _ (List.mem_of_getElem? (i := 35) rfl)) (hw _ (List.mem_of_getElem? (i := 36) rfl)) (hw _ (List.mem_of_getElem? (i := 37) rfl)) (hw _ (List.mem_of_getElem? (i := 38) rfl)) (by decide) (rm6 l Z a0 hw [] (tp % gg) gg  T40.heap n0 Z_47 ) (by decide) (by decide) (by rw [hml]; rfl) [(.int (tp % gg)), (.int gg)] [] (lenOf pd_0_2 rfl) rfl rfl (Nat.le_of_ble_eq_true rfl) (hb hby at_195) e49 (by decide) (by decide) ?_
    rintro _ T53 L53 X53 ⟨rfl, N53q, e53⟩
    have N_54 := Fr.app N_50 N53q
    show own_Go X53 (Q0 Z p0 p1 q2 p3 h0 n0) 2 8 198 #[.val (.int p0), .val (.int p1), .val (.long q2), .second, .val (.int p3), .val (.int (2 : Int32)), .val (.int (46340 : Int32)), .val (.int gg), .val (.long cc), .second, .val (.int tp), .val (.int cl), .val (.ref b33), .val (.ref b40), .val (.long (((tp / gg) % gg).toInt64)), .second] [(.int (own_ir (tp % gg) gg))]
    have c198_55 : ¬ ((own_ir (tp % gg) gg) = (0 : Int32)) := own_ir1 k0 hG.1
    refine own_st (fun _ k => XS.ifYes X53.here hx rfl (pc0 := 198) (pc' := 203) rfl (hb hby at_198) rfl ((if0 _ _).trans (feq c198_55).2) (by decide) (by decide) k) ?_
    show own_Go X53 (Q0 Z p0 p1 q2 p3 h0 n0) 2 8 203 #[.val (.int p0), .val (.int p1), .val (.long q2), .second, .val (.int p3), .val (.int (2 : Int32)), .val (.int (46340 : Int32)), .val (.int gg), .val (.long cc), .second, .val (.int tp), .val (.int cl), .val (.ref b33), .val (.ref b40), .val (.long (((tp / gg) % gg).toInt64)), .second] []
    refine own_st (fun _ k => XS.lload X53.here hx rfl (hb hby at_203) rfl k) ?_
    show own_Go X53 (Q0 Z p0 p1 q2 p3 h0 n0) 2 8 205 #[.val (.int p0), .val (.int p1), .val (.long q2), .second, .val (.int p3), .val (.int (2 : Int32)), .val (.int (46340 : Int32)), .val (.int gg), .val (.long cc), .second, .val (.int tp), .val (.int cl), .val (.ref b33), .val (.ref b40), .val (.long (((tp / gg) % gg).toInt64)), .second] [(.long (((tp / gg) % gg).toInt64))]
    refine own_st (fun _ k => XS.iload X53.here hx rfl (hb hby at_205) rfl k) ?_
    show own_Go X53 (Q0 Z p0 p1 q2 p3 h0 n0) 2 8 207 #[.val (.int p0), .val (.int p1), .val (.long q2), .second, .val (.int p3), .val (.int (2 : Int32)), .val (.int (46340 : Int32)), .val (.int gg), .val (.long cc), .second, .val (.int tp), .val (.int cl), .val (.ref b33), .val (.ref b40), .val (.long (((tp / gg) % gg).toInt64)), .second] [(.int gg), (.long (((tp / gg) % gg).toInt64))]
    refine own_st (fun _ k => XS.i2l X53.here hx rfl (hb hby at_207) rfl k) ?_
    show own_Go X53 (Q0 Z p0 p1 q2 p3 h0 n0) 2 8 208 #[.val (.int p0), .val (.int p1), .val (.long q2), .second, .val (.int p3), .val (.int (2 : Int32)), .val (.int (46340 : Int32)), .val (.int gg), .val (.long cc), .second, .val (.int tp), .val (.int cl), .val (.ref b33), .val (.ref b40), .val (.long (((tp / gg) % gg).toInt64)), .second] [(.long (gg.toInt64)), (.long (((tp / gg) % gg).toInt64))]
    refine own_st (fun _ k => XS.lmul X53.here hx rfl (hb hby at_208) rfl k) ?_
    show own_Go X53 (Q0 Z p0 p1 q2 p3 h0 n0) 2 8 209 #[.val (.int p0), .val (.int p1), .val (.long q2), .second, .val (.int p3), .val (.int (2 : Int32)), .val (.int (46340 : Int32)), .val (.int gg), .val (.long cc), .second, .val (.int tp), .val (.int cl), .val (.ref b33), .val (.ref b40), .val (.long (((tp / gg) % gg).toInt64)), .second] [(.long ((((tp / gg) % gg).toInt64) * (gg.toInt64)))]
    refine own_st (fun _ k => XS.aload X53.here hx rfl (hb hby at_209) rfl rfl k) ?_
    show own_Go X53 (Q0 Z p0 p1 q2 p3 h0 n0) 2 8 211 #[.val (.int p0), .val (.int p1), .val (.long q2), .second, .val (.int p3), .val (.int (2 : Int32)), .val (.int (46340 : Int32)), .val (.int gg), .val (.long cc), .second, .val (.int tp), .val (.int cl), .val (.ref b33), .val (.ref b40), .val (.long (((tp / gg) % gg).toInt64)), .second] [(.ref b40), (.long ((((tp / gg) % gg).toInt64) * (gg.toInt64)))]
    refine own_st (fun _ k => XS.iconst X53.here hx rfl (hb hby at_211) k) ?_
    show own_Go X53 (Q0 Z p0 p1 q2 p3 h0 n0) 2 8 212 #[.val (.int p0), .val (.int p1), .val (.long q2), .second, .val (.int p3), .val (.int (2 : Int32)), .val (.int (46340 : Int32)), .val (.int gg), .val (.long cc), .second, .val (.int tp), .val (.int cl), .val (.ref b33), .val (.ref b40), .val (.long (((tp / gg) % gg).toInt64)), .second] [(.int (1 : Int32)), (.ref b40), (.long ((((tp / gg) % gg).toInt64) * (gg.toInt64)))]
    refine own_st (fun _ k => own_ldI X53 hx hZ e53 V40q (j := (1 : Int32)) ⟨by decide, by decide⟩ (v := (.int (tp % gg))) rfl (g := (mkF m 212 #[.val (.int p0), .val (.int p1), .val (.long q2), .second, .val (.int p3), .val (.int (2 : Int32)), .val (.int (46340 : Int32)), .val (.int gg), .val (.long cc), .second, .val (.int tp), .val (.int cl), .val (.ref b33), .val (.ref b40), .val (.long (((tp / gg) % gg).toInt64)), .second] [(.int (1 : Int32)), (.ref b40), (.long ((((tp / gg) % gg).toInt64) * (gg.toInt64)))])) rfl rfl (hb hby at_212) _ k) ?_
    show own_Go X53 (Q0 Z p0 p1 q2 p3 h0 n0) 2 8 213 #[.val (.int p0), .val (.int p1), .val (.long q2), .second, .val (.int p3), .val (.int (2 : Int32)), .val (.int (46340 : Int32)), .val (.int gg), .val (.long cc), .second, .val (.int tp), .val (.int cl), .val (.ref b33), .val (.ref b40), .val (.long (((tp / gg) % gg).toInt64)), .second] [(.int (tp % gg)), (.long ((((tp / gg) % gg).toInt64) * (gg.toInt64)))]
    refine own_st (fun _ k => XS.i2l X53.here hx rfl (hb hby at_213) rfl k) ?_
    show own_Go X53 (Q0 Z p0 p1 q2 p3 h0 n0) 2 8 214 #[.val (.int p0), .val (.int p1), .val (.long q2), .second, .val (.int p3), .val (.int (2 : Int32)), .val (.int (46340 : Int32)), .val (.int gg), .val (.long cc), .second, .val (.int tp), .val (.int cl), .val (.ref b33), .val (.ref b40), .val (.long (((tp / gg) % gg).toInt64)), .second] [(.long ((tp % gg).toInt64)), (.long ((((tp / gg) % gg).toInt64) * (gg.toInt64)))]
    refine own_st (fun _ k => XS.ladd X53.here hx rfl (hb hby at_214) rfl k) ?_
    show own_Go X53 (Q0 Z p0 p1 q2 p3 h0 n0) 2 8 215 #[.val (.int p0), .val (.int p1), .val (.long q2), .second, .val (.int p3), .val (.int (2 : Int32)), .val (.int (46340 : Int32)), .val (.int gg), .val (.long cc), .second, .val (.int tp), .val (.int cl), .val (.ref b33), .val (.ref b40), .val (.long (((tp / gg) % gg).toInt64)), .second] [(.long (((((tp / gg) % gg).toInt64) * (gg.toInt64)) + ((tp % gg).toInt64)))]
    refine own_st (fun _ k => XS.lstore X53.here hx rfl (hb hby at_215) rfl (l' := #[.val (.int p0), .val (.int p1), .val (.long q2), .second, .val (.int p3), .val (.int (2 : Int32)), .val (.int (46340 : Int32)), .val (.int gg), .val (.long cc), .second, .val (.int tp), .val (.int cl), .val (.ref b33), .val (.ref b40), .val (.long (((((tp / gg) % gg).toInt64) * (gg.toInt64)) + ((tp % gg).toInt64))), .second]) rfl k) ?_
    show own_Go X53 (Q0 Z p0 p1 q2 p3 h0 n0) 2 8 217 #[.val (.int p0), .val (.int p1), .val (.long q2), .second, .val (.int p3), .val (.int (2 : Int32)), .val (.int (46340 : Int32)), .val (.int gg), .val (.long cc), .second, .val (.int tp), .val (.int cl), .val (.ref b33), .val (.ref b40), .val (.long (((((tp / gg) % gg).toInt64) * (gg.toInt64)) + ((tp % gg).toInt64))), .second] []
    refine own_st (fun _ k => XS.iload X53.here hx rfl (hb hby at_217) rfl k) ?_
    show own_Go X53 (Q0 Z p0 p1 q2 p3 h0 n0) 2 8 219 #[.val (.int p0), .val (.int p1), .val (.long q2), .second, .val (.int p3), .val (.int (2 : Int32)), .val (.int (46340 : Int32)), .val (.int gg), .val (.long cc), .second, .val (.int tp), .val (.int cl), .val (.ref b33), .val (.ref b40), .val (.long (((((tp / gg) % gg).toInt64) * (gg.toInt64)) + ((tp % gg).toInt64))), .second] [(.int (2 : Int32))]
    refine own_st (fun _ k => XS.iconst X53.here hx rfl (hb hby at_219) k) ?_
    show own_Go X53 (Q0 Z p0 p1 q2 p3 h0 n0) 2 8 220 #[.val (.int p0), .val (.int p1), .val (.long q2), .second, .val (.int p3), .val (.int (2 : Int32)), .val (.int (46340 : Int32)), .val (.int gg), .val (.long cc), .second, .val (.int tp), .val (.int cl), .val (.ref b33), .val (.ref b40), .val (.long (((((tp / gg) % gg).toInt64) * (gg.toInt64)) + ((tp % gg).toInt64))), .second] [(.int (3 : Int32)), (.int (2 : Int32))]
    have c220_56 : (2 : Int32) < (3 : Int32) := (by decide)
    refine own_st (fun _ k => XS.icmpYes X53.here hx rfl (pc0 := 220) (pc' := 251) rfl (hb hby at_220) rfl (tlt c220_56).1 (by decide) (by decide) k) ?_
    show own_Go X53 (Q0 Z p0 p1 q2 p3 h0 n0) 2 8 251 #[.val (.int p0), .val (.int p1), .val (.long q2), .second, .val (.int p3), .val (.int (2 : Int32)), .val (.int (46340 : Int32)), .val (.int gg), .val (.long cc), .second, .val (.int tp), .val (.int cl), .val (.ref b33), .val (.ref b40), .val (.long (((((tp / gg) % gg).toInt64) * (gg.toInt64)) + ((tp % gg).toInt64))), .second] []
    refine own_st (fun _ k => XS.iload X53.here hx rfl (hb hby at_251) rfl k) ?_
    show own_Go X53 (Q0 Z p0 p1 q2 p3 h0 n0) 2 8 253 #[.val (.int p0), .val (.int p1), .val (.long q2), .second, .val (.int p3), .val (.int (2 : Int32)), .val (.int (46340 : Int32)), .val (.int gg), .val (.long cc), .second, .val (.int tp), .val (.int cl), .val (.ref b33), .val (.ref b40), .val (.long (((((tp / gg) % gg).toInt64) * (gg.toInt64)) + ((tp % gg).toInt64))), .second] [(.int (2 : Int32))]
    refine own_st (fun _ k => XS.iconst X53.here hx rfl (hb hby at_253) k) ?_
    show own_Go X53 (Q0 Z p0 p1 q2 p3 h0 n0) 2 8 254 #[.val (.int p0), .val (.int p1), .val (.long q2), .second, .val (.int p3), .val (.int (2 : Int32)), .val (.int (46340 : Int32)), .val (.int gg), .val (.long cc), .second, .val (.int tp), .val (.int cl), .val (.ref b33), .val (.ref b40), .val (.long (((((tp / gg) % gg).toInt64) * (gg.toInt64)) + ((tp % gg).toInt64))), .second] [(.int (4 : Int32)), (.int (2 : Int32))]
    have c254_57 : (2 : Int32) < (4 : Int32) := (by decide)
    refine own_st (fun _ k => XS.icmpYes X53.here hx rfl (pc0 := 254) (pc' := 285) rfl (hb hby at_254) rfl (tlt c254_57).1 (by decide) (by decide) k) ?_
    show own_Go X53 (Q0 Z p0 p1 q2 p3 h0 n0) 2 8 285 #[.val (.int p0), .val (.int p1), .val (.long q2), .second, .val (.int p3), .val (.int (2 : Int32)), .val (.int (46340 : Int32)), .val (.int gg), .val (.long cc), .second, .val (.int tp), .val (.int cl), .val (.ref b33), .val (.ref b40), .val (.long (((((tp / gg) % gg).toInt64) * (gg.toInt64)) + ((tp % gg).toInt64))), .second] []
    refine own_st (fun _ k => XS.lload X53.here hx rfl (hb hby at_285) rfl k) ?_
    show own_Go X53 (Q0 Z p0 p1 q2 p3 h0 n0) 2 8 287 #[.val (.int p0), .val (.int p1), .val (.long q2), .second, .val (.int p3), .val (.int (2 : Int32)), .val (.int (46340 : Int32)), .val (.int gg), .val (.long cc), .second, .val (.int tp), .val (.int cl), .val (.ref b33), .val (.ref b40), .val (.long (((((tp / gg) % gg).toInt64) * (gg.toInt64)) + ((tp % gg).toInt64))), .second] [(.long (((((tp / gg) % gg).toInt64) * (gg.toInt64)) + ((tp % gg).toInt64)))]
    refine own_st (fun _ k => XS.iload X53.here hx rfl (hb hby at_287) rfl k) ?_
    show own_Go X53 (Q0 Z p0 p1 q2 p3 h0 n0) 2 8 289 #[.val (.int p0), .val (.int p1), .val (.long q2), .second, .val (.int p3), .val (.int (2 : Int32)), .val (.int (46340 : Int32)), .val (.int gg), .val (.long cc), .second, .val (.int tp), .val (.int cl), .val (.ref b33), .val (.ref b40), .val (.long (((((tp / gg) % gg).toInt64) * (gg.toInt64)) + ((tp % gg).toInt64))), .second] [(.int tp), (.long (((((tp / gg) % gg).toInt64) * (gg.toInt64)) + ((tp % gg).toInt64)))]
    refine own_st (fun _ k => XS.i2l X53.here hx rfl (hb hby at_289) rfl k) ?_
    show own_Go X53 (Q0 Z p0 p1 q2 p3 h0 n0) 2 8 290 #[.val (.int p0), .val (.int p1), .val (.long q2), .second, .val (.int p3), .val (.int (2 : Int32)), .val (.int (46340 : Int32)), .val (.int gg), .val (.long cc), .second, .val (.int tp), .val (.int cl), .val (.ref b33), .val (.ref b40), .val (.long (((((tp / gg) % gg).toInt64) * (gg.toInt64)) + ((tp % gg).toInt64))), .second] [(.long (tp.toInt64)), (.long (((((tp / gg) % gg).toInt64) * (gg.toInt64)) + ((tp % gg).toInt64)))]
    refine own_st (fun _ k => XS.lcmp X53.here hx rfl (hb hby at_290) rfl k) ?_
    show own_Go X53 (Q0 Z p0 p1 q2 p3 h0 n0) 2 8 291 #[.val (.int p0), .val (.int p1), .val (.long q2), .second, .val (.int p3), .val (.int (2 : Int32)), .val (.int (46340 : Int32)), .val (.int gg), .val (.long cc), .second, .val (.int tp), .val (.int cl), .val (.ref b33), .val (.ref b40), .val (.long (((((tp / gg) % gg).toInt64) * (gg.toInt64)) + ((tp % gg).toInt64))), .second] [(.int (lcmpW (((((tp / gg) % gg).toInt64) * (gg.toInt64)) + ((tp % gg).toInt64)) (tp.toInt64)))]
    have c291_58 : (((((tp / gg) % gg).toInt64) * (gg.toInt64)) + ((tp % gg).toInt64)) = (tp.toInt64) := Int64.toInt_inj.mp (by rw [c_i2l tp]; exact (own_hs k0 hG.1 (own_h0 k1 l1)))
    refine own_st (fun _ k => XS.ifNo X53.here hx rfl (hb hby at_291) rfl ((if0 _ _).trans (teq ((lw_eq _ _).mpr c291_58)).2) k) ?_
    show own_Go X53 (Q0 Z p0 p1 q2 p3 h0 n0) 2 8 294 #[.val (.int p0), .val (.int p1), .val (.long q2), .second, .val (.int p3), .val (.int (2 : Int32)), .val (.int (46340 : Int32)), .val (.int gg), .val (.long cc), .second, .val (.int tp), .val (.int cl), .val (.ref b33), .val (.ref b40), .val (.long (((((tp / gg) % gg).toInt64) * (gg.toInt64)) + ((tp % gg).toInt64))), .second] []
    refine own_st (fun _ k => XS.iconst X53.here hx rfl (hb hby at_294) k) ?_
    show own_Go X53 (Q0 Z p0 p1 q2 p3 h0 n0) 2 8 295 #[.val (.int p0), .val (.int p1), .val (.long q2), .second, .val (.int p3), .val (.int (2 : Int32)), .val (.int (46340 : Int32)), .val (.int gg), .val (.long cc), .second, .val (.int tp), .val (.int cl), .val (.ref b33), .val (.ref b40), .val (.long (((((tp / gg) % gg).toInt64) * (gg.toInt64)) + ((tp % gg).toInt64))), .second] [(.int (1 : Int32))]
    refine own_st (fun _ k => XS.goto X53.here hx rfl (pc0 := 295) (pc' := 299) rfl (hb hby at_295) (by decide) (by decide) k) ?_
    show own_Go X53 (Q0 Z p0 p1 q2 p3 h0 n0) 2 8 299 #[.val (.int p0), .val (.int p1), .val (.long q2), .second, .val (.int p3), .val (.int (2 : Int32)), .val (.int (46340 : Int32)), .val (.int gg), .val (.long cc), .second, .val (.int tp), .val (.int cl), .val (.ref b33), .val (.ref b40), .val (.long (((((tp / gg) % gg).toInt64) * (gg.toInt64)) + ((tp % gg).toInt64))), .second] [(.int (1 : Int32))]
    refine own_retN X53 hx Bd.returns (by simp) hlk e53 (hb hby at_299) (by decide) (by decide) ?_
    exact ⟨rfl, N_54⟩
  · skip
    show own_Go X0 (Q0 Z p0 p1 q2 p3 h0 n0) 2 8 7 #[.val (.int p0), .val (.int p1), .val (.long q2), .second, .val (.int p3), .val (.int (3 : Int32)), .unset, .unset, .unset, .unset, .unset, .unset, .unset, .unset, .unset, .unset] []
    refine own_st (fun _ k => XS.iload X0.here hx rfl (hb hby at_7) rfl k) ?_
    show own_Go X0 (Q0 Z p0 p1 q2 p3 h0 n0) 2 8 9 #[.val (.int p0), .val (.int p1), .val (.long q2), .second, .val (.int p3), .val (.int (3 : Int32)), .unset, .unset, .unset, .unset, .unset, .unset, .unset, .unset, .unset, .unset] [(.int (3 : Int32))]
    refine own_st (fun _ k => XS.iconst X0.here hx rfl (hb hby at_9) k) ?_
    show own_Go X0 (Q0 Z p0 p1 q2 p3 h0 n0) 2 8 10 #[.val (.int p0), .val (.int p1), .val (.long q2), .second, .val (.int p3), .val (.int (3 : Int32)), .unset, .unset, .unset, .unset, .unset, .unset, .unset, .unset, .unset, .unset] [(.int (1 : Int32)), (.int (3 : Int32))]
    have c10_59 : ¬ ((3 : Int32) = (1 : Int32)) := (by decide)
    refine own_st (fun _ k => XS.icmpYes X0.here hx rfl (pc0 := 10) (pc' := 18) rfl (hb hby at_10) rfl (feq c10_59).2 (by decide) (by decide) k) ?_
    show own_Go X0 (Q0 Z p0 p1 q2 p3 h0 n0) 2 8 18 #[.val (.int p0), .val (.int p1), .val (.long q2), .second, .val (.int p3), .val (.int (3 : Int32)), .unset, .unset, .unset, .unset, .unset, .unset, .unset, .unset, .unset, .unset] []
    refine own_st (fun _ k => XS.iload X0.here hx rfl (hb hby at_18) rfl k) ?_
    show own_Go X0 (Q0 Z p0 p1 q2 p3 h0 n0) 2 8 20 #[.val (.int p0), .val (.int p1), .val (.long q2), .second, .val (.int p3), .val (.int (3 : Int32)), .unset, .unset, .unset, .unset, .unset, .unset, .unset, .unset, .unset, .unset] [(.int (3 : Int32))]
    refine own_st (fun _ k => XS.iconst X0.here hx rfl (hb hby at_20) k) ?_
    show own_Go X0 (Q0 Z p0 p1 q2 p3 h0 n0) 2 8 21 #[.val (.int p0), .val (.int p1), .val (.long q2), .second, .val (.int p3), .val (.int (3 : Int32)), .unset, .unset, .unset, .unset, .unset, .unset, .unset, .unset, .unset, .unset] [(.int (2 : Int32)), (.int (3 : Int32))]
    have c21_60 : ¬ ((3 : Int32) = (2 : Int32)) := (by decide)
    refine own_st (fun _ k => XS.icmpYes X0.here hx rfl (pc0 := 21) (pc' := 29) rfl (hb hby at_21) rfl (feq c21_60).2 (by decide) (by decide) k) ?_
    show own_Go X0 (Q0 Z p0 p1 q2 p3 h0 n0) 2 8 29 #[.val (.int p0), .val (.int p1), .val (.long q2), .second, .val (.int p3), .val (.int (3 : Int32)), .unset, .unset, .unset, .unset, .unset, .unset, .unset, .unset, .unset, .unset] []
    refine own_st (fun _ k => XS.iload X0.here hx rfl (hb hby at_29) rfl k) ?_
    show own_Go X0 (Q0 Z p0 p1 q2 p3 h0 n0) 2 8 31 #[.val (.int p0), .val (.int p1), .val (.long q2), .second, .val (.int p3), .val (.int (3 : Int32)), .unset, .unset, .unset, .unset, .unset, .unset, .unset, .unset, .unset, .unset] [(.int (3 : Int32))]
    refine own_st (fun _ k => XS.iconst X0.here hx rfl (hb hby at_31) k) ?_
    show own_Go X0 (Q0 Z p0 p1 q2 p3 h0 n0) 2 8 32 #[.val (.int p0), .val (.int p1), .val (.long q2), .second, .val (.int p3), .val (.int (3 : Int32)), .unset, .unset, .unset, .unset, .unset, .unset, .unset, .unset, .unset, .unset] [(.int (3 : Int32)), (.int (3 : Int32))]
    have c32_61 : (3 : Int32) = (3 : Int32) := (by decide)
    refine own_st (fun _ k => XS.icmpNo X0.here hx rfl (hb hby at_32) rfl (teq c32_61).2 k) ?_
    show own_Go X0 (Q0 Z p0 p1 q2 p3 h0 n0) 2 8 35 #[.val (.int p0), .val (.int p1), .val (.long q2), .second, .val (.int p3), .val (.int (3 : Int32)), .unset, .unset, .unset, .unset, .unset, .unset, .unset, .unset, .unset, .unset] []
    refine own_st (fun _ k => XS.sipush X0.here hx rfl (hb hby at_35) k) ?_
    show own_Go X0 (Q0 Z p0 p1 q2 p3 h0 n0) 2 8 38 #[.val (.int p0), .val (.int p1), .val (.long q2), .second, .val (.int p3), .val (.int (3 : Int32)), .unset, .unset, .unset, .unset, .unset, .unset, .unset, .unset, .unset, .unset] [(.int (1290 : Int32))]
    refine own_st (fun _ k => XS.goto X0.here hx rfl (pc0 := 38) (pc' := 44) rfl (hb hby at_38) (by decide) (by decide) k) ?_
    show own_Go X0 (Q0 Z p0 p1 q2 p3 h0 n0) 2 8 44 #[.val (.int p0), .val (.int p1), .val (.long q2), .second, .val (.int p3), .val (.int (3 : Int32)), .unset, .unset, .unset, .unset, .unset, .unset, .unset, .unset, .unset, .unset] [(.int (1290 : Int32))]
    refine own_st (fun _ k => XS.istore X0.here hx rfl (hb hby at_44) rfl (l' := #[.val (.int p0), .val (.int p1), .val (.long q2), .second, .val (.int p3), .val (.int (3 : Int32)), .val (.int (1290 : Int32)), .unset, .unset, .unset, .unset, .unset, .unset, .unset, .unset, .unset]) rfl k) ?_
    show own_Go X0 (Q0 Z p0 p1 q2 p3 h0 n0) 2 8 46 #[.val (.int p0), .val (.int p1), .val (.long q2), .second, .val (.int p3), .val (.int (3 : Int32)), .val (.int (1290 : Int32)), .unset, .unset, .unset, .unset, .unset, .unset, .unset, .unset, .unset] []
    refine own_st (fun _ k => XS.iconst X0.here hx rfl (hb hby at_46) k) ?_
    show own_Go X0 (Q0 Z p0 p1 q2 p3 h0 n0) 2 8 47 #[.val (.int p0), .val (.int p1), .val (.long q2), .second, .val (.int p3), .val (.int (3 : Int32)), .val (.int (1290 : Int32)), .unset, .unset, .unset, .unset, .unset, .unset, .unset, .unset, .unset] [(.int (2 : Int32))]
    refine own_st (fun _ k => XS.iloadN X0.here hx rfl (hb hby at_47) rfl k) ?_
    show own_Go X0 (Q0 Z p0 p1 q2 p3 h0 n0) 2 8 48 #[.val (.int p0), .val (.int p1), .val (.long q2), .second, .val (.int p3), .val (.int (3 : Int32)), .val (.int (1290 : Int32)), .unset, .unset, .unset, .unset, .unset, .unset, .unset, .unset, .unset] [(.int p1), (.int (2 : Int32))]
    refine own_st (fun t k => X0.ldcInt hx hown (mvT hZ (hw _ (List.mem_of_getElem? (i := 1) rfl))) (g := (mkF m 48 #[.val (.int p0), .val (.int p1), .val (.long q2), .second, .val (.int p3), .val (.int (3 : Int32)), .val (.int (1290 : Int32)), .unset, .unset, .unset, .unset, .unset, .unset, .unset, .unset, .unset] [(.int p1), (.int (2 : Int32))])) rfl (hb hby at_48) t k) ?_
    show own_Go X0 (Q0 Z p0 p1 q2 p3 h0 n0) 2 8 50 #[.val (.int p0), .val (.int p1), .val (.long q2), .second, .val (.int p3), .val (.int (3 : Int32)), .val (.int (1290 : Int32)), .unset, .unset, .unset, .unset, .unset, .unset, .unset, .unset, .unset] [(.int (2147483647 : Int32)), (.int p1), (.int (2 : Int32))]
    refine own_st (fun _ k => XS.iand X0.here hx rfl (hb hby at_50) rfl k) ?_
    show own_Go X0 (Q0 Z p0 p1 q2 p3 h0 n0) 2 8 51 #[.val (.int p0), .val (.int p1), .val (.long q2), .second, .val (.int p3), .val (.int (3 : Int32)), .val (.int (1290 : Int32)), .unset, .unset, .unset, .unset, .unset, .unset, .unset, .unset, .unset] [(.int (p1 &&& (2147483647 : Int32))), (.int (2 : Int32))]
    refine own_st (fun _ k => XS.iload X0.here hx rfl (hb hby at_51) rfl k) ?_
    show own_Go X0 (Q0 Z p0 p1 q2 p3 h0 n0) 2 8 53 #[.val (.int p0), .val (.int p1), .val (.long q2), .second, .val (.int p3), .val (.int (3 : Int32)), .val (.int (1290 : Int32)), .unset, .unset, .unset, .unset, .unset, .unset, .unset, .unset, .unset] [(.int (1290 : Int32)), (.int (p1 &&& (2147483647 : Int32))), (.int (2 : Int32))]
    refine own_st (fun _ k => XS.iconst X0.here hx rfl (hb hby at_53) k) ?_
    show own_Go X0 (Q0 Z p0 p1 q2 p3 h0 n0) 2 8 54 #[.val (.int p0), .val (.int p1), .val (.long q2), .second, .val (.int p3), .val (.int (3 : Int32)), .val (.int (1290 : Int32)), .unset, .unset, .unset, .unset, .unset, .unset, .unset, .unset, .unset] [(.int (1 : Int32)), (.int (1290 : Int32)), (.int (p1 &&& (2147483647 : Int32))), (.int (2 : Int32))]
    refine own_st (fun _ k => XS.isub X0.here hx rfl (hb hby at_54) rfl k) ?_
    show own_Go X0 (Q0 Z p0 p1 q2 p3 h0 n0) 2 8 55 #[.val (.int p0), .val (.int p1), .val (.long q2), .second, .val (.int p3), .val (.int (3 : Int32)), .val (.int (1290 : Int32)), .unset, .unset, .unset, .unset, .unset, .unset, .unset, .unset, .unset] [(.int (1289 : Int32)), (.int (p1 &&& (2147483647 : Int32))), (.int (2 : Int32))]
    refine own_st (fun _ k => iremM X0 hx rfl (hb hby at_55) rfl (by decide) k) ?_
    show own_Go X0 (Q0 Z p0 p1 q2 p3 h0 n0) 2 8 56 #[.val (.int p0), .val (.int p1), .val (.long q2), .second, .val (.int p3), .val (.int (3 : Int32)), .val (.int (1290 : Int32)), .unset, .unset, .unset, .unset, .unset, .unset, .unset, .unset, .unset] [(.int ((p1 &&& (2147483647 : Int32)) % (1289 : Int32))), (.int (2 : Int32))]
    refine own_st (fun _ k => XS.iadd X0.here hx rfl (hb hby at_56) rfl k) ?_
    show own_Go X0 (Q0 Z p0 p1 q2 p3 h0 n0) 2 8 57 #[.val (.int p0), .val (.int p1), .val (.long q2), .second, .val (.int p3), .val (.int (3 : Int32)), .val (.int (1290 : Int32)), .unset, .unset, .unset, .unset, .unset, .unset, .unset, .unset, .unset] [(.int ((2 : Int32) + ((p1 &&& (2147483647 : Int32)) % (1289 : Int32))))]
    refine own_st (fun _ k => XS.istore X0.here hx rfl (hb hby at_57) rfl (l' := #[.val (.int p0), .val (.int p1), .val (.long q2), .second, .val (.int p3), .val (.int (3 : Int32)), .val (.int (1290 : Int32)), .val (.int ((2 : Int32) + ((p1 &&& (2147483647 : Int32)) % (1289 : Int32)))), .unset, .unset, .unset, .unset, .unset, .unset, .unset, .unset]) rfl k) ?_
    show own_Go X0 (Q0 Z p0 p1 q2 p3 h0 n0) 2 8 59 #[.val (.int p0), .val (.int p1), .val (.long q2), .second, .val (.int p3), .val (.int (3 : Int32)), .val (.int (1290 : Int32)), .val (.int ((2 : Int32) + ((p1 &&& (2147483647 : Int32)) % (1289 : Int32)))), .unset, .unset, .unset, .unset, .unset, .unset, .unset, .unset] []
    generalize hgg : ((2 : Int32) + ((p1 &&& (2147483647 : Int32)) % (1289 : Int32))) = gg
    show own_Go X0 (Q0 Z p0 p1 q2 p3 h0 n0) 2 8 59 #[.val (.int p0), .val (.int p1), .val (.long q2), .second, .val (.int p3), .val (.int (3 : Int32)), .val (.int (1290 : Int32)), .val (.int gg), .unset, .unset, .unset, .unset, .unset, .unset, .unset, .unset] []
    have hG : 2 ≤ gg.toInt ∧ gg.toInt ≤ 1290 := own_gb (M := 1289) (by decide) (by decide) (by decide) hgg
    refine own_st (fun _ k => XS.iload X0.here hx rfl (hb hby at_59) rfl k) ?_
    show own_Go X0 (Q0 Z p0 p1 q2 p3 h0 n0) 2 8 61 #[.val (.int p0), .val (.int p1), .val (.long q2), .second, .val (.int p3), .val (.int (3 : Int32)), .val (.int (1290 : Int32)), .val (.int gg), .unset, .unset, .unset, .unset, .unset, .unset, .unset, .unset] [(.int gg)]
    refine own_st (fun _ k => XS.i2l X0.here hx rfl (hb hby at_61) rfl k) ?_
    show own_Go X0 (Q0 Z p0 p1 q2 p3 h0 n0) 2 8 62 #[.val (.int p0), .val (.int p1), .val (.long q2), .second, .val (.int p3), .val (.int (3 : Int32)), .val (.int (1290 : Int32)), .val (.int gg), .unset, .unset, .unset, .unset, .unset, .unset, .unset, .unset] [(.long (gg.toInt64))]
    refine own_st (fun _ k => XS.lstore X0.here hx rfl (hb hby at_62) rfl (l' := #[.val (.int p0), .val (.int p1), .val (.long q2), .second, .val (.int p3), .val (.int (3 : Int32)), .val (.int (1290 : Int32)), .val (.int gg), .val (.long (gg.toInt64)), .second, .unset, .unset, .unset, .unset, .unset, .unset]) rfl k) ?_
    show own_Go X0 (Q0 Z p0 p1 q2 p3 h0 n0) 2 8 64 #[.val (.int p0), .val (.int p1), .val (.long q2), .second, .val (.int p3), .val (.int (3 : Int32)), .val (.int (1290 : Int32)), .val (.int gg), .val (.long (gg.toInt64)), .second, .unset, .unset, .unset, .unset, .unset, .unset] []
    refine own_st (fun _ k => XS.iload X0.here hx rfl (hb hby at_64) rfl k) ?_
    show own_Go X0 (Q0 Z p0 p1 q2 p3 h0 n0) 2 8 66 #[.val (.int p0), .val (.int p1), .val (.long q2), .second, .val (.int p3), .val (.int (3 : Int32)), .val (.int (1290 : Int32)), .val (.int gg), .val (.long (gg.toInt64)), .second, .unset, .unset, .unset, .unset, .unset, .unset] [(.int (3 : Int32))]
    refine own_st (fun _ k => XS.iconst X0.here hx rfl (hb hby at_66) k) ?_
    show own_Go X0 (Q0 Z p0 p1 q2 p3 h0 n0) 2 8 67 #[.val (.int p0), .val (.int p1), .val (.long q2), .second, .val (.int p3), .val (.int (3 : Int32)), .val (.int (1290 : Int32)), .val (.int gg), .val (.long (gg.toInt64)), .second, .unset, .unset, .unset, .unset, .unset, .unset] [(.int (2 : Int32)), (.int (3 : Int32))]
    have c67_62 : ¬ ((3 : Int32) < (2 : Int32)) := (by decide)
    refine own_st (fun _ k => XS.icmpNo X0.here hx rfl (hb hby at_67) rfl (flt c67_62).1 k) ?_
    show own_Go X0 (Q0 Z p0 p1 q2 p3 h0 n0) 2 8 70 #[.val (.int p0), .val (.int p1), .val (.long q2), .second, .val (.int p3), .val (.int (3 : Int32)), .val (.int (1290 : Int32)), .val (.int gg), .val (.long (gg.toInt64)), .second, .unset, .unset, .unset, .unset, .unset, .unset] []
    refine own_st (fun _ k => XS.lload X0.here hx rfl (hb hby at_70) rfl k) ?_
    show own_Go X0 (Q0 Z p0 p1 q2 p3 h0 n0) 2 8 72 #[.val (.int p0), .val (.int p1), .val (.long q2), .second, .val (.int p3), .val (.int (3 : Int32)), .val (.int (1290 : Int32)), .val (.int gg), .val (.long (gg.toInt64)), .second, .unset, .unset, .unset, .unset, .unset, .unset] [(.long (gg.toInt64))]
    refine own_st (fun _ k => XS.iload X0.here hx rfl (hb hby at_72) rfl k) ?_
    show own_Go X0 (Q0 Z p0 p1 q2 p3 h0 n0) 2 8 74 #[.val (.int p0), .val (.int p1), .val (.long q2), .second, .val (.int p3), .val (.int (3 : Int32)), .val (.int (1290 : Int32)), .val (.int gg), .val (.long (gg.toInt64)), .second, .unset, .unset, .unset, .unset, .unset, .unset] [(.int gg), (.long (gg.toInt64))]
    refine own_st (fun _ k => XS.i2l X0.here hx rfl (hb hby at_74) rfl k) ?_
    show own_Go X0 (Q0 Z p0 p1 q2 p3 h0 n0) 2 8 75 #[.val (.int p0), .val (.int p1), .val (.long q2), .second, .val (.int p3), .val (.int (3 : Int32)), .val (.int (1290 : Int32)), .val (.int gg), .val (.long (gg.toInt64)), .second, .unset, .unset, .unset, .unset, .unset, .unset] [(.long (gg.toInt64)), (.long (gg.toInt64))]
    refine own_st (fun _ k => XS.lmul X0.here hx rfl (hb hby at_75) rfl k) ?_
    show own_Go X0 (Q0 Z p0 p1 q2 p3 h0 n0) 2 8 76 #[.val (.int p0), .val (.int p1), .val (.long q2), .second, .val (.int p3), .val (.int (3 : Int32)), .val (.int (1290 : Int32)), .val (.int gg), .val (.long (gg.toInt64)), .second, .unset, .unset, .unset, .unset, .unset, .unset] [(.long ((gg.toInt64) * (gg.toInt64)))]
    refine own_st (fun _ k => XS.lstore X0.here hx rfl (hb hby at_76) rfl (l' := #[.val (.int p0), .val (.int p1), .val (.long q2), .second, .val (.int p3), .val (.int (3 : Int32)), .val (.int (1290 : Int32)), .val (.int gg), .val (.long ((gg.toInt64) * (gg.toInt64))), .second, .unset, .unset, .unset, .unset, .unset, .unset]) rfl k) ?_
    show own_Go X0 (Q0 Z p0 p1 q2 p3 h0 n0) 2 8 78 #[.val (.int p0), .val (.int p1), .val (.long q2), .second, .val (.int p3), .val (.int (3 : Int32)), .val (.int (1290 : Int32)), .val (.int gg), .val (.long ((gg.toInt64) * (gg.toInt64))), .second, .unset, .unset, .unset, .unset, .unset, .unset] []
    refine own_st (fun _ k => XS.iload X0.here hx rfl (hb hby at_78) rfl k) ?_
    show own_Go X0 (Q0 Z p0 p1 q2 p3 h0 n0) 2 8 80 #[.val (.int p0), .val (.int p1), .val (.long q2), .second, .val (.int p3), .val (.int (3 : Int32)), .val (.int (1290 : Int32)), .val (.int gg), .val (.long ((gg.toInt64) * (gg.toInt64))), .second, .unset, .unset, .unset, .unset, .unset, .unset] [(.int (3 : Int32))]
    refine own_st (fun _ k => XS.iconst X0.here hx rfl (hb hby at_80) k) ?_
    show own_Go X0 (Q0 Z p0 p1 q2 p3 h0 n0) 2 8 81 #[.val (.int p0), .val (.int p1), .val (.long q2), .second, .val (.int p3), .val (.int (3 : Int32)), .val (.int (1290 : Int32)), .val (.int gg), .val (.long ((gg.toInt64) * (gg.toInt64))), .second, .unset, .unset, .unset, .unset, .unset, .unset] [(.int (3 : Int32)), (.int (3 : Int32))]
    have c81_63 : ¬ ((3 : Int32) < (3 : Int32)) := (by decide)
    refine own_st (fun _ k => XS.icmpNo X0.here hx rfl (hb hby at_81) rfl (flt c81_63).1 k) ?_
    show own_Go X0 (Q0 Z p0 p1 q2 p3 h0 n0) 2 8 84 #[.val (.int p0), .val (.int p1), .val (.long q2), .second, .val (.int p3), .val (.int (3 : Int32)), .val (.int (1290 : Int32)), .val (.int gg), .val (.long ((gg.toInt64) * (gg.toInt64))), .second, .unset, .unset, .unset, .unset, .unset, .unset] []
    refine own_st (fun _ k => XS.lload X0.here hx rfl (hb hby at_84) rfl k) ?_
    show own_Go X0 (Q0 Z p0 p1 q2 p3 h0 n0) 2 8 86 #[.val (.int p0), .val (.int p1), .val (.long q2), .second, .val (.int p3), .val (.int (3 : Int32)), .val (.int (1290 : Int32)), .val (.int gg), .val (.long ((gg.toInt64) * (gg.toInt64))), .second, .unset, .unset, .unset, .unset, .unset, .unset] [(.long ((gg.toInt64) * (gg.toInt64)))]
    refine own_st (fun _ k => XS.iload X0.here hx rfl (hb hby at_86) rfl k) ?_
    show own_Go X0 (Q0 Z p0 p1 q2 p3 h0 n0) 2 8 88 #[.val (.int p0), .val (.int p1), .val (.long q2), .second, .val (.int p3), .val (.int (3 : Int32)), .val (.int (1290 : Int32)), .val (.int gg), .val (.long ((gg.toInt64) * (gg.toInt64))), .second, .unset, .unset, .unset, .unset, .unset, .unset] [(.int gg), (.long ((gg.toInt64) * (gg.toInt64)))]
    refine own_st (fun _ k => XS.i2l X0.here hx rfl (hb hby at_88) rfl k) ?_
    show own_Go X0 (Q0 Z p0 p1 q2 p3 h0 n0) 2 8 89 #[.val (.int p0), .val (.int p1), .val (.long q2), .second, .val (.int p3), .val (.int (3 : Int32)), .val (.int (1290 : Int32)), .val (.int gg), .val (.long ((gg.toInt64) * (gg.toInt64))), .second, .unset, .unset, .unset, .unset, .unset, .unset] [(.long (gg.toInt64)), (.long ((gg.toInt64) * (gg.toInt64)))]
    refine own_st (fun _ k => XS.lmul X0.here hx rfl (hb hby at_89) rfl k) ?_
    show own_Go X0 (Q0 Z p0 p1 q2 p3 h0 n0) 2 8 90 #[.val (.int p0), .val (.int p1), .val (.long q2), .second, .val (.int p3), .val (.int (3 : Int32)), .val (.int (1290 : Int32)), .val (.int gg), .val (.long ((gg.toInt64) * (gg.toInt64))), .second, .unset, .unset, .unset, .unset, .unset, .unset] [(.long (((gg.toInt64) * (gg.toInt64)) * (gg.toInt64)))]
    refine own_st (fun _ k => XS.lstore X0.here hx rfl (hb hby at_90) rfl (l' := #[.val (.int p0), .val (.int p1), .val (.long q2), .second, .val (.int p3), .val (.int (3 : Int32)), .val (.int (1290 : Int32)), .val (.int gg), .val (.long (((gg.toInt64) * (gg.toInt64)) * (gg.toInt64))), .second, .unset, .unset, .unset, .unset, .unset, .unset]) rfl k) ?_
    show own_Go X0 (Q0 Z p0 p1 q2 p3 h0 n0) 2 8 92 #[.val (.int p0), .val (.int p1), .val (.long q2), .second, .val (.int p3), .val (.int (3 : Int32)), .val (.int (1290 : Int32)), .val (.int gg), .val (.long (((gg.toInt64) * (gg.toInt64)) * (gg.toInt64))), .second, .unset, .unset, .unset, .unset, .unset, .unset] []
    refine own_st (fun _ k => XS.iload X0.here hx rfl (hb hby at_92) rfl k) ?_
    show own_Go X0 (Q0 Z p0 p1 q2 p3 h0 n0) 2 8 94 #[.val (.int p0), .val (.int p1), .val (.long q2), .second, .val (.int p3), .val (.int (3 : Int32)), .val (.int (1290 : Int32)), .val (.int gg), .val (.long (((gg.toInt64) * (gg.toInt64)) * (gg.toInt64))), .second, .unset, .unset, .unset, .unset, .unset, .unset] [(.int (3 : Int32))]
    refine own_st (fun _ k => XS.iconst X0.here hx rfl (hb hby at_94) k) ?_
    show own_Go X0 (Q0 Z p0 p1 q2 p3 h0 n0) 2 8 95 #[.val (.int p0), .val (.int p1), .val (.long q2), .second, .val (.int p3), .val (.int (3 : Int32)), .val (.int (1290 : Int32)), .val (.int gg), .val (.long (((gg.toInt64) * (gg.toInt64)) * (gg.toInt64))), .second, .unset, .unset, .unset, .unset, .unset, .unset] [(.int (4 : Int32)), (.int (3 : Int32))]
    have c95_64 : (3 : Int32) < (4 : Int32) := (by decide)
    refine own_st (fun _ k => XS.icmpYes X0.here hx rfl (pc0 := 95) (pc' := 106) rfl (hb hby at_95) rfl (tlt c95_64).1 (by decide) (by decide) k) ?_
    show own_Go X0 (Q0 Z p0 p1 q2 p3 h0 n0) 2 8 106 #[.val (.int p0), .val (.int p1), .val (.long q2), .second, .val (.int p3), .val (.int (3 : Int32)), .val (.int (1290 : Int32)), .val (.int gg), .val (.long (((gg.toInt64) * (gg.toInt64)) * (gg.toInt64))), .second, .unset, .unset, .unset, .unset, .unset, .unset] []
    have u1 : gg.toInt ≤ 1290 := hG.2
    have v1 : 0 < gg.toInt := by omega
    have pq1 : (own_pw1 gg).toInt = gg.toInt := own_p1 gg
    have r1 : (gg.toInt64).toInt = gg.toInt := c_i2l gg
    have u2 := own_ub2 (a := gg.toInt) (b := gg.toInt) (A := 1290) (B := 1290) (by omega) (by omega) u1 hG.2
    have v2 : 0 < gg.toInt * gg.toInt := Int.mul_pos v1 v1
    have pq2 : (own_pw2 gg).toInt = gg.toInt * gg.toInt := own_mulx pq1 (by omega) (by omega)
    have r2 : (gg.toInt64 * gg.toInt64).toInt = gg.toInt * gg.toInt := own_mulx r1 (by omega) (by omega)
    have u3 := own_ub2 (a := gg.toInt * gg.toInt) (b := gg.toInt) (A := 1290 * 1290) (B := 1290) (by omega) (by omega) u2 hG.2
    have v3 : 0 < gg.toInt * gg.toInt * gg.toInt := Int.mul_pos v2 v1
    have pq3 : (own_pw3 gg).toInt = gg.toInt * gg.toInt * gg.toInt := own_mulx pq2 (by omega) (by omega)
    have r3 : ((gg.toInt64 * gg.toInt64) * gg.toInt64).toInt = gg.toInt * gg.toInt * gg.toInt := own_mulx r2 (by omega) (by omega)
    generalize hcc : (((gg.toInt64) * (gg.toInt64)) * (gg.toInt64)) = cc
    show own_Go X0 (Q0 Z p0 p1 q2 p3 h0 n0) 2 8 106 #[.val (.int p0), .val (.int p1), .val (.long q2), .second, .val (.int p3), .val (.int (3 : Int32)), .val (.int (1290 : Int32)), .val (.int gg), .val (.long cc), .second, .unset, .unset, .unset, .unset, .unset, .unset] []
    have hC : cc.toInt = gg.toInt * gg.toInt * gg.toInt := by rw [← hcc]; exact r3
    refine own_st (fun _ k => XS.lloadN X0.here hx rfl (hb hby at_106) rfl k) ?_
    show own_Go X0 (Q0 Z p0 p1 q2 p3 h0 n0) 2 8 107 #[.val (.int p0), .val (.int p1), .val (.long q2), .second, .val (.int p3), .val (.int (3 : Int32)), .val (.int (1290 : Int32)), .val (.int gg), .val (.long cc), .second, .unset, .unset, .unset, .unset, .unset, .unset] [(.long q2)]
    refine own_st (fun t k => X0.ldc2Long hx hown (mvT hZ (hw _ (List.mem_of_getElem? (i := 2) rfl))) (g := (mkF m 107 #[.val (.int p0), .val (.int p1), .val (.long q2), .second, .val (.int p3), .val (.int (3 : Int32)), .val (.int (1290 : Int32)), .val (.int gg), .val (.long cc), .second, .unset, .unset, .unset, .unset, .unset, .unset] [(.long q2)])) rfl (hb hby at_107) t k) ?_
    show own_Go X0 (Q0 Z p0 p1 q2 p3 h0 n0) 2 8 110 #[.val (.int p0), .val (.int p1), .val (.long q2), .second, .val (.int p3), .val (.int (3 : Int32)), .val (.int (1290 : Int32)), .val (.int gg), .val (.long cc), .second, .unset, .unset, .unset, .unset, .unset, .unset] [(.long (9223372036854775807 : Int64)), (.long q2)]
    refine own_st (fun _ k => XS.land X0.here hx rfl (hb hby at_110) rfl k) ?_
    show own_Go X0 (Q0 Z p0 p1 q2 p3 h0 n0) 2 8 111 #[.val (.int p0), .val (.int p1), .val (.long q2), .second, .val (.int p3), .val (.int (3 : Int32)), .val (.int (1290 : Int32)), .val (.int gg), .val (.long cc), .second, .unset, .unset, .unset, .unset, .unset, .unset] [(.long (q2 &&& (9223372036854775807 : Int64)))]
    refine own_st (fun _ k => XS.lload X0.here hx rfl (hb hby at_111) rfl k) ?_
    show own_Go X0 (Q0 Z p0 p1 q2 p3 h0 n0) 2 8 113 #[.val (.int p0), .val (.int p1), .val (.long q2), .second, .val (.int p3), .val (.int (3 : Int32)), .val (.int (1290 : Int32)), .val (.int gg), .val (.long cc), .second, .unset, .unset, .unset, .unset, .unset, .unset] [(.long cc), (.long (q2 &&& (9223372036854775807 : Int64)))]
    refine own_st (fun _ k => own_lrem X0 hx rfl (hb hby at_113) rfl (own_cnz hC v3) k) ?_
    show own_Go X0 (Q0 Z p0 p1 q2 p3 h0 n0) 2 8 114 #[.val (.int p0), .val (.int p1), .val (.long q2), .second, .val (.int p3), .val (.int (3 : Int32)), .val (.int (1290 : Int32)), .val (.int gg), .val (.long cc), .second, .unset, .unset, .unset, .unset, .unset, .unset] [(.long ((q2 &&& (9223372036854775807 : Int64)) % cc))]
    refine own_st (fun _ k => XS.l2i X0.here hx rfl (hb hby at_114) rfl k) ?_
    show own_Go X0 (Q0 Z p0 p1 q2 p3 h0 n0) 2 8 115 #[.val (.int p0), .val (.int p1), .val (.long q2), .second, .val (.int p3), .val (.int (3 : Int32)), .val (.int (1290 : Int32)), .val (.int gg), .val (.long cc), .second, .unset, .unset, .unset, .unset, .unset, .unset] [(.int (((q2 &&& (9223372036854775807 : Int64)) % cc).toInt32))]
    refine own_st (fun _ k => XS.istore X0.here hx rfl (hb hby at_115) rfl (l' := #[.val (.int p0), .val (.int p1), .val (.long q2), .second, .val (.int p3), .val (.int (3 : Int32)), .val (.int (1290 : Int32)), .val (.int gg), .val (.long cc), .second, .val (.int (((q2 &&& (9223372036854775807 : Int64)) % cc).toInt32)), .unset, .unset, .unset, .unset, .unset]) rfl k) ?_
    show own_Go X0 (Q0 Z p0 p1 q2 p3 h0 n0) 2 8 117 #[.val (.int p0), .val (.int p1), .val (.long q2), .second, .val (.int p3), .val (.int (3 : Int32)), .val (.int (1290 : Int32)), .val (.int gg), .val (.long cc), .second, .val (.int (((q2 &&& (9223372036854775807 : Int64)) % cc).toInt32)), .unset, .unset, .unset, .unset, .unset] []
    generalize htp : (((q2 &&& (9223372036854775807 : Int64)) % cc).toInt32) = tp
    show own_Go X0 (Q0 Z p0 p1 q2 p3 h0 n0) 2 8 117 #[.val (.int p0), .val (.int p1), .val (.long q2), .second, .val (.int p3), .val (.int (3 : Int32)), .val (.int (1290 : Int32)), .val (.int gg), .val (.long cc), .second, .val (.int tp), .unset, .unset, .unset, .unset, .unset] []
    have hT := own_tp hC v3 (by omega) htp
    have k0 : 0 ≤ tp.toInt := hT.1
    have l0 : tp.toInt < gg.toInt * gg.toInt * gg.toInt := hT.2
    have k1 := own_dnn k0 hG.1
    have l1 : (tp / gg).toInt < gg.toInt * gg.toInt := own_dlt k0 hG.1 l0
    have k2 := own_dnn k1 hG.1
    have l2 : ((tp / gg) / gg).toInt < gg.toInt := own_dlt k1 hG.1 l1
    refine own_st (fun _ k => XS.iload X0.here hx rfl (hb hby at_117) rfl k) ?_
    show own_Go X0 (Q0 Z p0 p1 q2 p3 h0 n0) 2 8 119 #[.val (.int p0), .val (.int p1), .val (.long q2), .second, .val (.int p3), .val (.int (3 : Int32)), .val (.int (1290 : Int32)), .val (.int gg), .val (.long cc), .second, .val (.int tp), .unset, .unset, .unset, .unset, .unset] [(.int (3 : Int32))]
    refine own_st (fun _ k => XS.iload X0.here hx rfl (hb hby at_119) rfl k) ?_
    show own_Go X0 (Q0 Z p0 p1 q2 p3 h0 n0) 2 8 121 #[.val (.int p0), .val (.int p1), .val (.long q2), .second, .val (.int p3), .val (.int (3 : Int32)), .val (.int (1290 : Int32)), .val (.int gg), .val (.long cc), .second, .val (.int tp), .unset, .unset, .unset, .unset, .unset] [(.int p3), (.int (3 : Int32))]
    refine own_st (fun _ k => XS.bipush X0.here hx rfl (hb hby at_121) k) ?_
    show own_Go X0 (Q0 Z p0 p1 q2 p3 h0 n0) 2 8 123 #[.val (.int p0), .val (.int p1), .val (.long q2), .second, .val (.int p3), .val (.int (3 : Int32)), .val (.int (1290 : Int32)), .val (.int gg), .val (.long cc), .second, .val (.int tp), .unset, .unset, .unset, .unset, .unset] [(.int (7 : Int32)), (.int p3), (.int (3 : Int32))]
    refine own_st (fun _ k => XS.iand X0.here hx rfl (hb hby at_123) rfl k) ?_
    show own_Go X0 (Q0 Z p0 p1 q2 p3 h0 n0) 2 8 124 #[.val (.int p0), .val (.int p1), .val (.long q2), .second, .val (.int p3), .val (.int (3 : Int32)), .val (.int (1290 : Int32)), .val (.int gg), .val (.long cc), .second, .val (.int tp), .unset, .unset, .unset, .unset, .unset] [(.int (p3 &&& (7 : Int32))), (.int (3 : Int32))]
    refine own_st (fun _ k => XS.iadd X0.here hx rfl (hb hby at_124) rfl k) ?_
    show own_Go X0 (Q0 Z p0 p1 q2 p3 h0 n0) 2 8 125 #[.val (.int p0), .val (.int p1), .val (.long q2), .second, .val (.int p3), .val (.int (3 : Int32)), .val (.int (1290 : Int32)), .val (.int gg), .val (.long cc), .second, .val (.int tp), .unset, .unset, .unset, .unset, .unset] [(.int ((3 : Int32) + (p3 &&& (7 : Int32))))]
    refine own_st (fun _ k => XS.istore X0.here hx rfl (hb hby at_125) rfl (l' := #[.val (.int p0), .val (.int p1), .val (.long q2), .second, .val (.int p3), .val (.int (3 : Int32)), .val (.int (1290 : Int32)), .val (.int gg), .val (.long cc), .second, .val (.int tp), .val (.int ((3 : Int32) + (p3 &&& (7 : Int32)))), .unset, .unset, .unset, .unset]) rfl k) ?_
    show own_Go X0 (Q0 Z p0 p1 q2 p3 h0 n0) 2 8 127 #[.val (.int p0), .val (.int p1), .val (.long q2), .second, .val (.int p3), .val (.int (3 : Int32)), .val (.int (1290 : Int32)), .val (.int gg), .val (.long cc), .second, .val (.int tp), .val (.int ((3 : Int32) + (p3 &&& (7 : Int32)))), .unset, .unset, .unset, .unset] []
    generalize hcl : ((3 : Int32) + (p3 &&& (7 : Int32))) = cl
    show own_Go X0 (Q0 Z p0 p1 q2 p3 h0 n0) 2 8 127 #[.val (.int p0), .val (.int p1), .val (.long q2), .second, .val (.int p3), .val (.int (3 : Int32)), .val (.int (1290 : Int32)), .val (.int gg), .val (.long cc), .second, .val (.int tp), .val (.int cl), .unset, .unset, .unset, .unset] []
    have hCl := own_cl (t := (3 : Int32)) (by decide) hcl
    obtain ⟨T65, h65, X65, e65, E65, A65, D65, -, st65⟩ := newO X0 hx hZ hown (hw _ (List.mem_of_getElem? (i := 3) rfl)) (hw _ (List.mem_of_getElem? (i := 4) rfl)) (hw _ (List.mem_of_getElem? (i := 5) rfl)) e0 (g := (mkF m 127 #[.val (.int p0), .val (.int p1), .val (.long q2), .second, .val (.int p3), .val (.int (3 : Int32)), .val (.int (1290 : Int32)), .val (.int gg), .val (.long cc), .second, .val (.int tp), .val (.int cl), .unset, .unset, .unset, .unset] [])) rfl (hb hby at_127) (by decide) (by decide)
    obtain ⟨b65, g65⟩ : ∃ z, z = h0.size := ⟨_, rfl⟩
    rw [← g65] at A65 D65 st65
    refine own_st st65 ?_
    have G_66 := Nat.le_trans Z0 (Nat.le_of_eq g65.symm)
    have Z_67 := Nat.le_trans Z0 E65.1
    have F_rows_65 : Fld Z h65 b65 "com/example/gingham/gingham/designs/CoveringArraySpec" "rows" "I" (.int (0 : Int32)) := D65 (Or.inr (hw _ (List.mem_of_getElem? (i := 22) rfl))) (ty := .int) (by decide)
    have F_strength_65 : Fld Z h65 b65 "com/example/gingham/gingham/designs/CoveringArraySpec" "strength" "I" (.int (0 : Int32)) := D65 (Or.inr (hw _ (List.mem_of_getElem? (i := 24) rfl))) (ty := .int) (by decide)
    have F_columns_65 : Fld Z h65 b65 "com/example/gingham/gingham/designs/CoveringArraySpec" "columns" "I" (.int (0 : Int32)) := D65 (Or.inr (hw _ (List.mem_of_getElem? (i := 26) rfl))) (ty := .int) (by decide)
    have F_levels_65 : Fld Z h65 b65 "com/example/gingham/gingham/designs/CoveringArraySpec" "levels" "I" (.int (0 : Int32)) := D65 (Or.inr (hw _ (List.mem_of_getElem? (i := 28) rfl))) (ty := .int) (by decide)
    show own_Go X65 (Q0 Z p0 p1 q2 p3 h0 n0) 2 8 130 #[.val (.int p0), .val (.int p1), .val (.long q2), .second, .val (.int p3), .val (.int (3 : Int32)), .val (.int (1290 : Int32)), .val (.int gg), .val (.long cc), .second, .val (.int tp), .val (.int cl), .unset, .unset, .unset, .unset] [(.ref b65)]
    refine own_st (fun _ k => XS.dup X65.here hx rfl (hb hby at_130) rfl rfl k) ?_
    show own_Go X65 (Q0 Z p0 p1 q2 p3 h0 n0) 2 8 131 #[.val (.int p0), .val (.int p1), .val (.long q2), .second, .val (.int p3), .val (.int (3 : Int32)), .val (.int (1290 : Int32)), .val (.int gg), .val (.long cc), .second, .val (.int tp), .val (.int cl), .unset, .unset, .unset, .unset] [(.ref b65), (.ref b65)]
    refine own_st (fun _ k => XS.iconst X65.here hx rfl (hb hby at_131) k) ?_
    show own_Go X65 (Q0 Z p0 p1 q2 p3 h0 n0) 2 8 132 #[.val (.int p0), .val (.int p1), .val (.long q2), .second, .val (.int p3), .val (.int (3 : Int32)), .val (.int (1290 : Int32)), .val (.int gg), .val (.long cc), .second, .val (.int tp), .val (.int cl), .unset, .unset, .unset, .unset] [(.int (1 : Int32)), (.ref b65), (.ref b65)]
    refine own_st (fun _ k => XS.iload X65.here hx rfl (hb hby at_132) rfl k) ?_
    show own_Go X65 (Q0 Z p0 p1 q2 p3 h0 n0) 2 8 134 #[.val (.int p0), .val (.int p1), .val (.long q2), .second, .val (.int p3), .val (.int (3 : Int32)), .val (.int (1290 : Int32)), .val (.int gg), .val (.long cc), .second, .val (.int tp), .val (.int cl), .unset, .unset, .unset, .unset] [(.int (3 : Int32)), (.int (1 : Int32)), (.ref b65), (.ref b65)]
    refine own_st (fun _ k => XS.iload X65.here hx rfl (hb hby at_134) rfl k) ?_
    show own_Go X65 (Q0 Z p0 p1 q2 p3 h0 n0) 2 8 136 #[.val (.int p0), .val (.int p1), .val (.long q2), .second, .val (.int p3), .val (.int (3 : Int32)), .val (.int (1290 : Int32)), .val (.int gg), .val (.long cc), .second, .val (.int tp), .val (.int cl), .unset, .unset, .unset, .unset] [(.int cl), (.int (3 : Int32)), (.int (1 : Int32)), (.ref b65), (.ref b65)]
    refine own_st (fun _ k => XS.iload X65.here hx rfl (hb hby at_136) rfl k) ?_
    show own_Go X65 (Q0 Z p0 p1 q2 p3 h0 n0) 2 8 138 #[.val (.int p0), .val (.int p1), .val (.long q2), .second, .val (.int p3), .val (.int (3 : Int32)), .val (.int (1290 : Int32)), .val (.int gg), .val (.long cc), .second, .val (.int tp), .val (.int cl), .unset, .unset, .unset, .unset] [(.int gg), (.int cl), (.int (3 : Int32)), (.int (1 : Int32)), (.ref b65), (.ref b65)]
    refine own_callI (W := 1) X65 hx hZ hown (hw _ (List.mem_of_getElem? (i := 6) rfl)) (hw _ (List.mem_of_getElem? (i := 7) rfl)) (hw _ (List.mem_of_getElem? (i := 5) rfl)) (hw _ (List.mem_of_getElem? (i := 8) rfl)) rfl (by decide) (rm13 l Z a0 hw [] b65 cl gg h65 n0 Z_67 A65 G_66 F_rows_65 F_strength_65 F_columns_65 F_levels_65 (own_le64 pq1 (by omega)) (own_le64 pq2 (by omega)) (own_le64 pq3 (by omega)) (own_nn32 pq3 (by omega) (by omega)) (own_g2 hG.1) hCl.1 hCl.2) (by decide) (by decide) (by rw [hml]; rfl) b65 [(.int (1 : Int32)), (.int (3 : Int32)), (.int cl), (.int gg)] [(.ref b65)] (lenOf pd_0_0 rfl) rfl rfl (Nat.le_of_ble_eq_true rfl) (hb hby at_138) e65 (by decide) (by decide) ?_
    rintro _ T68 L68 X68 ⟨rfl, N68q, K68q, F68_rows, F68_strength, F68_columns, F68_levels⟩
    have N_69 := Fr.app N0 N68q
    have f_70 := A65.keep K68q
    have Z_71 := Nat.le_trans Z_67 K68q.1
    show own_Go X68 (Q0 Z p0 p1 q2 p3 h0 n0) 2 8 141 #[.val (.int p0), .val (.int p1), .val (.long q2), .second, .val (.int p3), .val (.int (3 : Int32)), .val (.int (1290 : Int32)), .val (.int gg), .val (.long cc), .second, .val (.int tp), .val (.int cl), .unset, .unset, .unset, .unset] [(.ref b65)]
    refine own_st (fun _ k => XS.astore X68.here hx rfl (hb hby at_141) rfl rfl (l' := #[.val (.int p0), .val (.int p1), .val (.long q2), .second, .val (.int p3), .val (.int (3 : Int32)), .val (.int (1290 : Int32)), .val (.int gg), .val (.long cc), .second, .val (.int tp), .val (.int cl), .val (.ref b65), .unset, .unset, .unset]) rfl k) ?_
    show own_Go X68 (Q0 Z p0 p1 q2 p3 h0 n0) 2 8 143 #[.val (.int p0), .val (.int p1), .val (.long q2), .second, .val (.int p3), .val (.int (3 : Int32)), .val (.int (1290 : Int32)), .val (.int gg), .val (.long cc), .second, .val (.int tp), .val (.int cl), .val (.ref b65), .unset, .unset, .unset] []
    refine own_st (fun _ k => XS.aload X68.here hx rfl (hb hby at_143) rfl rfl k) ?_
    show own_Go X68 (Q0 Z p0 p1 q2 p3 h0 n0) 2 8 145 #[.val (.int p0), .val (.int p1), .val (.long q2), .second, .val (.int p3), .val (.int (3 : Int32)), .val (.int (1290 : Int32)), .val (.int gg), .val (.long cc), .second, .val (.int tp), .val (.int cl), .val (.ref b65), .unset, .unset, .unset] [(.ref b65)]
    refine own_st (fun _ k => XS.iload X68.here hx rfl (hb hby at_145) rfl k) ?_
    show own_Go X68 (Q0 Z p0 p1 q2 p3 h0 n0) 2 8 147 #[.val (.int p0), .val (.int p1), .val (.long q2), .second, .val (.int p3), .val (.int (3 : Int32)), .val (.int (1290 : Int32)), .val (.int gg), .val (.long cc), .second, .val (.int tp), .val (.int cl), .val (.ref b65), .unset, .unset, .unset] [(.int tp), (.ref b65)]
    refine own_callV (W := 0) X68 hx hZ hown (hw _ (List.mem_of_getElem? (i := 29) rfl)) (hw _ (List.mem_of_getElem? (i := 30) rfl)) (hw _ (List.mem_of_getElem? (i := 32) rfl)) (hw _ (List.mem_of_getElem? (i := 31) rfl)) (hw _ (List.mem_of_getElem? (i := 5) rfl)) (hw _ (List.mem_of_getElem? (i := 33) rfl)) (by decide) (rm53 l Z a0 hw [] b65 tp gg T68.heap n0 Z_71 F68_levels F68_strength (own_gnz hG.1)) (by decide) (by decide) (by rw [hml]; rfl) b65 [(.int tp)] [] (lenOf pd_0_1 rfl) rfl rfl (Nat.le_of_ble_eq_true rfl) (hb hby at_147) (Eq.refl T68.heap) f_70 (by decide) (by decide) ?_
    rintro _ T72 L72 X72 ⟨b72, k72, rfl, N72q, K72q, G72q, S72q, V72q⟩
    have N_73 := Fr.app N_69 N72q
    have f_74 := f_70.keep K72q
    have f_75 := F68_rows.keep K72q nin0
    have f_76 := F68_strength.keep K72q nin0
    have f_77 := F68_columns.keep K72q nin0
    have f_78 := F68_levels.keep K72q nin0
    have Z_79 := Nat.le_trans Z_71 K72q.1
    show own_Go X72 (Q0 Z p0 p1 q2 p3 h0 n0) 2 8 150 #[.val (.int p0), .val (.int p1), .val (.long q2), .second, .val (.int p3), .val (.int (3 : Int32)), .val (.int (1290 : Int32)), .val (.int gg), .val (.long cc), .second, .val (.int tp), .val (.int cl), .val (.ref b65), .unset, .unset, .unset] [(.ref b72)]
    refine own_st (fun _ k => XS.astore X72.here hx rfl (hb hby at_150) rfl rfl (l' := #[.val (.int p0), .val (.int p1), .val (.long q2), .second, .val (.int p3), .val (.int (3 : Int32)), .val (.int (1290 : Int32)), .val (.int gg), .val (.long cc), .second, .val (.int tp), .val (.int cl), .val (.ref b65), .val (.ref b72), .unset, .unset]) rfl k) ?_
    show own_Go X72 (Q0 Z p0 p1 q2 p3 h0 n0) 2 8 152 #[.val (.int p0), .val (.int p1), .val (.long q2), .second, .val (.int p3), .val (.int (3 : Int32)), .val (.int (1290 : Int32)), .val (.int gg), .val (.long cc), .second, .val (.int tp), .val (.int cl), .val (.ref b65), .val (.ref b72), .unset, .unset] []
    refine own_st (fun _ k => XS.aload X72.here hx rfl (hb hby at_152) rfl rfl k) ?_
    show own_Go X72 (Q0 Z p0 p1 q2 p3 h0 n0) 2 8 154 #[.val (.int p0), .val (.int p1), .val (.long q2), .second, .val (.int p3), .val (.int (3 : Int32)), .val (.int (1290 : Int32)), .val (.int gg), .val (.long cc), .second, .val (.int tp), .val (.int cl), .val (.ref b65), .val (.ref b72), .unset, .unset] [(.ref b72)]
    refine own_st (fun _ k => own_len X72 hx hZ (Eq.refl T72.heap) V72q (g := (mkF m 154 #[.val (.int p0), .val (.int p1), .val (.long q2), .second, .val (.int p3), .val (.int (3 : Int32)), .val (.int (1290 : Int32)), .val (.int gg), .val (.long cc), .second, .val (.int tp), .val (.int cl), .val (.ref b65), .val (.ref b72), .unset, .unset] [(.ref b72)])) rfl rfl (hb hby at_154) _ k) ?_
    show own_Go X72 (Q0 Z p0 p1 q2 p3 h0 n0) 2 8 155 #[.val (.int p0), .val (.int p1), .val (.long q2), .second, .val (.int p3), .val (.int (3 : Int32)), .val (.int (1290 : Int32)), .val (.int gg), .val (.long cc), .second, .val (.int tp), .val (.int cl), .val (.ref b65), .val (.ref b72), .unset, .unset] [(.int (3 : Int32))]
    refine own_st (fun _ k => XS.iload X72.here hx rfl (hb hby at_155) rfl k) ?_
    show own_Go X72 (Q0 Z p0 p1 q2 p3 h0 n0) 2 8 157 #[.val (.int p0), .val (.int p1), .val (.long q2), .second, .val (.int p3), .val (.int (3 : Int32)), .val (.int (1290 : Int32)), .val (.int gg), .val (.long cc), .second, .val (.int tp), .val (.int cl), .val (.ref b65), .val (.ref b72), .unset, .unset] [(.int (3 : Int32)), (.int (3 : Int32))]
    have c157_80 : (3 : Int32) = (3 : Int32) := (by decide)
    refine own_st (fun _ k => XS.icmpYes X72.here hx rfl (pc0 := 157) (pc' := 162) rfl (hb hby at_157) rfl (teq c157_80).1 (by decide) (by decide) k) ?_
    show own_Go X72 (Q0 Z p0 p1 q2 p3 h0 n0) 2 8 162 #[.val (.int p0), .val (.int p1), .val (.long q2), .second, .val (.int p3), .val (.int (3 : Int32)), .val (.int (1290 : Int32)), .val (.int gg), .val (.long cc), .second, .val (.int tp), .val (.int cl), .val (.ref b65), .val (.ref b72), .unset, .unset] []
    refine own_st (fun _ k => XS.aload X72.here hx rfl (hb hby at_162) rfl rfl k) ?_
    show own_Go X72 (Q0 Z p0 p1 q2 p3 h0 n0) 2 8 164 #[.val (.int p0), .val (.int p1), .val (.long q2), .second, .val (.int p3), .val (.int (3 : Int32)), .val (.int (1290 : Int32)), .val (.int gg), .val (.long cc), .second, .val (.int tp), .val (.int cl), .val (.ref b65), .val (.ref b72), .unset, .unset] [(.ref b72)]
    refine own_st (fun _ k => XS.iconst X72.here hx rfl (hb hby at_164) k) ?_
    show own_Go X72 (Q0 Z p0 p1 q2 p3 h0 n0) 2 8 165 #[.val (.int p0), .val (.int p1), .val (.long q2), .second, .val (.int p3), .val (.int (3 : Int32)), .val (.int (1290 : Int32)), .val (.int gg), .val (.long cc), .second, .val (.int tp), .val (.int cl), .val (.ref b65), .val (.ref b72), .unset, .unset] [(.int (0 : Int32)), (.ref b72)]
    refine own_st (fun _ k => own_ldI X72 hx hZ (Eq.refl T72.heap) V72q (j := (0 : Int32)) ⟨by decide, by decide⟩ (v := (.int (((tp / gg) / gg) % gg))) rfl (g := (mkF m 165 #[.val (.int p0), .val (.int p1), .val (.long q2), .second, .val (.int p3), .val (.int (3 : Int32)), .val (.int (1290 : Int32)), .val (.int gg), .val (.long cc), .second, .val (.int tp), .val (.int cl), .val (.ref b65), .val (.ref b72), .unset, .unset] [(.int (0 : Int32)), (.ref b72)])) rfl rfl (hb hby at_165) _ k) ?_
    show own_Go X72 (Q0 Z p0 p1 q2 p3 h0 n0) 2 8 166 #[.val (.int p0), .val (.int p1), .val (.long q2), .second, .val (.int p3), .val (.int (3 : Int32)), .val (.int (1290 : Int32)), .val (.int gg), .val (.long cc), .second, .val (.int tp), .val (.int cl), .val (.ref b65), .val (.ref b72), .unset, .unset] [(.int (((tp / gg) / gg) % gg))]
    refine own_st (fun _ k => XS.iload X72.here hx rfl (hb hby at_166) rfl k) ?_
    show own_Go X72 (Q0 Z p0 p1 q2 p3 h0 n0) 2 8 168 #[.val (.int p0), .val (.int p1), .val (.long q2), .second, .val (.int p3), .val (.int (3 : Int32)), .val (.int (1290 : Int32)), .val (.int gg), .val (.long cc), .second, .val (.int tp), .val (.int cl), .val (.ref b65), .val (.ref b72), .unset, .unset] [(.int gg), (.int (((tp / gg) / gg) % gg))]
    refine own_callS (W := 0) X72 hx hZ hown (hw _ (List.mem_of_getElem? (i := 35) rfl)) (hw _ (List.mem_of_getElem? (i := 36) rfl)) (hw _ (List.mem_of_getElem? (i := 37) rfl)) (hw _ (List.mem_of_getElem? (i := 38) rfl)) (by decide) (rm6 l Z a0 hw [] (((tp / gg) / gg) % gg) gg  T72.heap n0 Z_79 ) (by decide) (by decide) (by rw [hml]; rfl) [(.int (((tp / gg) / gg) % gg)), (.int gg)] [] (lenOf pd_0_2 rfl) rfl rfl (Nat.le_of_ble_eq_true rfl) (hb hby at_168) (Eq.refl T72.heap) (by decide) (by decide) ?_
    rintro _ T81 L81 X81 ⟨rfl, N81q, e81⟩
    have N_82 := Fr.app N_73 N81q
    show own_Go X81 (Q0 Z p0 p1 q2 p3 h0 n0) 2 8 171 #[.val (.int p0), .val (.int p1), .val (.long q2), .second, .val (.int p3), .val (.int (3 : Int32)), .val (.int (1290 : Int32)), .val (.int gg), .val (.long cc), .second, .val (.int tp), .val (.int cl), .val (.ref b65), .val (.ref b72), .unset, .unset] [(.int (own_ir (((tp / gg) / gg) % gg) gg))]
    have c171_83 : ¬ ((own_ir (((tp / gg) / gg) % gg) gg) = (0 : Int32)) := own_ir1 k2 hG.1
    refine own_st (fun _ k => XS.ifYes X81.here hx rfl (pc0 := 171) (pc' := 176) rfl (hb hby at_171) rfl ((if0 _ _).trans (feq c171_83).2) (by decide) (by decide) k) ?_
    show own_Go X81 (Q0 Z p0 p1 q2 p3 h0 n0) 2 8 176 #[.val (.int p0), .val (.int p1), .val (.long q2), .second, .val (.int p3), .val (.int (3 : Int32)), .val (.int (1290 : Int32)), .val (.int gg), .val (.long cc), .second, .val (.int tp), .val (.int cl), .val (.ref b65), .val (.ref b72), .unset, .unset] []
    refine own_st (fun _ k => XS.aload X81.here hx rfl (hb hby at_176) rfl rfl k) ?_
    show own_Go X81 (Q0 Z p0 p1 q2 p3 h0 n0) 2 8 178 #[.val (.int p0), .val (.int p1), .val (.long q2), .second, .val (.int p3), .val (.int (3 : Int32)), .val (.int (1290 : Int32)), .val (.int gg), .val (.long cc), .second, .val (.int tp), .val (.int cl), .val (.ref b65), .val (.ref b72), .unset, .unset] [(.ref b72)]
    refine own_st (fun _ k => XS.iconst X81.here hx rfl (hb hby at_178) k) ?_
    show own_Go X81 (Q0 Z p0 p1 q2 p3 h0 n0) 2 8 179 #[.val (.int p0), .val (.int p1), .val (.long q2), .second, .val (.int p3), .val (.int (3 : Int32)), .val (.int (1290 : Int32)), .val (.int gg), .val (.long cc), .second, .val (.int tp), .val (.int cl), .val (.ref b65), .val (.ref b72), .unset, .unset] [(.int (0 : Int32)), (.ref b72)]
    refine own_st (fun _ k => own_ldI X81 hx hZ e81 V72q (j := (0 : Int32)) ⟨by decide, by decide⟩ (v := (.int (((tp / gg) / gg) % gg))) rfl (g := (mkF m 179 #[.val (.int p0), .val (.int p1), .val (.long q2), .second, .val (.int p3), .val (.int (3 : Int32)), .val (.int (1290 : Int32)), .val (.int gg), .val (.long cc), .second, .val (.int tp), .val (.int cl), .val (.ref b65), .val (.ref b72), .unset, .unset] [(.int (0 : Int32)), (.ref b72)])) rfl rfl (hb hby at_179) _ k) ?_
    show own_Go X81 (Q0 Z p0 p1 q2 p3 h0 n0) 2 8 180 #[.val (.int p0), .val (.int p1), .val (.long q2), .second, .val (.int p3), .val (.int (3 : Int32)), .val (.int (1290 : Int32)), .val (.int gg), .val (.long cc), .second, .val (.int tp), .val (.int cl), .val (.ref b65), .val (.ref b72), .unset, .unset] [(.int (((tp / gg) / gg) % gg))]
    refine own_st (fun _ k => XS.i2l X81.here hx rfl (hb hby at_180) rfl k) ?_
    show own_Go X81 (Q0 Z p0 p1 q2 p3 h0 n0) 2 8 181 #[.val (.int p0), .val (.int p1), .val (.long q2), .second, .val (.int p3), .val (.int (3 : Int32)), .val (.int (1290 : Int32)), .val (.int gg), .val (.long cc), .second, .val (.int tp), .val (.int cl), .val (.ref b65), .val (.ref b72), .unset, .unset] [(.long ((((tp / gg) / gg) % gg).toInt64))]
    refine own_st (fun _ k => XS.lstore X81.here hx rfl (hb hby at_181) rfl (l' := #[.val (.int p0), .val (.int p1), .val (.long q2), .second, .val (.int p3), .val (.int (3 : Int32)), .val (.int (1290 : Int32)), .val (.int gg), .val (.long cc), .second, .val (.int tp), .val (.int cl), .val (.ref b65), .val (.ref b72), .val (.long ((((tp / gg) / gg) % gg).toInt64)), .second]) rfl k) ?_
    show own_Go X81 (Q0 Z p0 p1 q2 p3 h0 n0) 2 8 183 #[.val (.int p0), .val (.int p1), .val (.long q2), .second, .val (.int p3), .val (.int (3 : Int32)), .val (.int (1290 : Int32)), .val (.int gg), .val (.long cc), .second, .val (.int tp), .val (.int cl), .val (.ref b65), .val (.ref b72), .val (.long ((((tp / gg) / gg) % gg).toInt64)), .second] []
    refine own_st (fun _ k => XS.iload X81.here hx rfl (hb hby at_183) rfl k) ?_
    show own_Go X81 (Q0 Z p0 p1 q2 p3 h0 n0) 2 8 185 #[.val (.int p0), .val (.int p1), .val (.long q2), .second, .val (.int p3), .val (.int (3 : Int32)), .val (.int (1290 : Int32)), .val (.int gg), .val (.long cc), .second, .val (.int tp), .val (.int cl), .val (.ref b65), .val (.ref b72), .val (.long ((((tp / gg) / gg) % gg).toInt64)), .second] [(.int (3 : Int32))]
    refine own_st (fun _ k => XS.iconst X81.here hx rfl (hb hby at_185) k) ?_
    show own_Go X81 (Q0 Z p0 p1 q2 p3 h0 n0) 2 8 186 #[.val (.int p0), .val (.int p1), .val (.long q2), .second, .val (.int p3), .val (.int (3 : Int32)), .val (.int (1290 : Int32)), .val (.int gg), .val (.long cc), .second, .val (.int tp), .val (.int cl), .val (.ref b65), .val (.ref b72), .val (.long ((((tp / gg) / gg) % gg).toInt64)), .second] [(.int (2 : Int32)), (.int (3 : Int32))]
    have c186_84 : ¬ ((3 : Int32) < (2 : Int32)) := (by decide)
    refine own_st (fun _ k => XS.icmpNo X81.here hx rfl (hb hby at_186) rfl (flt c186_84).1 k) ?_
    show own_Go X81 (Q0 Z p0 p1 q2 p3 h0 n0) 2 8 189 #[.val (.int p0), .val (.int p1), .val (.long q2), .second, .val (.int p3), .val (.int (3 : Int32)), .val (.int (1290 : Int32)), .val (.int gg), .val (.long cc), .second, .val (.int tp), .val (.int cl), .val (.ref b65), .val (.ref b72), .val (.long ((((tp / gg) / gg) % gg).toInt64)), .second] []
    refine own_st (fun _ k => XS.aload X81.here hx rfl (hb hby at_189) rfl rfl k) ?_
    show own_Go X81 (Q0 Z p0 p1 q2 p3 h0 n0) 2 8 191 #[.val (.int p0), .val (.int p1), .val (.long q2), .second, .val (.int p3), .val (.int (3 : Int32)), .val (.int (1290 : Int32)), .val (.int gg), .val (.long cc), .second, .val (.int tp), .val (.int cl), .val (.ref b65), .val (.ref b72), .val (.long ((((tp / gg) / gg) % gg).toInt64)), .second] [(.ref b72)]
    refine own_st (fun _ k => XS.iconst X81.here hx rfl (hb hby at_191) k) ?_
    show own_Go X81 (Q0 Z p0 p1 q2 p3 h0 n0) 2 8 192 #[.val (.int p0), .val (.int p1), .val (.long q2), .second, .val (.int p3), .val (.int (3 : Int32)), .val (.int (1290 : Int32)), .val (.int gg), .val (.long cc), .second, .val (.int tp), .val (.int cl), .val (.ref b65), .val (.ref b72), .val (.long ((((tp / gg) / gg) % gg).toInt64)), .second] [(.int (1 : Int32)), (.ref b72)]
    refine own_st (fun _ k => own_ldI X81 hx hZ e81 V72q (j := (1 : Int32)) ⟨by decide, by decide⟩ (v := (.int ((tp / gg) % gg))) rfl (g := (mkF m 192 #[.val (.int p0), .val (.int p1), .val (.long q2), .second, .val (.int p3), .val (.int (3 : Int32)), .val (.int (1290 : Int32)), .val (.int gg), .val (.long cc), .second, .val (.int tp), .val (.int cl), .val (.ref b65), .val (.ref b72), .val (.long ((((tp / gg) / gg) % gg).toInt64)), .second] [(.int (1 : Int32)), (.ref b72)])) rfl rfl (hb hby at_192) _ k) ?_
    show own_Go X81 (Q0 Z p0 p1 q2 p3 h0 n0) 2 8 193 #[.val (.int p0), .val (.int p1), .val (.long q2), .second, .val (.int p3), .val (.int (3 : Int32)), .val (.int (1290 : Int32)), .val (.int gg), .val (.long cc), .second, .val (.int tp), .val (.int cl), .val (.ref b65), .val (.ref b72), .val (.long ((((tp / gg) / gg) % gg).toInt64)), .second] [(.int ((tp / gg) % gg))]
    refine own_st (fun _ k => XS.iload X81.here hx rfl (hb hby at_193) rfl k) ?_
    show own_Go X81 (Q0 Z p0 p1 q2 p3 h0 n0) 2 8 195 #[.val (.int p0), .val (.int p1), .val (.long q2), .second, .val (.int p3), .val (.int (3 : Int32)), .val (.int (1290 : Int32)), .val (.int gg), .val (.long cc), .second, .val (.int tp), .val (.int cl), .val (.ref b65), .val (.ref b72), .val (.long ((((tp / gg) / gg) % gg).toInt64)), .second] [(.int gg), (.int ((tp / gg) % gg))]
    refine own_callS (W := 0) X81 hx hZ hown (hw _ (List.mem_of_getElem? (i := 35) rfl)) (hw _ (List.mem_of_getElem? (i := 36) rfl)) (hw _ (List.mem_of_getElem? (i := 37) rfl)) (hw _ (List.mem_of_getElem? (i := 38) rfl)) (by decide) (rm6 l Z a0 hw [] ((tp / gg) % gg) gg  T72.heap n0 Z_79 ) (by decide) (by decide) (by rw [hml]; rfl) [(.int ((tp / gg) % gg)), (.int gg)] [] (lenOf pd_0_2 rfl) rfl rfl (Nat.le_of_ble_eq_true rfl) (hb hby at_195) e81 (by decide) (by decide) ?_
    rintro _ T85 L85 X85 ⟨rfl, N85q, e85⟩
    have N_86 := Fr.app N_82 N85q
    show own_Go X85 (Q0 Z p0 p1 q2 p3 h0 n0) 2 8 198 #[.val (.int p0), .val (.int p1), .val (.long q2), .second, .val (.int p3), .val (.int (3 : Int32)), .val (.int (1290 : Int32)), .val (.int gg), .val (.long cc), .second, .val (.int tp), .val (.int cl), .val (.ref b65), .val (.ref b72), .val (.long ((((tp / gg) / gg) % gg).toInt64)), .second] [(.int (own_ir ((tp / gg) % gg) gg))]
    have c198_87 : ¬ ((own_ir ((tp / gg) % gg) gg) = (0 : Int32)) := own_ir1 k1 hG.1
    refine own_st (fun _ k => XS.ifYes X85.here hx rfl (pc0 := 198) (pc' := 203) rfl (hb hby at_198) rfl ((if0 _ _).trans (feq c198_87).2) (by decide) (by decide) k) ?_
    show own_Go X85 (Q0 Z p0 p1 q2 p3 h0 n0) 2 8 203 #[.val (.int p0), .val (.int p1), .val (.long q2), .second, .val (.int p3), .val (.int (3 : Int32)), .val (.int (1290 : Int32)), .val (.int gg), .val (.long cc), .second, .val (.int tp), .val (.int cl), .val (.ref b65), .val (.ref b72), .val (.long ((((tp / gg) / gg) % gg).toInt64)), .second] []
    refine own_st (fun _ k => XS.lload X85.here hx rfl (hb hby at_203) rfl k) ?_
    show own_Go X85 (Q0 Z p0 p1 q2 p3 h0 n0) 2 8 205 #[.val (.int p0), .val (.int p1), .val (.long q2), .second, .val (.int p3), .val (.int (3 : Int32)), .val (.int (1290 : Int32)), .val (.int gg), .val (.long cc), .second, .val (.int tp), .val (.int cl), .val (.ref b65), .val (.ref b72), .val (.long ((((tp / gg) / gg) % gg).toInt64)), .second] [(.long ((((tp / gg) / gg) % gg).toInt64))]
    refine own_st (fun _ k => XS.iload X85.here hx rfl (hb hby at_205) rfl k) ?_
    show own_Go X85 (Q0 Z p0 p1 q2 p3 h0 n0) 2 8 207 #[.val (.int p0), .val (.int p1), .val (.long q2), .second, .val (.int p3), .val (.int (3 : Int32)), .val (.int (1290 : Int32)), .val (.int gg), .val (.long cc), .second, .val (.int tp), .val (.int cl), .val (.ref b65), .val (.ref b72), .val (.long ((((tp / gg) / gg) % gg).toInt64)), .second] [(.int gg), (.long ((((tp / gg) / gg) % gg).toInt64))]
    refine own_st (fun _ k => XS.i2l X85.here hx rfl (hb hby at_207) rfl k) ?_
    show own_Go X85 (Q0 Z p0 p1 q2 p3 h0 n0) 2 8 208 #[.val (.int p0), .val (.int p1), .val (.long q2), .second, .val (.int p3), .val (.int (3 : Int32)), .val (.int (1290 : Int32)), .val (.int gg), .val (.long cc), .second, .val (.int tp), .val (.int cl), .val (.ref b65), .val (.ref b72), .val (.long ((((tp / gg) / gg) % gg).toInt64)), .second] [(.long (gg.toInt64)), (.long ((((tp / gg) / gg) % gg).toInt64))]
    refine own_st (fun _ k => XS.lmul X85.here hx rfl (hb hby at_208) rfl k) ?_
    show own_Go X85 (Q0 Z p0 p1 q2 p3 h0 n0) 2 8 209 #[.val (.int p0), .val (.int p1), .val (.long q2), .second, .val (.int p3), .val (.int (3 : Int32)), .val (.int (1290 : Int32)), .val (.int gg), .val (.long cc), .second, .val (.int tp), .val (.int cl), .val (.ref b65), .val (.ref b72), .val (.long ((((tp / gg) / gg) % gg).toInt64)), .second] [(.long (((((tp / gg) / gg) % gg).toInt64) * (gg.toInt64)))]
    refine own_st (fun _ k => XS.aload X85.here hx rfl (hb hby at_209) rfl rfl k) ?_
    show own_Go X85 (Q0 Z p0 p1 q2 p3 h0 n0) 2 8 211 #[.val (.int p0), .val (.int p1), .val (.long q2), .second, .val (.int p3), .val (.int (3 : Int32)), .val (.int (1290 : Int32)), .val (.int gg), .val (.long cc), .second, .val (.int tp), .val (.int cl), .val (.ref b65), .val (.ref b72), .val (.long ((((tp / gg) / gg) % gg).toInt64)), .second] [(.ref b72), (.long (((((tp / gg) / gg) % gg).toInt64) * (gg.toInt64)))]
    refine own_st (fun _ k => XS.iconst X85.here hx rfl (hb hby at_211) k) ?_
    show own_Go X85 (Q0 Z p0 p1 q2 p3 h0 n0) 2 8 212 #[.val (.int p0), .val (.int p1), .val (.long q2), .second, .val (.int p3), .val (.int (3 : Int32)), .val (.int (1290 : Int32)), .val (.int gg), .val (.long cc), .second, .val (.int tp), .val (.int cl), .val (.ref b65), .val (.ref b72), .val (.long ((((tp / gg) / gg) % gg).toInt64)), .second] [(.int (1 : Int32)), (.ref b72), (.long (((((tp / gg) / gg) % gg).toInt64) * (gg.toInt64)))]
    refine own_st (fun _ k => own_ldI X85 hx hZ e85 V72q (j := (1 : Int32)) ⟨by decide, by decide⟩ (v := (.int ((tp / gg) % gg))) rfl (g := (mkF m 212 #[.val (.int p0), .val (.int p1), .val (.long q2), .second, .val (.int p3), .val (.int (3 : Int32)), .val (.int (1290 : Int32)), .val (.int gg), .val (.long cc), .second, .val (.int tp), .val (.int cl), .val (.ref b65), .val (.ref b72), .val (.long ((((tp / gg) / gg) % gg).toInt64)), .second] [(.int (1 : Int32)), (.ref b72), (.long (((((tp / gg) / gg) % gg).toInt64) * (gg.toInt64)))])) rfl rfl (hb hby at_212) _ k) ?_
    show own_Go X85 (Q0 Z p0 p1 q2 p3 h0 n0) 2 8 213 #[.val (.int p0), .val (.int p1), .val (.long q2), .second, .val (.int p3), .val (.int (3 : Int32)), .val (.int (1290 : Int32)), .val (.int gg), .val (.long cc), .second, .val (.int tp), .val (.int cl), .val (.ref b65), .val (.ref b72), .val (.long ((((tp / gg) / gg) % gg).toInt64)), .second] [(.int ((tp / gg) % gg)), (.long (((((tp / gg) / gg) % gg).toInt64) * (gg.toInt64)))]
    refine own_st (fun _ k => XS.i2l X85.here hx rfl (hb hby at_213) rfl k) ?_
    show own_Go X85 (Q0 Z p0 p1 q2 p3 h0 n0) 2 8 214 #[.val (.int p0), .val (.int p1), .val (.long q2), .second, .val (.int p3), .val (.int (3 : Int32)), .val (.int (1290 : Int32)), .val (.int gg), .val (.long cc), .second, .val (.int tp), .val (.int cl), .val (.ref b65), .val (.ref b72), .val (.long ((((tp / gg) / gg) % gg).toInt64)), .second] [(.long (((tp / gg) % gg).toInt64)), (.long (((((tp / gg) / gg) % gg).toInt64) * (gg.toInt64)))]
    refine own_st (fun _ k => XS.ladd X85.here hx rfl (hb hby at_214) rfl k) ?_
    show own_Go X85 (Q0 Z p0 p1 q2 p3 h0 n0) 2 8 215 #[.val (.int p0), .val (.int p1), .val (.long q2), .second, .val (.int p3), .val (.int (3 : Int32)), .val (.int (1290 : Int32)), .val (.int gg), .val (.long cc), .second, .val (.int tp), .val (.int cl), .val (.ref b65), .val (.ref b72), .val (.long ((((tp / gg) / gg) % gg).toInt64)), .second] [(.long ((((((tp / gg) / gg) % gg).toInt64) * (gg.toInt64)) + (((tp / gg) % gg).toInt64)))]
    refine own_st (fun _ k => XS.lstore X85.here hx rfl (hb hby at_215) rfl (l' := #[.val (.int p0), .val (.int p1), .val (.long q2), .second, .val (.int p3), .val (.int (3 : Int32)), .val (.int (1290 : Int32)), .val (.int gg), .val (.long cc), .second, .val (.int tp), .val (.int cl), .val (.ref b65), .val (.ref b72), .val (.long ((((((tp / gg) / gg) % gg).toInt64) * (gg.toInt64)) + (((tp / gg) % gg).toInt64))), .second]) rfl k) ?_
    show own_Go X85 (Q0 Z p0 p1 q2 p3 h0 n0) 2 8 217 #[.val (.int p0), .val (.int p1), .val (.long q2), .second, .val (.int p3), .val (.int (3 : Int32)), .val (.int (1290 : Int32)), .val (.int gg), .val (.long cc), .second, .val (.int tp), .val (.int cl), .val (.ref b65), .val (.ref b72), .val (.long ((((((tp / gg) / gg) % gg).toInt64) * (gg.toInt64)) + (((tp / gg) % gg).toInt64))), .second] []
    refine own_st (fun _ k => XS.iload X85.here hx rfl (hb hby at_217) rfl k) ?_
    show own_Go X85 (Q0 Z p0 p1 q2 p3 h0 n0) 2 8 219 #[.val (.int p0), .val (.int p1), .val (.long q2), .second, .val (.int p3), .val (.int (3 : Int32)), .val (.int (1290 : Int32)), .val (.int gg), .val (.long cc), .second, .val (.int tp), .val (.int cl), .val (.ref b65), .val (.ref b72), .val (.long ((((((tp / gg) / gg) % gg).toInt64) * (gg.toInt64)) + (((tp / gg) % gg).toInt64))), .second] [(.int (3 : Int32))]
    refine own_st (fun _ k => XS.iconst X85.here hx rfl (hb hby at_219) k) ?_
    show own_Go X85 (Q0 Z p0 p1 q2 p3 h0 n0) 2 8 220 #[.val (.int p0), .val (.int p1), .val (.long q2), .second, .val (.int p3), .val (.int (3 : Int32)), .val (.int (1290 : Int32)), .val (.int gg), .val (.long cc), .second, .val (.int tp), .val (.int cl), .val (.ref b65), .val (.ref b72), .val (.long ((((((tp / gg) / gg) % gg).toInt64) * (gg.toInt64)) + (((tp / gg) % gg).toInt64))), .second] [(.int (3 : Int32)), (.int (3 : Int32))]
    have c220_88 : ¬ ((3 : Int32) < (3 : Int32)) := (by decide)
    refine own_st (fun _ k => XS.icmpNo X85.here hx rfl (hb hby at_220) rfl (flt c220_88).1 k) ?_
    show own_Go X85 (Q0 Z p0 p1 q2 p3 h0 n0) 2 8 223 #[.val (.int p0), .val (.int p1), .val (.long q2), .second, .val (.int p3), .val (.int (3 : Int32)), .val (.int (1290 : Int32)), .val (.int gg), .val (.long cc), .second, .val (.int tp), .val (.int cl), .val (.ref b65), .val (.ref b72), .val (.long ((((((tp / gg) / gg) % gg).toInt64) * (gg.toInt64)) + (((tp / gg) % gg).toInt64))), .second] []
    refine own_st (fun _ k => XS.aload X85.here hx rfl (hb hby at_223) rfl rfl k) ?_
    show own_Go X85 (Q0 Z p0 p1 q2 p3 h0 n0) 2 8 225 #[.val (.int p0), .val (.int p1), .val (.long q2), .second, .val (.int p3), .val (.int (3 : Int32)), .val (.int (1290 : Int32)), .val (.int gg), .val (.long cc), .second, .val (.int tp), .val (.int cl), .val (.ref b65), .val (.ref b72), .val (.long ((((((tp / gg) / gg) % gg).toInt64) * (gg.toInt64)) + (((tp / gg) % gg).toInt64))), .second] [(.ref b72)]
    refine own_st (fun _ k => XS.iconst X85.here hx rfl (hb hby at_225) k) ?_
    show own_Go X85 (Q0 Z p0 p1 q2 p3 h0 n0) 2 8 226 #[.val (.int p0), .val (.int p1), .val (.long q2), .second, .val (.int p3), .val (.int (3 : Int32)), .val (.int (1290 : Int32)), .val (.int gg), .val (.long cc), .second, .val (.int tp), .val (.int cl), .val (.ref b65), .val (.ref b72), .val (.long ((((((tp / gg) / gg) % gg).toInt64) * (gg.toInt64)) + (((tp / gg) % gg).toInt64))), .second] [(.int (2 : Int32)), (.ref b72)]
    refine own_st (fun _ k => own_ldI X85 hx hZ e85 V72q (j := (2 : Int32)) ⟨by decide, by decide⟩ (v := (.int (tp % gg))) rfl (g := (mkF m 226 #[.val (.int p0), .val (.int p1), .val (.long q2), .second, .val (.int p3), .val (.int (3 : Int32)), .val (.int (1290 : Int32)), .val (.int gg), .val (.long cc), .second, .val (.int tp), .val (.int cl), .val (.ref b65), .val (.ref b72), .val (.long ((((((tp / gg) / gg) % gg).toInt64) * (gg.toInt64)) + (((tp / gg) % gg).toInt64))), .second] [(.int (2 : Int32)), (.ref b72)])) rfl rfl (hb hby at_226) _ k) ?_
    show own_Go X85 (Q0 Z p0 p1 q2 p3 h0 n0) 2 8 227 #[.val (.int p0), .val (.int p1), .val (.long q2), .second, .val (.int p3), .val (.int (3 : Int32)), .val (.int (1290 : Int32)), .val (.int gg), .val (.long cc), .second, .val (.int tp), .val (.int cl), .val (.ref b65), .val (.ref b72), .val (.long ((((((tp / gg) / gg) % gg).toInt64) * (gg.toInt64)) + (((tp / gg) % gg).toInt64))), .second] [(.int (tp % gg))]
    refine own_st (fun _ k => XS.iload X85.here hx rfl (hb hby at_227) rfl k) ?_
    show own_Go X85 (Q0 Z p0 p1 q2 p3 h0 n0) 2 8 229 #[.val (.int p0), .val (.int p1), .val (.long q2), .second, .val (.int p3), .val (.int (3 : Int32)), .val (.int (1290 : Int32)), .val (.int gg), .val (.long cc), .second, .val (.int tp), .val (.int cl), .val (.ref b65), .val (.ref b72), .val (.long ((((((tp / gg) / gg) % gg).toInt64) * (gg.toInt64)) + (((tp / gg) % gg).toInt64))), .second] [(.int gg), (.int (tp % gg))]
    refine own_callS (W := 0) X85 hx hZ hown (hw _ (List.mem_of_getElem? (i := 35) rfl)) (hw _ (List.mem_of_getElem? (i := 36) rfl)) (hw _ (List.mem_of_getElem? (i := 37) rfl)) (hw _ (List.mem_of_getElem? (i := 38) rfl)) (by decide) (rm6 l Z a0 hw [] (tp % gg) gg  T72.heap n0 Z_79 ) (by decide) (by decide) (by rw [hml]; rfl) [(.int (tp % gg)), (.int gg)] [] (lenOf pd_0_2 rfl) rfl rfl (Nat.le_of_ble_eq_true rfl) (hb hby at_229) e85 (by decide) (by decide) ?_
    rintro _ T89 L89 X89 ⟨rfl, N89q, e89⟩
    have N_90 := Fr.app N_86 N89q
    show own_Go X89 (Q0 Z p0 p1 q2 p3 h0 n0) 2 8 232 #[.val (.int p0), .val (.int p1), .val (.long q2), .second, .val (.int p3), .val (.int (3 : Int32)), .val (.int (1290 : Int32)), .val (.int gg), .val (.long cc), .second, .val (.int tp), .val (.int cl), .val (.ref b65), .val (.ref b72), .val (.long ((((((tp / gg) / gg) % gg).toInt64) * (gg.toInt64)) + (((tp / gg) % gg).toInt64))), .second] [(.int (own_ir (tp % gg) gg))]
    have c232_91 : ¬ ((own_ir (tp % gg) gg) = (0 : Int32)) := own_ir1 k0 hG.1
    refine own_st (fun _ k => XS.ifYes X89.here hx rfl (pc0 := 232) (pc' := 237) rfl (hb hby at_232) rfl ((if0 _ _).trans (feq c232_91).2) (by decide) (by decide) k) ?_
    show own_Go X89 (Q0 Z p0 p1 q2 p3 h0 n0) 2 8 237 #[.val (.int p0), .val (.int p1), .val (.long q2), .second, .val (.int p3), .val (.int (3 : Int32)), .val (.int (1290 : Int32)), .val (.int gg), .val (.long cc), .second, .val (.int tp), .val (.int cl), .val (.ref b65), .val (.ref b72), .val (.long ((((((tp / gg) / gg) % gg).toInt64) * (gg.toInt64)) + (((tp / gg) % gg).toInt64))), .second] []
    refine own_st (fun _ k => XS.lload X89.here hx rfl (hb hby at_237) rfl k) ?_
    show own_Go X89 (Q0 Z p0 p1 q2 p3 h0 n0) 2 8 239 #[.val (.int p0), .val (.int p1), .val (.long q2), .second, .val (.int p3), .val (.int (3 : Int32)), .val (.int (1290 : Int32)), .val (.int gg), .val (.long cc), .second, .val (.int tp), .val (.int cl), .val (.ref b65), .val (.ref b72), .val (.long ((((((tp / gg) / gg) % gg).toInt64) * (gg.toInt64)) + (((tp / gg) % gg).toInt64))), .second] [(.long ((((((tp / gg) / gg) % gg).toInt64) * (gg.toInt64)) + (((tp / gg) % gg).toInt64)))]
    refine own_st (fun _ k => XS.iload X89.here hx rfl (hb hby at_239) rfl k) ?_
    show own_Go X89 (Q0 Z p0 p1 q2 p3 h0 n0) 2 8 241 #[.val (.int p0), .val (.int p1), .val (.long q2), .second, .val (.int p3), .val (.int (3 : Int32)), .val (.int (1290 : Int32)), .val (.int gg), .val (.long cc), .second, .val (.int tp), .val (.int cl), .val (.ref b65), .val (.ref b72), .val (.long ((((((tp / gg) / gg) % gg).toInt64) * (gg.toInt64)) + (((tp / gg) % gg).toInt64))), .second] [(.int gg), (.long ((((((tp / gg) / gg) % gg).toInt64) * (gg.toInt64)) + (((tp / gg) % gg).toInt64)))]
    refine own_st (fun _ k => XS.i2l X89.here hx rfl (hb hby at_241) rfl k) ?_
    show own_Go X89 (Q0 Z p0 p1 q2 p3 h0 n0) 2 8 242 #[.val (.int p0), .val (.int p1), .val (.long q2), .second, .val (.int p3), .val (.int (3 : Int32)), .val (.int (1290 : Int32)), .val (.int gg), .val (.long cc), .second, .val (.int tp), .val (.int cl), .val (.ref b65), .val (.ref b72), .val (.long ((((((tp / gg) / gg) % gg).toInt64) * (gg.toInt64)) + (((tp / gg) % gg).toInt64))), .second] [(.long (gg.toInt64)), (.long ((((((tp / gg) / gg) % gg).toInt64) * (gg.toInt64)) + (((tp / gg) % gg).toInt64)))]
    refine own_st (fun _ k => XS.lmul X89.here hx rfl (hb hby at_242) rfl k) ?_
    show own_Go X89 (Q0 Z p0 p1 q2 p3 h0 n0) 2 8 243 #[.val (.int p0), .val (.int p1), .val (.long q2), .second, .val (.int p3), .val (.int (3 : Int32)), .val (.int (1290 : Int32)), .val (.int gg), .val (.long cc), .second, .val (.int tp), .val (.int cl), .val (.ref b65), .val (.ref b72), .val (.long ((((((tp / gg) / gg) % gg).toInt64) * (gg.toInt64)) + (((tp / gg) % gg).toInt64))), .second] [(.long (((((((tp / gg) / gg) % gg).toInt64) * (gg.toInt64)) + (((tp / gg) % gg).toInt64)) * (gg.toInt64)))]
    refine own_st (fun _ k => XS.aload X89.here hx rfl (hb hby at_243) rfl rfl k) ?_
    show own_Go X89 (Q0 Z p0 p1 q2 p3 h0 n0) 2 8 245 #[.val (.int p0), .val (.int p1), .val (.long q2), .second, .val (.int p3), .val (.int (3 : Int32)), .val (.int (1290 : Int32)), .val (.int gg), .val (.long cc), .second, .val (.int tp), .val (.int cl), .val (.ref b65), .val (.ref b72), .val (.long ((((((tp / gg) / gg) % gg).toInt64) * (gg.toInt64)) + (((tp / gg) % gg).toInt64))), .second] [(.ref b72), (.long (((((((tp / gg) / gg) % gg).toInt64) * (gg.toInt64)) + (((tp / gg) % gg).toInt64)) * (gg.toInt64)))]
    refine own_st (fun _ k => XS.iconst X89.here hx rfl (hb hby at_245) k) ?_
    show own_Go X89 (Q0 Z p0 p1 q2 p3 h0 n0) 2 8 246 #[.val (.int p0), .val (.int p1), .val (.long q2), .second, .val (.int p3), .val (.int (3 : Int32)), .val (.int (1290 : Int32)), .val (.int gg), .val (.long cc), .second, .val (.int tp), .val (.int cl), .val (.ref b65), .val (.ref b72), .val (.long ((((((tp / gg) / gg) % gg).toInt64) * (gg.toInt64)) + (((tp / gg) % gg).toInt64))), .second] [(.int (2 : Int32)), (.ref b72), (.long (((((((tp / gg) / gg) % gg).toInt64) * (gg.toInt64)) + (((tp / gg) % gg).toInt64)) * (gg.toInt64)))]
    refine own_st (fun _ k => own_ldI X89 hx hZ e89 V72q (j := (2 : Int32)) ⟨by decide, by decide⟩ (v := (.int (tp % gg))) rfl (g := (mkF m 246 #[.val (.int p0), .val (.int p1), .val (.long q2), .second, .val (.int p3), .val (.int (3 : Int32)), .val (.int (1290 : Int32)), .val (.int gg), .val (.long cc), .second, .val (.int tp), .val (.int cl), .val (.ref b65), .val (.ref b72), .val (.long ((((((tp / gg) / gg) % gg).toInt64) * (gg.toInt64)) + (((tp / gg) % gg).toInt64))), .second] [(.int (2 : Int32)), (.ref b72), (.long (((((((tp / gg) / gg) % gg).toInt64) * (gg.toInt64)) + (((tp / gg) % gg).toInt64)) * (gg.toInt64)))])) rfl rfl (hb hby at_246) _ k) ?_
    show own_Go X89 (Q0 Z p0 p1 q2 p3 h0 n0) 2 8 247 #[.val (.int p0), .val (.int p1), .val (.long q2), .second, .val (.int p3), .val (.int (3 : Int32)), .val (.int (1290 : Int32)), .val (.int gg), .val (.long cc), .second, .val (.int tp), .val (.int cl), .val (.ref b65), .val (.ref b72), .val (.long ((((((tp / gg) / gg) % gg).toInt64) * (gg.toInt64)) + (((tp / gg) % gg).toInt64))), .second] [(.int (tp % gg)), (.long (((((((tp / gg) / gg) % gg).toInt64) * (gg.toInt64)) + (((tp / gg) % gg).toInt64)) * (gg.toInt64)))]
    refine own_st (fun _ k => XS.i2l X89.here hx rfl (hb hby at_247) rfl k) ?_
    show own_Go X89 (Q0 Z p0 p1 q2 p3 h0 n0) 2 8 248 #[.val (.int p0), .val (.int p1), .val (.long q2), .second, .val (.int p3), .val (.int (3 : Int32)), .val (.int (1290 : Int32)), .val (.int gg), .val (.long cc), .second, .val (.int tp), .val (.int cl), .val (.ref b65), .val (.ref b72), .val (.long ((((((tp / gg) / gg) % gg).toInt64) * (gg.toInt64)) + (((tp / gg) % gg).toInt64))), .second] [(.long ((tp % gg).toInt64)), (.long (((((((tp / gg) / gg) % gg).toInt64) * (gg.toInt64)) + (((tp / gg) % gg).toInt64)) * (gg.toInt64)))]
    refine own_st (fun _ k => XS.ladd X89.here hx rfl (hb hby at_248) rfl k) ?_
    show own_Go X89 (Q0 Z p0 p1 q2 p3 h0 n0) 2 8 249 #[.val (.int p0), .val (.int p1), .val (.long q2), .second, .val (.int p3), .val (.int (3 : Int32)), .val (.int (1290 : Int32)), .val (.int gg), .val (.long cc), .second, .val (.int tp), .val (.int cl), .val (.ref b65), .val (.ref b72), .val (.long ((((((tp / gg) / gg) % gg).toInt64) * (gg.toInt64)) + (((tp / gg) % gg).toInt64))), .second] [(.long ((((((((tp / gg) / gg) % gg).toInt64) * (gg.toInt64)) + (((tp / gg) % gg).toInt64)) * (gg.toInt64)) + ((tp % gg).toInt64)))]
    refine own_st (fun _ k => XS.lstore X89.here hx rfl (hb hby at_249) rfl (l' := #[.val (.int p0), .val (.int p1), .val (.long q2), .second, .val (.int p3), .val (.int (3 : Int32)), .val (.int (1290 : Int32)), .val (.int gg), .val (.long cc), .second, .val (.int tp), .val (.int cl), .val (.ref b65), .val (.ref b72), .val (.long ((((((((tp / gg) / gg) % gg).toInt64) * (gg.toInt64)) + (((tp / gg) % gg).toInt64)) * (gg.toInt64)) + ((tp % gg).toInt64))), .second]) rfl k) ?_
    show own_Go X89 (Q0 Z p0 p1 q2 p3 h0 n0) 2 8 251 #[.val (.int p0), .val (.int p1), .val (.long q2), .second, .val (.int p3), .val (.int (3 : Int32)), .val (.int (1290 : Int32)), .val (.int gg), .val (.long cc), .second, .val (.int tp), .val (.int cl), .val (.ref b65), .val (.ref b72), .val (.long ((((((((tp / gg) / gg) % gg).toInt64) * (gg.toInt64)) + (((tp / gg) % gg).toInt64)) * (gg.toInt64)) + ((tp % gg).toInt64))), .second] []
    refine own_st (fun _ k => XS.iload X89.here hx rfl (hb hby at_251) rfl k) ?_
    show own_Go X89 (Q0 Z p0 p1 q2 p3 h0 n0) 2 8 253 #[.val (.int p0), .val (.int p1), .val (.long q2), .second, .val (.int p3), .val (.int (3 : Int32)), .val (.int (1290 : Int32)), .val (.int gg), .val (.long cc), .second, .val (.int tp), .val (.int cl), .val (.ref b65), .val (.ref b72), .val (.long ((((((((tp / gg) / gg) % gg).toInt64) * (gg.toInt64)) + (((tp / gg) % gg).toInt64)) * (gg.toInt64)) + ((tp % gg).toInt64))), .second] [(.int (3 : Int32))]
    refine own_st (fun _ k => XS.iconst X89.here hx rfl (hb hby at_253) k) ?_
    show own_Go X89 (Q0 Z p0 p1 q2 p3 h0 n0) 2 8 254 #[.val (.int p0), .val (.int p1), .val (.long q2), .second, .val (.int p3), .val (.int (3 : Int32)), .val (.int (1290 : Int32)), .val (.int gg), .val (.long cc), .second, .val (.int tp), .val (.int cl), .val (.ref b65), .val (.ref b72), .val (.long ((((((((tp / gg) / gg) % gg).toInt64) * (gg.toInt64)) + (((tp / gg) % gg).toInt64)) * (gg.toInt64)) + ((tp % gg).toInt64))), .second] [(.int (4 : Int32)), (.int (3 : Int32))]
    have c254_92 : (3 : Int32) < (4 : Int32) := (by decide)
    refine own_st (fun _ k => XS.icmpYes X89.here hx rfl (pc0 := 254) (pc' := 285) rfl (hb hby at_254) rfl (tlt c254_92).1 (by decide) (by decide) k) ?_
    show own_Go X89 (Q0 Z p0 p1 q2 p3 h0 n0) 2 8 285 #[.val (.int p0), .val (.int p1), .val (.long q2), .second, .val (.int p3), .val (.int (3 : Int32)), .val (.int (1290 : Int32)), .val (.int gg), .val (.long cc), .second, .val (.int tp), .val (.int cl), .val (.ref b65), .val (.ref b72), .val (.long ((((((((tp / gg) / gg) % gg).toInt64) * (gg.toInt64)) + (((tp / gg) % gg).toInt64)) * (gg.toInt64)) + ((tp % gg).toInt64))), .second] []
    refine own_st (fun _ k => XS.lload X89.here hx rfl (hb hby at_285) rfl k) ?_
    show own_Go X89 (Q0 Z p0 p1 q2 p3 h0 n0) 2 8 287 #[.val (.int p0), .val (.int p1), .val (.long q2), .second, .val (.int p3), .val (.int (3 : Int32)), .val (.int (1290 : Int32)), .val (.int gg), .val (.long cc), .second, .val (.int tp), .val (.int cl), .val (.ref b65), .val (.ref b72), .val (.long ((((((((tp / gg) / gg) % gg).toInt64) * (gg.toInt64)) + (((tp / gg) % gg).toInt64)) * (gg.toInt64)) + ((tp % gg).toInt64))), .second] [(.long ((((((((tp / gg) / gg) % gg).toInt64) * (gg.toInt64)) + (((tp / gg) % gg).toInt64)) * (gg.toInt64)) + ((tp % gg).toInt64)))]
    refine own_st (fun _ k => XS.iload X89.here hx rfl (hb hby at_287) rfl k) ?_
    show own_Go X89 (Q0 Z p0 p1 q2 p3 h0 n0) 2 8 289 #[.val (.int p0), .val (.int p1), .val (.long q2), .second, .val (.int p3), .val (.int (3 : Int32)), .val (.int (1290 : Int32)), .val (.int gg), .val (.long cc), .second, .val (.int tp), .val (.int cl), .val (.ref b65), .val (.ref b72), .val (.long ((((((((tp / gg) / gg) % gg).toInt64) * (gg.toInt64)) + (((tp / gg) % gg).toInt64)) * (gg.toInt64)) + ((tp % gg).toInt64))), .second] [(.int tp), (.long ((((((((tp / gg) / gg) % gg).toInt64) * (gg.toInt64)) + (((tp / gg) % gg).toInt64)) * (gg.toInt64)) + ((tp % gg).toInt64)))]
    refine own_st (fun _ k => XS.i2l X89.here hx rfl (hb hby at_289) rfl k) ?_
    show own_Go X89 (Q0 Z p0 p1 q2 p3 h0 n0) 2 8 290 #[.val (.int p0), .val (.int p1), .val (.long q2), .second, .val (.int p3), .val (.int (3 : Int32)), .val (.int (1290 : Int32)), .val (.int gg), .val (.long cc), .second, .val (.int tp), .val (.int cl), .val (.ref b65), .val (.ref b72), .val (.long ((((((((tp / gg) / gg) % gg).toInt64) * (gg.toInt64)) + (((tp / gg) % gg).toInt64)) * (gg.toInt64)) + ((tp % gg).toInt64))), .second] [(.long (tp.toInt64)), (.long ((((((((tp / gg) / gg) % gg).toInt64) * (gg.toInt64)) + (((tp / gg) % gg).toInt64)) * (gg.toInt64)) + ((tp % gg).toInt64)))]
    refine own_st (fun _ k => XS.lcmp X89.here hx rfl (hb hby at_290) rfl k) ?_
    show own_Go X89 (Q0 Z p0 p1 q2 p3 h0 n0) 2 8 291 #[.val (.int p0), .val (.int p1), .val (.long q2), .second, .val (.int p3), .val (.int (3 : Int32)), .val (.int (1290 : Int32)), .val (.int gg), .val (.long cc), .second, .val (.int tp), .val (.int cl), .val (.ref b65), .val (.ref b72), .val (.long ((((((((tp / gg) / gg) % gg).toInt64) * (gg.toInt64)) + (((tp / gg) % gg).toInt64)) * (gg.toInt64)) + ((tp % gg).toInt64))), .second] [(.int (lcmpW ((((((((tp / gg) / gg) % gg).toInt64) * (gg.toInt64)) + (((tp / gg) % gg).toInt64)) * (gg.toInt64)) + ((tp % gg).toInt64)) (tp.toInt64)))]
    have c291_93 : ((((((((tp / gg) / gg) % gg).toInt64) * (gg.toInt64)) + (((tp / gg) % gg).toInt64)) * (gg.toInt64)) + ((tp % gg).toInt64)) = (tp.toInt64) := Int64.toInt_inj.mp (by rw [c_i2l tp]; exact (own_hs k0 hG.1 (own_hs k1 hG.1 (own_h0 k2 l2))))
    refine own_st (fun _ k => XS.ifNo X89.here hx rfl (hb hby at_291) rfl ((if0 _ _).trans (teq ((lw_eq _ _).mpr c291_93)).2) k) ?_
    show own_Go X89 (Q0 Z p0 p1 q2 p3 h0 n0) 2 8 294 #[.val (.int p0), .val (.int p1), .val (.long q2), .second, .val (.int p3), .val (.int (3 : Int32)), .val (.int (1290 : Int32)), .val (.int gg), .val (.long cc), .second, .val (.int tp), .val (.int cl), .val (.ref b65), .val (.ref b72), .val (.long ((((((((tp / gg) / gg) % gg).toInt64) * (gg.toInt64)) + (((tp / gg) % gg).toInt64)) * (gg.toInt64)) + ((tp % gg).toInt64))), .second] []
    refine own_st (fun _ k => XS.iconst X89.here hx rfl (hb hby at_294) k) ?_
    show own_Go X89 (Q0 Z p0 p1 q2 p3 h0 n0) 2 8 295 #[.val (.int p0), .val (.int p1), .val (.long q2), .second, .val (.int p3), .val (.int (3 : Int32)), .val (.int (1290 : Int32)), .val (.int gg), .val (.long cc), .second, .val (.int tp), .val (.int cl), .val (.ref b65), .val (.ref b72), .val (.long ((((((((tp / gg) / gg) % gg).toInt64) * (gg.toInt64)) + (((tp / gg) % gg).toInt64)) * (gg.toInt64)) + ((tp % gg).toInt64))), .second] [(.int (1 : Int32))]
    refine own_st (fun _ k => XS.goto X89.here hx rfl (pc0 := 295) (pc' := 299) rfl (hb hby at_295) (by decide) (by decide) k) ?_
    show own_Go X89 (Q0 Z p0 p1 q2 p3 h0 n0) 2 8 299 #[.val (.int p0), .val (.int p1), .val (.long q2), .second, .val (.int p3), .val (.int (3 : Int32)), .val (.int (1290 : Int32)), .val (.int gg), .val (.long cc), .second, .val (.int tp), .val (.int cl), .val (.ref b65), .val (.ref b72), .val (.long ((((((((tp / gg) / gg) % gg).toInt64) * (gg.toInt64)) + (((tp / gg) % gg).toInt64)) * (gg.toInt64)) + ((tp % gg).toInt64))), .second] [(.int (1 : Int32))]
    refine own_retN X89 hx Bd.returns (by simp) hlk e89 (hb hby at_299) (by decide) (by decide) ?_
    exact ⟨rfl, N_90⟩
  · skip
    show own_Go X0 (Q0 Z p0 p1 q2 p3 h0 n0) 2 8 7 #[.val (.int p0), .val (.int p1), .val (.long q2), .second, .val (.int p3), .val (.int (4 : Int32)), .unset, .unset, .unset, .unset, .unset, .unset, .unset, .unset, .unset, .unset] []
    refine own_st (fun _ k => XS.iload X0.here hx rfl (hb hby at_7) rfl k) ?_
    show own_Go X0 (Q0 Z p0 p1 q2 p3 h0 n0) 2 8 9 #[.val (.int p0), .val (.int p1), .val (.long q2), .second, .val (.int p3), .val (.int (4 : Int32)), .unset, .unset, .unset, .unset, .unset, .unset, .unset, .unset, .unset, .unset] [(.int (4 : Int32))]
    refine own_st (fun _ k => XS.iconst X0.here hx rfl (hb hby at_9) k) ?_
    show own_Go X0 (Q0 Z p0 p1 q2 p3 h0 n0) 2 8 10 #[.val (.int p0), .val (.int p1), .val (.long q2), .second, .val (.int p3), .val (.int (4 : Int32)), .unset, .unset, .unset, .unset, .unset, .unset, .unset, .unset, .unset, .unset] [(.int (1 : Int32)), (.int (4 : Int32))]
    have c10_94 : ¬ ((4 : Int32) = (1 : Int32)) := (by decide)
    refine own_st (fun _ k => XS.icmpYes X0.here hx rfl (pc0 := 10) (pc' := 18) rfl (hb hby at_10) rfl (feq c10_94).2 (by decide) (by decide) k) ?_
    show own_Go X0 (Q0 Z p0 p1 q2 p3 h0 n0) 2 8 18 #[.val (.int p0), .val (.int p1), .val (.long q2), .second, .val (.int p3), .val (.int (4 : Int32)), .unset, .unset, .unset, .unset, .unset, .unset, .unset, .unset, .unset, .unset] []
    refine own_st (fun _ k => XS.iload X0.here hx rfl (hb hby at_18) rfl k) ?_
    show own_Go X0 (Q0 Z p0 p1 q2 p3 h0 n0) 2 8 20 #[.val (.int p0), .val (.int p1), .val (.long q2), .second, .val (.int p3), .val (.int (4 : Int32)), .unset, .unset, .unset, .unset, .unset, .unset, .unset, .unset, .unset, .unset] [(.int (4 : Int32))]
    refine own_st (fun _ k => XS.iconst X0.here hx rfl (hb hby at_20) k) ?_
    show own_Go X0 (Q0 Z p0 p1 q2 p3 h0 n0) 2 8 21 #[.val (.int p0), .val (.int p1), .val (.long q2), .second, .val (.int p3), .val (.int (4 : Int32)), .unset, .unset, .unset, .unset, .unset, .unset, .unset, .unset, .unset, .unset] [(.int (2 : Int32)), (.int (4 : Int32))]
    have c21_95 : ¬ ((4 : Int32) = (2 : Int32)) := (by decide)
    refine own_st (fun _ k => XS.icmpYes X0.here hx rfl (pc0 := 21) (pc' := 29) rfl (hb hby at_21) rfl (feq c21_95).2 (by decide) (by decide) k) ?_
    show own_Go X0 (Q0 Z p0 p1 q2 p3 h0 n0) 2 8 29 #[.val (.int p0), .val (.int p1), .val (.long q2), .second, .val (.int p3), .val (.int (4 : Int32)), .unset, .unset, .unset, .unset, .unset, .unset, .unset, .unset, .unset, .unset] []
    refine own_st (fun _ k => XS.iload X0.here hx rfl (hb hby at_29) rfl k) ?_
    show own_Go X0 (Q0 Z p0 p1 q2 p3 h0 n0) 2 8 31 #[.val (.int p0), .val (.int p1), .val (.long q2), .second, .val (.int p3), .val (.int (4 : Int32)), .unset, .unset, .unset, .unset, .unset, .unset, .unset, .unset, .unset, .unset] [(.int (4 : Int32))]
    refine own_st (fun _ k => XS.iconst X0.here hx rfl (hb hby at_31) k) ?_
    show own_Go X0 (Q0 Z p0 p1 q2 p3 h0 n0) 2 8 32 #[.val (.int p0), .val (.int p1), .val (.long q2), .second, .val (.int p3), .val (.int (4 : Int32)), .unset, .unset, .unset, .unset, .unset, .unset, .unset, .unset, .unset, .unset] [(.int (3 : Int32)), (.int (4 : Int32))]
    have c32_96 : ¬ ((4 : Int32) = (3 : Int32)) := (by decide)
    refine own_st (fun _ k => XS.icmpYes X0.here hx rfl (pc0 := 32) (pc' := 41) rfl (hb hby at_32) rfl (feq c32_96).2 (by decide) (by decide) k) ?_
    show own_Go X0 (Q0 Z p0 p1 q2 p3 h0 n0) 2 8 41 #[.val (.int p0), .val (.int p1), .val (.long q2), .second, .val (.int p3), .val (.int (4 : Int32)), .unset, .unset, .unset, .unset, .unset, .unset, .unset, .unset, .unset, .unset] []
    refine own_st (fun _ k => XS.sipush X0.here hx rfl (hb hby at_41) k) ?_
    show own_Go X0 (Q0 Z p0 p1 q2 p3 h0 n0) 2 8 44 #[.val (.int p0), .val (.int p1), .val (.long q2), .second, .val (.int p3), .val (.int (4 : Int32)), .unset, .unset, .unset, .unset, .unset, .unset, .unset, .unset, .unset, .unset] [(.int (215 : Int32))]
    refine own_st (fun _ k => XS.istore X0.here hx rfl (hb hby at_44) rfl (l' := #[.val (.int p0), .val (.int p1), .val (.long q2), .second, .val (.int p3), .val (.int (4 : Int32)), .val (.int (215 : Int32)), .unset, .unset, .unset, .unset, .unset, .unset, .unset, .unset, .unset]) rfl k) ?_
    show own_Go X0 (Q0 Z p0 p1 q2 p3 h0 n0) 2 8 46 #[.val (.int p0), .val (.int p1), .val (.long q2), .second, .val (.int p3), .val (.int (4 : Int32)), .val (.int (215 : Int32)), .unset, .unset, .unset, .unset, .unset, .unset, .unset, .unset, .unset] []
    refine own_st (fun _ k => XS.iconst X0.here hx rfl (hb hby at_46) k) ?_
    show own_Go X0 (Q0 Z p0 p1 q2 p3 h0 n0) 2 8 47 #[.val (.int p0), .val (.int p1), .val (.long q2), .second, .val (.int p3), .val (.int (4 : Int32)), .val (.int (215 : Int32)), .unset, .unset, .unset, .unset, .unset, .unset, .unset, .unset, .unset] [(.int (2 : Int32))]
    refine own_st (fun _ k => XS.iloadN X0.here hx rfl (hb hby at_47) rfl k) ?_
    show own_Go X0 (Q0 Z p0 p1 q2 p3 h0 n0) 2 8 48 #[.val (.int p0), .val (.int p1), .val (.long q2), .second, .val (.int p3), .val (.int (4 : Int32)), .val (.int (215 : Int32)), .unset, .unset, .unset, .unset, .unset, .unset, .unset, .unset, .unset] [(.int p1), (.int (2 : Int32))]
    refine own_st (fun t k => X0.ldcInt hx hown (mvT hZ (hw _ (List.mem_of_getElem? (i := 1) rfl))) (g := (mkF m 48 #[.val (.int p0), .val (.int p1), .val (.long q2), .second, .val (.int p3), .val (.int (4 : Int32)), .val (.int (215 : Int32)), .unset, .unset, .unset, .unset, .unset, .unset, .unset, .unset, .unset] [(.int p1), (.int (2 : Int32))])) rfl (hb hby at_48) t k) ?_
    show own_Go X0 (Q0 Z p0 p1 q2 p3 h0 n0) 2 8 50 #[.val (.int p0), .val (.int p1), .val (.long q2), .second, .val (.int p3), .val (.int (4 : Int32)), .val (.int (215 : Int32)), .unset, .unset, .unset, .unset, .unset, .unset, .unset, .unset, .unset] [(.int (2147483647 : Int32)), (.int p1), (.int (2 : Int32))]
    refine own_st (fun _ k => XS.iand X0.here hx rfl (hb hby at_50) rfl k) ?_
    show own_Go X0 (Q0 Z p0 p1 q2 p3 h0 n0) 2 8 51 #[.val (.int p0), .val (.int p1), .val (.long q2), .second, .val (.int p3), .val (.int (4 : Int32)), .val (.int (215 : Int32)), .unset, .unset, .unset, .unset, .unset, .unset, .unset, .unset, .unset] [(.int (p1 &&& (2147483647 : Int32))), (.int (2 : Int32))]
    refine own_st (fun _ k => XS.iload X0.here hx rfl (hb hby at_51) rfl k) ?_
    show own_Go X0 (Q0 Z p0 p1 q2 p3 h0 n0) 2 8 53 #[.val (.int p0), .val (.int p1), .val (.long q2), .second, .val (.int p3), .val (.int (4 : Int32)), .val (.int (215 : Int32)), .unset, .unset, .unset, .unset, .unset, .unset, .unset, .unset, .unset] [(.int (215 : Int32)), (.int (p1 &&& (2147483647 : Int32))), (.int (2 : Int32))]
    refine own_st (fun _ k => XS.iconst X0.here hx rfl (hb hby at_53) k) ?_
    show own_Go X0 (Q0 Z p0 p1 q2 p3 h0 n0) 2 8 54 #[.val (.int p0), .val (.int p1), .val (.long q2), .second, .val (.int p3), .val (.int (4 : Int32)), .val (.int (215 : Int32)), .unset, .unset, .unset, .unset, .unset, .unset, .unset, .unset, .unset] [(.int (1 : Int32)), (.int (215 : Int32)), (.int (p1 &&& (2147483647 : Int32))), (.int (2 : Int32))]
    refine own_st (fun _ k => XS.isub X0.here hx rfl (hb hby at_54) rfl k) ?_
    show own_Go X0 (Q0 Z p0 p1 q2 p3 h0 n0) 2 8 55 #[.val (.int p0), .val (.int p1), .val (.long q2), .second, .val (.int p3), .val (.int (4 : Int32)), .val (.int (215 : Int32)), .unset, .unset, .unset, .unset, .unset, .unset, .unset, .unset, .unset] [(.int (214 : Int32)), (.int (p1 &&& (2147483647 : Int32))), (.int (2 : Int32))]
    refine own_st (fun _ k => iremM X0 hx rfl (hb hby at_55) rfl (by decide) k) ?_
    show own_Go X0 (Q0 Z p0 p1 q2 p3 h0 n0) 2 8 56 #[.val (.int p0), .val (.int p1), .val (.long q2), .second, .val (.int p3), .val (.int (4 : Int32)), .val (.int (215 : Int32)), .unset, .unset, .unset, .unset, .unset, .unset, .unset, .unset, .unset] [(.int ((p1 &&& (2147483647 : Int32)) % (214 : Int32))), (.int (2 : Int32))]
    refine own_st (fun _ k => XS.iadd X0.here hx rfl (hb hby at_56) rfl k) ?_
    show own_Go X0 (Q0 Z p0 p1 q2 p3 h0 n0) 2 8 57 #[.val (.int p0), .val (.int p1), .val (.long q2), .second, .val (.int p3), .val (.int (4 : Int32)), .val (.int (215 : Int32)), .unset, .unset, .unset, .unset, .unset, .unset, .unset, .unset, .unset] [(.int ((2 : Int32) + ((p1 &&& (2147483647 : Int32)) % (214 : Int32))))]
    refine own_st (fun _ k => XS.istore X0.here hx rfl (hb hby at_57) rfl (l' := #[.val (.int p0), .val (.int p1), .val (.long q2), .second, .val (.int p3), .val (.int (4 : Int32)), .val (.int (215 : Int32)), .val (.int ((2 : Int32) + ((p1 &&& (2147483647 : Int32)) % (214 : Int32)))), .unset, .unset, .unset, .unset, .unset, .unset, .unset, .unset]) rfl k) ?_
    show own_Go X0 (Q0 Z p0 p1 q2 p3 h0 n0) 2 8 59 #[.val (.int p0), .val (.int p1), .val (.long q2), .second, .val (.int p3), .val (.int (4 : Int32)), .val (.int (215 : Int32)), .val (.int ((2 : Int32) + ((p1 &&& (2147483647 : Int32)) % (214 : Int32)))), .unset, .unset, .unset, .unset, .unset, .unset, .unset, .unset] []
    generalize hgg : ((2 : Int32) + ((p1 &&& (2147483647 : Int32)) % (214 : Int32))) = gg
    show own_Go X0 (Q0 Z p0 p1 q2 p3 h0 n0) 2 8 59 #[.val (.int p0), .val (.int p1), .val (.long q2), .second, .val (.int p3), .val (.int (4 : Int32)), .val (.int (215 : Int32)), .val (.int gg), .unset, .unset, .unset, .unset, .unset, .unset, .unset, .unset] []
    have hG : 2 ≤ gg.toInt ∧ gg.toInt ≤ 215 := own_gb (M := 214) (by decide) (by decide) (by decide) hgg
    refine own_st (fun _ k => XS.iload X0.here hx rfl (hb hby at_59) rfl k) ?_
    show own_Go X0 (Q0 Z p0 p1 q2 p3 h0 n0) 2 8 61 #[.val (.int p0), .val (.int p1), .val (.long q2), .second, .val (.int p3), .val (.int (4 : Int32)), .val (.int (215 : Int32)), .val (.int gg), .unset, .unset, .unset, .unset, .unset, .unset, .unset, .unset] [(.int gg)]
    refine own_st (fun _ k => XS.i2l X0.here hx rfl (hb hby at_61) rfl k) ?_
    show own_Go X0 (Q0 Z p0 p1 q2 p3 h0 n0) 2 8 62 #[.val (.int p0), .val (.int p1), .val (.long q2), .second, .val (.int p3), .val (.int (4 : Int32)), .val (.int (215 : Int32)), .val (.int gg), .unset, .unset, .unset, .unset, .unset, .unset, .unset, .unset] [(.long (gg.toInt64))]
    refine own_st (fun _ k => XS.lstore X0.here hx rfl (hb hby at_62) rfl (l' := #[.val (.int p0), .val (.int p1), .val (.long q2), .second, .val (.int p3), .val (.int (4 : Int32)), .val (.int (215 : Int32)), .val (.int gg), .val (.long (gg.toInt64)), .second, .unset, .unset, .unset, .unset, .unset, .unset]) rfl k) ?_
    show own_Go X0 (Q0 Z p0 p1 q2 p3 h0 n0) 2 8 64 #[.val (.int p0), .val (.int p1), .val (.long q2), .second, .val (.int p3), .val (.int (4 : Int32)), .val (.int (215 : Int32)), .val (.int gg), .val (.long (gg.toInt64)), .second, .unset, .unset, .unset, .unset, .unset, .unset] []
    refine own_st (fun _ k => XS.iload X0.here hx rfl (hb hby at_64) rfl k) ?_
    show own_Go X0 (Q0 Z p0 p1 q2 p3 h0 n0) 2 8 66 #[.val (.int p0), .val (.int p1), .val (.long q2), .second, .val (.int p3), .val (.int (4 : Int32)), .val (.int (215 : Int32)), .val (.int gg), .val (.long (gg.toInt64)), .second, .unset, .unset, .unset, .unset, .unset, .unset] [(.int (4 : Int32))]
    refine own_st (fun _ k => XS.iconst X0.here hx rfl (hb hby at_66) k) ?_
    show own_Go X0 (Q0 Z p0 p1 q2 p3 h0 n0) 2 8 67 #[.val (.int p0), .val (.int p1), .val (.long q2), .second, .val (.int p3), .val (.int (4 : Int32)), .val (.int (215 : Int32)), .val (.int gg), .val (.long (gg.toInt64)), .second, .unset, .unset, .unset, .unset, .unset, .unset] [(.int (2 : Int32)), (.int (4 : Int32))]
    have c67_97 : ¬ ((4 : Int32) < (2 : Int32)) := (by decide)
    refine own_st (fun _ k => XS.icmpNo X0.here hx rfl (hb hby at_67) rfl (flt c67_97).1 k) ?_
    show own_Go X0 (Q0 Z p0 p1 q2 p3 h0 n0) 2 8 70 #[.val (.int p0), .val (.int p1), .val (.long q2), .second, .val (.int p3), .val (.int (4 : Int32)), .val (.int (215 : Int32)), .val (.int gg), .val (.long (gg.toInt64)), .second, .unset, .unset, .unset, .unset, .unset, .unset] []
    refine own_st (fun _ k => XS.lload X0.here hx rfl (hb hby at_70) rfl k) ?_
    show own_Go X0 (Q0 Z p0 p1 q2 p3 h0 n0) 2 8 72 #[.val (.int p0), .val (.int p1), .val (.long q2), .second, .val (.int p3), .val (.int (4 : Int32)), .val (.int (215 : Int32)), .val (.int gg), .val (.long (gg.toInt64)), .second, .unset, .unset, .unset, .unset, .unset, .unset] [(.long (gg.toInt64))]
    refine own_st (fun _ k => XS.iload X0.here hx rfl (hb hby at_72) rfl k) ?_
    show own_Go X0 (Q0 Z p0 p1 q2 p3 h0 n0) 2 8 74 #[.val (.int p0), .val (.int p1), .val (.long q2), .second, .val (.int p3), .val (.int (4 : Int32)), .val (.int (215 : Int32)), .val (.int gg), .val (.long (gg.toInt64)), .second, .unset, .unset, .unset, .unset, .unset, .unset] [(.int gg), (.long (gg.toInt64))]
    refine own_st (fun _ k => XS.i2l X0.here hx rfl (hb hby at_74) rfl k) ?_
    show own_Go X0 (Q0 Z p0 p1 q2 p3 h0 n0) 2 8 75 #[.val (.int p0), .val (.int p1), .val (.long q2), .second, .val (.int p3), .val (.int (4 : Int32)), .val (.int (215 : Int32)), .val (.int gg), .val (.long (gg.toInt64)), .second, .unset, .unset, .unset, .unset, .unset, .unset] [(.long (gg.toInt64)), (.long (gg.toInt64))]
    refine own_st (fun _ k => XS.lmul X0.here hx rfl (hb hby at_75) rfl k) ?_
    show own_Go X0 (Q0 Z p0 p1 q2 p3 h0 n0) 2 8 76 #[.val (.int p0), .val (.int p1), .val (.long q2), .second, .val (.int p3), .val (.int (4 : Int32)), .val (.int (215 : Int32)), .val (.int gg), .val (.long (gg.toInt64)), .second, .unset, .unset, .unset, .unset, .unset, .unset] [(.long ((gg.toInt64) * (gg.toInt64)))]
    refine own_st (fun _ k => XS.lstore X0.here hx rfl (hb hby at_76) rfl (l' := #[.val (.int p0), .val (.int p1), .val (.long q2), .second, .val (.int p3), .val (.int (4 : Int32)), .val (.int (215 : Int32)), .val (.int gg), .val (.long ((gg.toInt64) * (gg.toInt64))), .second, .unset, .unset, .unset, .unset, .unset, .unset]) rfl k) ?_
    show own_Go X0 (Q0 Z p0 p1 q2 p3 h0 n0) 2 8 78 #[.val (.int p0), .val (.int p1), .val (.long q2), .second, .val (.int p3), .val (.int (4 : Int32)), .val (.int (215 : Int32)), .val (.int gg), .val (.long ((gg.toInt64) * (gg.toInt64))), .second, .unset, .unset, .unset, .unset, .unset, .unset] []
    refine own_st (fun _ k => XS.iload X0.here hx rfl (hb hby at_78) rfl k) ?_
    show own_Go X0 (Q0 Z p0 p1 q2 p3 h0 n0) 2 8 80 #[.val (.int p0), .val (.int p1), .val (.long q2), .second, .val (.int p3), .val (.int (4 : Int32)), .val (.int (215 : Int32)), .val (.int gg), .val (.long ((gg.toInt64) * (gg.toInt64))), .second, .unset, .unset, .unset, .unset, .unset, .unset] [(.int (4 : Int32))]
    refine own_st (fun _ k => XS.iconst X0.here hx rfl (hb hby at_80) k) ?_
    show own_Go X0 (Q0 Z p0 p1 q2 p3 h0 n0) 2 8 81 #[.val (.int p0), .val (.int p1), .val (.long q2), .second, .val (.int p3), .val (.int (4 : Int32)), .val (.int (215 : Int32)), .val (.int gg), .val (.long ((gg.toInt64) * (gg.toInt64))), .second, .unset, .unset, .unset, .unset, .unset, .unset] [(.int (3 : Int32)), (.int (4 : Int32))]
    have c81_98 : ¬ ((4 : Int32) < (3 : Int32)) := (by decide)
    refine own_st (fun _ k => XS.icmpNo X0.here hx rfl (hb hby at_81) rfl (flt c81_98).1 k) ?_
    show own_Go X0 (Q0 Z p0 p1 q2 p3 h0 n0) 2 8 84 #[.val (.int p0), .val (.int p1), .val (.long q2), .second, .val (.int p3), .val (.int (4 : Int32)), .val (.int (215 : Int32)), .val (.int gg), .val (.long ((gg.toInt64) * (gg.toInt64))), .second, .unset, .unset, .unset, .unset, .unset, .unset] []
    refine own_st (fun _ k => XS.lload X0.here hx rfl (hb hby at_84) rfl k) ?_
    show own_Go X0 (Q0 Z p0 p1 q2 p3 h0 n0) 2 8 86 #[.val (.int p0), .val (.int p1), .val (.long q2), .second, .val (.int p3), .val (.int (4 : Int32)), .val (.int (215 : Int32)), .val (.int gg), .val (.long ((gg.toInt64) * (gg.toInt64))), .second, .unset, .unset, .unset, .unset, .unset, .unset] [(.long ((gg.toInt64) * (gg.toInt64)))]
    refine own_st (fun _ k => XS.iload X0.here hx rfl (hb hby at_86) rfl k) ?_
    show own_Go X0 (Q0 Z p0 p1 q2 p3 h0 n0) 2 8 88 #[.val (.int p0), .val (.int p1), .val (.long q2), .second, .val (.int p3), .val (.int (4 : Int32)), .val (.int (215 : Int32)), .val (.int gg), .val (.long ((gg.toInt64) * (gg.toInt64))), .second, .unset, .unset, .unset, .unset, .unset, .unset] [(.int gg), (.long ((gg.toInt64) * (gg.toInt64)))]
    refine own_st (fun _ k => XS.i2l X0.here hx rfl (hb hby at_88) rfl k) ?_
    show own_Go X0 (Q0 Z p0 p1 q2 p3 h0 n0) 2 8 89 #[.val (.int p0), .val (.int p1), .val (.long q2), .second, .val (.int p3), .val (.int (4 : Int32)), .val (.int (215 : Int32)), .val (.int gg), .val (.long ((gg.toInt64) * (gg.toInt64))), .second, .unset, .unset, .unset, .unset, .unset, .unset] [(.long (gg.toInt64)), (.long ((gg.toInt64) * (gg.toInt64)))]
    refine own_st (fun _ k => XS.lmul X0.here hx rfl (hb hby at_89) rfl k) ?_
    show own_Go X0 (Q0 Z p0 p1 q2 p3 h0 n0) 2 8 90 #[.val (.int p0), .val (.int p1), .val (.long q2), .second, .val (.int p3), .val (.int (4 : Int32)), .val (.int (215 : Int32)), .val (.int gg), .val (.long ((gg.toInt64) * (gg.toInt64))), .second, .unset, .unset, .unset, .unset, .unset, .unset] [(.long (((gg.toInt64) * (gg.toInt64)) * (gg.toInt64)))]
    refine own_st (fun _ k => XS.lstore X0.here hx rfl (hb hby at_90) rfl (l' := #[.val (.int p0), .val (.int p1), .val (.long q2), .second, .val (.int p3), .val (.int (4 : Int32)), .val (.int (215 : Int32)), .val (.int gg), .val (.long (((gg.toInt64) * (gg.toInt64)) * (gg.toInt64))), .second, .unset, .unset, .unset, .unset, .unset, .unset]) rfl k) ?_
    show own_Go X0 (Q0 Z p0 p1 q2 p3 h0 n0) 2 8 92 #[.val (.int p0), .val (.int p1), .val (.long q2), .second, .val (.int p3), .val (.int (4 : Int32)), .val (.int (215 : Int32)), .val (.int gg), .val (.long (((gg.toInt64) * (gg.toInt64)) * (gg.toInt64))), .second, .unset, .unset, .unset, .unset, .unset, .unset] []
    refine own_st (fun _ k => XS.iload X0.here hx rfl (hb hby at_92) rfl k) ?_
    show own_Go X0 (Q0 Z p0 p1 q2 p3 h0 n0) 2 8 94 #[.val (.int p0), .val (.int p1), .val (.long q2), .second, .val (.int p3), .val (.int (4 : Int32)), .val (.int (215 : Int32)), .val (.int gg), .val (.long (((gg.toInt64) * (gg.toInt64)) * (gg.toInt64))), .second, .unset, .unset, .unset, .unset, .unset, .unset] [(.int (4 : Int32))]
    refine own_st (fun _ k => XS.iconst X0.here hx rfl (hb hby at_94) k) ?_
    show own_Go X0 (Q0 Z p0 p1 q2 p3 h0 n0) 2 8 95 #[.val (.int p0), .val (.int p1), .val (.long q2), .second, .val (.int p3), .val (.int (4 : Int32)), .val (.int (215 : Int32)), .val (.int gg), .val (.long (((gg.toInt64) * (gg.toInt64)) * (gg.toInt64))), .second, .unset, .unset, .unset, .unset, .unset, .unset] [(.int (4 : Int32)), (.int (4 : Int32))]
    have c95_99 : ¬ ((4 : Int32) < (4 : Int32)) := (by decide)
    refine own_st (fun _ k => XS.icmpNo X0.here hx rfl (hb hby at_95) rfl (flt c95_99).1 k) ?_
    show own_Go X0 (Q0 Z p0 p1 q2 p3 h0 n0) 2 8 98 #[.val (.int p0), .val (.int p1), .val (.long q2), .second, .val (.int p3), .val (.int (4 : Int32)), .val (.int (215 : Int32)), .val (.int gg), .val (.long (((gg.toInt64) * (gg.toInt64)) * (gg.toInt64))), .second, .unset, .unset, .unset, .unset, .unset, .unset] []
    refine own_st (fun _ k => XS.lload X0.here hx rfl (hb hby at_98) rfl k) ?_
    show own_Go X0 (Q0 Z p0 p1 q2 p3 h0 n0) 2 8 100 #[.val (.int p0), .val (.int p1), .val (.long q2), .second, .val (.int p3), .val (.int (4 : Int32)), .val (.int (215 : Int32)), .val (.int gg), .val (.long (((gg.toInt64) * (gg.toInt64)) * (gg.toInt64))), .second, .unset, .unset, .unset, .unset, .unset, .unset] [(.long (((gg.toInt64) * (gg.toInt64)) * (gg.toInt64)))]
    refine own_st (fun _ k => XS.iload X0.here hx rfl (hb hby at_100) rfl k) ?_
    show own_Go X0 (Q0 Z p0 p1 q2 p3 h0 n0) 2 8 102 #[.val (.int p0), .val (.int p1), .val (.long q2), .second, .val (.int p3), .val (.int (4 : Int32)), .val (.int (215 : Int32)), .val (.int gg), .val (.long (((gg.toInt64) * (gg.toInt64)) * (gg.toInt64))), .second, .unset, .unset, .unset, .unset, .unset, .unset] [(.int gg), (.long (((gg.toInt64) * (gg.toInt64)) * (gg.toInt64)))]
    refine own_st (fun _ k => XS.i2l X0.here hx rfl (hb hby at_102) rfl k) ?_
    show own_Go X0 (Q0 Z p0 p1 q2 p3 h0 n0) 2 8 103 #[.val (.int p0), .val (.int p1), .val (.long q2), .second, .val (.int p3), .val (.int (4 : Int32)), .val (.int (215 : Int32)), .val (.int gg), .val (.long (((gg.toInt64) * (gg.toInt64)) * (gg.toInt64))), .second, .unset, .unset, .unset, .unset, .unset, .unset] [(.long (gg.toInt64)), (.long (((gg.toInt64) * (gg.toInt64)) * (gg.toInt64)))]
    refine own_st (fun _ k => XS.lmul X0.here hx rfl (hb hby at_103) rfl k) ?_
    show own_Go X0 (Q0 Z p0 p1 q2 p3 h0 n0) 2 8 104 #[.val (.int p0), .val (.int p1), .val (.long q2), .second, .val (.int p3), .val (.int (4 : Int32)), .val (.int (215 : Int32)), .val (.int gg), .val (.long (((gg.toInt64) * (gg.toInt64)) * (gg.toInt64))), .second, .unset, .unset, .unset, .unset, .unset, .unset] [(.long ((((gg.toInt64) * (gg.toInt64)) * (gg.toInt64)) * (gg.toInt64)))]
    refine own_st (fun _ k => XS.lstore X0.here hx rfl (hb hby at_104) rfl (l' := #[.val (.int p0), .val (.int p1), .val (.long q2), .second, .val (.int p3), .val (.int (4 : Int32)), .val (.int (215 : Int32)), .val (.int gg), .val (.long ((((gg.toInt64) * (gg.toInt64)) * (gg.toInt64)) * (gg.toInt64))), .second, .unset, .unset, .unset, .unset, .unset, .unset]) rfl k) ?_
    show own_Go X0 (Q0 Z p0 p1 q2 p3 h0 n0) 2 8 106 #[.val (.int p0), .val (.int p1), .val (.long q2), .second, .val (.int p3), .val (.int (4 : Int32)), .val (.int (215 : Int32)), .val (.int gg), .val (.long ((((gg.toInt64) * (gg.toInt64)) * (gg.toInt64)) * (gg.toInt64))), .second, .unset, .unset, .unset, .unset, .unset, .unset] []
    have u1 : gg.toInt ≤ 215 := hG.2
    have v1 : 0 < gg.toInt := by omega
    have pq1 : (own_pw1 gg).toInt = gg.toInt := own_p1 gg
    have r1 : (gg.toInt64).toInt = gg.toInt := c_i2l gg
    have u2 := own_ub2 (a := gg.toInt) (b := gg.toInt) (A := 215) (B := 215) (by omega) (by omega) u1 hG.2
    have v2 : 0 < gg.toInt * gg.toInt := Int.mul_pos v1 v1
    have pq2 : (own_pw2 gg).toInt = gg.toInt * gg.toInt := own_mulx pq1 (by omega) (by omega)
    have r2 : (gg.toInt64 * gg.toInt64).toInt = gg.toInt * gg.toInt := own_mulx r1 (by omega) (by omega)
    have u3 := own_ub2 (a := gg.toInt * gg.toInt) (b := gg.toInt) (A := 215 * 215) (B := 215) (by omega) (by omega) u2 hG.2
    have v3 : 0 < gg.toInt * gg.toInt * gg.toInt := Int.mul_pos v2 v1
    have pq3 : (own_pw3 gg).toInt = gg.toInt * gg.toInt * gg.toInt := own_mulx pq2 (by omega) (by omega)
    have r3 : ((gg.toInt64 * gg.toInt64) * gg.toInt64).toInt = gg.toInt * gg.toInt * gg.toInt := own_mulx r2 (by omega) (by omega)
    have u4 := own_ub2 (a := gg.toInt * gg.toInt * gg.toInt) (b := gg.toInt) (A := 215 * 215 * 215) (B := 215) (by omega) (by omega) u3 hG.2
    have v4 : 0 < gg.toInt * gg.toInt * gg.toInt * gg.toInt := Int.mul_pos v3 v1
    have pq4 : (own_pw4 gg).toInt = gg.toInt * gg.toInt * gg.toInt * gg.toInt := own_mulx pq3 (by omega) (by omega)
    have r4 : (((gg.toInt64 * gg.toInt64) * gg.toInt64) * gg.toInt64).toInt = gg.toInt * gg.toInt * gg.toInt * gg.toInt := own_mulx r3 (by omega) (by omega)
    generalize hcc : ((((gg.toInt64) * (gg.toInt64)) * (gg.toInt64)) * (gg.toInt64)) = cc
    show own_Go X0 (Q0 Z p0 p1 q2 p3 h0 n0) 2 8 106 #[.val (.int p0), .val (.int p1), .val (.long q2), .second, .val (.int p3), .val (.int (4 : Int32)), .val (.int (215 : Int32)), .val (.int gg), .val (.long cc), .second, .unset, .unset, .unset, .unset, .unset, .unset] []
    have hC : cc.toInt = gg.toInt * gg.toInt * gg.toInt * gg.toInt := by rw [← hcc]; exact r4
    refine own_st (fun _ k => XS.lloadN X0.here hx rfl (hb hby at_106) rfl k) ?_
    show own_Go X0 (Q0 Z p0 p1 q2 p3 h0 n0) 2 8 107 #[.val (.int p0), .val (.int p1), .val (.long q2), .second, .val (.int p3), .val (.int (4 : Int32)), .val (.int (215 : Int32)), .val (.int gg), .val (.long cc), .second, .unset, .unset, .unset, .unset, .unset, .unset] [(.long q2)]
    refine own_st (fun t k => X0.ldc2Long hx hown (mvT hZ (hw _ (List.mem_of_getElem? (i := 2) rfl))) (g := (mkF m 107 #[.val (.int p0), .val (.int p1), .val (.long q2), .second, .val (.int p3), .val (.int (4 : Int32)), .val (.int (215 : Int32)), .val (.int gg), .val (.long cc), .second, .unset, .unset, .unset, .unset, .unset, .unset] [(.long q2)])) rfl (hb hby at_107) t k) ?_
    show own_Go X0 (Q0 Z p0 p1 q2 p3 h0 n0) 2 8 110 #[.val (.int p0), .val (.int p1), .val (.long q2), .second, .val (.int p3), .val (.int (4 : Int32)), .val (.int (215 : Int32)), .val (.int gg), .val (.long cc), .second, .unset, .unset, .unset, .unset, .unset, .unset] [(.long (9223372036854775807 : Int64)), (.long q2)]
    refine own_st (fun _ k => XS.land X0.here hx rfl (hb hby at_110) rfl k) ?_
    show own_Go X0 (Q0 Z p0 p1 q2 p3 h0 n0) 2 8 111 #[.val (.int p0), .val (.int p1), .val (.long q2), .second, .val (.int p3), .val (.int (4 : Int32)), .val (.int (215 : Int32)), .val (.int gg), .val (.long cc), .second, .unset, .unset, .unset, .unset, .unset, .unset] [(.long (q2 &&& (9223372036854775807 : Int64)))]
    refine own_st (fun _ k => XS.lload X0.here hx rfl (hb hby at_111) rfl k) ?_
    show own_Go X0 (Q0 Z p0 p1 q2 p3 h0 n0) 2 8 113 #[.val (.int p0), .val (.int p1), .val (.long q2), .second, .val (.int p3), .val (.int (4 : Int32)), .val (.int (215 : Int32)), .val (.int gg), .val (.long cc), .second, .unset, .unset, .unset, .unset, .unset, .unset] [(.long cc), (.long (q2 &&& (9223372036854775807 : Int64)))]
    refine own_st (fun _ k => own_lrem X0 hx rfl (hb hby at_113) rfl (own_cnz hC v4) k) ?_
    show own_Go X0 (Q0 Z p0 p1 q2 p3 h0 n0) 2 8 114 #[.val (.int p0), .val (.int p1), .val (.long q2), .second, .val (.int p3), .val (.int (4 : Int32)), .val (.int (215 : Int32)), .val (.int gg), .val (.long cc), .second, .unset, .unset, .unset, .unset, .unset, .unset] [(.long ((q2 &&& (9223372036854775807 : Int64)) % cc))]
    refine own_st (fun _ k => XS.l2i X0.here hx rfl (hb hby at_114) rfl k) ?_
    show own_Go X0 (Q0 Z p0 p1 q2 p3 h0 n0) 2 8 115 #[.val (.int p0), .val (.int p1), .val (.long q2), .second, .val (.int p3), .val (.int (4 : Int32)), .val (.int (215 : Int32)), .val (.int gg), .val (.long cc), .second, .unset, .unset, .unset, .unset, .unset, .unset] [(.int (((q2 &&& (9223372036854775807 : Int64)) % cc).toInt32))]
    refine own_st (fun _ k => XS.istore X0.here hx rfl (hb hby at_115) rfl (l' := #[.val (.int p0), .val (.int p1), .val (.long q2), .second, .val (.int p3), .val (.int (4 : Int32)), .val (.int (215 : Int32)), .val (.int gg), .val (.long cc), .second, .val (.int (((q2 &&& (9223372036854775807 : Int64)) % cc).toInt32)), .unset, .unset, .unset, .unset, .unset]) rfl k) ?_
    show own_Go X0 (Q0 Z p0 p1 q2 p3 h0 n0) 2 8 117 #[.val (.int p0), .val (.int p1), .val (.long q2), .second, .val (.int p3), .val (.int (4 : Int32)), .val (.int (215 : Int32)), .val (.int gg), .val (.long cc), .second, .val (.int (((q2 &&& (9223372036854775807 : Int64)) % cc).toInt32)), .unset, .unset, .unset, .unset, .unset] []
    generalize htp : (((q2 &&& (9223372036854775807 : Int64)) % cc).toInt32) = tp
    show own_Go X0 (Q0 Z p0 p1 q2 p3 h0 n0) 2 8 117 #[.val (.int p0), .val (.int p1), .val (.long q2), .second, .val (.int p3), .val (.int (4 : Int32)), .val (.int (215 : Int32)), .val (.int gg), .val (.long cc), .second, .val (.int tp), .unset, .unset, .unset, .unset, .unset] []
    have hT := own_tp hC v4 (by omega) htp
    have k0 : 0 ≤ tp.toInt := hT.1
    have l0 : tp.toInt < gg.toInt * gg.toInt * gg.toInt * gg.toInt := hT.2
    have k1 := own_dnn k0 hG.1
    have l1 : (tp / gg).toInt < gg.toInt * gg.toInt * gg.toInt := own_dlt k0 hG.1 l0
    have k2 := own_dnn k1 hG.1
    have l2 : ((tp / gg) / gg).toInt < gg.toInt * gg.toInt := own_dlt k1 hG.1 l1
    have k3 := own_dnn k2 hG.1
    have l3 : (((tp / gg) / gg) / gg).toInt < gg.toInt := own_dlt k2 hG.1 l2
    refine own_st (fun _ k => XS.iload X0.here hx rfl (hb hby at_117) rfl k) ?_
    show own_Go X0 (Q0 Z p0 p1 q2 p3 h0 n0) 2 8 119 #[.val (.int p0), .val (.int p1), .val (.long q2), .second, .val (.int p3), .val (.int (4 : Int32)), .val (.int (215 : Int32)), .val (.int gg), .val (.long cc), .second, .val (.int tp), .unset, .unset, .unset, .unset, .unset] [(.int (4 : Int32))]
    refine own_st (fun _ k => XS.iload X0.here hx rfl (hb hby at_119) rfl k) ?_
    show own_Go X0 (Q0 Z p0 p1 q2 p3 h0 n0) 2 8 121 #[.val (.int p0), .val (.int p1), .val (.long q2), .second, .val (.int p3), .val (.int (4 : Int32)), .val (.int (215 : Int32)), .val (.int gg), .val (.long cc), .second, .val (.int tp), .unset, .unset, .unset, .unset, .unset] [(.int p3), (.int (4 : Int32))]
    refine own_st (fun _ k => XS.bipush X0.here hx rfl (hb hby at_121) k) ?_
    show own_Go X0 (Q0 Z p0 p1 q2 p3 h0 n0) 2 8 123 #[.val (.int p0), .val (.int p1), .val (.long q2), .second, .val (.int p3), .val (.int (4 : Int32)), .val (.int (215 : Int32)), .val (.int gg), .val (.long cc), .second, .val (.int tp), .unset, .unset, .unset, .unset, .unset] [(.int (7 : Int32)), (.int p3), (.int (4 : Int32))]
    refine own_st (fun _ k => XS.iand X0.here hx rfl (hb hby at_123) rfl k) ?_
    show own_Go X0 (Q0 Z p0 p1 q2 p3 h0 n0) 2 8 124 #[.val (.int p0), .val (.int p1), .val (.long q2), .second, .val (.int p3), .val (.int (4 : Int32)), .val (.int (215 : Int32)), .val (.int gg), .val (.long cc), .second, .val (.int tp), .unset, .unset, .unset, .unset, .unset] [(.int (p3 &&& (7 : Int32))), (.int (4 : Int32))]
    refine own_st (fun _ k => XS.iadd X0.here hx rfl (hb hby at_124) rfl k) ?_
    show own_Go X0 (Q0 Z p0 p1 q2 p3 h0 n0) 2 8 125 #[.val (.int p0), .val (.int p1), .val (.long q2), .second, .val (.int p3), .val (.int (4 : Int32)), .val (.int (215 : Int32)), .val (.int gg), .val (.long cc), .second, .val (.int tp), .unset, .unset, .unset, .unset, .unset] [(.int ((4 : Int32) + (p3 &&& (7 : Int32))))]
    refine own_st (fun _ k => XS.istore X0.here hx rfl (hb hby at_125) rfl (l' := #[.val (.int p0), .val (.int p1), .val (.long q2), .second, .val (.int p3), .val (.int (4 : Int32)), .val (.int (215 : Int32)), .val (.int gg), .val (.long cc), .second, .val (.int tp), .val (.int ((4 : Int32) + (p3 &&& (7 : Int32)))), .unset, .unset, .unset, .unset]) rfl k) ?_
    show own_Go X0 (Q0 Z p0 p1 q2 p3 h0 n0) 2 8 127 #[.val (.int p0), .val (.int p1), .val (.long q2), .second, .val (.int p3), .val (.int (4 : Int32)), .val (.int (215 : Int32)), .val (.int gg), .val (.long cc), .second, .val (.int tp), .val (.int ((4 : Int32) + (p3 &&& (7 : Int32)))), .unset, .unset, .unset, .unset] []
    generalize hcl : ((4 : Int32) + (p3 &&& (7 : Int32))) = cl
    show own_Go X0 (Q0 Z p0 p1 q2 p3 h0 n0) 2 8 127 #[.val (.int p0), .val (.int p1), .val (.long q2), .second, .val (.int p3), .val (.int (4 : Int32)), .val (.int (215 : Int32)), .val (.int gg), .val (.long cc), .second, .val (.int tp), .val (.int cl), .unset, .unset, .unset, .unset] []
    have hCl := own_cl (t := (4 : Int32)) (by decide) hcl
    obtain ⟨T100, h100, X100, e100, E100, A100, D100, -, st100⟩ := newO X0 hx hZ hown (hw _ (List.mem_of_getElem? (i := 3) rfl)) (hw _ (List.mem_of_getElem? (i := 4) rfl)) (hw _ (List.mem_of_getElem? (i := 5) rfl)) e0 (g := (mkF m 127 #[.val (.int p0), .val (.int p1), .val (.long q2), .second, .val (.int p3), .val (.int (4 : Int32)), .val (.int (215 : Int32)), .val (.int gg), .val (.long cc), .second, .val (.int tp), .val (.int cl), .unset, .unset, .unset, .unset] [])) rfl (hb hby at_127) (by decide) (by decide)
    obtain ⟨b100, g100⟩ : ∃ z, z = h0.size := ⟨_, rfl⟩
    rw [← g100] at A100 D100 st100
    refine own_st st100 ?_
    have G_101 := Nat.le_trans Z0 (Nat.le_of_eq g100.symm)
    have Z_102 := Nat.le_trans Z0 E100.1
    have F_rows_100 : Fld Z h100 b100 "com/example/gingham/gingham/designs/CoveringArraySpec" "rows" "I" (.int (0 : Int32)) := D100 (Or.inr (hw _ (List.mem_of_getElem? (i := 22) rfl))) (ty := .int) (by decide)
    have F_strength_100 : Fld Z h100 b100 "com/example/gingham/gingham/designs/CoveringArraySpec" "strength" "I" (.int (0 : Int32)) := D100 (Or.inr (hw _ (List.mem_of_getElem? (i := 24) rfl))) (ty := .int) (by decide)
    have F_columns_100 : Fld Z h100 b100 "com/example/gingham/gingham/designs/CoveringArraySpec" "columns" "I" (.int (0 : Int32)) := D100 (Or.inr (hw _ (List.mem_of_getElem? (i := 26) rfl))) (ty := .int) (by decide)
    have F_levels_100 : Fld Z h100 b100 "com/example/gingham/gingham/designs/CoveringArraySpec" "levels" "I" (.int (0 : Int32)) := D100 (Or.inr (hw _ (List.mem_of_getElem? (i := 28) rfl))) (ty := .int) (by decide)
    show own_Go X100 (Q0 Z p0 p1 q2 p3 h0 n0) 2 8 130 #[.val (.int p0), .val (.int p1), .val (.long q2), .second, .val (.int p3), .val (.int (4 : Int32)), .val (.int (215 : Int32)), .val (.int gg), .val (.long cc), .second, .val (.int tp), .val (.int cl), .unset, .unset, .unset, .unset] [(.ref b100)]
    refine own_st (fun _ k => XS.dup X100.here hx rfl (hb hby at_130) rfl rfl k) ?_
    show own_Go X100 (Q0 Z p0 p1 q2 p3 h0 n0) 2 8 131 #[.val (.int p0), .val (.int p1), .val (.long q2), .second, .val (.int p3), .val (.int (4 : Int32)), .val (.int (215 : Int32)), .val (.int gg), .val (.long cc), .second, .val (.int tp), .val (.int cl), .unset, .unset, .unset, .unset] [(.ref b100), (.ref b100)]
    refine own_st (fun _ k => XS.iconst X100.here hx rfl (hb hby at_131) k) ?_
    show own_Go X100 (Q0 Z p0 p1 q2 p3 h0 n0) 2 8 132 #[.val (.int p0), .val (.int p1), .val (.long q2), .second, .val (.int p3), .val (.int (4 : Int32)), .val (.int (215 : Int32)), .val (.int gg), .val (.long cc), .second, .val (.int tp), .val (.int cl), .unset, .unset, .unset, .unset] [(.int (1 : Int32)), (.ref b100), (.ref b100)]
    refine own_st (fun _ k => XS.iload X100.here hx rfl (hb hby at_132) rfl k) ?_
    show own_Go X100 (Q0 Z p0 p1 q2 p3 h0 n0) 2 8 134 #[.val (.int p0), .val (.int p1), .val (.long q2), .second, .val (.int p3), .val (.int (4 : Int32)), .val (.int (215 : Int32)), .val (.int gg), .val (.long cc), .second, .val (.int tp), .val (.int cl), .unset, .unset, .unset, .unset] [(.int (4 : Int32)), (.int (1 : Int32)), (.ref b100), (.ref b100)]
    refine own_st (fun _ k => XS.iload X100.here hx rfl (hb hby at_134) rfl k) ?_
    show own_Go X100 (Q0 Z p0 p1 q2 p3 h0 n0) 2 8 136 #[.val (.int p0), .val (.int p1), .val (.long q2), .second, .val (.int p3), .val (.int (4 : Int32)), .val (.int (215 : Int32)), .val (.int gg), .val (.long cc), .second, .val (.int tp), .val (.int cl), .unset, .unset, .unset, .unset] [(.int cl), (.int (4 : Int32)), (.int (1 : Int32)), (.ref b100), (.ref b100)]
    refine own_st (fun _ k => XS.iload X100.here hx rfl (hb hby at_136) rfl k) ?_
    show own_Go X100 (Q0 Z p0 p1 q2 p3 h0 n0) 2 8 138 #[.val (.int p0), .val (.int p1), .val (.long q2), .second, .val (.int p3), .val (.int (4 : Int32)), .val (.int (215 : Int32)), .val (.int gg), .val (.long cc), .second, .val (.int tp), .val (.int cl), .unset, .unset, .unset, .unset] [(.int gg), (.int cl), (.int (4 : Int32)), (.int (1 : Int32)), (.ref b100), (.ref b100)]
    refine own_callI (W := 1) X100 hx hZ hown (hw _ (List.mem_of_getElem? (i := 6) rfl)) (hw _ (List.mem_of_getElem? (i := 7) rfl)) (hw _ (List.mem_of_getElem? (i := 5) rfl)) (hw _ (List.mem_of_getElem? (i := 8) rfl)) rfl (by decide) (rm14 l Z a0 hw [] b100 cl gg h100 n0 Z_102 A100 G_101 F_rows_100 F_strength_100 F_columns_100 F_levels_100 (own_le64 pq1 (by omega)) (own_le64 pq2 (by omega)) (own_le64 pq3 (by omega)) (own_le64 pq4 (by omega)) (own_nn32 pq4 (by omega) (by omega)) (own_g2 hG.1) hCl.1 hCl.2) (by decide) (by decide) (by rw [hml]; rfl) b100 [(.int (1 : Int32)), (.int (4 : Int32)), (.int cl), (.int gg)] [(.ref b100)] (lenOf pd_0_0 rfl) rfl rfl (Nat.le_of_ble_eq_true rfl) (hb hby at_138) e100 (by decide) (by decide) ?_
    rintro _ T103 L103 X103 ⟨rfl, N103q, K103q, F103_rows, F103_strength, F103_columns, F103_levels⟩
    have N_104 := Fr.app N0 N103q
    have f_105 := A100.keep K103q
    have Z_106 := Nat.le_trans Z_102 K103q.1
    show own_Go X103 (Q0 Z p0 p1 q2 p3 h0 n0) 2 8 141 #[.val (.int p0), .val (.int p1), .val (.long q2), .second, .val (.int p3), .val (.int (4 : Int32)), .val (.int (215 : Int32)), .val (.int gg), .val (.long cc), .second, .val (.int tp), .val (.int cl), .unset, .unset, .unset, .unset] [(.ref b100)]
    refine own_st (fun _ k => XS.astore X103.here hx rfl (hb hby at_141) rfl rfl (l' := #[.val (.int p0), .val (.int p1), .val (.long q2), .second, .val (.int p3), .val (.int (4 : Int32)), .val (.int (215 : Int32)), .val (.int gg), .val (.long cc), .second, .val (.int tp), .val (.int cl), .val (.ref b100), .unset, .unset, .unset]) rfl k) ?_
    show own_Go X103 (Q0 Z p0 p1 q2 p3 h0 n0) 2 8 143 #[.val (.int p0), .val (.int p1), .val (.long q2), .second, .val (.int p3), .val (.int (4 : Int32)), .val (.int (215 : Int32)), .val (.int gg), .val (.long cc), .second, .val (.int tp), .val (.int cl), .val (.ref b100), .unset, .unset, .unset] []
    refine own_st (fun _ k => XS.aload X103.here hx rfl (hb hby at_143) rfl rfl k) ?_
    show own_Go X103 (Q0 Z p0 p1 q2 p3 h0 n0) 2 8 145 #[.val (.int p0), .val (.int p1), .val (.long q2), .second, .val (.int p3), .val (.int (4 : Int32)), .val (.int (215 : Int32)), .val (.int gg), .val (.long cc), .second, .val (.int tp), .val (.int cl), .val (.ref b100), .unset, .unset, .unset] [(.ref b100)]
    refine own_st (fun _ k => XS.iload X103.here hx rfl (hb hby at_145) rfl k) ?_
    show own_Go X103 (Q0 Z p0 p1 q2 p3 h0 n0) 2 8 147 #[.val (.int p0), .val (.int p1), .val (.long q2), .second, .val (.int p3), .val (.int (4 : Int32)), .val (.int (215 : Int32)), .val (.int gg), .val (.long cc), .second, .val (.int tp), .val (.int cl), .val (.ref b100), .unset, .unset, .unset] [(.int tp), (.ref b100)]
    refine own_callV (W := 0) X103 hx hZ hown (hw _ (List.mem_of_getElem? (i := 29) rfl)) (hw _ (List.mem_of_getElem? (i := 30) rfl)) (hw _ (List.mem_of_getElem? (i := 32) rfl)) (hw _ (List.mem_of_getElem? (i := 31) rfl)) (hw _ (List.mem_of_getElem? (i := 5) rfl)) (hw _ (List.mem_of_getElem? (i := 33) rfl)) (by decide) (rm54 l Z a0 hw [] b100 tp gg T103.heap n0 Z_106 F103_levels F103_strength (own_gnz hG.1)) (by decide) (by decide) (by rw [hml]; rfl) b100 [(.int tp)] [] (lenOf pd_0_1 rfl) rfl rfl (Nat.le_of_ble_eq_true rfl) (hb hby at_147) (Eq.refl T103.heap) f_105 (by decide) (by decide) ?_
    rintro _ T107 L107 X107 ⟨b107, k107, rfl, N107q, K107q, G107q, S107q, V107q⟩
    have N_108 := Fr.app N_104 N107q
    have f_109 := f_105.keep K107q
    have f_110 := F103_rows.keep K107q nin0
    have f_111 := F103_strength.keep K107q nin0
    have f_112 := F103_columns.keep K107q nin0
    have f_113 := F103_levels.keep K107q nin0
    have Z_114 := Nat.le_trans Z_106 K107q.1
    show own_Go X107 (Q0 Z p0 p1 q2 p3 h0 n0) 2 8 150 #[.val (.int p0), .val (.int p1), .val (.long q2), .second, .val (.int p3), .val (.int (4 : Int32)), .val (.int (215 : Int32)), .val (.int gg), .val (.long cc), .second, .val (.int tp), .val (.int cl), .val (.ref b100), .unset, .unset, .unset] [(.ref b107)]
    refine own_st (fun _ k => XS.astore X107.here hx rfl (hb hby at_150) rfl rfl (l' := #[.val (.int p0), .val (.int p1), .val (.long q2), .second, .val (.int p3), .val (.int (4 : Int32)), .val (.int (215 : Int32)), .val (.int gg), .val (.long cc), .second, .val (.int tp), .val (.int cl), .val (.ref b100), .val (.ref b107), .unset, .unset]) rfl k) ?_
    show own_Go X107 (Q0 Z p0 p1 q2 p3 h0 n0) 2 8 152 #[.val (.int p0), .val (.int p1), .val (.long q2), .second, .val (.int p3), .val (.int (4 : Int32)), .val (.int (215 : Int32)), .val (.int gg), .val (.long cc), .second, .val (.int tp), .val (.int cl), .val (.ref b100), .val (.ref b107), .unset, .unset] []
    refine own_st (fun _ k => XS.aload X107.here hx rfl (hb hby at_152) rfl rfl k) ?_
    show own_Go X107 (Q0 Z p0 p1 q2 p3 h0 n0) 2 8 154 #[.val (.int p0), .val (.int p1), .val (.long q2), .second, .val (.int p3), .val (.int (4 : Int32)), .val (.int (215 : Int32)), .val (.int gg), .val (.long cc), .second, .val (.int tp), .val (.int cl), .val (.ref b100), .val (.ref b107), .unset, .unset] [(.ref b107)]
    refine own_st (fun _ k => own_len X107 hx hZ (Eq.refl T107.heap) V107q (g := (mkF m 154 #[.val (.int p0), .val (.int p1), .val (.long q2), .second, .val (.int p3), .val (.int (4 : Int32)), .val (.int (215 : Int32)), .val (.int gg), .val (.long cc), .second, .val (.int tp), .val (.int cl), .val (.ref b100), .val (.ref b107), .unset, .unset] [(.ref b107)])) rfl rfl (hb hby at_154) _ k) ?_
    show own_Go X107 (Q0 Z p0 p1 q2 p3 h0 n0) 2 8 155 #[.val (.int p0), .val (.int p1), .val (.long q2), .second, .val (.int p3), .val (.int (4 : Int32)), .val (.int (215 : Int32)), .val (.int gg), .val (.long cc), .second, .val (.int tp), .val (.int cl), .val (.ref b100), .val (.ref b107), .unset, .unset] [(.int (4 : Int32))]
    refine own_st (fun _ k => XS.iload X107.here hx rfl (hb hby at_155) rfl k) ?_
    show own_Go X107 (Q0 Z p0 p1 q2 p3 h0 n0) 2 8 157 #[.val (.int p0), .val (.int p1), .val (.long q2), .second, .val (.int p3), .val (.int (4 : Int32)), .val (.int (215 : Int32)), .val (.int gg), .val (.long cc), .second, .val (.int tp), .val (.int cl), .val (.ref b100), .val (.ref b107), .unset, .unset] [(.int (4 : Int32)), (.int (4 : Int32))]
    have c157_115 : (4 : Int32) = (4 : Int32) := (by decide)
    refine own_st (fun _ k => XS.icmpYes X107.here hx rfl (pc0 := 157) (pc' := 162) rfl (hb hby at_157) rfl (teq c157_115).1 (by decide) (by decide) k) ?_
    show own_Go X107 (Q0 Z p0 p1 q2 p3 h0 n0) 2 8 162 #[.val (.int p0), .val (.int p1), .val (.long q2), .second, .val (.int p3), .val (.int (4 : Int32)), .val (.int (215 : Int32)), .val (.int gg), .val (.long cc), .second, .val (.int tp), .val (.int cl), .val (.ref b100), .val (.ref b107), .unset, .unset] []
    refine own_st (fun _ k => XS.aload X107.here hx rfl (hb hby at_162) rfl rfl k) ?_
    show own_Go X107 (Q0 Z p0 p1 q2 p3 h0 n0) 2 8 164 #[.val (.int p0), .val (.int p1), .val (.long q2), .second, .val (.int p3), .val (.int (4 : Int32)), .val (.int (215 : Int32)), .val (.int gg), .val (.long cc), .second, .val (.int tp), .val (.int cl), .val (.ref b100), .val (.ref b107), .unset, .unset] [(.ref b107)]
    refine own_st (fun _ k => XS.iconst X107.here hx rfl (hb hby at_164) k) ?_
    show own_Go X107 (Q0 Z p0 p1 q2 p3 h0 n0) 2 8 165 #[.val (.int p0), .val (.int p1), .val (.long q2), .second, .val (.int p3), .val (.int (4 : Int32)), .val (.int (215 : Int32)), .val (.int gg), .val (.long cc), .second, .val (.int tp), .val (.int cl), .val (.ref b100), .val (.ref b107), .unset, .unset] [(.int (0 : Int32)), (.ref b107)]
    refine own_st (fun _ k => own_ldI X107 hx hZ (Eq.refl T107.heap) V107q (j := (0 : Int32)) ⟨by decide, by decide⟩ (v := (.int ((((tp / gg) / gg) / gg) % gg))) rfl (g := (mkF m 165 #[.val (.int p0), .val (.int p1), .val (.long q2), .second, .val (.int p3), .val (.int (4 : Int32)), .val (.int (215 : Int32)), .val (.int gg), .val (.long cc), .second, .val (.int tp), .val (.int cl), .val (.ref b100), .val (.ref b107), .unset, .unset] [(.int (0 : Int32)), (.ref b107)])) rfl rfl (hb hby at_165) _ k) ?_
    show own_Go X107 (Q0 Z p0 p1 q2 p3 h0 n0) 2 8 166 #[.val (.int p0), .val (.int p1), .val (.long q2), .second, .val (.int p3), .val (.int (4 : Int32)), .val (.int (215 : Int32)), .val (.int gg), .val (.long cc), .second, .val (.int tp), .val (.int cl), .val (.ref b100), .val (.ref b107), .unset, .unset] [(.int ((((tp / gg) / gg) / gg) % gg))]
    refine own_st (fun _ k => XS.iload X107.here hx rfl (hb hby at_166) rfl k) ?_
    show own_Go X107 (Q0 Z p0 p1 q2 p3 h0 n0) 2 8 168 #[.val (.int p0), .val (.int p1), .val (.long q2), .second, .val (.int p3), .val (.int (4 : Int32)), .val (.int (215 : Int32)), .val (.int gg), .val (.long cc), .second, .val (.int tp), .val (.int cl), .val (.ref b100), .val (.ref b107), .unset, .unset] [(.int gg), (.int ((((tp / gg) / gg) / gg) % gg))]
    refine own_callS (W := 0) X107 hx hZ hown (hw _ (List.mem_of_getElem? (i := 35) rfl)) (hw _ (List.mem_of_getElem? (i := 36) rfl)) (hw _ (List.mem_of_getElem? (i := 37) rfl)) (hw _ (List.mem_of_getElem? (i := 38) rfl)) (by decide) (rm6 l Z a0 hw [] ((((tp / gg) / gg) / gg) % gg) gg  T107.heap n0 Z_114 ) (by decide) (by decide) (by rw [hml]; rfl) [(.int ((((tp / gg) / gg) / gg) % gg)), (.int gg)] [] (lenOf pd_0_2 rfl) rfl rfl (Nat.le_of_ble_eq_true rfl) (hb hby at_168) (Eq.refl T107.heap) (by decide) (by decide) ?_
    rintro _ T116 L116 X116 ⟨rfl, N116q, e116⟩
    have N_117 := Fr.app N_108 N116q
    show own_Go X116 (Q0 Z p0 p1 q2 p3 h0 n0) 2 8 171 #[.val (.int p0), .val (.int p1), .val (.long q2), .second, .val (.int p3), .val (.int (4 : Int32)), .val (.int (215 : Int32)), .val (.int gg), .val (.long cc), .second, .val (.int tp), .val (.int cl), .val (.ref b100), .val (.ref b107), .unset, .unset] [(.int (own_ir ((((tp / gg) / gg) / gg) % gg) gg))]
    have c171_118 : ¬ ((own_ir ((((tp / gg) / gg) / gg) % gg) gg) = (0 : Int32)) := own_ir1 k3 hG.1
    refine own_st (fun _ k => XS.ifYes X116.here hx rfl (pc0 := 171) (pc' := 176) rfl (hb hby at_171) rfl ((if0 _ _).trans (feq c171_118).2) (by decide) (by decide) k) ?_
    show own_Go X116 (Q0 Z p0 p1 q2 p3 h0 n0) 2 8 176 #[.val (.int p0), .val (.int p1), .val (.long q2), .second, .val (.int p3), .val (.int (4 : Int32)), .val (.int (215 : Int32)), .val (.int gg), .val (.long cc), .second, .val (.int tp), .val (.int cl), .val (.ref b100), .val (.ref b107), .unset, .unset] []
    refine own_st (fun _ k => XS.aload X116.here hx rfl (hb hby at_176) rfl rfl k) ?_
    show own_Go X116 (Q0 Z p0 p1 q2 p3 h0 n0) 2 8 178 #[.val (.int p0), .val (.int p1), .val (.long q2), .second, .val (.int p3), .val (.int (4 : Int32)), .val (.int (215 : Int32)), .val (.int gg), .val (.long cc), .second, .val (.int tp), .val (.int cl), .val (.ref b100), .val (.ref b107), .unset, .unset] [(.ref b107)]
    refine own_st (fun _ k => XS.iconst X116.here hx rfl (hb hby at_178) k) ?_
    show own_Go X116 (Q0 Z p0 p1 q2 p3 h0 n0) 2 8 179 #[.val (.int p0), .val (.int p1), .val (.long q2), .second, .val (.int p3), .val (.int (4 : Int32)), .val (.int (215 : Int32)), .val (.int gg), .val (.long cc), .second, .val (.int tp), .val (.int cl), .val (.ref b100), .val (.ref b107), .unset, .unset] [(.int (0 : Int32)), (.ref b107)]
    refine own_st (fun _ k => own_ldI X116 hx hZ e116 V107q (j := (0 : Int32)) ⟨by decide, by decide⟩ (v := (.int ((((tp / gg) / gg) / gg) % gg))) rfl (g := (mkF m 179 #[.val (.int p0), .val (.int p1), .val (.long q2), .second, .val (.int p3), .val (.int (4 : Int32)), .val (.int (215 : Int32)), .val (.int gg), .val (.long cc), .second, .val (.int tp), .val (.int cl), .val (.ref b100), .val (.ref b107), .unset, .unset] [(.int (0 : Int32)), (.ref b107)])) rfl rfl (hb hby at_179) _ k) ?_
    show own_Go X116 (Q0 Z p0 p1 q2 p3 h0 n0) 2 8 180 #[.val (.int p0), .val (.int p1), .val (.long q2), .second, .val (.int p3), .val (.int (4 : Int32)), .val (.int (215 : Int32)), .val (.int gg), .val (.long cc), .second, .val (.int tp), .val (.int cl), .val (.ref b100), .val (.ref b107), .unset, .unset] [(.int ((((tp / gg) / gg) / gg) % gg))]
    refine own_st (fun _ k => XS.i2l X116.here hx rfl (hb hby at_180) rfl k) ?_
    show own_Go X116 (Q0 Z p0 p1 q2 p3 h0 n0) 2 8 181 #[.val (.int p0), .val (.int p1), .val (.long q2), .second, .val (.int p3), .val (.int (4 : Int32)), .val (.int (215 : Int32)), .val (.int gg), .val (.long cc), .second, .val (.int tp), .val (.int cl), .val (.ref b100), .val (.ref b107), .unset, .unset] [(.long (((((tp / gg) / gg) / gg) % gg).toInt64))]
    refine own_st (fun _ k => XS.lstore X116.here hx rfl (hb hby at_181) rfl (l' := #[.val (.int p0), .val (.int p1), .val (.long q2), .second, .val (.int p3), .val (.int (4 : Int32)), .val (.int (215 : Int32)), .val (.int gg), .val (.long cc), .second, .val (.int tp), .val (.int cl), .val (.ref b100), .val (.ref b107), .val (.long (((((tp / gg) / gg) / gg) % gg).toInt64)), .second]) rfl k) ?_
    show own_Go X116 (Q0 Z p0 p1 q2 p3 h0 n0) 2 8 183 #[.val (.int p0), .val (.int p1), .val (.long q2), .second, .val (.int p3), .val (.int (4 : Int32)), .val (.int (215 : Int32)), .val (.int gg), .val (.long cc), .second, .val (.int tp), .val (.int cl), .val (.ref b100), .val (.ref b107), .val (.long (((((tp / gg) / gg) / gg) % gg).toInt64)), .second] []
    refine own_st (fun _ k => XS.iload X116.here hx rfl (hb hby at_183) rfl k) ?_
    show own_Go X116 (Q0 Z p0 p1 q2 p3 h0 n0) 2 8 185 #[.val (.int p0), .val (.int p1), .val (.long q2), .second, .val (.int p3), .val (.int (4 : Int32)), .val (.int (215 : Int32)), .val (.int gg), .val (.long cc), .second, .val (.int tp), .val (.int cl), .val (.ref b100), .val (.ref b107), .val (.long (((((tp / gg) / gg) / gg) % gg).toInt64)), .second] [(.int (4 : Int32))]
    refine own_st (fun _ k => XS.iconst X116.here hx rfl (hb hby at_185) k) ?_
    show own_Go X116 (Q0 Z p0 p1 q2 p3 h0 n0) 2 8 186 #[.val (.int p0), .val (.int p1), .val (.long q2), .second, .val (.int p3), .val (.int (4 : Int32)), .val (.int (215 : Int32)), .val (.int gg), .val (.long cc), .second, .val (.int tp), .val (.int cl), .val (.ref b100), .val (.ref b107), .val (.long (((((tp / gg) / gg) / gg) % gg).toInt64)), .second] [(.int (2 : Int32)), (.int (4 : Int32))]
    have c186_119 : ¬ ((4 : Int32) < (2 : Int32)) := (by decide)
    refine own_st (fun _ k => XS.icmpNo X116.here hx rfl (hb hby at_186) rfl (flt c186_119).1 k) ?_
    show own_Go X116 (Q0 Z p0 p1 q2 p3 h0 n0) 2 8 189 #[.val (.int p0), .val (.int p1), .val (.long q2), .second, .val (.int p3), .val (.int (4 : Int32)), .val (.int (215 : Int32)), .val (.int gg), .val (.long cc), .second, .val (.int tp), .val (.int cl), .val (.ref b100), .val (.ref b107), .val (.long (((((tp / gg) / gg) / gg) % gg).toInt64)), .second] []
    refine own_st (fun _ k => XS.aload X116.here hx rfl (hb hby at_189) rfl rfl k) ?_
    show own_Go X116 (Q0 Z p0 p1 q2 p3 h0 n0) 2 8 191 #[.val (.int p0), .val (.int p1), .val (.long q2), .second, .val (.int p3), .val (.int (4 : Int32)), .val (.int (215 : Int32)), .val (.int gg), .val (.long cc), .second, .val (.int tp), .val (.int cl), .val (.ref b100), .val (.ref b107), .val (.long (((((tp / gg) / gg) / gg) % gg).toInt64)), .second] [(.ref b107)]
    refine own_st (fun _ k => XS.iconst X116.here hx rfl (hb hby at_191) k) ?_
    show own_Go X116 (Q0 Z p0 p1 q2 p3 h0 n0) 2 8 192 #[.val (.int p0), .val (.int p1), .val (.long q2), .second, .val (.int p3), .val (.int (4 : Int32)), .val (.int (215 : Int32)), .val (.int gg), .val (.long cc), .second, .val (.int tp), .val (.int cl), .val (.ref b100), .val (.ref b107), .val (.long (((((tp / gg) / gg) / gg) % gg).toInt64)), .second] [(.int (1 : Int32)), (.ref b107)]
    refine own_st (fun _ k => own_ldI X116 hx hZ e116 V107q (j := (1 : Int32)) ⟨by decide, by decide⟩ (v := (.int (((tp / gg) / gg) % gg))) rfl (g := (mkF m 192 #[.val (.int p0), .val (.int p1), .val (.long q2), .second, .val (.int p3), .val (.int (4 : Int32)), .val (.int (215 : Int32)), .val (.int gg), .val (.long cc), .second, .val (.int tp), .val (.int cl), .val (.ref b100), .val (.ref b107), .val (.long (((((tp / gg) / gg) / gg) % gg).toInt64)), .second] [(.int (1 : Int32)), (.ref b107)])) rfl rfl (hb hby at_192) _ k) ?_
    show own_Go X116 (Q0 Z p0 p1 q2 p3 h0 n0) 2 8 193 #[.val (.int p0), .val (.int p1), .val (.long q2), .second, .val (.int p3), .val (.int (4 : Int32)), .val (.int (215 : Int32)), .val (.int gg), .val (.long cc), .second, .val (.int tp), .val (.int cl), .val (.ref b100), .val (.ref b107), .val (.long (((((tp / gg) / gg) / gg) % gg).toInt64)), .second] [(.int (((tp / gg) / gg) % gg))]
    refine own_st (fun _ k => XS.iload X116.here hx rfl (hb hby at_193) rfl k) ?_
    show own_Go X116 (Q0 Z p0 p1 q2 p3 h0 n0) 2 8 195 #[.val (.int p0), .val (.int p1), .val (.long q2), .second, .val (.int p3), .val (.int (4 : Int32)), .val (.int (215 : Int32)), .val (.int gg), .val (.long cc), .second, .val (.int tp), .val (.int cl), .val (.ref b100), .val (.ref b107), .val (.long (((((tp / gg) / gg) / gg) % gg).toInt64)), .second] [(.int gg), (.int (((tp / gg) / gg) % gg))]
    refine own_callS (W := 0) X116 hx hZ hown (hw _ (List.mem_of_getElem? (i := 35) rfl)) (hw _ (List.mem_of_getElem? (i := 36) rfl)) (hw _ (List.mem_of_getElem? (i := 37) rfl)) (hw _ (List.mem_of_getElem? (i := 38) rfl)) (by decide) (rm6 l Z a0 hw [] (((tp / gg) / gg) % gg) gg  T107.heap n0 Z_114 ) (by decide) (by decide) (by rw [hml]; rfl) [(.int (((tp / gg) / gg) % gg)), (.int gg)] [] (lenOf pd_0_2 rfl) rfl rfl (Nat.le_of_ble_eq_true rfl) (hb hby at_195) e116 (by decide) (by decide) ?_
    rintro _ T120 L120 X120 ⟨rfl, N120q, e120⟩
    have N_121 := Fr.app N_117 N120q
    show own_Go X120 (Q0 Z p0 p1 q2 p3 h0 n0) 2 8 198 #[.val (.int p0), .val (.int p1), .val (.long q2), .second, .val (.int p3), .val (.int (4 : Int32)), .val (.int (215 : Int32)), .val (.int gg), .val (.long cc), .second, .val (.int tp), .val (.int cl), .val (.ref b100), .val (.ref b107), .val (.long (((((tp / gg) / gg) / gg) % gg).toInt64)), .second] [(.int (own_ir (((tp / gg) / gg) % gg) gg))]
    have c198_122 : ¬ ((own_ir (((tp / gg) / gg) % gg) gg) = (0 : Int32)) := own_ir1 k2 hG.1
    refine own_st (fun _ k => XS.ifYes X120.here hx rfl (pc0 := 198) (pc' := 203) rfl (hb hby at_198) rfl ((if0 _ _).trans (feq c198_122).2) (by decide) (by decide) k) ?_
    show own_Go X120 (Q0 Z p0 p1 q2 p3 h0 n0) 2 8 203 #[.val (.int p0), .val (.int p1), .val (.long q2), .second, .val (.int p3), .val (.int (4 : Int32)), .val (.int (215 : Int32)), .val (.int gg), .val (.long cc), .second, .val (.int tp), .val (.int cl), .val (.ref b100), .val (.ref b107), .val (.long (((((tp / gg) / gg) / gg) % gg).toInt64)), .second] []
    refine own_st (fun _ k => XS.lload X120.here hx rfl (hb hby at_203) rfl k) ?_
    show own_Go X120 (Q0 Z p0 p1 q2 p3 h0 n0) 2 8 205 #[.val (.int p0), .val (.int p1), .val (.long q2), .second, .val (.int p3), .val (.int (4 : Int32)), .val (.int (215 : Int32)), .val (.int gg), .val (.long cc), .second, .val (.int tp), .val (.int cl), .val (.ref b100), .val (.ref b107), .val (.long (((((tp / gg) / gg) / gg) % gg).toInt64)), .second] [(.long (((((tp / gg) / gg) / gg) % gg).toInt64))]
    refine own_st (fun _ k => XS.iload X120.here hx rfl (hb hby at_205) rfl k) ?_
    show own_Go X120 (Q0 Z p0 p1 q2 p3 h0 n0) 2 8 207 #[.val (.int p0), .val (.int p1), .val (.long q2), .second, .val (.int p3), .val (.int (4 : Int32)), .val (.int (215 : Int32)), .val (.int gg), .val (.long cc), .second, .val (.int tp), .val (.int cl), .val (.ref b100), .val (.ref b107), .val (.long (((((tp / gg) / gg) / gg) % gg).toInt64)), .second] [(.int gg), (.long (((((tp / gg) / gg) / gg) % gg).toInt64))]
    refine own_st (fun _ k => XS.i2l X120.here hx rfl (hb hby at_207) rfl k) ?_
    show own_Go X120 (Q0 Z p0 p1 q2 p3 h0 n0) 2 8 208 #[.val (.int p0), .val (.int p1), .val (.long q2), .second, .val (.int p3), .val (.int (4 : Int32)), .val (.int (215 : Int32)), .val (.int gg), .val (.long cc), .second, .val (.int tp), .val (.int cl), .val (.ref b100), .val (.ref b107), .val (.long (((((tp / gg) / gg) / gg) % gg).toInt64)), .second] [(.long (gg.toInt64)), (.long (((((tp / gg) / gg) / gg) % gg).toInt64))]
    refine own_st (fun _ k => XS.lmul X120.here hx rfl (hb hby at_208) rfl k) ?_
    show own_Go X120 (Q0 Z p0 p1 q2 p3 h0 n0) 2 8 209 #[.val (.int p0), .val (.int p1), .val (.long q2), .second, .val (.int p3), .val (.int (4 : Int32)), .val (.int (215 : Int32)), .val (.int gg), .val (.long cc), .second, .val (.int tp), .val (.int cl), .val (.ref b100), .val (.ref b107), .val (.long (((((tp / gg) / gg) / gg) % gg).toInt64)), .second] [(.long ((((((tp / gg) / gg) / gg) % gg).toInt64) * (gg.toInt64)))]
    refine own_st (fun _ k => XS.aload X120.here hx rfl (hb hby at_209) rfl rfl k) ?_
    show own_Go X120 (Q0 Z p0 p1 q2 p3 h0 n0) 2 8 211 #[.val (.int p0), .val (.int p1), .val (.long q2), .second, .val (.int p3), .val (.int (4 : Int32)), .val (.int (215 : Int32)), .val (.int gg), .val (.long cc), .second, .val (.int tp), .val (.int cl), .val (.ref b100), .val (.ref b107), .val (.long (((((tp / gg) / gg) / gg) % gg).toInt64)), .second] [(.ref b107), (.long ((((((tp / gg) / gg) / gg) % gg).toInt64) * (gg.toInt64)))]
    refine own_st (fun _ k => XS.iconst X120.here hx rfl (hb hby at_211) k) ?_
    show own_Go X120 (Q0 Z p0 p1 q2 p3 h0 n0) 2 8 212 #[.val (.int p0), .val (.int p1), .val (.long q2), .second, .val (.int p3), .val (.int (4 : Int32)), .val (.int (215 : Int32)), .val (.int gg), .val (.long cc), .second, .val (.int tp), .val (.int cl), .val (.ref b100), .val (.ref b107), .val (.long (((((tp / gg) / gg) / gg) % gg).toInt64)), .second] [(.int (1 : Int32)), (.ref b107), (.long ((((((tp / gg) / gg) / gg) % gg).toInt64) * (gg.toInt64)))]
    refine own_st (fun _ k => own_ldI X120 hx hZ e120 V107q (j := (1 : Int32)) ⟨by decide, by decide⟩ (v := (.int (((tp / gg) / gg) % gg))) rfl (g := (mkF m 212 #[.val (.int p0), .val (.int p1), .val (.long q2), .second, .val (.int p3), .val (.int (4 : Int32)), .val (.int (215 : Int32)), .val (.int gg), .val (.long cc), .second, .val (.int tp), .val (.int cl), .val (.ref b100), .val (.ref b107), .val (.long (((((tp / gg) / gg) / gg) % gg).toInt64)), .second] [(.int (1 : Int32)), (.ref b107), (.long ((((((tp / gg) / gg) / gg) % gg).toInt64) * (gg.toInt64)))])) rfl rfl (hb hby at_212) _ k) ?_
    show own_Go X120 (Q0 Z p0 p1 q2 p3 h0 n0) 2 8 213 #[.val (.int p0), .val (.int p1), .val (.long q2), .second, .val (.int p3), .val (.int (4 : Int32)), .val (.int (215 : Int32)), .val (.int gg), .val (.long cc), .second, .val (.int tp), .val (.int cl), .val (.ref b100), .val (.ref b107), .val (.long (((((tp / gg) / gg) / gg) % gg).toInt64)), .second] [(.int (((tp / gg) / gg) % gg)), (.long ((((((tp / gg) / gg) / gg) % gg).toInt64) * (gg.toInt64)))]
    refine own_st (fun _ k => XS.i2l X120.here hx rfl (hb hby at_213) rfl k) ?_
    show own_Go X120 (Q0 Z p0 p1 q2 p3 h0 n0) 2 8 214 #[.val (.int p0), .val (.int p1), .val (.long q2), .second, .val (.int p3), .val (.int (4 : Int32)), .val (.int (215 : Int32)), .val (.int gg), .val (.long cc), .second, .val (.int tp), .val (.int cl), .val (.ref b100), .val (.ref b107), .val (.long (((((tp / gg) / gg) / gg) % gg).toInt64)), .second] [(.long ((((tp / gg) / gg) % gg).toInt64)), (.long ((((((tp / gg) / gg) / gg) % gg).toInt64) * (gg.toInt64)))]
    refine own_st (fun _ k => XS.ladd X120.here hx rfl (hb hby at_214) rfl k) ?_
    show own_Go X120 (Q0 Z p0 p1 q2 p3 h0 n0) 2 8 215 #[.val (.int p0), .val (.int p1), .val (.long q2), .second, .val (.int p3), .val (.int (4 : Int32)), .val (.int (215 : Int32)), .val (.int gg), .val (.long cc), .second, .val (.int tp), .val (.int cl), .val (.ref b100), .val (.ref b107), .val (.long (((((tp / gg) / gg) / gg) % gg).toInt64)), .second] [(.long (((((((tp / gg) / gg) / gg) % gg).toInt64) * (gg.toInt64)) + ((((tp / gg) / gg) % gg).toInt64)))]
    refine own_st (fun _ k => XS.lstore X120.here hx rfl (hb hby at_215) rfl (l' := #[.val (.int p0), .val (.int p1), .val (.long q2), .second, .val (.int p3), .val (.int (4 : Int32)), .val (.int (215 : Int32)), .val (.int gg), .val (.long cc), .second, .val (.int tp), .val (.int cl), .val (.ref b100), .val (.ref b107), .val (.long (((((((tp / gg) / gg) / gg) % gg).toInt64) * (gg.toInt64)) + ((((tp / gg) / gg) % gg).toInt64))), .second]) rfl k) ?_
    show own_Go X120 (Q0 Z p0 p1 q2 p3 h0 n0) 2 8 217 #[.val (.int p0), .val (.int p1), .val (.long q2), .second, .val (.int p3), .val (.int (4 : Int32)), .val (.int (215 : Int32)), .val (.int gg), .val (.long cc), .second, .val (.int tp), .val (.int cl), .val (.ref b100), .val (.ref b107), .val (.long (((((((tp / gg) / gg) / gg) % gg).toInt64) * (gg.toInt64)) + ((((tp / gg) / gg) % gg).toInt64))), .second] []
    refine own_st (fun _ k => XS.iload X120.here hx rfl (hb hby at_217) rfl k) ?_
    show own_Go X120 (Q0 Z p0 p1 q2 p3 h0 n0) 2 8 219 #[.val (.int p0), .val (.int p1), .val (.long q2), .second, .val (.int p3), .val (.int (4 : Int32)), .val (.int (215 : Int32)), .val (.int gg), .val (.long cc), .second, .val (.int tp), .val (.int cl), .val (.ref b100), .val (.ref b107), .val (.long (((((((tp / gg) / gg) / gg) % gg).toInt64) * (gg.toInt64)) + ((((tp / gg) / gg) % gg).toInt64))), .second] [(.int (4 : Int32))]
    refine own_st (fun _ k => XS.iconst X120.here hx rfl (hb hby at_219) k) ?_
    show own_Go X120 (Q0 Z p0 p1 q2 p3 h0 n0) 2 8 220 #[.val (.int p0), .val (.int p1), .val (.long q2), .second, .val (.int p3), .val (.int (4 : Int32)), .val (.int (215 : Int32)), .val (.int gg), .val (.long cc), .second, .val (.int tp), .val (.int cl), .val (.ref b100), .val (.ref b107), .val (.long (((((((tp / gg) / gg) / gg) % gg).toInt64) * (gg.toInt64)) + ((((tp / gg) / gg) % gg).toInt64))), .second] [(.int (3 : Int32)), (.int (4 : Int32))]
    have c220_123 : ¬ ((4 : Int32) < (3 : Int32)) := (by decide)
    refine own_st (fun _ k => XS.icmpNo X120.here hx rfl (hb hby at_220) rfl (flt c220_123).1 k) ?_
    show own_Go X120 (Q0 Z p0 p1 q2 p3 h0 n0) 2 8 223 #[.val (.int p0), .val (.int p1), .val (.long q2), .second, .val (.int p3), .val (.int (4 : Int32)), .val (.int (215 : Int32)), .val (.int gg), .val (.long cc), .second, .val (.int tp), .val (.int cl), .val (.ref b100), .val (.ref b107), .val (.long (((((((tp / gg) / gg) / gg) % gg).toInt64) * (gg.toInt64)) + ((((tp / gg) / gg) % gg).toInt64))), .second] []
    refine own_st (fun _ k => XS.aload X120.here hx rfl (hb hby at_223) rfl rfl k) ?_
    show own_Go X120 (Q0 Z p0 p1 q2 p3 h0 n0) 2 8 225 #[.val (.int p0), .val (.int p1), .val (.long q2), .second, .val (.int p3), .val (.int (4 : Int32)), .val (.int (215 : Int32)), .val (.int gg), .val (.long cc), .second, .val (.int tp), .val (.int cl), .val (.ref b100), .val (.ref b107), .val (.long (((((((tp / gg) / gg) / gg) % gg).toInt64) * (gg.toInt64)) + ((((tp / gg) / gg) % gg).toInt64))), .second] [(.ref b107)]
    refine own_st (fun _ k => XS.iconst X120.here hx rfl (hb hby at_225) k) ?_
    show own_Go X120 (Q0 Z p0 p1 q2 p3 h0 n0) 2 8 226 #[.val (.int p0), .val (.int p1), .val (.long q2), .second, .val (.int p3), .val (.int (4 : Int32)), .val (.int (215 : Int32)), .val (.int gg), .val (.long cc), .second, .val (.int tp), .val (.int cl), .val (.ref b100), .val (.ref b107), .val (.long (((((((tp / gg) / gg) / gg) % gg).toInt64) * (gg.toInt64)) + ((((tp / gg) / gg) % gg).toInt64))), .second] [(.int (2 : Int32)), (.ref b107)]
    refine own_st (fun _ k => own_ldI X120 hx hZ e120 V107q (j := (2 : Int32)) ⟨by decide, by decide⟩ (v := (.int ((tp / gg) % gg))) rfl (g := (mkF m 226 #[.val (.int p0), .val (.int p1), .val (.long q2), .second, .val (.int p3), .val (.int (4 : Int32)), .val (.int (215 : Int32)), .val (.int gg), .val (.long cc), .second, .val (.int tp), .val (.int cl), .val (.ref b100), .val (.ref b107), .val (.long (((((((tp / gg) / gg) / gg) % gg).toInt64) * (gg.toInt64)) + ((((tp / gg) / gg) % gg).toInt64))), .second] [(.int (2 : Int32)), (.ref b107)])) rfl rfl (hb hby at_226) _ k) ?_
    show own_Go X120 (Q0 Z p0 p1 q2 p3 h0 n0) 2 8 227 #[.val (.int p0), .val (.int p1), .val (.long q2), .second, .val (.int p3), .val (.int (4 : Int32)), .val (.int (215 : Int32)), .val (.int gg), .val (.long cc), .second, .val (.int tp), .val (.int cl), .val (.ref b100), .val (.ref b107), .val (.long (((((((tp / gg) / gg) / gg) % gg).toInt64) * (gg.toInt64)) + ((((tp / gg) / gg) % gg).toInt64))), .second] [(.int ((tp / gg) % gg))]
    refine own_st (fun _ k => XS.iload X120.here hx rfl (hb hby at_227) rfl k) ?_
    show own_Go X120 (Q0 Z p0 p1 q2 p3 h0 n0) 2 8 229 #[.val (.int p0), .val (.int p1), .val (.long q2), .second, .val (.int p3), .val (.int (4 : Int32)), .val (.int (215 : Int32)), .val (.int gg), .val (.long cc), .second, .val (.int tp), .val (.int cl), .val (.ref b100), .val (.ref b107), .val (.long (((((((tp / gg) / gg) / gg) % gg).toInt64) * (gg.toInt64)) + ((((tp / gg) / gg) % gg).toInt64))), .second] [(.int gg), (.int ((tp / gg) % gg))]
    refine own_callS (W := 0) X120 hx hZ hown (hw _ (List.mem_of_getElem? (i := 35) rfl)) (hw _ (List.mem_of_getElem? (i := 36) rfl)) (hw _ (List.mem_of_getElem? (i := 37) rfl)) (hw _ (List.mem_of_getElem? (i := 38) rfl)) (by decide) (rm6 l Z a0 hw [] ((tp / gg) % gg) gg  T107.heap n0 Z_114 ) (by decide) (by decide) (by rw [hml]; rfl) [(.int ((tp / gg) % gg)), (.int gg)] [] (lenOf pd_0_2 rfl) rfl rfl (Nat.le_of_ble_eq_true rfl) (hb hby at_229) e120 (by decide) (by decide) ?_
    rintro _ T124 L124 X124 ⟨rfl, N124q, e124⟩
    have N_125 := Fr.app N_121 N124q
    show own_Go X124 (Q0 Z p0 p1 q2 p3 h0 n0) 2 8 232 #[.val (.int p0), .val (.int p1), .val (.long q2), .second, .val (.int p3), .val (.int (4 : Int32)), .val (.int (215 : Int32)), .val (.int gg), .val (.long cc), .second, .val (.int tp), .val (.int cl), .val (.ref b100), .val (.ref b107), .val (.long (((((((tp / gg) / gg) / gg) % gg).toInt64) * (gg.toInt64)) + ((((tp / gg) / gg) % gg).toInt64))), .second] [(.int (own_ir ((tp / gg) % gg) gg))]
    have c232_126 : ¬ ((own_ir ((tp / gg) % gg) gg) = (0 : Int32)) := own_ir1 k1 hG.1
    refine own_st (fun _ k => XS.ifYes X124.here hx rfl (pc0 := 232) (pc' := 237) rfl (hb hby at_232) rfl ((if0 _ _).trans (feq c232_126).2) (by decide) (by decide) k) ?_
    show own_Go X124 (Q0 Z p0 p1 q2 p3 h0 n0) 2 8 237 #[.val (.int p0), .val (.int p1), .val (.long q2), .second, .val (.int p3), .val (.int (4 : Int32)), .val (.int (215 : Int32)), .val (.int gg), .val (.long cc), .second, .val (.int tp), .val (.int cl), .val (.ref b100), .val (.ref b107), .val (.long (((((((tp / gg) / gg) / gg) % gg).toInt64) * (gg.toInt64)) + ((((tp / gg) / gg) % gg).toInt64))), .second] []
    refine own_st (fun _ k => XS.lload X124.here hx rfl (hb hby at_237) rfl k) ?_
    show own_Go X124 (Q0 Z p0 p1 q2 p3 h0 n0) 2 8 239 #[.val (.int p0), .val (.int p1), .val (.long q2), .second, .val (.int p3), .val (.int (4 : Int32)), .val (.int (215 : Int32)), .val (.int gg), .val (.long cc), .second, .val (.int tp), .val (.int cl), .val (.ref b100), .val (.ref b107), .val (.long (((((((tp / gg) / gg) / gg) % gg).toInt64) * (gg.toInt64)) + ((((tp / gg) / gg) % gg).toInt64))), .second] [(.long (((((((tp / gg) / gg) / gg) % gg).toInt64) * (gg.toInt64)) + ((((tp / gg) / gg) % gg).toInt64)))]
    refine own_st (fun _ k => XS.iload X124.here hx rfl (hb hby at_239) rfl k) ?_
    show own_Go X124 (Q0 Z p0 p1 q2 p3 h0 n0) 2 8 241 #[.val (.int p0), .val (.int p1), .val (.long q2), .second, .val (.int p3), .val (.int (4 : Int32)), .val (.int (215 : Int32)), .val (.int gg), .val (.long cc), .second, .val (.int tp), .val (.int cl), .val (.ref b100), .val (.ref b107), .val (.long (((((((tp / gg) / gg) / gg) % gg).toInt64) * (gg.toInt64)) + ((((tp / gg) / gg) % gg).toInt64))), .second] [(.int gg), (.long (((((((tp / gg) / gg) / gg) % gg).toInt64) * (gg.toInt64)) + ((((tp / gg) / gg) % gg).toInt64)))]
    refine own_st (fun _ k => XS.i2l X124.here hx rfl (hb hby at_241) rfl k) ?_
    show own_Go X124 (Q0 Z p0 p1 q2 p3 h0 n0) 2 8 242 #[.val (.int p0), .val (.int p1), .val (.long q2), .second, .val (.int p3), .val (.int (4 : Int32)), .val (.int (215 : Int32)), .val (.int gg), .val (.long cc), .second, .val (.int tp), .val (.int cl), .val (.ref b100), .val (.ref b107), .val (.long (((((((tp / gg) / gg) / gg) % gg).toInt64) * (gg.toInt64)) + ((((tp / gg) / gg) % gg).toInt64))), .second] [(.long (gg.toInt64)), (.long (((((((tp / gg) / gg) / gg) % gg).toInt64) * (gg.toInt64)) + ((((tp / gg) / gg) % gg).toInt64)))]
    refine own_st (fun _ k => XS.lmul X124.here hx rfl (hb hby at_242) rfl k) ?_
    show own_Go X124 (Q0 Z p0 p1 q2 p3 h0 n0) 2 8 243 #[.val (.int p0), .val (.int p1), .val (.long q2), .second, .val (.int p3), .val (.int (4 : Int32)), .val (.int (215 : Int32)), .val (.int gg), .val (.long cc), .second, .val (.int tp), .val (.int cl), .val (.ref b100), .val (.ref b107), .val (.long (((((((tp / gg) / gg) / gg) % gg).toInt64) * (gg.toInt64)) + ((((tp / gg) / gg) % gg).toInt64))), .second] [(.long ((((((((tp / gg) / gg) / gg) % gg).toInt64) * (gg.toInt64)) + ((((tp / gg) / gg) % gg).toInt64)) * (gg.toInt64)))]
    refine own_st (fun _ k => XS.aload X124.here hx rfl (hb hby at_243) rfl rfl k) ?_
    show own_Go X124 (Q0 Z p0 p1 q2 p3 h0 n0) 2 8 245 #[.val (.int p0), .val (.int p1), .val (.long q2), .second, .val (.int p3), .val (.int (4 : Int32)), .val (.int (215 : Int32)), .val (.int gg), .val (.long cc), .second, .val (.int tp), .val (.int cl), .val (.ref b100), .val (.ref b107), .val (.long (((((((tp / gg) / gg) / gg) % gg).toInt64) * (gg.toInt64)) + ((((tp / gg) / gg) % gg).toInt64))), .second] [(.ref b107), (.long ((((((((tp / gg) / gg) / gg) % gg).toInt64) * (gg.toInt64)) + ((((tp / gg) / gg) % gg).toInt64)) * (gg.toInt64)))]
    refine own_st (fun _ k => XS.iconst X124.here hx rfl (hb hby at_245) k) ?_
    show own_Go X124 (Q0 Z p0 p1 q2 p3 h0 n0) 2 8 246 #[.val (.int p0), .val (.int p1), .val (.long q2), .second, .val (.int p3), .val (.int (4 : Int32)), .val (.int (215 : Int32)), .val (.int gg), .val (.long cc), .second, .val (.int tp), .val (.int cl), .val (.ref b100), .val (.ref b107), .val (.long (((((((tp / gg) / gg) / gg) % gg).toInt64) * (gg.toInt64)) + ((((tp / gg) / gg) % gg).toInt64))), .second] [(.int (2 : Int32)), (.ref b107), (.long ((((((((tp / gg) / gg) / gg) % gg).toInt64) * (gg.toInt64)) + ((((tp / gg) / gg) % gg).toInt64)) * (gg.toInt64)))]
    refine own_st (fun _ k => own_ldI X124 hx hZ e124 V107q (j := (2 : Int32)) ⟨by decide, by decide⟩ (v := (.int ((tp / gg) % gg))) rfl (g := (mkF m 246 #[.val (.int p0), .val (.int p1), .val (.long q2), .second, .val (.int p3), .val (.int (4 : Int32)), .val (.int (215 : Int32)), .val (.int gg), .val (.long cc), .second, .val (.int tp), .val (.int cl), .val (.ref b100), .val (.ref b107), .val (.long (((((((tp / gg) / gg) / gg) % gg).toInt64) * (gg.toInt64)) + ((((tp / gg) / gg) % gg).toInt64))), .second] [(.int (2 : Int32)), (.ref b107), (.long ((((((((tp / gg) / gg) / gg) % gg).toInt64) * (gg.toInt64)) + ((((tp / gg) / gg) % gg).toInt64)) * (gg.toInt64)))])) rfl rfl (hb hby at_246) _ k) ?_
    show own_Go X124 (Q0 Z p0 p1 q2 p3 h0 n0) 2 8 247 #[.val (.int p0), .val (.int p1), .val (.long q2), .second, .val (.int p3), .val (.int (4 : Int32)), .val (.int (215 : Int32)), .val (.int gg), .val (.long cc), .second, .val (.int tp), .val (.int cl), .val (.ref b100), .val (.ref b107), .val (.long (((((((tp / gg) / gg) / gg) % gg).toInt64) * (gg.toInt64)) + ((((tp / gg) / gg) % gg).toInt64))), .second] [(.int ((tp / gg) % gg)), (.long ((((((((tp / gg) / gg) / gg) % gg).toInt64) * (gg.toInt64)) + ((((tp / gg) / gg) % gg).toInt64)) * (gg.toInt64)))]
    refine own_st (fun _ k => XS.i2l X124.here hx rfl (hb hby at_247) rfl k) ?_
    show own_Go X124 (Q0 Z p0 p1 q2 p3 h0 n0) 2 8 248 #[.val (.int p0), .val (.int p1), .val (.long q2), .second, .val (.int p3), .val (.int (4 : Int32)), .val (.int (215 : Int32)), .val (.int gg), .val (.long cc), .second, .val (.int tp), .val (.int cl), .val (.ref b100), .val (.ref b107), .val (.long (((((((tp / gg) / gg) / gg) % gg).toInt64) * (gg.toInt64)) + ((((tp / gg) / gg) % gg).toInt64))), .second] [(.long (((tp / gg) % gg).toInt64)), (.long ((((((((tp / gg) / gg) / gg) % gg).toInt64) * (gg.toInt64)) + ((((tp / gg) / gg) % gg).toInt64)) * (gg.toInt64)))]
    refine own_st (fun _ k => XS.ladd X124.here hx rfl (hb hby at_248) rfl k) ?_
    show own_Go X124 (Q0 Z p0 p1 q2 p3 h0 n0) 2 8 249 #[.val (.int p0), .val (.int p1), .val (.long q2), .second, .val (.int p3), .val (.int (4 : Int32)), .val (.int (215 : Int32)), .val (.int gg), .val (.long cc), .second, .val (.int tp), .val (.int cl), .val (.ref b100), .val (.ref b107), .val (.long (((((((tp / gg) / gg) / gg) % gg).toInt64) * (gg.toInt64)) + ((((tp / gg) / gg) % gg).toInt64))), .second] [(.long (((((((((tp / gg) / gg) / gg) % gg).toInt64) * (gg.toInt64)) + ((((tp / gg) / gg) % gg).toInt64)) * (gg.toInt64)) + (((tp / gg) % gg).toInt64)))]
    refine own_st (fun _ k => XS.lstore X124.here hx rfl (hb hby at_249) rfl (l' := #[.val (.int p0), .val (.int p1), .val (.long q2), .second, .val (.int p3), .val (.int (4 : Int32)), .val (.int (215 : Int32)), .val (.int gg), .val (.long cc), .second, .val (.int tp), .val (.int cl), .val (.ref b100), .val (.ref b107), .val (.long (((((((((tp / gg) / gg) / gg) % gg).toInt64) * (gg.toInt64)) + ((((tp / gg) / gg) % gg).toInt64)) * (gg.toInt64)) + (((tp / gg) % gg).toInt64))), .second]) rfl k) ?_
    show own_Go X124 (Q0 Z p0 p1 q2 p3 h0 n0) 2 8 251 #[.val (.int p0), .val (.int p1), .val (.long q2), .second, .val (.int p3), .val (.int (4 : Int32)), .val (.int (215 : Int32)), .val (.int gg), .val (.long cc), .second, .val (.int tp), .val (.int cl), .val (.ref b100), .val (.ref b107), .val (.long (((((((((tp / gg) / gg) / gg) % gg).toInt64) * (gg.toInt64)) + ((((tp / gg) / gg) % gg).toInt64)) * (gg.toInt64)) + (((tp / gg) % gg).toInt64))), .second] []
    refine own_st (fun _ k => XS.iload X124.here hx rfl (hb hby at_251) rfl k) ?_
    show own_Go X124 (Q0 Z p0 p1 q2 p3 h0 n0) 2 8 253 #[.val (.int p0), .val (.int p1), .val (.long q2), .second, .val (.int p3), .val (.int (4 : Int32)), .val (.int (215 : Int32)), .val (.int gg), .val (.long cc), .second, .val (.int tp), .val (.int cl), .val (.ref b100), .val (.ref b107), .val (.long (((((((((tp / gg) / gg) / gg) % gg).toInt64) * (gg.toInt64)) + ((((tp / gg) / gg) % gg).toInt64)) * (gg.toInt64)) + (((tp / gg) % gg).toInt64))), .second] [(.int (4 : Int32))]
    refine own_st (fun _ k => XS.iconst X124.here hx rfl (hb hby at_253) k) ?_
    show own_Go X124 (Q0 Z p0 p1 q2 p3 h0 n0) 2 8 254 #[.val (.int p0), .val (.int p1), .val (.long q2), .second, .val (.int p3), .val (.int (4 : Int32)), .val (.int (215 : Int32)), .val (.int gg), .val (.long cc), .second, .val (.int tp), .val (.int cl), .val (.ref b100), .val (.ref b107), .val (.long (((((((((tp / gg) / gg) / gg) % gg).toInt64) * (gg.toInt64)) + ((((tp / gg) / gg) % gg).toInt64)) * (gg.toInt64)) + (((tp / gg) % gg).toInt64))), .second] [(.int (4 : Int32)), (.int (4 : Int32))]
    have c254_127 : ¬ ((4 : Int32) < (4 : Int32)) := (by decide)
    refine own_st (fun _ k => XS.icmpNo X124.here hx rfl (hb hby at_254) rfl (flt c254_127).1 k) ?_
    show own_Go X124 (Q0 Z p0 p1 q2 p3 h0 n0) 2 8 257 #[.val (.int p0), .val (.int p1), .val (.long q2), .second, .val (.int p3), .val (.int (4 : Int32)), .val (.int (215 : Int32)), .val (.int gg), .val (.long cc), .second, .val (.int tp), .val (.int cl), .val (.ref b100), .val (.ref b107), .val (.long (((((((((tp / gg) / gg) / gg) % gg).toInt64) * (gg.toInt64)) + ((((tp / gg) / gg) % gg).toInt64)) * (gg.toInt64)) + (((tp / gg) % gg).toInt64))), .second] []
    refine own_st (fun _ k => XS.aload X124.here hx rfl (hb hby at_257) rfl rfl k) ?_
    show own_Go X124 (Q0 Z p0 p1 q2 p3 h0 n0) 2 8 259 #[.val (.int p0), .val (.int p1), .val (.long q2), .second, .val (.int p3), .val (.int (4 : Int32)), .val (.int (215 : Int32)), .val (.int gg), .val (.long cc), .second, .val (.int tp), .val (.int cl), .val (.ref b100), .val (.ref b107), .val (.long (((((((((tp / gg) / gg) / gg) % gg).toInt64) * (gg.toInt64)) + ((((tp / gg) / gg) % gg).toInt64)) * (gg.toInt64)) + (((tp / gg) % gg).toInt64))), .second] [(.ref b107)]
    refine own_st (fun _ k => XS.iconst X124.here hx rfl (hb hby at_259) k) ?_
    show own_Go X124 (Q0 Z p0 p1 q2 p3 h0 n0) 2 8 260 #[.val (.int p0), .val (.int p1), .val (.long q2), .second, .val (.int p3), .val (.int (4 : Int32)), .val (.int (215 : Int32)), .val (.int gg), .val (.long cc), .second, .val (.int tp), .val (.int cl), .val (.ref b100), .val (.ref b107), .val (.long (((((((((tp / gg) / gg) / gg) % gg).toInt64) * (gg.toInt64)) + ((((tp / gg) / gg) % gg).toInt64)) * (gg.toInt64)) + (((tp / gg) % gg).toInt64))), .second] [(.int (3 : Int32)), (.ref b107)]
    refine own_st (fun _ k => own_ldI X124 hx hZ e124 V107q (j := (3 : Int32)) ⟨by decide, by decide⟩ (v := (.int (tp % gg))) rfl (g := (mkF m 260 #[.val (.int p0), .val (.int p1), .val (.long q2), .second, .val (.int p3), .val (.int (4 : Int32)), .val (.int (215 : Int32)), .val (.int gg), .val (.long cc), .second, .val (.int tp), .val (.int cl), .val (.ref b100), .val (.ref b107), .val (.long (((((((((tp / gg) / gg) / gg) % gg).toInt64) * (gg.toInt64)) + ((((tp / gg) / gg) % gg).toInt64)) * (gg.toInt64)) + (((tp / gg) % gg).toInt64))), .second] [(.int (3 : Int32)), (.ref b107)])) rfl rfl (hb hby at_260) _ k) ?_
    show own_Go X124 (Q0 Z p0 p1 q2 p3 h0 n0) 2 8 261 #[.val (.int p0), .val (.int p1), .val (.long q2), .second, .val (.int p3), .val (.int (4 : Int32)), .val (.int (215 : Int32)), .val (.int gg), .val (.long cc), .second, .val (.int tp), .val (.int cl), .val (.ref b100), .val (.ref b107), .val (.long (((((((((tp / gg) / gg) / gg) % gg).toInt64) * (gg.toInt64)) + ((((tp / gg) / gg) % gg).toInt64)) * (gg.toInt64)) + (((tp / gg) % gg).toInt64))), .second] [(.int (tp % gg))]
    refine own_st (fun _ k => XS.iload X124.here hx rfl (hb hby at_261) rfl k) ?_
    show own_Go X124 (Q0 Z p0 p1 q2 p3 h0 n0) 2 8 263 #[.val (.int p0), .val (.int p1), .val (.long q2), .second, .val (.int p3), .val (.int (4 : Int32)), .val (.int (215 : Int32)), .val (.int gg), .val (.long cc), .second, .val (.int tp), .val (.int cl), .val (.ref b100), .val (.ref b107), .val (.long (((((((((tp / gg) / gg) / gg) % gg).toInt64) * (gg.toInt64)) + ((((tp / gg) / gg) % gg).toInt64)) * (gg.toInt64)) + (((tp / gg) % gg).toInt64))), .second] [(.int gg), (.int (tp % gg))]
    refine own_callS (W := 0) X124 hx hZ hown (hw _ (List.mem_of_getElem? (i := 35) rfl)) (hw _ (List.mem_of_getElem? (i := 36) rfl)) (hw _ (List.mem_of_getElem? (i := 37) rfl)) (hw _ (List.mem_of_getElem? (i := 38) rfl)) (by decide) (rm6 l Z a0 hw [] (tp % gg) gg  T107.heap n0 Z_114 ) (by decide) (by decide) (by rw [hml]; rfl) [(.int (tp % gg)), (.int gg)] [] (lenOf pd_0_2 rfl) rfl rfl (Nat.le_of_ble_eq_true rfl) (hb hby at_263) e124 (by decide) (by decide) ?_
    rintro _ T128 L128 X128 ⟨rfl, N128q, e128⟩
    have N_129 := Fr.app N_125 N128q
    show own_Go X128 (Q0 Z p0 p1 q2 p3 h0 n0) 2 8 266 #[.val (.int p0), .val (.int p1), .val (.long q2), .second, .val (.int p3), .val (.int (4 : Int32)), .val (.int (215 : Int32)), .val (.int gg), .val (.long cc), .second, .val (.int tp), .val (.int cl), .val (.ref b100), .val (.ref b107), .val (.long (((((((((tp / gg) / gg) / gg) % gg).toInt64) * (gg.toInt64)) + ((((tp / gg) / gg) % gg).toInt64)) * (gg.toInt64)) + (((tp / gg) % gg).toInt64))), .second] [(.int (own_ir (tp % gg) gg))]
    have c266_130 : ¬ ((own_ir (tp % gg) gg) = (0 : Int32)) := own_ir1 k0 hG.1
    refine own_st (fun _ k => XS.ifYes X128.here hx rfl (pc0 := 266) (pc' := 271) rfl (hb hby at_266) rfl ((if0 _ _).trans (feq c266_130).2) (by decide) (by decide) k) ?_
    show own_Go X128 (Q0 Z p0 p1 q2 p3 h0 n0) 2 8 271 #[.val (.int p0), .val (.int p1), .val (.long q2), .second, .val (.int p3), .val (.int (4 : Int32)), .val (.int (215 : Int32)), .val (.int gg), .val (.long cc), .second, .val (.int tp), .val (.int cl), .val (.ref b100), .val (.ref b107), .val (.long (((((((((tp / gg) / gg) / gg) % gg).toInt64) * (gg.toInt64)) + ((((tp / gg) / gg) % gg).toInt64)) * (gg.toInt64)) + (((tp / gg) % gg).toInt64))), .second] []
    refine own_st (fun _ k => XS.lload X128.here hx rfl (hb hby at_271) rfl k) ?_
    show own_Go X128 (Q0 Z p0 p1 q2 p3 h0 n0) 2 8 273 #[.val (.int p0), .val (.int p1), .val (.long q2), .second, .val (.int p3), .val (.int (4 : Int32)), .val (.int (215 : Int32)), .val (.int gg), .val (.long cc), .second, .val (.int tp), .val (.int cl), .val (.ref b100), .val (.ref b107), .val (.long (((((((((tp / gg) / gg) / gg) % gg).toInt64) * (gg.toInt64)) + ((((tp / gg) / gg) % gg).toInt64)) * (gg.toInt64)) + (((tp / gg) % gg).toInt64))), .second] [(.long (((((((((tp / gg) / gg) / gg) % gg).toInt64) * (gg.toInt64)) + ((((tp / gg) / gg) % gg).toInt64)) * (gg.toInt64)) + (((tp / gg) % gg).toInt64)))]
    refine own_st (fun _ k => XS.iload X128.here hx rfl (hb hby at_273) rfl k) ?_
    show own_Go X128 (Q0 Z p0 p1 q2 p3 h0 n0) 2 8 275 #[.val (.int p0), .val (.int p1), .val (.long q2), .second, .val (.int p3), .val (.int (4 : Int32)), .val (.int (215 : Int32)), .val (.int gg), .val (.long cc), .second, .val (.int tp), .val (.int cl), .val (.ref b100), .val (.ref b107), .val (.long (((((((((tp / gg) / gg) / gg) % gg).toInt64) * (gg.toInt64)) + ((((tp / gg) / gg) % gg).toInt64)) * (gg.toInt64)) + (((tp / gg) % gg).toInt64))), .second] [(.int gg), (.long (((((((((tp / gg) / gg) / gg) % gg).toInt64) * (gg.toInt64)) + ((((tp / gg) / gg) % gg).toInt64)) * (gg.toInt64)) + (((tp / gg) % gg).toInt64)))]
    refine own_st (fun _ k => XS.i2l X128.here hx rfl (hb hby at_275) rfl k) ?_
    show own_Go X128 (Q0 Z p0 p1 q2 p3 h0 n0) 2 8 276 #[.val (.int p0), .val (.int p1), .val (.long q2), .second, .val (.int p3), .val (.int (4 : Int32)), .val (.int (215 : Int32)), .val (.int gg), .val (.long cc), .second, .val (.int tp), .val (.int cl), .val (.ref b100), .val (.ref b107), .val (.long (((((((((tp / gg) / gg) / gg) % gg).toInt64) * (gg.toInt64)) + ((((tp / gg) / gg) % gg).toInt64)) * (gg.toInt64)) + (((tp / gg) % gg).toInt64))), .second] [(.long (gg.toInt64)), (.long (((((((((tp / gg) / gg) / gg) % gg).toInt64) * (gg.toInt64)) + ((((tp / gg) / gg) % gg).toInt64)) * (gg.toInt64)) + (((tp / gg) % gg).toInt64)))]
    refine own_st (fun _ k => XS.lmul X128.here hx rfl (hb hby at_276) rfl k) ?_
    show own_Go X128 (Q0 Z p0 p1 q2 p3 h0 n0) 2 8 277 #[.val (.int p0), .val (.int p1), .val (.long q2), .second, .val (.int p3), .val (.int (4 : Int32)), .val (.int (215 : Int32)), .val (.int gg), .val (.long cc), .second, .val (.int tp), .val (.int cl), .val (.ref b100), .val (.ref b107), .val (.long (((((((((tp / gg) / gg) / gg) % gg).toInt64) * (gg.toInt64)) + ((((tp / gg) / gg) % gg).toInt64)) * (gg.toInt64)) + (((tp / gg) % gg).toInt64))), .second] [(.long ((((((((((tp / gg) / gg) / gg) % gg).toInt64) * (gg.toInt64)) + ((((tp / gg) / gg) % gg).toInt64)) * (gg.toInt64)) + (((tp / gg) % gg).toInt64)) * (gg.toInt64)))]
    refine own_st (fun _ k => XS.aload X128.here hx rfl (hb hby at_277) rfl rfl k) ?_
    show own_Go X128 (Q0 Z p0 p1 q2 p3 h0 n0) 2 8 279 #[.val (.int p0), .val (.int p1), .val (.long q2), .second, .val (.int p3), .val (.int (4 : Int32)), .val (.int (215 : Int32)), .val (.int gg), .val (.long cc), .second, .val (.int tp), .val (.int cl), .val (.ref b100), .val (.ref b107), .val (.long (((((((((tp / gg) / gg) / gg) % gg).toInt64) * (gg.toInt64)) + ((((tp / gg) / gg) % gg).toInt64)) * (gg.toInt64)) + (((tp / gg) % gg).toInt64))), .second] [(.ref b107), (.long ((((((((((tp / gg) / gg) / gg) % gg).toInt64) * (gg.toInt64)) + ((((tp / gg) / gg) % gg).toInt64)) * (gg.toInt64)) + (((tp / gg) % gg).toInt64)) * (gg.toInt64)))]
    refine own_st (fun _ k => XS.iconst X128.here hx rfl (hb hby at_279) k) ?_
    show own_Go X128 (Q0 Z p0 p1 q2 p3 h0 n0) 2 8 280 #[.val (.int p0), .val (.int p1), .val (.long q2), .second, .val (.int p3), .val (.int (4 : Int32)), .val (.int (215 : Int32)), .val (.int gg), .val (.long cc), .second, .val (.int tp), .val (.int cl), .val (.ref b100), .val (.ref b107), .val (.long (((((((((tp / gg) / gg) / gg) % gg).toInt64) * (gg.toInt64)) + ((((tp / gg) / gg) % gg).toInt64)) * (gg.toInt64)) + (((tp / gg) % gg).toInt64))), .second] [(.int (3 : Int32)), (.ref b107), (.long ((((((((((tp / gg) / gg) / gg) % gg).toInt64) * (gg.toInt64)) + ((((tp / gg) / gg) % gg).toInt64)) * (gg.toInt64)) + (((tp / gg) % gg).toInt64)) * (gg.toInt64)))]
    refine own_st (fun _ k => own_ldI X128 hx hZ e128 V107q (j := (3 : Int32)) ⟨by decide, by decide⟩ (v := (.int (tp % gg))) rfl (g := (mkF m 280 #[.val (.int p0), .val (.int p1), .val (.long q2), .second, .val (.int p3), .val (.int (4 : Int32)), .val (.int (215 : Int32)), .val (.int gg), .val (.long cc), .second, .val (.int tp), .val (.int cl), .val (.ref b100), .val (.ref b107), .val (.long (((((((((tp / gg) / gg) / gg) % gg).toInt64) * (gg.toInt64)) + ((((tp / gg) / gg) % gg).toInt64)) * (gg.toInt64)) + (((tp / gg) % gg).toInt64))), .second] [(.int (3 : Int32)), (.ref b107), (.long ((((((((((tp / gg) / gg) / gg) % gg).toInt64) * (gg.toInt64)) + ((((tp / gg) / gg) % gg).toInt64)) * (gg.toInt64)) + (((tp / gg) % gg).toInt64)) * (gg.toInt64)))])) rfl rfl (hb hby at_280) _ k) ?_
    show own_Go X128 (Q0 Z p0 p1 q2 p3 h0 n0) 2 8 281 #[.val (.int p0), .val (.int p1), .val (.long q2), .second, .val (.int p3), .val (.int (4 : Int32)), .val (.int (215 : Int32)), .val (.int gg), .val (.long cc), .second, .val (.int tp), .val (.int cl), .val (.ref b100), .val (.ref b107), .val (.long (((((((((tp / gg) / gg) / gg) % gg).toInt64) * (gg.toInt64)) + ((((tp / gg) / gg) % gg).toInt64)) * (gg.toInt64)) + (((tp / gg) % gg).toInt64))), .second] [(.int (tp % gg)), (.long ((((((((((tp / gg) / gg) / gg) % gg).toInt64) * (gg.toInt64)) + ((((tp / gg) / gg) % gg).toInt64)) * (gg.toInt64)) + (((tp / gg) % gg).toInt64)) * (gg.toInt64)))]
    refine own_st (fun _ k => XS.i2l X128.here hx rfl (hb hby at_281) rfl k) ?_
    show own_Go X128 (Q0 Z p0 p1 q2 p3 h0 n0) 2 8 282 #[.val (.int p0), .val (.int p1), .val (.long q2), .second, .val (.int p3), .val (.int (4 : Int32)), .val (.int (215 : Int32)), .val (.int gg), .val (.long cc), .second, .val (.int tp), .val (.int cl), .val (.ref b100), .val (.ref b107), .val (.long (((((((((tp / gg) / gg) / gg) % gg).toInt64) * (gg.toInt64)) + ((((tp / gg) / gg) % gg).toInt64)) * (gg.toInt64)) + (((tp / gg) % gg).toInt64))), .second] [(.long ((tp % gg).toInt64)), (.long ((((((((((tp / gg) / gg) / gg) % gg).toInt64) * (gg.toInt64)) + ((((tp / gg) / gg) % gg).toInt64)) * (gg.toInt64)) + (((tp / gg) % gg).toInt64)) * (gg.toInt64)))]
    refine own_st (fun _ k => XS.ladd X128.here hx rfl (hb hby at_282) rfl k) ?_
    show own_Go X128 (Q0 Z p0 p1 q2 p3 h0 n0) 2 8 283 #[.val (.int p0), .val (.int p1), .val (.long q2), .second, .val (.int p3), .val (.int (4 : Int32)), .val (.int (215 : Int32)), .val (.int gg), .val (.long cc), .second, .val (.int tp), .val (.int cl), .val (.ref b100), .val (.ref b107), .val (.long (((((((((tp / gg) / gg) / gg) % gg).toInt64) * (gg.toInt64)) + ((((tp / gg) / gg) % gg).toInt64)) * (gg.toInt64)) + (((tp / gg) % gg).toInt64))), .second] [(.long (((((((((((tp / gg) / gg) / gg) % gg).toInt64) * (gg.toInt64)) + ((((tp / gg) / gg) % gg).toInt64)) * (gg.toInt64)) + (((tp / gg) % gg).toInt64)) * (gg.toInt64)) + ((tp % gg).toInt64)))]
    refine own_st (fun _ k => XS.lstore X128.here hx rfl (hb hby at_283) rfl (l' := #[.val (.int p0), .val (.int p1), .val (.long q2), .second, .val (.int p3), .val (.int (4 : Int32)), .val (.int (215 : Int32)), .val (.int gg), .val (.long cc), .second, .val (.int tp), .val (.int cl), .val (.ref b100), .val (.ref b107), .val (.long (((((((((((tp / gg) / gg) / gg) % gg).toInt64) * (gg.toInt64)) + ((((tp / gg) / gg) % gg).toInt64)) * (gg.toInt64)) + (((tp / gg) % gg).toInt64)) * (gg.toInt64)) + ((tp % gg).toInt64))), .second]) rfl k) ?_
    show own_Go X128 (Q0 Z p0 p1 q2 p3 h0 n0) 2 8 285 #[.val (.int p0), .val (.int p1), .val (.long q2), .second, .val (.int p3), .val (.int (4 : Int32)), .val (.int (215 : Int32)), .val (.int gg), .val (.long cc), .second, .val (.int tp), .val (.int cl), .val (.ref b100), .val (.ref b107), .val (.long (((((((((((tp / gg) / gg) / gg) % gg).toInt64) * (gg.toInt64)) + ((((tp / gg) / gg) % gg).toInt64)) * (gg.toInt64)) + (((tp / gg) % gg).toInt64)) * (gg.toInt64)) + ((tp % gg).toInt64))), .second] []
    refine own_st (fun _ k => XS.lload X128.here hx rfl (hb hby at_285) rfl k) ?_
    show own_Go X128 (Q0 Z p0 p1 q2 p3 h0 n0) 2 8 287 #[.val (.int p0), .val (.int p1), .val (.long q2), .second, .val (.int p3), .val (.int (4 : Int32)), .val (.int (215 : Int32)), .val (.int gg), .val (.long cc), .second, .val (.int tp), .val (.int cl), .val (.ref b100), .val (.ref b107), .val (.long (((((((((((tp / gg) / gg) / gg) % gg).toInt64) * (gg.toInt64)) + ((((tp / gg) / gg) % gg).toInt64)) * (gg.toInt64)) + (((tp / gg) % gg).toInt64)) * (gg.toInt64)) + ((tp % gg).toInt64))), .second] [(.long (((((((((((tp / gg) / gg) / gg) % gg).toInt64) * (gg.toInt64)) + ((((tp / gg) / gg) % gg).toInt64)) * (gg.toInt64)) + (((tp / gg) % gg).toInt64)) * (gg.toInt64)) + ((tp % gg).toInt64)))]
    refine own_st (fun _ k => XS.iload X128.here hx rfl (hb hby at_287) rfl k) ?_
    show own_Go X128 (Q0 Z p0 p1 q2 p3 h0 n0) 2 8 289 #[.val (.int p0), .val (.int p1), .val (.long q2), .second, .val (.int p3), .val (.int (4 : Int32)), .val (.int (215 : Int32)), .val (.int gg), .val (.long cc), .second, .val (.int tp), .val (.int cl), .val (.ref b100), .val (.ref b107), .val (.long (((((((((((tp / gg) / gg) / gg) % gg).toInt64) * (gg.toInt64)) + ((((tp / gg) / gg) % gg).toInt64)) * (gg.toInt64)) + (((tp / gg) % gg).toInt64)) * (gg.toInt64)) + ((tp % gg).toInt64))), .second] [(.int tp), (.long (((((((((((tp / gg) / gg) / gg) % gg).toInt64) * (gg.toInt64)) + ((((tp / gg) / gg) % gg).toInt64)) * (gg.toInt64)) + (((tp / gg) % gg).toInt64)) * (gg.toInt64)) + ((tp % gg).toInt64)))]
    refine own_st (fun _ k => XS.i2l X128.here hx rfl (hb hby at_289) rfl k) ?_
    show own_Go X128 (Q0 Z p0 p1 q2 p3 h0 n0) 2 8 290 #[.val (.int p0), .val (.int p1), .val (.long q2), .second, .val (.int p3), .val (.int (4 : Int32)), .val (.int (215 : Int32)), .val (.int gg), .val (.long cc), .second, .val (.int tp), .val (.int cl), .val (.ref b100), .val (.ref b107), .val (.long (((((((((((tp / gg) / gg) / gg) % gg).toInt64) * (gg.toInt64)) + ((((tp / gg) / gg) % gg).toInt64)) * (gg.toInt64)) + (((tp / gg) % gg).toInt64)) * (gg.toInt64)) + ((tp % gg).toInt64))), .second] [(.long (tp.toInt64)), (.long (((((((((((tp / gg) / gg) / gg) % gg).toInt64) * (gg.toInt64)) + ((((tp / gg) / gg) % gg).toInt64)) * (gg.toInt64)) + (((tp / gg) % gg).toInt64)) * (gg.toInt64)) + ((tp % gg).toInt64)))]
    refine own_st (fun _ k => XS.lcmp X128.here hx rfl (hb hby at_290) rfl k) ?_
    show own_Go X128 (Q0 Z p0 p1 q2 p3 h0 n0) 2 8 291 #[.val (.int p0), .val (.int p1), .val (.long q2), .second, .val (.int p3), .val (.int (4 : Int32)), .val (.int (215 : Int32)), .val (.int gg), .val (.long cc), .second, .val (.int tp), .val (.int cl), .val (.ref b100), .val (.ref b107), .val (.long (((((((((((tp / gg) / gg) / gg) % gg).toInt64) * (gg.toInt64)) + ((((tp / gg) / gg) % gg).toInt64)) * (gg.toInt64)) + (((tp / gg) % gg).toInt64)) * (gg.toInt64)) + ((tp % gg).toInt64))), .second] [(.int (lcmpW (((((((((((tp / gg) / gg) / gg) % gg).toInt64) * (gg.toInt64)) + ((((tp / gg) / gg) % gg).toInt64)) * (gg.toInt64)) + (((tp / gg) % gg).toInt64)) * (gg.toInt64)) + ((tp % gg).toInt64)) (tp.toInt64)))]
    have c291_131 : (((((((((((tp / gg) / gg) / gg) % gg).toInt64) * (gg.toInt64)) + ((((tp / gg) / gg) % gg).toInt64)) * (gg.toInt64)) + (((tp / gg) % gg).toInt64)) * (gg.toInt64)) + ((tp % gg).toInt64)) = (tp.toInt64) := Int64.toInt_inj.mp (by rw [c_i2l tp]; exact (own_hs k0 hG.1 (own_hs k1 hG.1 (own_hs k2 hG.1 (own_h0 k3 l3)))))
    refine own_st (fun _ k => XS.ifNo X128.here hx rfl (hb hby at_291) rfl ((if0 _ _).trans (teq ((lw_eq _ _).mpr c291_131)).2) k) ?_
    show own_Go X128 (Q0 Z p0 p1 q2 p3 h0 n0) 2 8 294 #[.val (.int p0), .val (.int p1), .val (.long q2), .second, .val (.int p3), .val (.int (4 : Int32)), .val (.int (215 : Int32)), .val (.int gg), .val (.long cc), .second, .val (.int tp), .val (.int cl), .val (.ref b100), .val (.ref b107), .val (.long (((((((((((tp / gg) / gg) / gg) % gg).toInt64) * (gg.toInt64)) + ((((tp / gg) / gg) % gg).toInt64)) * (gg.toInt64)) + (((tp / gg) % gg).toInt64)) * (gg.toInt64)) + ((tp % gg).toInt64))), .second] []
    refine own_st (fun _ k => XS.iconst X128.here hx rfl (hb hby at_294) k) ?_
    show own_Go X128 (Q0 Z p0 p1 q2 p3 h0 n0) 2 8 295 #[.val (.int p0), .val (.int p1), .val (.long q2), .second, .val (.int p3), .val (.int (4 : Int32)), .val (.int (215 : Int32)), .val (.int gg), .val (.long cc), .second, .val (.int tp), .val (.int cl), .val (.ref b100), .val (.ref b107), .val (.long (((((((((((tp / gg) / gg) / gg) % gg).toInt64) * (gg.toInt64)) + ((((tp / gg) / gg) % gg).toInt64)) * (gg.toInt64)) + (((tp / gg) % gg).toInt64)) * (gg.toInt64)) + ((tp % gg).toInt64))), .second] [(.int (1 : Int32))]
    refine own_st (fun _ k => XS.goto X128.here hx rfl (pc0 := 295) (pc' := 299) rfl (hb hby at_295) (by decide) (by decide) k) ?_
    show own_Go X128 (Q0 Z p0 p1 q2 p3 h0 n0) 2 8 299 #[.val (.int p0), .val (.int p1), .val (.long q2), .second, .val (.int p3), .val (.int (4 : Int32)), .val (.int (215 : Int32)), .val (.int gg), .val (.long cc), .second, .val (.int tp), .val (.int cl), .val (.ref b100), .val (.ref b107), .val (.long (((((((((((tp / gg) / gg) / gg) % gg).toInt64) * (gg.toInt64)) + ((((tp / gg) / gg) % gg).toInt64)) * (gg.toInt64)) + (((tp / gg) % gg).toInt64)) * (gg.toInt64)) + ((tp % gg).toInt64))), .second] [(.int (1 : Int32))]
    refine own_retN X128 hx Bd.returns (by simp) hlk e128 (hb hby at_299) (by decide) (by decide) ?_
    exact ⟨rfl, N_129⟩
set_option maxRecDepth 65536 in
set_option maxHeartbeats 40000000 in
theorem comes_1 {Post : Tables → Env → Array Value → State → Outcome → State → Prop} (hpost : ∀ tb e args s v u, (limb_1_1.after args s (.returned v) u = true ∧ limb_1_2.after args s (.returned v) u = true ∧ True) → FrameEnd s (.returned v) u (Jvm.fieldLocs frame_1_writes args s ++ Jvm.arrayLocs frame_1_arrays args s ++ Jvm.staticLocs frame_1_statics s) 16 128 → Post tb e args s (.returned v) u) :
    ArmFor flags0 classFile x code maxLocals ret World_1 tables_1 room_1 Calls_1 rest_1 Pre_1 Post := by
  intro l hfl _ _ p e ha hc hk s m args below hf hA hF happ hP
  obtain ⟨hcalls, hrest, hpre⟩ := hP
  obtain ⟨-, -, -, hnamed, -, -, -, hat⟩ := (Spec.applies_iff hf).mp happ
  obtain ⟨hg, hn⟩ := and_e (Cond.before_iff.mp (show (Jvm.Cond.and given_1 narrow_1).before args s = true from hpre))
  obtain ⟨g1, g2⟩ := and_e hg
  obtain ⟨g3, g4⟩ := and_e g2
  obtain ⟨g5, g6⟩ := and_e g4
  obtain ⟨g7, g8⟩ := and_e g6
  obtain ⟨w0, w1, w2, w3, rfl⟩ : ∃ w0 w1 w2 w3 : Value, args = #[w0, w1, w2, w3] := by
    have hs : args.size = 4 := by simpa [Cond.value, given_1] using g1
    obtain ⟨L⟩ := args
    match L, hs with
    | [w0, w1, w2, w3], _ => exact ⟨w0, w1, w2, w3, rfl⟩
  have hw := fun d (hd : d ∈ tables_1) => atoms_spec (ws := Jvm.Cond.code x code maxLocals ret :: tables_1) hat d (List.mem_cons_of_mem _ hd)
  obtain ⟨i0, ei0⟩ := is_v g3
  obtain rfl : w0 = (.int i0) := Option.some.inj ei0
  obtain ⟨i1, ei1⟩ := is_v g5
  obtain rfl : w1 = (.int i1) := Option.some.inj ei1
  obtain ⟨i2, ei2⟩ := isL_v g7
  obtain rfl : w2 = (.long i2) := Option.some.inj ei2
  obtain ⟨i3, ei3⟩ := is_v g8
  obtain rfl : w3 = (.int i3) := Option.some.inj ei3
  obtain ⟨n, o, h1, h2, h3, _, L, rfl, ⟨rfl, N⟩, hq⟩ := rm0 l s _ hw tables_1 i0 i1 i2 i3 s.heap s.heap.size (Nat.le_refl _) p e ha hc hk s m _ below hf ((Spec.applies_iff_loose hf).mp happ).1 ⟨rfl, State.Warmed39.refl s, rfl⟩ trivial
  refine ⟨n, _, h1, h2, h3, hpost _ _ _ _ _ _ ⟨Cond.after_iff.mpr rfl, Cond.after_iff.mpr (eq_i res_at (Term.int_eval (1)) rfl), trivial⟩ ⟨hq.1, hq.2.1, (hq.2.2.sift fun y hy => Or.inr (N y hy)).mono (by decide) (by decide)⟩⟩
theorem main_1_1 : Claimed_1_1 := comes_1 fun _ _ _ _ _ _ h hF => ⟨h.1, hF⟩
theorem main_1_2 : Claimed_1_2 := comes_1 fun _ _ _ _ _ _ h hF => ⟨h.2.1, hF⟩
end Jvm.Pilot.@@N@@
namespace Jvm.Pilot.@@N@@
open Jvm Jvm.ClassFile Sem Op Lib Jvm.Free Jvm.Stand Jvm.Pilot.@@N@@.Jvm.D
/-! MADE BY PROGRAM (witnessworld.py) out of the Statement's table words and the real class files: 10 classes; the members and pool entries that the words name. The judged class is class 1, her method 2. -/
namespace start1
open Jvm.ClassFile
def u (s : String) : CpInfo := .utf8 (stringToUtf16 s)
/-- a pool by its gaps: so many unusable entries, then the entry; so many at the end -/
def gap : Nat → List CpInfo → List CpInfo
  | 0, r => r
  | n + 1, r => .unusable :: gap n r
def poolList (es : List (Nat × CpInfo)) (last : Nat) : List CpInfo := es.foldr (fun e r => gap e.1 (e.2 :: r)) (gap last [])
def pool (es : List (Nat × CpInfo)) (last : Nat) : Array CpInfo := ⟨poolList es last⟩
def fileOf (pool : Array CpInfo) (this : Nat) (attrs : Array Attribute := #[]) (ms : Array MethodInfo := #[]) (fl : Nat := 33) (sup : Nat := 0) (ifs : Array Nat := #[]) (fds : Array FieldInfo := #[]) : ClassFile where
  minorVersion := 0
  majorVersion := 65
  constantPool := pool
  accessFlags := fl
  thisClass := this
  superClass := sup
  interfaces := ifs
  fields := fds
  methods := ms
  attributes := attrs
def plain (name : String) (sup : Option ClassId) : Class where
  name := name
  kind := .ordinary
  loader := none
  accessFlags := 33
  super := sup
  interfaces := #[]
  cf := none
  fields := #[]
  methods := #[]
  instanceTypes := #[]
  staticTypes := #[]
  resolved := #[]
  callSites := []
  init := .initialized
  statics := none
  mirror := none

def pool0 : Array CpInfo := pool [(5, u "<init>"), (0, u "()V"), (1, .class_ 10), (1, u "java/lang/Object")] 113

def k0c0 : Code := { maxStack := 0, maxLocals := 1, code := object_method_1_code, exceptionTable := #[], attributes := #[] }
def k0m0 : Method := { name := "<init>", desc := "()V", sig := { parameters := [], returnType := none }, accessFlags := 1, code := some k0c0 }
/-- java/lang/Object -/
def k0 : Class := { plain "java/lang/Object" none with
  accessFlags := 33
  interfaces := #[]
  cf := some (fileOf pool0 8 #[] #[{ accessFlags := 1, nameIndex := 5, descriptorIndex := 6, attributes := #[] }] 33 0 #[] #[])
  fields := #[]
  methods := #[k0m0]
  instanceTypes := #[]
  staticTypes := #[]
  resolved := Array.replicate 124 none
  statics := none }

def pool1 : Array CpInfo := pool [(2, .class_ 4), (1, u "java/lang/Object"), (0, u "<init>"), (0, u "()V"), (0, .integer 2147483639), (0, .integer 46340), (0, .integer 2147483647), (0, .long 9223372036854775807), (1, .class_ 13), (0, u "com/example/gingham/gingham/designs/CoveringArraySpec"), (0, .methodref 12 15), (0, .nameAndType 5 16), (0, u "(IIII)V"), (0, .methodref 12 18), (0, .nameAndType 19 20), (0, u "tupleValues"), (0, u "(I)[I"), (0, .methodref 22 23), (0, .class_ 24), (0, .nameAndType 25 26), (0, u "com/example/gingham/gingham/designs/CoveringArraySpecTupleValuesPinLaw"), (0, u "inRange"), (0, u "(II)Z"), (3, u "law"), (0, u "(IIJI)Z")] 4

def k1m0 : Method := { name := "<init>", desc := "()V", sig := { parameters := [], returnType := none }, accessFlags := 2, code := none }
def k1c1 : Code := { maxStack := 2, maxLocals := 2, code := method_2_code, exceptionTable := #[], attributes := #[] }
def k1m1 : Method := { name := "inRange", desc := "(II)Z", sig := { parameters := [.int, .int], returnType := some .boolean }, accessFlags := 10, code := some k1c1 }
def k1c2 : Code := { maxStack := 6, maxLocals := 16, code := code, exceptionTable := #[], attributes := #[] }
def k1m2 : Method := { name := "law", desc := "(IIJI)Z", sig := { parameters := [.int, .int, .long, .int], returnType := some .boolean }, accessFlags := 9, code := some k1c2 }
/-- com/example/gingham/gingham/designs/CoveringArraySpecTupleValuesPinLaw -/
def k1 : Class := { plain "com/example/gingham/gingham/designs/CoveringArraySpecTupleValuesPinLaw" (some 0) with
  accessFlags := 49
  interfaces := #[]
  cf := some (fileOf pool1 22 #[] #[{ accessFlags := 2, nameIndex := 5, descriptorIndex := 6, attributes := #[] }, { accessFlags := 10, nameIndex := 25, descriptorIndex := 26, attributes := #[] }, { accessFlags := 9, nameIndex := 30, descriptorIndex := 31, attributes := #[] }] 49 2 #[] #[])
  fields := #[]
  methods := #[k1m0, k1m1, k1m2]
  instanceTypes := #[]
  staticTypes := #[]
  resolved := Array.replicate 36 none
  statics := none }

def pool2 : Array CpInfo := pool [(1, .methodref 2 3), (0, .class_ 4), (0, .nameAndType 5 6), (0, u "java/lang/Object"), (0, u "<init>"), (0, u "()V"), (0, .class_ 8), (0, u "java/lang/Record")] 13

def k2c0 : Code := { maxStack := 1, maxLocals := 1, code := jdk_30_method_1_code, exceptionTable := #[], attributes := #[] }
def k2m0 : Method := { name := "<init>", desc := "()V", sig := { parameters := [], returnType := none }, accessFlags := 4, code := some k2c0 }
/-- java/lang/Record -/
def k2 : Class := { plain "java/lang/Record" (some 0) with
  accessFlags := 1057
  interfaces := #[]
  cf := some (fileOf pool2 7 #[] #[{ accessFlags := 4, nameIndex := 5, descriptorIndex := 6, attributes := #[] }] 1057 2 #[] #[])
  fields := #[]
  methods := #[k2m0]
  instanceTypes := #[]
  staticTypes := #[]
  resolved := Array.replicate 22 none
  statics := none }

def pool3 : Array CpInfo := pool [(1, .methodref 2 3), (0, .class_ 4), (0, .nameAndType 5 6), (0, u "java/lang/Record"), (0, u "<init>"), (0, u "()V"), (1, u "rows"), (7, u "columns"), (1, u "strength"), (8, u "levels"), (0, .methodref 29 30), (0, .class_ 31), (0, .nameAndType 32 33), (0, u "com/example/gingham/gingham/designs/CoveringArraySpec"), (0, u "tupleCount"), (0, u "(II)I"), (3, .fieldref 29 38), (0, .nameAndType 8 39), (0, u "I"), (0, .fieldref 29 41), (0, .nameAndType 18 39), (0, .fieldref 29 43), (0, .nameAndType 16 39), (0, .fieldref 29 45), (0, .nameAndType 27 39), (59, u "tupleValues"), (0, u "(I)[I"), (26, .long 2147483639), (13, u "(IIII)V")] 50

def k3c0 : Code := { maxStack := 6, maxLocals := 5, code := prog_55_method_1_code, exceptionTable := #[], attributes := #[] }
def k3m0 : Method := { name := "<init>", desc := "(IIII)V", sig := { parameters := [.int, .int, .int, .int], returnType := none }, accessFlags := 1, code := some k3c0 }
def k3c1 : Code := { maxStack := 4, maxLocals := 5, code := prog_55_method_4_code, exceptionTable := #[], attributes := #[] }
def k3m1 : Method := { name := "tupleValues", desc := "(I)[I", sig := { parameters := [.int], returnType := some (.array .int) }, accessFlags := 0, code := some k3c1 }
def k3c2 : Code := { maxStack := 4, maxLocals := 5, code := prog_55_method_7_code, exceptionTable := #[], attributes := #[] }
def k3m2 : Method := { name := "tupleCount", desc := "(II)I", sig := { parameters := [.int, .int], returnType := some .int }, accessFlags := 10, code := some k3c2 }
/-- com/example/gingham/gingham/designs/CoveringArraySpec -/
def k3 : Class := { plain "com/example/gingham/gingham/designs/CoveringArraySpec" (some 2) with
  accessFlags := 49
  interfaces := #[]
  cf := some (fileOf pool3 29 #[] #[{ accessFlags := 1, nameIndex := 5, descriptorIndex := 147, attributes := #[] }, { accessFlags := 0, nameIndex := 105, descriptorIndex := 106, attributes := #[] }, { accessFlags := 10, nameIndex := 32, descriptorIndex := 33, attributes := #[] }] 49 2 #[] #[{ accessFlags := 18, nameIndex := 8, descriptorIndex := 39, attributes := #[] }, { accessFlags := 18, nameIndex := 18, descriptorIndex := 39, attributes := #[] }, { accessFlags := 18, nameIndex := 16, descriptorIndex := 39, attributes := #[] }, { accessFlags := 18, nameIndex := 27, descriptorIndex := 39, attributes := #[] }])
  fields := #[{ name := "rows", type := .int, accessFlags := 18, slot := 0, constantValue := 0 }, { name := "strength", type := .int, accessFlags := 18, slot := 1, constantValue := 0 }, { name := "columns", type := .int, accessFlags := 18, slot := 2, constantValue := 0 }, { name := "levels", type := .int, accessFlags := 18, slot := 3, constantValue := 0 }]
  methods := #[k3m0, k3m1, k3m2]
  instanceTypes := #[.int, .int, .int, .int]
  staticTypes := #[]
  resolved := Array.replicate 198 none
  statics := none }

def pool4 : Array CpInfo := pool [(1, u "java/lang/Cloneable"), (0, .class_ 1), (0, u "java/lang/Object"), (0, .class_ 3)] 3

/-- java/lang/Cloneable -/
def k4 : Class := { plain "java/lang/Cloneable" (some 0) with
  accessFlags := 1537
  interfaces := #[]
  cf := some (fileOf pool4 2 #[] #[] 1537 4 #[] #[])
  fields := #[]
  methods := #[]
  instanceTypes := #[]
  staticTypes := #[]
  resolved := Array.replicate 8 none
  statics := none }

def pool5 : Array CpInfo := pool [(1, u "java/io/Serializable"), (0, .class_ 1), (0, u "java/lang/Object"), (0, .class_ 3)] 3

/-- java/io/Serializable -/
def k5 : Class := { plain "java/io/Serializable" (some 0) with
  accessFlags := 1537
  interfaces := #[]
  cf := some (fileOf pool5 2 #[] #[] 1537 4 #[] #[])
  fields := #[]
  methods := #[]
  instanceTypes := #[]
  staticTypes := #[]
  resolved := Array.replicate 8 none
  statics := none }

/-- the primitive byte -/
def k6 : Class := { plain "byte" none with kind := .primitive 'B', accessFlags := 0x411 }
/-- [B -/
def k7 : Class := { plain "[B" (some 0) with kind := .array 6 .byte, interfaces := #[4, 5], accessFlags := 1041 }

/-- the primitive int -/
def k8 : Class := { plain "int" none with kind := .primitive 'I', accessFlags := 0x411 }
/-- [I -/
def k9 : Class := { plain "[I" (some 0) with kind := .array 8 .int, interfaces := #[4, 5], accessFlags := 1041 }

def heap : Heap := #[]
def classes : Array Class := #[k0, k1, k2, k3, k4, k5, k6, k7, k8, k9]
def interned : List (Array UInt16 × Addr) := []
def slotsUsed : Nat := 0
def theMethod : MethodId := ⟨1, 2⟩
def args0 : Array Value := #[.int 5, .int 7, .long 9, .int 11]
def aboutOver (below : List Frame) : State where
  vm := { classes := classes, interned := interned.toArray }
  heap := heap
  slotsUsed := slotsUsed
  threads := #[{ frames := .invoking theMethod args0 :: below }]
def below0 : List Frame := [.native { method := ⟨0, 0⟩, args := #[] }]
def about1 : State := aboutOver below0
def p0 : Program := .bare "" "" ""
def e0 : Env := launch0.env 0 0 0
theorem w_frames : about1.frames = Frame.invoking theMethod args0 :: below0 := rfl
set_option maxRecDepth 65536 in
theorem w_args : argsFit about1.vm theMethod args0 = true := by decide +kernel
set_option maxRecDepth 65536 in
theorem w_heap : heapFits about1 = true := by decide +kernel
set_option maxRecDepth 65536 in
theorem w_runnable : about1.curStatus? = some .runnable := by decide +kernel
set_option maxRecDepth 65536 in
theorem w_alone : about1.alone = true := by decide +kernel
set_option maxRecDepth 65536 in
theorem w_named : about1.methodNamed? x = some theMethod := by decide +kernel
set_option maxRecDepth 65536 in
theorem w_hears : about1.hears theMethod below0 = true := by decide +kernel
set_option maxRecDepth 65536 in
theorem w_ripe : about1.ripe theMethod args0 below0 = true := by decide +kernel
theorem w_running : about1.status = .running := rfl
set_option maxRecDepth 65536 in
theorem w_room : about1.hasRoom e0.platform room_1 = true :=
  launch0.hasRoom_least _ room_1 (by decide +kernel) (by decide +kernel) (by decide +kernel) (by decide +kernel) (by decide +kernel) (by decide +kernel)
theorem allAtoms_all (ts : List Jvm.Cond) (a : Array Jvm.Value) (st : Jvm.State) : (allAtoms ts).before a st = ts.all (fun c => c.before a st) := by
  induction ts with
  | nil => rfl
  | cons c t ih =>
    show (Jvm.Cond.and c (allAtoms t)).before a st = _
    rw [Jvm.Cond.before_and, ih, List.all_cons]
def words1 : List Jvm.Cond := Jvm.Cond.code x code maxLocals ret :: tables_1
/-- a 'code' word, met by the world's own term for the bytes: nothing is compared byte by byte -/
theorem code_word {y : MethodName} {bytes : ByteArray} {mx : Nat} {rt : Option FieldType} {a : Array Value} {s : State} {m : MethodId} {meth : Method} {c : Code} (h1 : s.methodNamed? y = some m) (h2 : s.vm.method? m = some meth) (h3 : meth.code = some c) (h4 : c.code = bytes)
    (h5 : (c.maxLocals == mx && c.exceptionTable.isEmpty && decide (c.maxStack ≤ mostOperands) && decide (meth.sig.returnType = rt) && !meth.locks && decide (parseMethodDescriptor y.desc = some meth.sig)) = true) : (Jvm.Cond.code y bytes mx rt).before a s = true := by
  simp only [Bool.and_eq_true, beq_iff_eq, Bool.not_eq_true', decide_eq_true_eq] at h5
  obtain ⟨⟨⟨⟨⟨g1, g2⟩, g3⟩, g4⟩, g5⟩, g6⟩ := h5
  simp [Cond.before, Cond.holds, Cond.value, h1, h2, h3, h4, g1, g2, g3, g4, g5, g6]
def isCode : Jvm.Cond → Bool
  | .code _ _ _ _ => true
  | _ => false
theorem all_split {L : List Jvm.Cond} {P : Jvm.Cond → Bool} (h1 : L.all (fun c => isCode c || P c) = true) (h2 : ∀ c ∈ L.filter isCode, P c = true) : L.all P = true := by
  refine List.all_eq_true.mpr fun c hc => ?_
  have h := List.all_eq_true.mp h1 c hc
  rcases Bool.eq_false_or_eq_true (isCode c) with hi | hi
  · exact h2 c (List.mem_filter.mpr ⟨hc, hi⟩)
  · simpa [hi] using h
set_option maxRecDepth 65536 in
theorem w_c0 : (Jvm.Cond.code x code maxLocals ret).before args0 about1 = true := code_word (m := ⟨1, 2⟩) (meth := k1m2) (c := k1c2) (by decide +kernel) rfl rfl rfl (by decide +kernel)
set_option maxRecDepth 65536 in
theorem w_c1 : (Jvm.Cond.code ({ cls := "com/example/gingham/gingham/designs/CoveringArraySpec", name := "<init>", desc := "(IIII)V" } : Jvm.MethodName) prog_55_method_1_code (5 : Nat) (Option.none : Option Jvm.ClassFile.FieldType)).before args0 about1 = true := code_word (m := ⟨3, 0⟩) (meth := k3m0) (c := k3c0) (by decide +kernel) rfl rfl rfl (by decide +kernel)
set_option maxRecDepth 65536 in
theorem w_c2 : (Jvm.Cond.code ({ cls := "java/lang/Record", name := "<init>", desc := "()V" } : Jvm.MethodName) jdk_30_method_1_code (1 : Nat) (Option.none : Option Jvm.ClassFile.FieldType)).before args0 about1 = true := code_word (m := ⟨2, 0⟩) (meth := k2m0) (c := k2c0) (by decide +kernel) rfl rfl rfl (by decide +kernel)
set_option maxRecDepth 65536 in
theorem w_c3 : (Jvm.Cond.code ({ cls := "java/lang/Object", name := "<init>", desc := "()V" } : Jvm.MethodName) object_method_1_code (1 : Nat) (Option.none : Option Jvm.ClassFile.FieldType)).before args0 about1 = true := code_word (m := ⟨0, 0⟩) (meth := k0m0) (c := k0c0) (by decide +kernel) rfl rfl rfl (by decide +kernel)
set_option maxRecDepth 65536 in
theorem w_c4 : (Jvm.Cond.code ({ cls := "com/example/gingham/gingham/designs/CoveringArraySpec", name := "tupleCount", desc := "(II)I" } : Jvm.MethodName) prog_55_method_7_code (5 : Nat) (Option.some Jvm.ClassFile.FieldType.int)).before args0 about1 = true := code_word (m := ⟨3, 2⟩) (meth := k3m2) (c := k3c2) (by decide +kernel) rfl rfl rfl (by decide +kernel)
set_option maxRecDepth 65536 in
theorem w_c5 : (Jvm.Cond.code ({ cls := "com/example/gingham/gingham/designs/CoveringArraySpec", name := "tupleValues", desc := "(I)[I" } : Jvm.MethodName) prog_55_method_4_code (5 : Nat) (Option.some (Jvm.ClassFile.FieldType.array Jvm.ClassFile.FieldType.int))).before args0 about1 = true := code_word (m := ⟨3, 1⟩) (meth := k3m1) (c := k3c1) (by decide +kernel) rfl rfl rfl (by decide +kernel)
set_option maxRecDepth 65536 in
theorem w_c6 : (Jvm.Cond.code ({ cls := "com/example/gingham/gingham/designs/CoveringArraySpecTupleValuesPinLaw", name := "inRange", desc := "(II)Z" } : Jvm.MethodName) method_2_code (2 : Nat) (Option.some Jvm.ClassFile.FieldType.boolean)).before args0 about1 = true := code_word (m := ⟨1, 1⟩) (meth := k1m1) (c := k1c1) (by decide +kernel) rfl rfl rfl (by decide +kernel)
def codes1 : List Jvm.Cond := [Jvm.Cond.code x code maxLocals ret, Jvm.Cond.code ({ cls := "com/example/gingham/gingham/designs/CoveringArraySpec", name := "<init>", desc := "(IIII)V" } : Jvm.MethodName) prog_55_method_1_code (5 : Nat) (Option.none : Option Jvm.ClassFile.FieldType), Jvm.Cond.code ({ cls := "java/lang/Record", name := "<init>", desc := "()V" } : Jvm.MethodName) jdk_30_method_1_code (1 : Nat) (Option.none : Option Jvm.ClassFile.FieldType), Jvm.Cond.code ({ cls := "java/lang/Object", name := "<init>", desc := "()V" } : Jvm.MethodName) object_method_1_code (1 : Nat) (Option.none : Option Jvm.ClassFile.FieldType), Jvm.Cond.code ({ cls := "com/example/gingham/gingham/designs/CoveringArraySpec", name := "tupleCount", desc := "(II)I" } : Jvm.MethodName) prog_55_method_7_code (5 : Nat) (Option.some Jvm.ClassFile.FieldType.int), Jvm.Cond.code ({ cls := "com/example/gingham/gingham/designs/CoveringArraySpec", name := "tupleValues", desc := "(I)[I" } : Jvm.MethodName) prog_55_method_4_code (5 : Nat) (Option.some (Jvm.ClassFile.FieldType.array Jvm.ClassFile.FieldType.int)), Jvm.Cond.code ({ cls := "com/example/gingham/gingham/designs/CoveringArraySpecTupleValuesPinLaw", name := "inRange", desc := "(II)Z" } : Jvm.MethodName) method_2_code (2 : Nat) (Option.some Jvm.ClassFile.FieldType.boolean)]
set_option maxRecDepth 65536 in
theorem codes_eq : words1.filter isCode = codes1 := rfl
theorem w_codes : ∀ c ∈ words1.filter isCode, c.before args0 about1 = true := by
  rw [codes_eq]
  intro c hc
  simp only [codes1, List.mem_cons, List.not_mem_nil, or_false] at hc
  rcases hc with rfl | rfl | rfl | rfl | rfl | rfl | rfl
  · exact w_c0
  · exact w_c1
  · exact w_c2
  · exact w_c3
  · exact w_c4
  · exact w_c5
  · exact w_c6
set_option maxRecDepth 65536 in
theorem w_t1 : (words1.take 24).all (fun c => isCode c || c.before args0 about1) = true := by decide +kernel
set_option maxRecDepth 65536 in
theorem w_t2 : (words1.drop 24).all (fun c => isCode c || c.before args0 about1) = true := by decide +kernel
theorem w_tables : (allAtoms (Jvm.Cond.code x code maxLocals ret :: tables_1)).before args0 about1 = true := by
  rw [allAtoms_all]
  show words1.all (fun c => c.before args0 about1) = true
  refine all_split ?_ w_codes
  rw [← List.take_append_drop 24 words1, List.all_append, w_t1, w_t2]
  rfl
set_option maxRecDepth 65536 in
theorem w_case : (Jvm.Cond.and given_1 narrow_1).before args0 about1 = true := by decide +kernel
theorem w_applies : (headSpec (Jvm.Cond.code x code maxLocals ret :: tables_1) room_1).applies x e0.platform about1 = true :=
  (Spec.applies_iff w_frames).mpr ⟨w_running, w_runnable, w_alone, w_named, w_hears, w_ripe, w_room, w_tables⟩
theorem atStart : AtStart classFile x code maxLocals ret World_1 tables_1 room_1 Calls_1 rest_1 Pre_1 launch0 p0 e0 about1 theMethod args0 below0 :=
  ⟨lists_1, trivial, launch0.admits_env _ _ _, launch0.least_env, fairChoices_fair.cas, fairChoices_fair.clock, w_frames, w_args, w_heap, w_applies, trivial, trivial, w_case⟩
end start1
theorem witness_1 : WitnessClaimed_1 := ⟨start1.p0, start1.e0, start1.about1, start1.theMethod, start1.args0, start1.below0, start1.atStart⟩
end Jvm.Pilot.@@N@@
