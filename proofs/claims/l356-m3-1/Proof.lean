import JvmDerived
import JvmDerived.Pilot.@@N@@Statement
import JvmDerived.Pilot.@@N@@Code
set_option linter.unusedVariables false
set_option linter.unusedSimpArgs false
namespace Jvm.Pilot.@@N@@
open Jvm Jvm.ClassFile Sem Op Lib Jvm.Free Jvm.Stand Jvm.LawKit Jvm.RoadKit Bundle Jvm.Pilot.@@N@@.Jvm.D
abbrev oU : Slot := .unset
abbrev oS : Slot := .second
abbrev oN : Slot := .val .null
abbrev oI (x : Int32) : Slot := .val (.int x)
abbrev oJ (x : Int64) : Slot := .val (.long x)
abbrev oR (a : Addr) : Slot := .val (.ref a)
section Own
variable {p : Program} {l : Launch} {e : Env} {R : Room} {s : State} {m : MethodId} {args : Array Value} {below : List Frame} {meth : Method} {c : Code} {T : State} {locs : List Loc} {cells slots : Nat} {Q : Option Value → Heap → List Loc → Prop} {kc ks : Nat} {Z : State} {a0 : Array Value} {h : Heap}
/-- from the state st the body comes to its end, and Q holds there -/
def own_Fin (p : Program) (e : Env) (below : List Frame) (s : State) (Q : Option Value → Heap → List Loc → Prop) (kc ks : Nat) (st : State) : Prop :=
  ∃ s₂ o, Steps p.tables e below st s₂ ∧ s₂.status = .running ∧ Ended s₂ below o ∧ ∃ v L, o = .returned v ∧ Q v s₂.heap L ∧ FrameEnd s o s₂ L kc ks
abbrev own_Go (X : Stand p l e R s m args below meth c T locs cells slots) (Q : Option Value → Heap → List Loc → Prop) (kc ks : Nat) (pc : Nat) (Ls : Array Slot) (S : List Value) : Prop := own_Fin p e below s Q kc ks (T.setTop (mkF m pc Ls S))
theorem own_st {a b : State} (hst : ∀ t, Steps p.tables e below b t → Steps p.tables e below a t) (k : own_Fin p e below s Q kc ks b) : own_Fin p e below s Q kc ks a := by
  obtain ⟨s₂, o, h1, r⟩ := k
  exact ⟨s₂, o, hst _ h1, r⟩
theorem own_cast {g g' : JFrame} (q : g = g') (k : own_Fin p e below s Q kc ks (T.setTop g')) : own_Fin p e below s Q kc ks (T.setTop g) := q ▸ k
theorem own_end (X : Stand p l e R s m args below meth c T locs cells slots) {v : Option Value} {a : State} (hv : meth.sig.returnType = none → v = none) (hlocks : meth.locks = false) (eT : T.heap = h)
    (hs : ∀ fs, (∀ (f : JFrame) (acts : List Action), f.method = m → f.locked = none → f.entered = [] → (doReturn e (T.setTop f) acts v).1 = T.setFrames fs) → Steps p.tables e below a (T.setFrames fs))
    (hc : cells ≤ kc) (hl : slots ≤ ks) (hq : Q v h locs) : own_Fin p e below s Q kc ks a := by
  obtain ⟨fs, hr, hrun, hended, hW, hsame⟩ := X.leave hv hlocks
  exact ⟨_, _, hs fs hr, hrun, hended, _, _, rfl, by show Q v T.heap locs; rw [eT]; exact hq, ⟨_, rfl⟩, hW, hsame.mono hc hl⟩
theorem own_retV (X : Stand p l e R s m args below meth c T locs cells slots) (hx : p.tables.exec = Jvm.exec) (hret : meth.sig.returnType = none) (hlocks : meth.locks = false) (eT : T.heap = h) {pc : Nat} {Ls : Array Slot} (hd : decode c.code pc = .ok (.return_, 1)) (hc : cells ≤ kc) (hl : slots ≤ ks) (hq : Q none h locs) :
    own_Fin p e below s Q kc ks (T.setTop (mkF m pc Ls [])) := own_end X (fun _ => rfl) hlocks eT (fun _ hr => X.returnOut hx hret hd hr) hc hl hq
theorem own_retN (X : Stand p l e R s m args below meth c T locs cells slots) (hx : p.tables.exec = Jvm.exec) {t : FieldType} (hret : meth.sig.returnType = some t) (ht : t = .boolean ∨ t = .byte ∨ t = .char ∨ t = .short) (hlocks : meth.locks = false) (eT : T.heap = h) {pc : Nat} {Ls : Array Slot} {z : Int32} {rest : List Value} (hd : decode c.code pc = .ok (.ireturn, 1)) (hc : cells ≤ kc) (hl : slots ≤ ks) (hq : Q (some (.int (nar t z))) h locs) :
    own_Fin p e below s Q kc ks (T.setTop (mkF m pc Ls (.int z :: rest))) := own_end X (fun h => by rw [hret] at h; cases h) hlocks eT (fun _ hr => retN X hx hret ht hd hr) hc hl hq
theorem own_retI (X : Stand p l e R s m args below meth c T locs cells slots) (hx : p.tables.exec = Jvm.exec) (hret : meth.sig.returnType = some .int) (hlocks : meth.locks = false) (eT : T.heap = h) {pc : Nat} {Ls : Array Slot} {z : Int32} {rest : List Value} (hd : decode c.code pc = .ok (.ireturn, 1)) (hc : cells ≤ kc) (hl : slots ≤ ks) (hq : Q (some (.int z)) h locs) :
    own_Fin p e below s Q kc ks (T.setTop (mkF m pc Ls (.int z :: rest))) := own_end X (fun h => by rw [hret] at h; cases h) hlocks eT (fun _ hr => retOut X hx hret rfl (Or.inl ⟨rfl, Or.inl rfl, _, rfl⟩) hd hr) hc hl hq
theorem own_retJ (X : Stand p l e R s m args below meth c T locs cells slots) (hx : p.tables.exec = Jvm.exec) (hret : meth.sig.returnType = some .long) (hlocks : meth.locks = false) (eT : T.heap = h) {pc : Nat} {Ls : Array Slot} {z : Int64} {rest : List Value} (hd : decode c.code pc = .ok (.lreturn, 1)) (hc : cells ≤ kc) (hl : slots ≤ ks) (hq : Q (some (.long z)) h locs) :
    own_Fin p e below s Q kc ks (T.setTop (mkF m pc Ls (.long z :: rest))) := own_end X (fun h => by rw [hret] at h; cases h) hlocks eT (fun _ hr => retOut X hx hret rfl (Or.inr (Or.inl ⟨rfl, rfl, _, rfl⟩)) hd hr) hc hl hq
theorem own_retA (X : Stand p l e R s m args below meth c T locs cells slots) (hx : p.tables.exec = Jvm.exec) {t : FieldType} (hret : meth.sig.returnType = some t) (ht : t.isReference = true) (hlocks : meth.locks = false) (eT : T.heap = h) {pc : Nat} {Ls : Array Slot} {a : Addr} {rest : List Value} (hd : decode c.code pc = .ok (.areturn, 1)) (hc : cells ≤ kc) (hl : slots ≤ ks) (hq : Q (some (.ref a)) h locs) :
    own_Fin p e below s Q kc ks (T.setTop (mkF m pc Ls (.ref a :: rest))) := own_end X (fun h => by rw [hret] at h; cases h) hlocks eT (fun _ hr => retOut X hx hret (by cases t <;> first | rfl | cases ht) (Or.inr (Or.inr (Or.inr (Or.inr ⟨rfl, ht, rfl⟩)))) hd hr) hc hl hq
theorem own_nar1 : nar .boolean 1 = 1 := by decide
theorem own_nar0 : nar .boolean 0 = 0 := by decide
theorem own_lrem {g : JFrame} {target : State} (X : Stand p l e R s m args below meth c T locs cells slots) (hx : p.tables.exec = Jvm.exec) (hg : g.method = m) {x y : Int64} {rest : List Value} (hd : decode c.code g.pc = .ok (.lrem, 1)) (hs : g.stack = .long y :: .long x :: rest) (hy : y ≠ 0)
    (hr : Steps p.tables e below (T.setTop { g with pc := g.pc + 1, stack := .long (x % y) :: rest }) target) : Steps p.tables e below (T.setTop g) target := by
  have q : x - x / y * y = x % y := lrem_mod x y
  exact XS.lrem X.here hx hg hd hs hy (by rw [q]; exact hr)
/-! the calls -/
variable {y z : MethodName} {bytes : ByteArray} {maxL : Nat} {ret : Option FieldType} {rm : Room} {W : Nat} {as' : Array Value} {Qc : Option Value → Heap → List Loc → Prop} {own C : String} {index : Nat}
theorem own_callS (X : Stand p l e R s m args below meth c T locs cells slots) (hx : p.tables.exec = Jvm.exec) (hZ : Z.Warmed39 s.vm) (hown : s.vm.findClass own = some m.cls)
    (wl : (Cond.methodLink own index y).before a0 Z = true) (ws : (Cond.static y).before a0 Z = true) (wz : (Cond.initialized y.cls).before a0 Z = true) (wc : (Cond.code y bytes maxL ret).before a0 Z = true)
    (hy : y.cls ≠ "java/lang/invoke/MethodHandle" ∧ y.cls ≠ "java/lang/invoke/VarHandle")
    (hM : MetFree l y (head1 [Cond.code y bytes maxL ret] rm) (fun a U => a = as' ∧ Z.Warmed39 U.vm ∧ U.heap = h) (fun _ _ _ _ _ => True) (fun _ U o U' => ∃ v L, o = .returned v ∧ Qc v U'.heap L ∧ FrameEnd U o U' L rm.cells rm.slots))
    (hf : rm.frames + 1 ≤ R.frames) (hl : W + (maxL + 11) + rm.locals ≤ R.locals) {pc : Nat} {Ls : Array Slot} {S : List Value} (hsize : Ls.size = c.maxLocals) (argsL rest : List Value)
    (hlen : ∀ sig, parseMethodDescriptor y.desc = some sig → argsL.length = sig.parameters.length) (hS : S = argsL.reverse ++ rest) (ha : argsL.toArray = as') (hW : (rest.map fun v => v.category).sum ≤ W)
    (hd : decode c.code pc = .ok (.invokestatic index, 3)) (eT : T.heap = h) (hcl : cells + rm.cells ≤ R.cells) (hsl : slots + rm.slots ≤ R.slots)
    (k : ∀ (v : Option Value) (T' : State) (L' : List Loc) (X' : Stand p l e R s m args below meth c T' (locs ++ L') (cells + rm.cells) (slots + rm.slots)), Qc v T'.heap L' → own_Fin p e below s Q kc ks (T'.setTop (mkF m (pc + 3) Ls (v.toList ++ rest)))) :
    own_Fin p e below s Q kc ks (T.setTop (mkF m pc Ls S)) := by
  subst hS
  obtain ⟨v, _, ⟨T', L1, k1, n1⟩, -, X', ⟨L', hQ, l1, y1, z1⟩, st⟩ := Jvm.LawKit.callS X hx (y := y) hown (mvT hZ wl) (mvT hZ ws) (mvT hZ wz) (mvT hZ wc) hy (backOf (W := W) hM hZ wc wz hf hl) (g := mkF m pc Ls (argsL.reverse ++ rest)) rfl hsize (argsL := argsL) (rest := rest) hlen rfl (by show 2 * 0 + _ ≤ _; omega) hd (fun _ _ => ⟨ha, eT, hcl, hsl⟩)
  dsimp only [Pt.U, Pt.locs, Pt.cells, Pt.slots] at X' l1 y1 z1 st hQ
  subst l1 y1 z1
  exact own_st (fun t => st t) (k v T' L' X' hQ)
theorem own_callI (X : Stand p l e R s m args below meth c T locs cells slots) (hx : p.tables.exec = Jvm.exec) (hZ : Z.Warmed39 s.vm) (hown : s.vm.findClass own = some m.cls)
    (wl : (Cond.methodLink own index y).before a0 Z = true) (ws : (Cond.instanceMethod y).before a0 Z = true) (wz : (Cond.initialized y.cls).before a0 Z = true) (wc : (Cond.code y bytes maxL none).before a0 Z = true)
    (hn : y.name = "<init>") (hy : y.cls ≠ "java/lang/invoke/MethodHandle" ∧ y.cls ≠ "java/lang/invoke/VarHandle")
    (hM : MetFree l y (head1 [Cond.code y bytes maxL none] rm) (fun a U => a = as' ∧ Z.Warmed39 U.vm ∧ U.heap = h) (fun _ _ _ _ _ => True) (fun _ U o U' => ∃ v L, o = .returned v ∧ Qc v U'.heap L ∧ FrameEnd U o U' L rm.cells rm.slots))
    (hf : rm.frames + 1 ≤ R.frames) (hl : W + (maxL + 11) + rm.locals ≤ R.locals) {pc : Nat} {Ls : Array Slot} {S : List Value} (hsize : Ls.size = c.maxLocals) (a : Addr) (argsL rest : List Value)
    (hlen : ∀ sig, parseMethodDescriptor y.desc = some sig → argsL.length = sig.parameters.length) (hS : S = argsL.reverse ++ .ref a :: rest) (ha : (Value.ref a :: argsL).toArray = as') (hW : (rest.map fun v => v.category).sum ≤ W)
    (hd : decode c.code pc = .ok (.invokespecial index, 3)) (eT : T.heap = h) (hcl : cells + rm.cells ≤ R.cells) (hsl : slots + rm.slots ≤ R.slots)
    (k : ∀ (v : Option Value) (T' : State) (L' : List Loc) (X' : Stand p l e R s m args below meth c T' (locs ++ L') (cells + rm.cells) (slots + rm.slots)), Qc v T'.heap L' → own_Fin p e below s Q kc ks (T'.setTop (mkF m (pc + 3) Ls (v.toList ++ rest)))) :
    own_Fin p e below s Q kc ks (T.setTop (mkF m pc Ls S)) := by
  subst hS
  obtain ⟨v, _, ⟨T', L1, k1, n1⟩, -, X', ⟨L', hQ, l1, y1, z1⟩, st⟩ := X.specialBack hx (y := y) hn hown (mvT hZ wl) (mvT hZ ws) (mvT hZ wc) hy (backOf (W := W) hM hZ wc wz hf hl) (g := mkF m pc Ls (argsL.reverse ++ .ref a :: rest)) rfl hsize (Steps.refl _) (a := a) (argsL := argsL) (rest := rest) hlen rfl (by show 2 * 0 + _ ≤ _; omega) hd (fun _ _ => ⟨ha, eT, hcl, hsl⟩)
  dsimp only [Pt.U, Pt.locs, Pt.cells, Pt.slots] at X' l1 y1 z1 st hQ
  subst l1 y1 z1
  exact own_st (fun t => st.trans) (k v T' L' X' hQ)
theorem own_callV (X : Stand p l e R s m args below meth c T locs cells slots) (hx : p.tables.exec = Jvm.exec) (hZ : Z.Warmed39 s.vm) (hown : s.vm.findClass own = some m.cls)
    (wl : (Cond.methodLink own index y).before a0 Z = true) (wd : (Cond.declares y).before a0 Z = true) (wsel : (Cond.selects C y y).before a0 Z = true) (ws : (Cond.instanceMethod y).before a0 Z = true) (wz : (Cond.initialized y.cls).before a0 Z = true) (wc : (Cond.code y bytes maxL ret).before a0 Z = true)
    (hy : y.cls ≠ "java/lang/invoke/MethodHandle" ∧ y.cls ≠ "java/lang/invoke/VarHandle")
    (hM : MetFree l y (head1 [Cond.code y bytes maxL ret] rm) (fun a U => a = as' ∧ Z.Warmed39 U.vm ∧ U.heap = h) (fun _ _ _ _ _ => True) (fun _ U o U' => ∃ v L, o = .returned v ∧ Qc v U'.heap L ∧ FrameEnd U o U' L rm.cells rm.slots))
    (hf : rm.frames + 1 ≤ R.frames) (hl : W + (maxL + 11) + rm.locals ≤ R.locals) {pc : Nat} {Ls : Array Slot} {S : List Value} (hsize : Ls.size = c.maxLocals) (a : Addr) (argsL rest : List Value)
    (hlen : ∀ sig, parseMethodDescriptor y.desc = some sig → argsL.length = sig.parameters.length) (hS : S = argsL.reverse ++ .ref a :: rest) (ha : (Value.ref a :: argsL).toArray = as') (hW : (rest.map fun v => v.category).sum ≤ W)
    (hd : decode c.code pc = .ok (.invokevirtual index, 3)) (eT : T.heap = h) (EA : Exa Z h a C) (hcl : cells + rm.cells ≤ R.cells) (hsl : slots + rm.slots ≤ R.slots)
    (k : ∀ (v : Option Value) (T' : State) (L' : List Loc) (X' : Stand p l e R s m args below meth c T' (locs ++ L') (cells + rm.cells) (slots + rm.slots)), Qc v T'.heap L' → own_Fin p e below s Q kc ks (T'.setTop (mkF m (pc + 3) Ls (v.toList ++ rest)))) :
    own_Fin p e below s Q kc ks (T.setTop (mkF m pc Ls S)) := by
  subst hS
  obtain ⟨cq, kq, q1, q2, q3⟩ := isOf hZ eT EA
  obtain ⟨v, _, ⟨T', L1, k1, n1⟩, -, X', ⟨L', hQ, l1, y1, z1⟩, st⟩ := X.virtualBack hx (y := y) (z := y) hown (mvT hZ wl) (mvT hZ wd) (notFace_of_selects (args := #[]) (mvT hZ wsel)) (mvT hZ wsel) (mvT hZ ws) hy (backOf (W := W) hM hZ wc wz hf hl) q1 q3 (g := mkF m pc Ls (argsL.reverse ++ .ref a :: rest)) rfl hsize (Steps.refl _) (argsL := argsL) (rest := rest) hlen rfl (by show 2 * 0 + _ ≤ _; omega) hd (fun _ _ => ⟨ha, eT, hcl, hsl⟩)
  dsimp only [Pt.U, Pt.locs, Pt.cells, Pt.slots] at X' l1 y1 z1 st hQ
  subst l1 y1 z1
  exact own_st (fun t => st.trans) (k v T' L' X' hQ)
/-! arrays -/
variable {a : Addr} {kA : ClassId} {n j x : Int32} {vs : List Value} {dv : Value}
theorem own_stI (X : Stand p l e R s m args below meth c T locs cells slots) (hx : p.tables.exec = Jvm.exec) (hZ : Z.Warmed39 s.vm) (eT : T.heap = h) (V : Arv Z h a kA .int n vs dv) (q : ¬ j < 0 ∧ j < n) (hi : j.toNatClampNeg < vs.length) {g : JFrame} (hg : g.method = m) {rest : List Value} (hs : g.stack = .int x :: .int j :: .ref a :: rest) (hd : decode c.code g.pc = .ok (.iastore, 1)) :
    ∃ T' h', Stand p l e R s m args below meth c T' (locs ++ [⟨a, j.toNatClampNeg⟩]) cells slots ∧ T'.heap = h' ∧ Wr h h' a j.toNatClampNeg (.int x) ∧ Arv Z h' a kA .int n (vs.set j.toNatClampNeg (.int x)) dv ∧ ∀ target, Steps p.tables e below (T'.setTop { g with pc := g.pc + 1, stack := rest }) target → Steps p.tables e below (T.setTop g) target := by
  obtain ⟨cl, Ar, q1, S1, N1, H1, G1⟩ := V
  obtain ⟨T', h', X', e', W', st⟩ := stI X hx hZ eT Ar (inb_of S1 q) hg hs hd
  exact ⟨T', h', X', e', W', Arv.set Ar q1 S1 N1 H1 G1 rfl W' _ rfl hi, st⟩
theorem own_stB (X : Stand p l e R s m args below meth c T locs cells slots) (hx : p.tables.exec = Jvm.exec) (hZ : Z.Warmed39 s.vm) (eT : T.heap = h) (V : Arv Z h a kA .byte n vs dv) (q : ¬ j < 0 ∧ j < n) (hi : j.toNatClampNeg < vs.length) {g : JFrame} (hg : g.method = m) {rest : List Value} (hs : g.stack = .int x :: .int j :: .ref a :: rest) (hd : decode c.code g.pc = .ok (.bastore, 1)) :
    ∃ T' h', Stand p l e R s m args below meth c T' (locs ++ [⟨a, j.toNatClampNeg⟩]) cells slots ∧ T'.heap = h' ∧ Wr h h' a j.toNatClampNeg (.int (nar .byte x)) ∧ Arv Z h' a kA .byte n (vs.set j.toNatClampNeg (.int x.toInt8.toInt32)) dv ∧ ∀ target, Steps p.tables e below (T'.setTop { g with pc := g.pc + 1, stack := rest }) target → Steps p.tables e below (T.setTop g) target := by
  obtain ⟨cl, Ar, q1, S1, N1, H1, G1⟩ := V
  obtain ⟨T', h', X', e', W', st⟩ := stB X hx hZ eT Ar (inb_of S1 q) hg hs hd
  exact ⟨T', h', X', e', W', Arv.set Ar q1 S1 N1 H1 G1 (fits_nar_byte x) W' _ rfl hi, st⟩
theorem own_stJ {x : Int64} (X : Stand p l e R s m args below meth c T locs cells slots) (hx : p.tables.exec = Jvm.exec) (hZ : Z.Warmed39 s.vm) (eT : T.heap = h) (V : Arv Z h a kA .long n vs dv) (q : ¬ j < 0 ∧ j < n) (hi : j.toNatClampNeg < vs.length) {g : JFrame} (hg : g.method = m) {rest : List Value} (hs : g.stack = .long x :: .int j :: .ref a :: rest) (hd : decode c.code g.pc = .ok (.lastore, 1)) :
    ∃ T' h', Stand p l e R s m args below meth c T' (locs ++ [⟨a, j.toNatClampNeg⟩]) cells slots ∧ T'.heap = h' ∧ Wr h h' a j.toNatClampNeg (.long x) ∧ Arv Z h' a kA .long n (vs.set j.toNatClampNeg (.long x)) dv ∧ ∀ target, Steps p.tables e below (T'.setTop { g with pc := g.pc + 1, stack := rest }) target → Steps p.tables e below (T.setTop g) target := by
  obtain ⟨cl, Ar, q1, S1, N1, H1, G1⟩ := V
  obtain ⟨T', h', X', e', W', st⟩ := stJ X hx hZ eT Ar (inb_of S1 q) hg hs hd
  exact ⟨T', h', X', e', W', Arv.set Ar q1 S1 N1 H1 G1 rfl W' _ rfl hi, st⟩
theorem own_ldI (X : Stand p l e R s m args below meth c T locs cells slots) (hx : p.tables.exec = Jvm.exec) (hZ : Z.Warmed39 s.vm) (eT : T.heap = h) (V : Arv Z h a kA .int n vs dv) (q : ¬ j < 0 ∧ j < n) {v : Value} (hv : vs.getD j.toNatClampNeg dv = v) {g : JFrame} (hg : g.method = m) {rest : List Value} (hs : g.stack = .int j :: .ref a :: rest) (hd : decode c.code g.pc = .ok (.iaload, 1)) :
    ∀ target, Steps p.tables e below (T.setTop { g with pc := g.pc + 1, stack := v :: rest }) target → Steps p.tables e below (T.setTop g) target := by
  obtain ⟨cl, Ar, q1, S1, N1, H1, G1⟩ := V
  exact X.iaload hx (by rw [eT]; exact Ar.1) (State.isArrayOf_alike hZ.alike Ar.2.1) Ar.2.2 (inb_of S1 q) (H1.at (inb_of S1 q) hv) hg hs hd
theorem own_ldB (X : Stand p l e R s m args below meth c T locs cells slots) (hx : p.tables.exec = Jvm.exec) (hZ : Z.Warmed39 s.vm) (eT : T.heap = h) (V : Arv Z h a kA .byte n vs dv) (q : ¬ j < 0 ∧ j < n) {v : Value} (hv : vs.getD j.toNatClampNeg dv = v) {g : JFrame} (hg : g.method = m) {rest : List Value} (hs : g.stack = .int j :: .ref a :: rest) (hd : decode c.code g.pc = .ok (.baload, 1)) :
    ∀ target, Steps p.tables e below (T.setTop { g with pc := g.pc + 1, stack := v :: rest }) target → Steps p.tables e below (T.setTop g) target := by
  obtain ⟨cl, Ar, q1, S1, N1, H1, G1⟩ := V
  exact X.baloadBytes hx (by rw [eT]; exact Ar.1) (State.isArrayOf_alike hZ.alike Ar.2.1) Ar.2.2 (inb_of S1 q) (H1.at (inb_of S1 q) hv) hg hs hd
theorem own_ldJ (X : Stand p l e R s m args below meth c T locs cells slots) (hx : p.tables.exec = Jvm.exec) (hZ : Z.Warmed39 s.vm) (eT : T.heap = h) (V : Arv Z h a kA .long n vs dv) (q : ¬ j < 0 ∧ j < n) {v : Value} (hv : vs.getD j.toNatClampNeg dv = v) {g : JFrame} (hg : g.method = m) {rest : List Value} (hs : g.stack = .int j :: .ref a :: rest) (hd : decode c.code g.pc = .ok (.laload, 1)) :
    ∀ target, Steps p.tables e below (T.setTop { g with pc := g.pc + 1, stack := v :: rest }) target → Steps p.tables e below (T.setTop g) target := by
  obtain ⟨cl, Ar, q1, S1, N1, H1, G1⟩ := V
  exact X.laload hx (by rw [eT]; exact Ar.1) (State.isArrayOf_alike hZ.alike Ar.2.1) Ar.2.2 (inb_of S1 q) (H1.at (inb_of S1 q) hv) hg hs hd
theorem own_len {ty : FieldType} (X : Stand p l e R s m args below meth c T locs cells slots) (hx : p.tables.exec = Jvm.exec) (hZ : Z.Warmed39 s.vm) (eT : T.heap = h) (V : Arv Z h a kA ty n vs dv) {g : JFrame} (hg : g.method = m) {rest : List Value} (hs : g.stack = .ref a :: rest) (hd : decode c.code g.pc = .ok (.arraylength, 1)) :
    ∀ target, Steps p.tables e below (T.setTop { g with pc := g.pc + 1, stack := .int n :: rest }) target → Steps p.tables e below (T.setTop g) target := by
  obtain ⟨cl, Ar, q1, S1, N1, H1, G1⟩ := V
  intro t k
  refine X.arraylength hx (by rw [eT]; exact Ar.1) (State.isArrayOf_alike hZ.alike Ar.2.1) hg hs hd t ?_
  rw [len_of S1 N1]; exact k
end Own

def own_am (lo up : Int64) (f : Int32) (b : Int64) : Int32 := if b < lo then 0 else if b < up then f + (b - lo).toInt32 else (-2147483648)
theorem own_top {lo up : Int64} {f : Int32} (h : ¬ up < lo) : own_am lo up f up = (-2147483648 : Int32) := by
  unfold own_am; rw [if_neg h, if_neg (by rw [Int64.lt_iff_toInt_lt]; omega)]
theorem own_bot {lo up : Int64} {f : Int32} (h : ¬ lo = (-9223372036854775808 : Int64)) : own_am lo up f (lo - (1 : Int64)) = (0 : Int32) := by
  have h1 := c_lsub lo 1
  have h2 := rng64 lo
  have h3 := rng64 (lo - 1)
  have e1 : (1 : Int64).toInt = 1 := by decide
  have e2 : (-9223372036854775808 : Int64).toInt = -9223372036854775808 := by decide
  rw [← Int64.toInt_inj, e2] at h
  rw [e1] at h1
  unfold own_am; rw [if_pos (by rw [Int64.lt_iff_toInt_lt]; omega)]
theorem own_ac (a b : Int64) : a + b - a = b := by rw [Int64.add_comm]; exact Int64.add_sub_cancel b a
theorem own_mid {lo sz up : Int64} {f : Int32} {kk : Int64} (hup : lo + sz = up) (h : ¬ up < lo) (hs : sz.toInt < 1073741824) (h0 : 0 ≤ kk.toInt) (h1 : kk.toInt < sz.toInt) : own_am lo up f (lo + kk) = f + kk.toInt32 := by
  subst hup
  have a1 := c_ladd lo sz
  have a2 := c_ladd lo kk
  have r1 := rng64 (lo + sz)
  have r2 := rng64 (lo + kk)
  have r3 := rng64 lo
  rw [Int64.lt_iff_toInt_lt] at h
  unfold own_am
  rw [if_neg (by rw [Int64.lt_iff_toInt_lt]; omega), if_pos (by rw [Int64.lt_iff_toInt_lt]; omega), own_ac]
theorem own_sz {a : Int32} {sz : Int64} (h : (a &&& (1073741823 : Int32)).toInt64 = sz) : 0 ≤ sz.toInt ∧ sz.toInt < 1073741824 := by
  subst h
  rw [c_i2l, c_mask a 1073741823 30 (by decide) (by decide)]
  omega
theorem own_pos {sz : Int64} (h : (0 : Int64) < sz) : 0 < sz.toInt := by rw [Int64.lt_iff_toInt_lt] at h; exact h
theorem own_nz {sz : Int64} (h : (0 : Int64) < sz) : sz ≠ 0 := fun q => by subst q; exact absurd h (by decide)
theorem own_kk {q sz kk : Int64} (h : (q &&& (9223372036854775807 : Int64)) % sz = kk) (hs : (0 : Int64) < sz) : 0 ≤ kk.toInt ∧ kk.toInt < sz.toInt := by
  subst h
  have hp := own_pos hs
  have hm := c_maskL q 9223372036854775807 63 (by decide) (by decide)
  have h0 : 0 ≤ (q &&& (9223372036854775807 : Int64)).toInt := by rw [hm]; omega
  rw [Int64.toInt_mod, (tr _ _).1 h0]
  exact ⟨Int.emod_nonneg _ (by omega), Int.emod_lt_of_pos _ hp⟩
theorem own_lastk {sz : Int64} (hs : (0 : Int64) < sz) : 0 ≤ (sz - (1 : Int64)).toInt ∧ (sz - (1 : Int64)).toInt < sz.toInt := by
  have hp := own_pos hs
  have h1 := c_lsub sz 1
  have h2 := rng64 sz
  have h3 := rng64 (sz - 1)
  have e1 : (1 : Int64).toInt = 1 := by decide
  rw [e1] at h1
  omega
theorem own_last {lo sz up : Int64} {f : Int32} (hup : lo + sz = up) (h : ¬ up < lo) (hs : sz.toInt < 1073741824) (hp : (0 : Int64) < sz) : own_am lo up f (up - (1 : Int64)) = f + (sz - (1 : Int64)).toInt32 := by
  have e : up - (1 : Int64) = lo + (sz - (1 : Int64)) := by
    subst hup
    rw [Int64.sub_eq_add_neg, Int64.add_assoc, ← Int64.sub_eq_add_neg]
  rw [e]
  exact own_mid hup h hs (own_lastk hp).1 (own_lastk hp).2
theorem d2_0 : decode jdk_30_method_1_code 0 = .ok (.aload_n 0, 1) := by decide +kernel
theorem d2_1 : decode jdk_30_method_1_code 1 = .ok (.invokespecial 1, 3) := by decide +kernel
theorem d2_4 : decode jdk_30_method_1_code 4 = .ok (.return_, 1) := by decide +kernel
theorem pn_2 : plainName "java/lang/Record" = true := by first | (simp [plainName, overriddenIn]; done) | decide +kernel
theorem ef_2 (m : MethodId) (r0 : Addr) : entryFrame m #[(.ref r0)] 1 = mkF m 0 #[.val (.ref r0)] [] := by first | (simp [entryFrame, mkF, argsToLocals, Value.category]; done) | rfl
def Q2 (Z : State) (r0 : Addr)  (h0 : Heap) (n0 : Nat) (v : Option Value) (h : Heap) (L : List Loc) : Prop := v = none ∧ Fr n0 L ∧ h = h0
set_option maxRecDepth 65536 in
set_option maxHeartbeats 40000000 in
theorem rm2 (l : Launch) (Z : State) (a0 : Array Value) (hw : ∀ d ∈ tables_1, d.before a0 Z = true) (ws : List Jvm.Cond) (r0 : Addr)  (h0 : Heap) (n0 : Nat) (Z0 : n0 ≤ h0.size)  :
    MetFree l (⟨"java/lang/Record", "<init>", "()V"⟩ : MethodName) (head1 (Jvm.Cond.code (⟨"java/lang/Record", "<init>", "()V"⟩ : MethodName) jdk_30_method_1_code 1 none :: ws) ({ frames := 1, cells := 0, slots := 0, locals := 12 } : Room)) (fun a U => a = #[(.ref r0)] ∧ Z.Warmed39 U.vm ∧ U.heap = h0) (fun _ _ _ _ _ => True) (fun _ U o U' => ∃ v L, o = .returned v ∧ Q2 Z r0 h0 n0 v U'.heap L ∧ FrameEnd U o U' L ({ frames := 1, cells := 0, slots := 0, locals := 12 } : Room).cells ({ frames := 1, cells := 0, slots := 0, locals := 12 } : Room).slots) := by
  refine MetFree.of_bodySF (plainFor_of_name pn_2) hisR ?_
  intro p e s m args below meth c s₁ Bd hml0 hP hK
  obtain ⟨rfl, hZ, hh⟩ := hP
  have hx := Bd.exec
  have hby := Bd.bytes
  have hml : c.maxLocals = 1 := hml0
  have hown : s.vm.findClass "java/lang/Record" = some m.cls := findClass_of_methodNamed Bd.named
  have hnm := (name_of_methodNamed Bd.named Bd.method).1
  have hlk : meth.locks = false := Bd.notSynchronized
  have X0 : Stand p l e ({ frames := 1, cells := 0, slots := 0, locals := 12 } : Room) s m #[(.ref r0)] below meth c s₁ [] 0 0 := Stand.of_body Bd
  have e0 : s₁.heap = h0 := by rw [← hh, Bd.state]; rfl
  have N0 := Fr.nil n0
  refine own_cast (Q := Q2 Z r0 h0 n0) (kc := 0) (ks := 0) (ef_2 m r0) ?_
  refine own_st (fun _ k => XS.aloadN X0.here hx rfl (hb hby d2_0) rfl rfl k) ?_
  show own_Go X0 (Q2 Z r0 h0 n0) 0 0 1 #[.val (.ref r0)] [(.ref r0)]
  obtain ⟨T1, X1, e1, st1⟩ := initO X0 hx hZ hown (hw _ (List.mem_of_getElem? (i := 12) rfl)) (hw _ (List.mem_of_getElem? (i := 13) rfl)) (hw _ (List.mem_of_getElem? (i := 14) rfl)) e0 (g := (mkF m 1 #[.val (.ref r0)] [(.ref r0)])) rfl (by rw [hml]; rfl) rfl (hb hby d2_1) (by decide) (W := 0) (by show 2 * 0 + _ ≤ _; exact Nat.le_of_eq rfl) (by decide)
  refine own_st st1 ?_
  show own_Go X1 (Q2 Z r0 h0 n0) 0 0 4 #[.val (.ref r0)] []
  refine own_retV X1 hx Bd.returns hlk e1 (hb hby d2_4) (by decide) (by decide) ?_
  exact ⟨rfl, N0, rfl⟩
theorem d1_0 : decode prog_77_method_1_code 0 = .ok (.aload_n 0, 1) := by decide +kernel
theorem d1_1 : decode prog_77_method_1_code 1 = .ok (.invokespecial 1, 3) := by decide +kernel
theorem d1_4 : decode prog_77_method_1_code 4 = .ok (.aload_n 0, 1) := by decide +kernel
theorem d1_5 : decode prog_77_method_1_code 5 = .ok (.lload_n 1, 1) := by decide +kernel
theorem d1_6 : decode prog_77_method_1_code 6 = .ok (.putfield 7, 3) := by decide +kernel
theorem d1_9 : decode prog_77_method_1_code 9 = .ok (.aload_n 0, 1) := by decide +kernel
theorem d1_10 : decode prog_77_method_1_code 10 = .ok (.lload_n 3, 1) := by decide +kernel
theorem d1_11 : decode prog_77_method_1_code 11 = .ok (.putfield 13, 3) := by decide +kernel
theorem d1_14 : decode prog_77_method_1_code 14 = .ok (.aload_n 0, 1) := by decide +kernel
theorem d1_15 : decode prog_77_method_1_code 15 = .ok (.iload 5, 2) := by decide +kernel
theorem d1_17 : decode prog_77_method_1_code 17 = .ok (.putfield 16, 3) := by decide +kernel
theorem d1_20 : decode prog_77_method_1_code 20 = .ok (.return_, 1) := by decide +kernel
theorem pn_1 : plainName "com/example/gingham/gingham/encoding/OrderInteger" = true := by first | (simp [plainName, overriddenIn]; done) | decide +kernel
theorem pd_1_0 : parseMethodDescriptor "()V" = some ⟨[], none⟩ := by decide +kernel
theorem ef_1 (m : MethodId) (r0 : Addr) (q1 : Int64) (q2 : Int64) (p3 : Int32) : entryFrame m #[(.ref r0), (.long q1), (.long q2), (.int p3)] 6 = mkF m 0 #[.val (.ref r0), .val (.long q1), .second, .val (.long q2), .second, .val (.int p3)] [] := by first | (simp [entryFrame, mkF, argsToLocals, Value.category]; done) | rfl
def Q1 (Z : State) (r0 : Addr) (q1 : Int64) (q2 : Int64) (p3 : Int32)  (h0 : Heap) (n0 : Nat) (v : Option Value) (h : Heap) (L : List Loc) : Prop := v = none ∧ Fr n0 L ∧ Keep h0 h [r0] ∧ Fld Z h r0 "com/example/gingham/gingham/encoding/OrderInteger" "lower" "J" (.long q1) ∧ Fld Z h r0 "com/example/gingham/gingham/encoding/OrderInteger" "upper" "J" (.long q2) ∧ Fld Z h r0 "com/example/gingham/gingham/encoding/OrderInteger" "first" "I" (.int p3)
set_option maxRecDepth 65536 in
set_option maxHeartbeats 40000000 in
theorem rm1 (l : Launch) (Z : State) (a0 : Array Value) (hw : ∀ d ∈ tables_1, d.before a0 Z = true) (ws : List Jvm.Cond) (r0 : Addr) (q1 : Int64) (q2 : Int64) (p3 : Int32)  (h0 : Heap) (n0 : Nat) (Z0 : n0 ≤ h0.size) (PE : Exa Z h0 r0 "com/example/gingham/gingham/encoding/OrderInteger") (PG : n0 ≤ r0) (P_lower : Fld Z h0 r0 "com/example/gingham/gingham/encoding/OrderInteger" "lower" "J" (.long (0 : Int64))) (P_upper : Fld Z h0 r0 "com/example/gingham/gingham/encoding/OrderInteger" "upper" "J" (.long (0 : Int64))) (P_first : Fld Z h0 r0 "com/example/gingham/gingham/encoding/OrderInteger" "first" "I" (.int (0 : Int32))) :
    MetFree l (⟨"com/example/gingham/gingham/encoding/OrderInteger", "<init>", "(JJI)V"⟩ : MethodName) (head1 (Jvm.Cond.code (⟨"com/example/gingham/gingham/encoding/OrderInteger", "<init>", "(JJI)V"⟩ : MethodName) prog_77_method_1_code 6 none :: ws) ({ frames := 2, cells := 0, slots := 0, locals := 24 } : Room)) (fun a U => a = #[(.ref r0), (.long q1), (.long q2), (.int p3)] ∧ Z.Warmed39 U.vm ∧ U.heap = h0) (fun _ _ _ _ _ => True) (fun _ U o U' => ∃ v L, o = .returned v ∧ Q1 Z r0 q1 q2 p3 h0 n0 v U'.heap L ∧ FrameEnd U o U' L ({ frames := 2, cells := 0, slots := 0, locals := 24 } : Room).cells ({ frames := 2, cells := 0, slots := 0, locals := 24 } : Room).slots) := by
  refine MetFree.of_bodySF (plainFor_of_name pn_1) hisR ?_
  intro p e s m args below meth c s₁ Bd hml0 hP hK
  obtain ⟨rfl, hZ, hh⟩ := hP
  have hx := Bd.exec
  have hby := Bd.bytes
  have hml : c.maxLocals = 6 := hml0
  have hown : s.vm.findClass "com/example/gingham/gingham/encoding/OrderInteger" = some m.cls := findClass_of_methodNamed Bd.named
  have hnm := (name_of_methodNamed Bd.named Bd.method).1
  have hlk : meth.locks = false := Bd.notSynchronized
  have X0 : Stand p l e ({ frames := 2, cells := 0, slots := 0, locals := 24 } : Room) s m #[(.ref r0), (.long q1), (.long q2), (.int p3)] below meth c s₁ [] 0 0 := Stand.of_body Bd
  have e0 : s₁.heap = h0 := by rw [← hh, Bd.state]; rfl
  have N0 := Fr.nil n0
  refine own_cast (Q := Q1 Z r0 q1 q2 p3 h0 n0) (kc := 0) (ks := 0) (ef_1 m r0 q1 q2 p3) ?_
  have K_1 := Keep.refl h0 [r0]
  refine own_st (fun _ k => XS.aloadN X0.here hx rfl (hb hby d1_0) rfl rfl k) ?_
  show own_Go X0 (Q1 Z r0 q1 q2 p3 h0 n0) 0 0 1 #[.val (.ref r0), .val (.long q1), .second, .val (.long q2), .second, .val (.int p3)] [(.ref r0)]
  refine own_callI (W := 0) X0 hx hZ hown (hw _ (List.mem_of_getElem? (i := 7) rfl)) (hw _ (List.mem_of_getElem? (i := 8) rfl)) (hw _ (List.mem_of_getElem? (i := 10) rfl)) (hw _ (List.mem_of_getElem? (i := 11) rfl)) rfl (by decide) (rm2 l Z a0 hw [] r0 h0 n0 Z0) (by decide) (by decide) (by rw [hml]; rfl) r0 [] [] (lenOf pd_1_0 rfl) rfl rfl (Nat.le_of_ble_eq_true rfl) (hb hby d1_1) e0 (by decide) (by decide) ?_
  rintro _ T2 L2 X2 ⟨rfl, N2q, e2⟩
  have N_3 := Fr.app N0 N2q
  show own_Go X2 (Q1 Z r0 q1 q2 p3 h0 n0) 0 0 4 #[.val (.ref r0), .val (.long q1), .second, .val (.long q2), .second, .val (.int p3)] []
  refine own_st (fun _ k => XS.aloadN X2.here hx rfl (hb hby d1_4) rfl rfl k) ?_
  show own_Go X2 (Q1 Z r0 q1 q2 p3 h0 n0) 0 0 5 #[.val (.ref r0), .val (.long q1), .second, .val (.long q2), .second, .val (.int p3)] [(.ref r0)]
  refine own_st (fun _ k => XS.lloadN X2.here hx rfl (hb hby d1_5) rfl k) ?_
  show own_Go X2 (Q1 Z r0 q1 q2 p3 h0 n0) 0 0 6 #[.val (.ref r0), .val (.long q1), .second, .val (.long q2), .second, .val (.int p3)] [(.long q1), (.ref r0)]
  obtain ⟨T4, h4, X4, e4, W4, st4⟩ := putF X2 hx hZ hown (host := "") (Or.inl (hw _ (List.mem_of_getElem? (i := 15) rfl))) Via.refl e2 P_lower PE (Or.inr ⟨(hw _ (List.mem_of_getElem? (i := 16) rfl)), rfl, hnm⟩) (hw _ (List.mem_of_getElem? (i := 2) rfl)) (ty := .long) (by decide) rfl rfl (g := (mkF m 6 #[.val (.ref r0), .val (.long q1), .second, .val (.long q2), .second, .val (.int p3)] [(.long q1), (.ref r0)])) rfl rfl (hb hby d1_6)
  refine own_st st4 ?_
  have f_5 := PE.wr W4
  have f_6 := P_upper.other W4 (Or.inr (slot_ne (Or.inr (hw _ (List.mem_of_getElem? (i := 18) rfl))) (Or.inr (hw _ (List.mem_of_getElem? (i := 16) rfl))) (by decide) (t := .long) (t' := .long) (by decide) (by decide)))
  have f_7 := P_first.other W4 (Or.inr (slot_ne (Or.inr (hw _ (List.mem_of_getElem? (i := 20) rfl))) (Or.inr (hw _ (List.mem_of_getElem? (i := 16) rfl))) (by decide) (t := .int) (t' := .long) (by decide) (by decide)))
  have Z_8 := Nat.le_trans Z0 (Nat.le_of_eq W4.size.symm)
  have K_9 := K_1.wr W4 (Or.inl (List.mem_of_getElem? (i := 0) rfl))
  have f_10 := P_lower.same W4
  have N_11 := Fr.snoc X4 N_3 PG
  show own_Go X4 (Q1 Z r0 q1 q2 p3 h0 n0) 0 0 9 #[.val (.ref r0), .val (.long q1), .second, .val (.long q2), .second, .val (.int p3)] []
  refine own_st (fun _ k => XS.aloadN X4.here hx rfl (hb hby d1_9) rfl rfl k) ?_
  show own_Go X4 (Q1 Z r0 q1 q2 p3 h0 n0) 0 0 10 #[.val (.ref r0), .val (.long q1), .second, .val (.long q2), .second, .val (.int p3)] [(.ref r0)]
  refine own_st (fun _ k => XS.lloadN X4.here hx rfl (hb hby d1_10) rfl k) ?_
  show own_Go X4 (Q1 Z r0 q1 q2 p3 h0 n0) 0 0 11 #[.val (.ref r0), .val (.long q1), .second, .val (.long q2), .second, .val (.int p3)] [(.long q2), (.ref r0)]
  obtain ⟨T12, h12, X12, e12, W12, st12⟩ := putF X4 hx hZ hown (host := "") (Or.inl (hw _ (List.mem_of_getElem? (i := 17) rfl))) Via.refl e4 f_6 f_5 (Or.inr ⟨(hw _ (List.mem_of_getElem? (i := 18) rfl)), rfl, hnm⟩) (hw _ (List.mem_of_getElem? (i := 2) rfl)) (ty := .long) (by decide) rfl rfl (g := (mkF m 11 #[.val (.ref r0), .val (.long q1), .second, .val (.long q2), .second, .val (.int p3)] [(.long q2), (.ref r0)])) rfl rfl (hb hby d1_11)
  refine own_st st12 ?_
  have f_13 := f_5.wr W12
  have f_14 := f_10.other W12 (Or.inr (slot_ne (Or.inr (hw _ (List.mem_of_getElem? (i := 16) rfl))) (Or.inr (hw _ (List.mem_of_getElem? (i := 18) rfl))) (by decide) (t := .long) (t' := .long) (by decide) (by decide)))
  have f_15 := f_7.other W12 (Or.inr (slot_ne (Or.inr (hw _ (List.mem_of_getElem? (i := 20) rfl))) (Or.inr (hw _ (List.mem_of_getElem? (i := 18) rfl))) (by decide) (t := .int) (t' := .long) (by decide) (by decide)))
  have Z_16 := Nat.le_trans Z_8 (Nat.le_of_eq W12.size.symm)
  have K_17 := K_9.wr W12 (Or.inl (List.mem_of_getElem? (i := 0) rfl))
  have f_18 := f_6.same W12
  have N_19 := Fr.snoc X12 N_11 PG
  show own_Go X12 (Q1 Z r0 q1 q2 p3 h0 n0) 0 0 14 #[.val (.ref r0), .val (.long q1), .second, .val (.long q2), .second, .val (.int p3)] []
  refine own_st (fun _ k => XS.aloadN X12.here hx rfl (hb hby d1_14) rfl rfl k) ?_
  show own_Go X12 (Q1 Z r0 q1 q2 p3 h0 n0) 0 0 15 #[.val (.ref r0), .val (.long q1), .second, .val (.long q2), .second, .val (.int p3)] [(.ref r0)]
  refine own_st (fun _ k => XS.iload X12.here hx rfl (hb hby d1_15) rfl k) ?_
  show own_Go X12 (Q1 Z r0 q1 q2 p3 h0 n0) 0 0 17 #[.val (.ref r0), .val (.long q1), .second, .val (.long q2), .second, .val (.int p3)] [(.int p3), (.ref r0)]
  obtain ⟨T20, h20, X20, e20, W20, st20⟩ := putF X12 hx hZ hown (host := "") (Or.inl (hw _ (List.mem_of_getElem? (i := 19) rfl))) Via.refl e12 f_15 f_13 (Or.inr ⟨(hw _ (List.mem_of_getElem? (i := 20) rfl)), rfl, hnm⟩) (hw _ (List.mem_of_getElem? (i := 2) rfl)) (ty := .int) (by decide) rfl rfl (g := (mkF m 17 #[.val (.ref r0), .val (.long q1), .second, .val (.long q2), .second, .val (.int p3)] [(.int p3), (.ref r0)])) rfl rfl (hb hby d1_17)
  refine own_st st20 ?_
  have f_21 := f_13.wr W20
  have f_22 := f_14.other W20 (Or.inr (slot_ne (Or.inr (hw _ (List.mem_of_getElem? (i := 16) rfl))) (Or.inr (hw _ (List.mem_of_getElem? (i := 20) rfl))) (by decide) (t := .long) (t' := .int) (by decide) (by decide)))
  have f_23 := f_18.other W20 (Or.inr (slot_ne (Or.inr (hw _ (List.mem_of_getElem? (i := 18) rfl))) (Or.inr (hw _ (List.mem_of_getElem? (i := 20) rfl))) (by decide) (t := .long) (t' := .int) (by decide) (by decide)))
  have Z_24 := Nat.le_trans Z_16 (Nat.le_of_eq W20.size.symm)
  have K_25 := K_17.wr W20 (Or.inl (List.mem_of_getElem? (i := 0) rfl))
  have f_26 := f_15.same W20
  have N_27 := Fr.snoc X20 N_19 PG
  show own_Go X20 (Q1 Z r0 q1 q2 p3 h0 n0) 0 0 20 #[.val (.ref r0), .val (.long q1), .second, .val (.long q2), .second, .val (.int p3)] []
  refine own_retV X20 hx Bd.returns hlk e20 (hb hby d1_20) (by decide) (by decide) ?_
  exact ⟨rfl, N_27, K_25, f_22, f_23, f_26⟩
theorem d4_0 : decode prog_77_method_3_code 0 = .ok (.lload_n 1, 1) := by decide +kernel
theorem d4_1 : decode prog_77_method_3_code 1 = .ok (.aload_n 0, 1) := by decide +kernel
theorem d4_2 : decode prog_77_method_3_code 2 = .ok (.getfield 7, 3) := by decide +kernel
theorem d4_5 : decode prog_77_method_3_code 5 = .ok (.lcmp, 1) := by decide +kernel
theorem d4_6 : decode prog_77_method_3_code 6 = .ok (.ifCond .ge 5, 3) := by decide +kernel
theorem d4_9 : decode prog_77_method_3_code 9 = .ok (.iconst 0, 1) := by decide +kernel
theorem d4_10 : decode prog_77_method_3_code 10 = .ok (.ireturn, 1) := by decide +kernel
theorem d4_11 : decode prog_77_method_3_code 11 = .ok (.lload_n 1, 1) := by decide +kernel
theorem d4_12 : decode prog_77_method_3_code 12 = .ok (.aload_n 0, 1) := by decide +kernel
theorem d4_13 : decode prog_77_method_3_code 13 = .ok (.getfield 13, 3) := by decide +kernel
theorem d4_16 : decode prog_77_method_3_code 16 = .ok (.lcmp, 1) := by decide +kernel
theorem d4_17 : decode prog_77_method_3_code 17 = .ok (.ifCond .lt 6, 3) := by decide +kernel
theorem d4_20 : decode prog_77_method_3_code 20 = .ok (.ldc 22, 2) := by decide +kernel
theorem d4_22 : decode prog_77_method_3_code 22 = .ok (.ireturn, 1) := by decide +kernel
theorem d4_23 : decode prog_77_method_3_code 23 = .ok (.aload_n 0, 1) := by decide +kernel
theorem d4_24 : decode prog_77_method_3_code 24 = .ok (.getfield 16, 3) := by decide +kernel
theorem d4_27 : decode prog_77_method_3_code 27 = .ok (.lload_n 1, 1) := by decide +kernel
theorem d4_28 : decode prog_77_method_3_code 28 = .ok (.aload_n 0, 1) := by decide +kernel
theorem d4_29 : decode prog_77_method_3_code 29 = .ok (.getfield 7, 3) := by decide +kernel
theorem d4_32 : decode prog_77_method_3_code 32 = .ok (.lsub, 1) := by decide +kernel
theorem d4_33 : decode prog_77_method_3_code 33 = .ok (.l2i, 1) := by decide +kernel
theorem d4_34 : decode prog_77_method_3_code 34 = .ok (.iadd, 1) := by decide +kernel
theorem d4_35 : decode prog_77_method_3_code 35 = .ok (.ireturn, 1) := by decide +kernel
theorem pn_4 : plainName "com/example/gingham/gingham/encoding/OrderInteger" = true := by first | (simp [plainName, overriddenIn]; done) | decide +kernel
theorem ef_4 (m : MethodId) (r0 : Addr) (q1 : Int64) : entryFrame m #[(.ref r0), (.long q1)] 3 = mkF m 0 #[.val (.ref r0), .val (.long q1), .second] [] := by first | (simp [entryFrame, mkF, argsToLocals, Value.category]; done) | rfl
def Q4 (Z : State) (r0 : Addr) (q1 : Int64) (lo up : Int64) (fi : Int32) (h0 : Heap) (n0 : Nat) (v : Option Value) (h : Heap) (L : List Loc) : Prop := v = some (.int (own_am lo up fi q1)) ∧ Fr n0 L ∧ h = h0
set_option maxRecDepth 65536 in
set_option maxHeartbeats 40000000 in
theorem rm4 (l : Launch) (Z : State) (a0 : Array Value) (hw : ∀ d ∈ tables_1, d.before a0 Z = true) (ws : List Jvm.Cond) (r0 : Addr) (q1 : Int64) (lo up : Int64) (fi : Int32) (h0 : Heap) (n0 : Nat) (Z0 : n0 ≤ h0.size) (P_lower : Fld Z h0 r0 "com/example/gingham/gingham/encoding/OrderInteger" "lower" "J" (.long lo)) (P_upper : Fld Z h0 r0 "com/example/gingham/gingham/encoding/OrderInteger" "upper" "J" (.long up)) (P_first : Fld Z h0 r0 "com/example/gingham/gingham/encoding/OrderInteger" "first" "I" (.int fi)) :
    MetFree l (⟨"com/example/gingham/gingham/encoding/OrderInteger", "atMost", "(J)I"⟩ : MethodName) (head1 (Jvm.Cond.code (⟨"com/example/gingham/gingham/encoding/OrderInteger", "atMost", "(J)I"⟩ : MethodName) prog_77_method_3_code 3 (some .int) :: ws) ({ frames := 0, cells := 0, slots := 0, locals := 0 } : Room)) (fun a U => a = #[(.ref r0), (.long q1)] ∧ Z.Warmed39 U.vm ∧ U.heap = h0) (fun _ _ _ _ _ => True) (fun _ U o U' => ∃ v L, o = .returned v ∧ Q4 Z r0 q1 lo up fi h0 n0 v U'.heap L ∧ FrameEnd U o U' L ({ frames := 0, cells := 0, slots := 0, locals := 0 } : Room).cells ({ frames := 0, cells := 0, slots := 0, locals := 0 } : Room).slots) := by
  refine MetFree.of_bodySF (plainFor_of_name pn_4) hisR ?_
  intro p e s m args below meth c s₁ Bd hml0 hP hK
  obtain ⟨rfl, hZ, hh⟩ := hP
  have hx := Bd.exec
  have hby := Bd.bytes
  have hml : c.maxLocals = 3 := hml0
  have hown : s.vm.findClass "com/example/gingham/gingham/encoding/OrderInteger" = some m.cls := findClass_of_methodNamed Bd.named
  have hnm := (name_of_methodNamed Bd.named Bd.method).1
  have hlk : meth.locks = false := Bd.notSynchronized
  have X0 : Stand p l e ({ frames := 0, cells := 0, slots := 0, locals := 0 } : Room) s m #[(.ref r0), (.long q1)] below meth c s₁ [] 0 0 := Stand.of_body Bd
  have e0 : s₁.heap = h0 := by rw [← hh, Bd.state]; rfl
  have N0 := Fr.nil n0
  refine own_cast (Q := Q4 Z r0 q1 lo up fi h0 n0) (kc := 0) (ks := 0) (ef_4 m r0 q1) ?_
  refine own_st (fun _ k => XS.lloadN X0.here hx rfl (hb hby d4_0) rfl k) ?_
  show own_Go X0 (Q4 Z r0 q1 lo up fi h0 n0) 0 0 1 #[.val (.ref r0), .val (.long q1), .second] [(.long q1)]
  refine own_st (fun _ k => XS.aloadN X0.here hx rfl (hb hby d4_1) rfl rfl k) ?_
  show own_Go X0 (Q4 Z r0 q1 lo up fi h0 n0) 0 0 2 #[.val (.ref r0), .val (.long q1), .second] [(.ref r0), (.long q1)]
  obtain ⟨T1, X1, e1, st1⟩ := getF X0 hx hZ hown (host := "") (Or.inl (hw _ (List.mem_of_getElem? (i := 15) rfl))) Via.refl e0 P_lower (g := (mkF m 2 #[.val (.ref r0), .val (.long q1), .second] [(.ref r0), (.long q1)])) rfl rfl (hb hby d4_2)
  refine own_st st1 ?_
  show own_Go X1 (Q4 Z r0 q1 lo up fi h0 n0) 0 0 5 #[.val (.ref r0), .val (.long q1), .second] [(.long lo), (.long q1)]
  refine own_st (fun _ k => XS.lcmp X1.here hx rfl (hb hby d4_5) rfl k) ?_
  show own_Go X1 (Q4 Z r0 q1 lo up fi h0 n0) 0 0 6 #[.val (.ref r0), .val (.long q1), .second] [(.int (lcmpW q1 lo))]
  by_cases c6_2 : q1 < lo
  · skip
    refine own_st (fun _ k => XS.ifNo X1.here hx rfl (hb hby d4_6) rfl ((if0 _ _).trans (tlt ((lw_lt _ _).mpr c6_2)).2.1) k) ?_
    show own_Go X1 (Q4 Z r0 q1 lo up fi h0 n0) 0 0 9 #[.val (.ref r0), .val (.long q1), .second] []
    refine own_st (fun _ k => XS.iconst X1.here hx rfl (hb hby d4_9) k) ?_
    show own_Go X1 (Q4 Z r0 q1 lo up fi h0 n0) 0 0 10 #[.val (.ref r0), .val (.long q1), .second] [(.int (0 : Int32))]
    refine own_retI X1 hx Bd.returns hlk e1 (hb hby d4_10) (by decide) (by decide) ?_
    exact ⟨by simp [own_am, own_nar0, own_nar1, c6_2], N0, rfl⟩
  · skip
    refine own_st (fun _ k => XS.ifYes X1.here hx rfl (pc0 := 6) (pc' := 11) rfl (hb hby d4_6) rfl ((if0 _ _).trans (flt (fun q => c6_2 ((lw_lt _ _).mp q))).2.1) (by decide) (by decide) k) ?_
    show own_Go X1 (Q4 Z r0 q1 lo up fi h0 n0) 0 0 11 #[.val (.ref r0), .val (.long q1), .second] []
    refine own_st (fun _ k => XS.lloadN X1.here hx rfl (hb hby d4_11) rfl k) ?_
    show own_Go X1 (Q4 Z r0 q1 lo up fi h0 n0) 0 0 12 #[.val (.ref r0), .val (.long q1), .second] [(.long q1)]
    refine own_st (fun _ k => XS.aloadN X1.here hx rfl (hb hby d4_12) rfl rfl k) ?_
    show own_Go X1 (Q4 Z r0 q1 lo up fi h0 n0) 0 0 13 #[.val (.ref r0), .val (.long q1), .second] [(.ref r0), (.long q1)]
    obtain ⟨T3, X3, e3, st3⟩ := getF X1 hx hZ hown (host := "") (Or.inl (hw _ (List.mem_of_getElem? (i := 17) rfl))) Via.refl e1 P_upper (g := (mkF m 13 #[.val (.ref r0), .val (.long q1), .second] [(.ref r0), (.long q1)])) rfl rfl (hb hby d4_13)
    refine own_st st3 ?_
    show own_Go X3 (Q4 Z r0 q1 lo up fi h0 n0) 0 0 16 #[.val (.ref r0), .val (.long q1), .second] [(.long up), (.long q1)]
    refine own_st (fun _ k => XS.lcmp X3.here hx rfl (hb hby d4_16) rfl k) ?_
    show own_Go X3 (Q4 Z r0 q1 lo up fi h0 n0) 0 0 17 #[.val (.ref r0), .val (.long q1), .second] [(.int (lcmpW q1 up))]
    by_cases c17_4 : q1 < up
    · skip
      refine own_st (fun _ k => XS.ifYes X3.here hx rfl (pc0 := 17) (pc' := 23) rfl (hb hby d4_17) rfl ((if0 _ _).trans (tlt ((lw_lt _ _).mpr c17_4)).1) (by decide) (by decide) k) ?_
      show own_Go X3 (Q4 Z r0 q1 lo up fi h0 n0) 0 0 23 #[.val (.ref r0), .val (.long q1), .second] []
      refine own_st (fun _ k => XS.aloadN X3.here hx rfl (hb hby d4_23) rfl rfl k) ?_
      show own_Go X3 (Q4 Z r0 q1 lo up fi h0 n0) 0 0 24 #[.val (.ref r0), .val (.long q1), .second] [(.ref r0)]
      obtain ⟨T5, X5, e5, st5⟩ := getF X3 hx hZ hown (host := "") (Or.inl (hw _ (List.mem_of_getElem? (i := 19) rfl))) Via.refl e3 P_first (g := (mkF m 24 #[.val (.ref r0), .val (.long q1), .second] [(.ref r0)])) rfl rfl (hb hby d4_24)
      refine own_st st5 ?_
      show own_Go X5 (Q4 Z r0 q1 lo up fi h0 n0) 0 0 27 #[.val (.ref r0), .val (.long q1), .second] [(.int fi)]
      refine own_st (fun _ k => XS.lloadN X5.here hx rfl (hb hby d4_27) rfl k) ?_
      show own_Go X5 (Q4 Z r0 q1 lo up fi h0 n0) 0 0 28 #[.val (.ref r0), .val (.long q1), .second] [(.long q1), (.int fi)]
      refine own_st (fun _ k => XS.aloadN X5.here hx rfl (hb hby d4_28) rfl rfl k) ?_
      show own_Go X5 (Q4 Z r0 q1 lo up fi h0 n0) 0 0 29 #[.val (.ref r0), .val (.long q1), .second] [(.ref r0), (.long q1), (.int fi)]
      obtain ⟨T6, X6, e6, st6⟩ := getF X5 hx hZ hown (host := "") (Or.inl (hw _ (List.mem_of_getElem? (i := 15) rfl))) Via.refl e5 P_lower (g := (mkF m 29 #[.val (.ref r0), .val (.long q1), .second] [(.ref r0), (.long q1), (.int fi)])) rfl rfl (hb hby d4_29)
      refine own_st st6 ?_
      show own_Go X6 (Q4 Z r0 q1 lo up fi h0 n0) 0 0 32 #[.val (.ref r0), .val (.long q1), .second] [(.long lo), (.long q1), (.int fi)]
      refine own_st (fun _ k => XS.lsub X6.here hx rfl (hb hby d4_32) rfl k) ?_
      show own_Go X6 (Q4 Z r0 q1 lo up fi h0 n0) 0 0 33 #[.val (.ref r0), .val (.long q1), .second] [(.long (q1 - lo)), (.int fi)]
      refine own_st (fun _ k => XS.l2i X6.here hx rfl (hb hby d4_33) rfl k) ?_
      show own_Go X6 (Q4 Z r0 q1 lo up fi h0 n0) 0 0 34 #[.val (.ref r0), .val (.long q1), .second] [(.int ((q1 - lo).toInt32)), (.int fi)]
      refine own_st (fun _ k => XS.iadd X6.here hx rfl (hb hby d4_34) rfl k) ?_
      show own_Go X6 (Q4 Z r0 q1 lo up fi h0 n0) 0 0 35 #[.val (.ref r0), .val (.long q1), .second] [(.int (fi + ((q1 - lo).toInt32)))]
      refine own_retI X6 hx Bd.returns hlk e6 (hb hby d4_35) (by decide) (by decide) ?_
      exact ⟨by simp [own_am, own_nar0, own_nar1, c6_2, c17_4], N0, rfl⟩
    · skip
      refine own_st (fun _ k => XS.ifNo X3.here hx rfl (hb hby d4_17) rfl ((if0 _ _).trans (flt (fun q => c17_4 ((lw_lt _ _).mp q))).1) k) ?_
      show own_Go X3 (Q4 Z r0 q1 lo up fi h0 n0) 0 0 20 #[.val (.ref r0), .val (.long q1), .second] []
      refine own_st (fun t k => X3.ldcInt hx hown (mvT hZ (hw _ (List.mem_of_getElem? (i := 30) rfl))) (g := (mkF m 20 #[.val (.ref r0), .val (.long q1), .second] [])) rfl (hb hby d4_20) t k) ?_
      show own_Go X3 (Q4 Z r0 q1 lo up fi h0 n0) 0 0 22 #[.val (.ref r0), .val (.long q1), .second] [(.int (-2147483648 : Int32))]
      refine own_retI X3 hx Bd.returns hlk e3 (hb hby d4_22) (by decide) (by decide) ?_
      exact ⟨by simp [own_am, own_nar0, own_nar1, c6_2, c17_4], N0, rfl⟩
theorem d5_0 : decode method_3_code 0 = .ok (.lload 5, 2) := by decide +kernel
theorem d5_2 : decode method_3_code 2 = .ok (.lload_n 0, 1) := by decide +kernel
theorem d5_3 : decode method_3_code 3 = .ok (.lcmp, 1) := by decide +kernel
theorem d5_4 : decode method_3_code 4 = .ok (.ifCond .ge 5, 3) := by decide +kernel
theorem d5_7 : decode method_3_code 7 = .ok (.iconst 0, 1) := by decide +kernel
theorem d5_8 : decode method_3_code 8 = .ok (.ireturn, 1) := by decide +kernel
theorem d5_9 : decode method_3_code 9 = .ok (.lload 5, 2) := by decide +kernel
theorem d5_11 : decode method_3_code 11 = .ok (.lload_n 2, 1) := by decide +kernel
theorem d5_12 : decode method_3_code 12 = .ok (.lcmp, 1) := by decide +kernel
theorem d5_13 : decode method_3_code 13 = .ok (.ifCond .lt 6, 3) := by decide +kernel
theorem d5_16 : decode method_3_code 16 = .ok (.ldc 25, 2) := by decide +kernel
theorem d5_18 : decode method_3_code 18 = .ok (.ireturn, 1) := by decide +kernel
theorem d5_19 : decode method_3_code 19 = .ok (.iload 4, 2) := by decide +kernel
theorem d5_21 : decode method_3_code 21 = .ok (.lload 5, 2) := by decide +kernel
theorem d5_23 : decode method_3_code 23 = .ok (.lload_n 0, 1) := by decide +kernel
theorem d5_24 : decode method_3_code 24 = .ok (.lsub, 1) := by decide +kernel
theorem d5_25 : decode method_3_code 25 = .ok (.l2i, 1) := by decide +kernel
theorem d5_26 : decode method_3_code 26 = .ok (.iadd, 1) := by decide +kernel
theorem d5_27 : decode method_3_code 27 = .ok (.ireturn, 1) := by decide +kernel
theorem pn_5 : plainName "com/example/gingham/gingham/encoding/OrderIntegerAtMostPinLaw" = true := by first | (simp [plainName, overriddenIn]; done) | decide +kernel
theorem ef_5 (m : MethodId) (q0 : Int64) (q1 : Int64) (p2 : Int32) (q3 : Int64) : entryFrame m #[(.long q0), (.long q1), (.int p2), (.long q3)] 7 = mkF m 0 #[.val (.long q0), .second, .val (.long q1), .second, .val (.int p2), .val (.long q3), .second] [] := by first | (simp [entryFrame, mkF, argsToLocals, Value.category]; done) | rfl
def Q5 (Z : State) (q0 : Int64) (q1 : Int64) (p2 : Int32) (q3 : Int64)  (h0 : Heap) (n0 : Nat) (v : Option Value) (h : Heap) (L : List Loc) : Prop := v = some (.int (own_am q0 q1 p2 q3)) ∧ Fr n0 L ∧ h = h0
set_option maxRecDepth 65536 in
set_option maxHeartbeats 40000000 in
theorem rm5 (l : Launch) (Z : State) (a0 : Array Value) (hw : ∀ d ∈ tables_1, d.before a0 Z = true) (ws : List Jvm.Cond) (q0 : Int64) (q1 : Int64) (p2 : Int32) (q3 : Int64)  (h0 : Heap) (n0 : Nat) (Z0 : n0 ≤ h0.size)  :
    MetFree l (⟨"com/example/gingham/gingham/encoding/OrderIntegerAtMostPinLaw", "expected", "(JJIJ)I"⟩ : MethodName) (head1 (Jvm.Cond.code (⟨"com/example/gingham/gingham/encoding/OrderIntegerAtMostPinLaw", "expected", "(JJIJ)I"⟩ : MethodName) method_3_code 7 (some .int) :: ws) ({ frames := 0, cells := 0, slots := 0, locals := 0 } : Room)) (fun a U => a = #[(.long q0), (.long q1), (.int p2), (.long q3)] ∧ Z.Warmed39 U.vm ∧ U.heap = h0) (fun _ _ _ _ _ => True) (fun _ U o U' => ∃ v L, o = .returned v ∧ Q5 Z q0 q1 p2 q3 h0 n0 v U'.heap L ∧ FrameEnd U o U' L ({ frames := 0, cells := 0, slots := 0, locals := 0 } : Room).cells ({ frames := 0, cells := 0, slots := 0, locals := 0 } : Room).slots) := by
  refine MetFree.of_bodySF (plainFor_of_name pn_5) hisR ?_
  intro p e s m args below meth c s₁ Bd hml0 hP hK
  obtain ⟨rfl, hZ, hh⟩ := hP
  have hx := Bd.exec
  have hby := Bd.bytes
  have hml : c.maxLocals = 7 := hml0
  have hown : s.vm.findClass "com/example/gingham/gingham/encoding/OrderIntegerAtMostPinLaw" = some m.cls := findClass_of_methodNamed Bd.named
  have hnm := (name_of_methodNamed Bd.named Bd.method).1
  have hlk : meth.locks = false := Bd.notSynchronized
  have X0 : Stand p l e ({ frames := 0, cells := 0, slots := 0, locals := 0 } : Room) s m #[(.long q0), (.long q1), (.int p2), (.long q3)] below meth c s₁ [] 0 0 := Stand.of_body Bd
  have e0 : s₁.heap = h0 := by rw [← hh, Bd.state]; rfl
  have N0 := Fr.nil n0
  refine own_cast (Q := Q5 Z q0 q1 p2 q3 h0 n0) (kc := 0) (ks := 0) (ef_5 m q0 q1 p2 q3) ?_
  refine own_st (fun _ k => XS.lload X0.here hx rfl (hb hby d5_0) rfl k) ?_
  show own_Go X0 (Q5 Z q0 q1 p2 q3 h0 n0) 0 0 2 #[.val (.long q0), .second, .val (.long q1), .second, .val (.int p2), .val (.long q3), .second] [(.long q3)]
  refine own_st (fun _ k => XS.lloadN X0.here hx rfl (hb hby d5_2) rfl k) ?_
  show own_Go X0 (Q5 Z q0 q1 p2 q3 h0 n0) 0 0 3 #[.val (.long q0), .second, .val (.long q1), .second, .val (.int p2), .val (.long q3), .second] [(.long q0), (.long q3)]
  refine own_st (fun _ k => XS.lcmp X0.here hx rfl (hb hby d5_3) rfl k) ?_
  show own_Go X0 (Q5 Z q0 q1 p2 q3 h0 n0) 0 0 4 #[.val (.long q0), .second, .val (.long q1), .second, .val (.int p2), .val (.long q3), .second] [(.int (lcmpW q3 q0))]
  by_cases c4_1 : q3 < q0
  · skip
    refine own_st (fun _ k => XS.ifNo X0.here hx rfl (hb hby d5_4) rfl ((if0 _ _).trans (tlt ((lw_lt _ _).mpr c4_1)).2.1) k) ?_
    show own_Go X0 (Q5 Z q0 q1 p2 q3 h0 n0) 0 0 7 #[.val (.long q0), .second, .val (.long q1), .second, .val (.int p2), .val (.long q3), .second] []
    refine own_st (fun _ k => XS.iconst X0.here hx rfl (hb hby d5_7) k) ?_
    show own_Go X0 (Q5 Z q0 q1 p2 q3 h0 n0) 0 0 8 #[.val (.long q0), .second, .val (.long q1), .second, .val (.int p2), .val (.long q3), .second] [(.int (0 : Int32))]
    refine own_retI X0 hx Bd.returns hlk e0 (hb hby d5_8) (by decide) (by decide) ?_
    exact ⟨by simp [own_am, own_nar0, own_nar1, c4_1], N0, rfl⟩
  · skip
    refine own_st (fun _ k => XS.ifYes X0.here hx rfl (pc0 := 4) (pc' := 9) rfl (hb hby d5_4) rfl ((if0 _ _).trans (flt (fun q => c4_1 ((lw_lt _ _).mp q))).2.1) (by decide) (by decide) k) ?_
    show own_Go X0 (Q5 Z q0 q1 p2 q3 h0 n0) 0 0 9 #[.val (.long q0), .second, .val (.long q1), .second, .val (.int p2), .val (.long q3), .second] []
    refine own_st (fun _ k => XS.lload X0.here hx rfl (hb hby d5_9) rfl k) ?_
    show own_Go X0 (Q5 Z q0 q1 p2 q3 h0 n0) 0 0 11 #[.val (.long q0), .second, .val (.long q1), .second, .val (.int p2), .val (.long q3), .second] [(.long q3)]
    refine own_st (fun _ k => XS.lloadN X0.here hx rfl (hb hby d5_11) rfl k) ?_
    show own_Go X0 (Q5 Z q0 q1 p2 q3 h0 n0) 0 0 12 #[.val (.long q0), .second, .val (.long q1), .second, .val (.int p2), .val (.long q3), .second] [(.long q1), (.long q3)]
    refine own_st (fun _ k => XS.lcmp X0.here hx rfl (hb hby d5_12) rfl k) ?_
    show own_Go X0 (Q5 Z q0 q1 p2 q3 h0 n0) 0 0 13 #[.val (.long q0), .second, .val (.long q1), .second, .val (.int p2), .val (.long q3), .second] [(.int (lcmpW q3 q1))]
    by_cases c13_2 : q3 < q1
    · skip
      refine own_st (fun _ k => XS.ifYes X0.here hx rfl (pc0 := 13) (pc' := 19) rfl (hb hby d5_13) rfl ((if0 _ _).trans (tlt ((lw_lt _ _).mpr c13_2)).1) (by decide) (by decide) k) ?_
      show own_Go X0 (Q5 Z q0 q1 p2 q3 h0 n0) 0 0 19 #[.val (.long q0), .second, .val (.long q1), .second, .val (.int p2), .val (.long q3), .second] []
      refine own_st (fun _ k => XS.iload X0.here hx rfl (hb hby d5_19) rfl k) ?_
      show own_Go X0 (Q5 Z q0 q1 p2 q3 h0 n0) 0 0 21 #[.val (.long q0), .second, .val (.long q1), .second, .val (.int p2), .val (.long q3), .second] [(.int p2)]
      refine own_st (fun _ k => XS.lload X0.here hx rfl (hb hby d5_21) rfl k) ?_
      show own_Go X0 (Q5 Z q0 q1 p2 q3 h0 n0) 0 0 23 #[.val (.long q0), .second, .val (.long q1), .second, .val (.int p2), .val (.long q3), .second] [(.long q3), (.int p2)]
      refine own_st (fun _ k => XS.lloadN X0.here hx rfl (hb hby d5_23) rfl k) ?_
      show own_Go X0 (Q5 Z q0 q1 p2 q3 h0 n0) 0 0 24 #[.val (.long q0), .second, .val (.long q1), .second, .val (.int p2), .val (.long q3), .second] [(.long q0), (.long q3), (.int p2)]
      refine own_st (fun _ k => XS.lsub X0.here hx rfl (hb hby d5_24) rfl k) ?_
      show own_Go X0 (Q5 Z q0 q1 p2 q3 h0 n0) 0 0 25 #[.val (.long q0), .second, .val (.long q1), .second, .val (.int p2), .val (.long q3), .second] [(.long (q3 - q0)), (.int p2)]
      refine own_st (fun _ k => XS.l2i X0.here hx rfl (hb hby d5_25) rfl k) ?_
      show own_Go X0 (Q5 Z q0 q1 p2 q3 h0 n0) 0 0 26 #[.val (.long q0), .second, .val (.long q1), .second, .val (.int p2), .val (.long q3), .second] [(.int ((q3 - q0).toInt32)), (.int p2)]
      refine own_st (fun _ k => XS.iadd X0.here hx rfl (hb hby d5_26) rfl k) ?_
      show own_Go X0 (Q5 Z q0 q1 p2 q3 h0 n0) 0 0 27 #[.val (.long q0), .second, .val (.long q1), .second, .val (.int p2), .val (.long q3), .second] [(.int (p2 + ((q3 - q0).toInt32)))]
      refine own_retI X0 hx Bd.returns hlk e0 (hb hby d5_27) (by decide) (by decide) ?_
      exact ⟨by simp [own_am, own_nar0, own_nar1, c4_1, c13_2], N0, rfl⟩
    · skip
      refine own_st (fun _ k => XS.ifNo X0.here hx rfl (hb hby d5_13) rfl ((if0 _ _).trans (flt (fun q => c13_2 ((lw_lt _ _).mp q))).1) k) ?_
      show own_Go X0 (Q5 Z q0 q1 p2 q3 h0 n0) 0 0 16 #[.val (.long q0), .second, .val (.long q1), .second, .val (.int p2), .val (.long q3), .second] []
      refine own_st (fun t k => X0.ldcInt hx hown (mvT hZ (hw _ (List.mem_of_getElem? (i := 31) rfl))) (g := (mkF m 16 #[.val (.long q0), .second, .val (.long q1), .second, .val (.int p2), .val (.long q3), .second] [])) rfl (hb hby d5_16) t k) ?_
      show own_Go X0 (Q5 Z q0 q1 p2 q3 h0 n0) 0 0 18 #[.val (.long q0), .second, .val (.long q1), .second, .val (.int p2), .val (.long q3), .second] [(.int (-2147483648 : Int32))]
      refine own_retI X0 hx Bd.returns hlk e0 (hb hby d5_18) (by decide) (by decide) ?_
      exact ⟨by simp [own_am, own_nar0, own_nar1, c4_1, c13_2], N0, rfl⟩
theorem pn_0 : plainName "com/example/gingham/gingham/encoding/OrderIntegerAtMostPinLaw" = true := by first | (simp [plainName, overriddenIn]; done) | decide +kernel
theorem pd_0_0 : parseMethodDescriptor "(JJI)V" = some ⟨[.long, .long, .int], none⟩ := by decide +kernel
theorem pd_0_1 : parseMethodDescriptor "(J)I" = some ⟨[.long], some .int⟩ := by decide +kernel
theorem pd_0_2 : parseMethodDescriptor "(JJIJ)I" = some ⟨[.long, .long, .int, .long], some .int⟩ := by decide +kernel
theorem ef_0 (m : MethodId) (q0 : Int64) (p1 : Int32) (p2 : Int32) (q3 : Int64) (q4 : Int64) : entryFrame m #[(.long q0), (.int p1), (.int p2), (.long q3), (.long q4)] maxLocals = mkF m 0 #[.val (.long q0), .second, .val (.int p1), .val (.int p2), .val (.long q3), .second, .val (.long q4), .second, .unset, .unset, .unset, .unset, .unset, .unset, .unset, .unset, .unset] [] := by first | (simp [entryFrame, mkF, argsToLocals, Value.category, maxLocals]; done) | rfl
def Q0 (Z : State) (q0 : Int64) (p1 : Int32) (p2 : Int32) (q3 : Int64) (q4 : Int64)  (h0 : Heap) (n0 : Nat) (v : Option Value) (h : Heap) (L : List Loc) : Prop := v = some (.int 1) ∧ Fr n0 L
set_option maxRecDepth 65536 in
set_option maxHeartbeats 40000000 in
theorem rm0 (l : Launch) (Z : State) (a0 : Array Value) (hw : ∀ d ∈ tables_1, d.before a0 Z = true) (ws : List Jvm.Cond) (q0 : Int64) (p1 : Int32) (p2 : Int32) (q3 : Int64) (q4 : Int64)  (h0 : Heap) (n0 : Nat) (Z0 : n0 ≤ h0.size)  :
    MetFree l x (head1 (Jvm.Cond.code x code maxLocals ret :: ws) room_1) (fun a U => a = #[(.long q0), (.int p1), (.int p2), (.long q3), (.long q4)] ∧ Z.Warmed39 U.vm ∧ U.heap = h0) (fun _ _ _ _ _ => True) (fun _ U o U' => ∃ v L, o = .returned v ∧ Q0 Z q0 p1 p2 q3 q4 h0 n0 v U'.heap L ∧ FrameEnd U o U' L 1 3) := by
  refine MetFree.of_bodySF (plainFor_of_name pn_0) hisR ?_
  intro p e s m args below meth c s₁ Bd hml0 hP hK
  obtain ⟨rfl, hZ, hh⟩ := hP
  have hx := Bd.exec
  have hby := Bd.bytes
  have hml : c.maxLocals = 17 := hml0
  have hown : s.vm.findClass "com/example/gingham/gingham/encoding/OrderIntegerAtMostPinLaw" = some m.cls := findClass_of_methodNamed Bd.named
  have hnm := (name_of_methodNamed Bd.named Bd.method).1
  have hlk : meth.locks = false := Bd.notSynchronized
  have X0 : Stand p l e room_1 s m #[(.long q0), (.int p1), (.int p2), (.long q3), (.long q4)] below meth c s₁ [] 0 0 := Stand.of_body Bd
  have e0 : s₁.heap = h0 := by rw [← hh, Bd.state]; rfl
  have N0 := Fr.nil n0
  refine own_cast (Q := Q0 Z q0 p1 p2 q3 q4 h0 n0) (kc := 1) (ks := 3) (ef_0 m q0 p1 p2 q3 q4) ?_
  refine own_st (fun _ k => XS.iloadN X0.here hx rfl (hb hby at_0) rfl k) ?_
  show own_Go X0 (Q0 Z q0 p1 p2 q3 q4 h0 n0) 1 3 1 #[.val (.long q0), .second, .val (.int p1), .val (.int p2), .val (.long q3), .second, .val (.long q4), .second, .unset, .unset, .unset, .unset, .unset, .unset, .unset, .unset, .unset] [(.int p1)]
  refine own_st (fun t k => X0.ldcInt hx hown (mvT hZ (hw _ (List.mem_of_getElem? (i := 0) rfl))) (g := (mkF m 1 #[.val (.long q0), .second, .val (.int p1), .val (.int p2), .val (.long q3), .second, .val (.long q4), .second, .unset, .unset, .unset, .unset, .unset, .unset, .unset, .unset, .unset] [(.int p1)])) rfl (hb hby at_1) t k) ?_
  show own_Go X0 (Q0 Z q0 p1 p2 q3 q4 h0 n0) 1 3 3 #[.val (.long q0), .second, .val (.int p1), .val (.int p2), .val (.long q3), .second, .val (.long q4), .second, .unset, .unset, .unset, .unset, .unset, .unset, .unset, .unset, .unset] [(.int (1073741823 : Int32)), (.int p1)]
  refine own_st (fun _ k => XS.iand X0.here hx rfl (hb hby at_3) rfl k) ?_
  show own_Go X0 (Q0 Z q0 p1 p2 q3 q4 h0 n0) 1 3 4 #[.val (.long q0), .second, .val (.int p1), .val (.int p2), .val (.long q3), .second, .val (.long q4), .second, .unset, .unset, .unset, .unset, .unset, .unset, .unset, .unset, .unset] [(.int (p1 &&& (1073741823 : Int32)))]
  refine own_st (fun _ k => XS.i2l X0.here hx rfl (hb hby at_4) rfl k) ?_
  show own_Go X0 (Q0 Z q0 p1 p2 q3 q4 h0 n0) 1 3 5 #[.val (.long q0), .second, .val (.int p1), .val (.int p2), .val (.long q3), .second, .val (.long q4), .second, .unset, .unset, .unset, .unset, .unset, .unset, .unset, .unset, .unset] [(.long ((p1 &&& (1073741823 : Int32)).toInt64))]
  refine own_st (fun _ k => XS.lstore X0.here hx rfl (hb hby at_5) rfl (l' := #[.val (.long q0), .second, .val (.int p1), .val (.int p2), .val (.long q3), .second, .val (.long q4), .second, .val (.long ((p1 &&& (1073741823 : Int32)).toInt64)), .second, .unset, .unset, .unset, .unset, .unset, .unset, .unset]) rfl k) ?_
  show own_Go X0 (Q0 Z q0 p1 p2 q3 q4 h0 n0) 1 3 7 #[.val (.long q0), .second, .val (.int p1), .val (.int p2), .val (.long q3), .second, .val (.long q4), .second, .val (.long ((p1 &&& (1073741823 : Int32)).toInt64)), .second, .unset, .unset, .unset, .unset, .unset, .unset, .unset] []
  generalize hsz : ((p1 &&& (1073741823 : Int32)).toInt64) = sz
  show own_Go X0 (Q0 Z q0 p1 p2 q3 q4 h0 n0) 1 3 7 #[.val (.long q0), .second, .val (.int p1), .val (.int p2), .val (.long q3), .second, .val (.long q4), .second, .val (.long sz), .second, .unset, .unset, .unset, .unset, .unset, .unset, .unset] []
  refine own_st (fun _ k => XS.iconst X0.here hx rfl (hb hby at_7) k) ?_
  show own_Go X0 (Q0 Z q0 p1 p2 q3 q4 h0 n0) 1 3 8 #[.val (.long q0), .second, .val (.int p1), .val (.int p2), .val (.long q3), .second, .val (.long q4), .second, .val (.long sz), .second, .unset, .unset, .unset, .unset, .unset, .unset, .unset] [(.int (1 : Int32))]
  refine own_st (fun _ k => XS.iloadN X0.here hx rfl (hb hby at_8) rfl k) ?_
  show own_Go X0 (Q0 Z q0 p1 p2 q3 q4 h0 n0) 1 3 9 #[.val (.long q0), .second, .val (.int p1), .val (.int p2), .val (.long q3), .second, .val (.long q4), .second, .val (.long sz), .second, .unset, .unset, .unset, .unset, .unset, .unset, .unset] [(.int p2), (.int (1 : Int32))]
  refine own_st (fun t k => X0.ldcInt hx hown (mvT hZ (hw _ (List.mem_of_getElem? (i := 0) rfl))) (g := (mkF m 9 #[.val (.long q0), .second, .val (.int p1), .val (.int p2), .val (.long q3), .second, .val (.long q4), .second, .val (.long sz), .second, .unset, .unset, .unset, .unset, .unset, .unset, .unset] [(.int p2), (.int (1 : Int32))])) rfl (hb hby at_9) t k) ?_
  show own_Go X0 (Q0 Z q0 p1 p2 q3 q4 h0 n0) 1 3 11 #[.val (.long q0), .second, .val (.int p1), .val (.int p2), .val (.long q3), .second, .val (.long q4), .second, .val (.long sz), .second, .unset, .unset, .unset, .unset, .unset, .unset, .unset] [(.int (1073741823 : Int32)), (.int p2), (.int (1 : Int32))]
  refine own_st (fun _ k => XS.iand X0.here hx rfl (hb hby at_11) rfl k) ?_
  show own_Go X0 (Q0 Z q0 p1 p2 q3 q4 h0 n0) 1 3 12 #[.val (.long q0), .second, .val (.int p1), .val (.int p2), .val (.long q3), .second, .val (.long q4), .second, .val (.long sz), .second, .unset, .unset, .unset, .unset, .unset, .unset, .unset] [(.int (p2 &&& (1073741823 : Int32))), (.int (1 : Int32))]
  refine own_st (fun _ k => XS.iadd X0.here hx rfl (hb hby at_12) rfl k) ?_
  show own_Go X0 (Q0 Z q0 p1 p2 q3 q4 h0 n0) 1 3 13 #[.val (.long q0), .second, .val (.int p1), .val (.int p2), .val (.long q3), .second, .val (.long q4), .second, .val (.long sz), .second, .unset, .unset, .unset, .unset, .unset, .unset, .unset] [(.int ((1 : Int32) + (p2 &&& (1073741823 : Int32))))]
  refine own_st (fun _ k => XS.istore X0.here hx rfl (hb hby at_13) rfl (l' := #[.val (.long q0), .second, .val (.int p1), .val (.int p2), .val (.long q3), .second, .val (.long q4), .second, .val (.long sz), .second, .val (.int ((1 : Int32) + (p2 &&& (1073741823 : Int32)))), .unset, .unset, .unset, .unset, .unset, .unset]) rfl k) ?_
  show own_Go X0 (Q0 Z q0 p1 p2 q3 q4 h0 n0) 1 3 15 #[.val (.long q0), .second, .val (.int p1), .val (.int p2), .val (.long q3), .second, .val (.long q4), .second, .val (.long sz), .second, .val (.int ((1 : Int32) + (p2 &&& (1073741823 : Int32)))), .unset, .unset, .unset, .unset, .unset, .unset] []
  generalize hfi : ((1 : Int32) + (p2 &&& (1073741823 : Int32))) = fi
  show own_Go X0 (Q0 Z q0 p1 p2 q3 q4 h0 n0) 1 3 15 #[.val (.long q0), .second, .val (.int p1), .val (.int p2), .val (.long q3), .second, .val (.long q4), .second, .val (.long sz), .second, .val (.int fi), .unset, .unset, .unset, .unset, .unset, .unset] []
  refine own_st (fun _ k => XS.lloadN X0.here hx rfl (hb hby at_15) rfl k) ?_
  show own_Go X0 (Q0 Z q0 p1 p2 q3 q4 h0 n0) 1 3 16 #[.val (.long q0), .second, .val (.int p1), .val (.int p2), .val (.long q3), .second, .val (.long q4), .second, .val (.long sz), .second, .val (.int fi), .unset, .unset, .unset, .unset, .unset, .unset] [(.long q0)]
  refine own_st (fun _ k => XS.lload X0.here hx rfl (hb hby at_16) rfl k) ?_
  show own_Go X0 (Q0 Z q0 p1 p2 q3 q4 h0 n0) 1 3 18 #[.val (.long q0), .second, .val (.int p1), .val (.int p2), .val (.long q3), .second, .val (.long q4), .second, .val (.long sz), .second, .val (.int fi), .unset, .unset, .unset, .unset, .unset, .unset] [(.long sz), (.long q0)]
  refine own_st (fun _ k => XS.ladd X0.here hx rfl (hb hby at_18) rfl k) ?_
  show own_Go X0 (Q0 Z q0 p1 p2 q3 q4 h0 n0) 1 3 19 #[.val (.long q0), .second, .val (.int p1), .val (.int p2), .val (.long q3), .second, .val (.long q4), .second, .val (.long sz), .second, .val (.int fi), .unset, .unset, .unset, .unset, .unset, .unset] [(.long (q0 + sz))]
  refine own_st (fun _ k => XS.lstore X0.here hx rfl (hb hby at_19) rfl (l' := #[.val (.long q0), .second, .val (.int p1), .val (.int p2), .val (.long q3), .second, .val (.long q4), .second, .val (.long sz), .second, .val (.int fi), .val (.long (q0 + sz)), .second, .unset, .unset, .unset, .unset]) rfl k) ?_
  show own_Go X0 (Q0 Z q0 p1 p2 q3 q4 h0 n0) 1 3 21 #[.val (.long q0), .second, .val (.int p1), .val (.int p2), .val (.long q3), .second, .val (.long q4), .second, .val (.long sz), .second, .val (.int fi), .val (.long (q0 + sz)), .second, .unset, .unset, .unset, .unset] []
  generalize hup : (q0 + sz) = up
  show own_Go X0 (Q0 Z q0 p1 p2 q3 q4 h0 n0) 1 3 21 #[.val (.long q0), .second, .val (.int p1), .val (.int p2), .val (.long q3), .second, .val (.long q4), .second, .val (.long sz), .second, .val (.int fi), .val (.long up), .second, .unset, .unset, .unset, .unset] []
  refine own_st (fun _ k => XS.lload X0.here hx rfl (hb hby at_21) rfl k) ?_
  show own_Go X0 (Q0 Z q0 p1 p2 q3 q4 h0 n0) 1 3 23 #[.val (.long q0), .second, .val (.int p1), .val (.int p2), .val (.long q3), .second, .val (.long q4), .second, .val (.long sz), .second, .val (.int fi), .val (.long up), .second, .unset, .unset, .unset, .unset] [(.long up)]
  refine own_st (fun _ k => XS.lloadN X0.here hx rfl (hb hby at_23) rfl k) ?_
  show own_Go X0 (Q0 Z q0 p1 p2 q3 q4 h0 n0) 1 3 24 #[.val (.long q0), .second, .val (.int p1), .val (.int p2), .val (.long q3), .second, .val (.long q4), .second, .val (.long sz), .second, .val (.int fi), .val (.long up), .second, .unset, .unset, .unset, .unset] [(.long q0), (.long up)]
  refine own_st (fun _ k => XS.lcmp X0.here hx rfl (hb hby at_24) rfl k) ?_
  show own_Go X0 (Q0 Z q0 p1 p2 q3 q4 h0 n0) 1 3 25 #[.val (.long q0), .second, .val (.int p1), .val (.int p2), .val (.long q3), .second, .val (.long q4), .second, .val (.long sz), .second, .val (.int fi), .val (.long up), .second, .unset, .unset, .unset, .unset] [(.int (lcmpW up q0))]
  by_cases c25_1 : up < q0
  · skip
    refine own_st (fun _ k => XS.ifNo X0.here hx rfl (hb hby at_25) rfl ((if0 _ _).trans (tlt ((lw_lt _ _).mpr c25_1)).2.1) k) ?_
    show own_Go X0 (Q0 Z q0 p1 p2 q3 q4 h0 n0) 1 3 28 #[.val (.long q0), .second, .val (.int p1), .val (.int p2), .val (.long q3), .second, .val (.long q4), .second, .val (.long sz), .second, .val (.int fi), .val (.long up), .second, .unset, .unset, .unset, .unset] []
    refine own_st (fun _ k => XS.iconst X0.here hx rfl (hb hby at_28) k) ?_
    show own_Go X0 (Q0 Z q0 p1 p2 q3 q4 h0 n0) 1 3 29 #[.val (.long q0), .second, .val (.int p1), .val (.int p2), .val (.long q3), .second, .val (.long q4), .second, .val (.long sz), .second, .val (.int fi), .val (.long up), .second, .unset, .unset, .unset, .unset] [(.int (1 : Int32))]
    refine own_retN X0 hx Bd.returns (by simp) hlk e0 (hb hby at_29) (by decide) (by decide) ?_
    exact ⟨rfl, N0⟩
  · skip
    refine own_st (fun _ k => XS.ifYes X0.here hx rfl (pc0 := 25) (pc' := 30) rfl (hb hby at_25) rfl ((if0 _ _).trans (flt (fun q => c25_1 ((lw_lt _ _).mp q))).2.1) (by decide) (by decide) k) ?_
    show own_Go X0 (Q0 Z q0 p1 p2 q3 q4 h0 n0) 1 3 30 #[.val (.long q0), .second, .val (.int p1), .val (.int p2), .val (.long q3), .second, .val (.long q4), .second, .val (.long sz), .second, .val (.int fi), .val (.long up), .second, .unset, .unset, .unset, .unset] []
    obtain ⟨T2, h2, X2, e2, E2, A2, D2, -, st2⟩ := newO X0 hx hZ hown (hw _ (List.mem_of_getElem? (i := 1) rfl)) (hw _ (List.mem_of_getElem? (i := 2) rfl)) (hw _ (List.mem_of_getElem? (i := 3) rfl)) e0 (g := (mkF m 30 #[.val (.long q0), .second, .val (.int p1), .val (.int p2), .val (.long q3), .second, .val (.long q4), .second, .val (.long sz), .second, .val (.int fi), .val (.long up), .second, .unset, .unset, .unset, .unset] [])) rfl (hb hby at_30) (by decide) (by decide)
    obtain ⟨b2, g2⟩ : ∃ z, z = h0.size := ⟨_, rfl⟩
    rw [← g2] at A2 D2 st2
    refine own_st st2 ?_
    have G_3 := Nat.le_trans Z0 (Nat.le_of_eq g2.symm)
    have Z_4 := Nat.le_trans Z0 E2.1
    have F_lower_2 : Fld Z h2 b2 "com/example/gingham/gingham/encoding/OrderInteger" "lower" "J" (.long (0 : Int64)) := D2 (Or.inr (hw _ (List.mem_of_getElem? (i := 16) rfl))) (ty := .long) (by decide)
    have F_upper_2 : Fld Z h2 b2 "com/example/gingham/gingham/encoding/OrderInteger" "upper" "J" (.long (0 : Int64)) := D2 (Or.inr (hw _ (List.mem_of_getElem? (i := 18) rfl))) (ty := .long) (by decide)
    have F_first_2 : Fld Z h2 b2 "com/example/gingham/gingham/encoding/OrderInteger" "first" "I" (.int (0 : Int32)) := D2 (Or.inr (hw _ (List.mem_of_getElem? (i := 20) rfl))) (ty := .int) (by decide)
    show own_Go X2 (Q0 Z q0 p1 p2 q3 q4 h0 n0) 1 3 33 #[.val (.long q0), .second, .val (.int p1), .val (.int p2), .val (.long q3), .second, .val (.long q4), .second, .val (.long sz), .second, .val (.int fi), .val (.long up), .second, .unset, .unset, .unset, .unset] [(.ref b2)]
    refine own_st (fun _ k => XS.dup X2.here hx rfl (hb hby at_33) rfl rfl k) ?_
    show own_Go X2 (Q0 Z q0 p1 p2 q3 q4 h0 n0) 1 3 34 #[.val (.long q0), .second, .val (.int p1), .val (.int p2), .val (.long q3), .second, .val (.long q4), .second, .val (.long sz), .second, .val (.int fi), .val (.long up), .second, .unset, .unset, .unset, .unset] [(.ref b2), (.ref b2)]
    refine own_st (fun _ k => XS.lloadN X2.here hx rfl (hb hby at_34) rfl k) ?_
    show own_Go X2 (Q0 Z q0 p1 p2 q3 q4 h0 n0) 1 3 35 #[.val (.long q0), .second, .val (.int p1), .val (.int p2), .val (.long q3), .second, .val (.long q4), .second, .val (.long sz), .second, .val (.int fi), .val (.long up), .second, .unset, .unset, .unset, .unset] [(.long q0), (.ref b2), (.ref b2)]
    refine own_st (fun _ k => XS.lload X2.here hx rfl (hb hby at_35) rfl k) ?_
    show own_Go X2 (Q0 Z q0 p1 p2 q3 q4 h0 n0) 1 3 37 #[.val (.long q0), .second, .val (.int p1), .val (.int p2), .val (.long q3), .second, .val (.long q4), .second, .val (.long sz), .second, .val (.int fi), .val (.long up), .second, .unset, .unset, .unset, .unset] [(.long up), (.long q0), (.ref b2), (.ref b2)]
    refine own_st (fun _ k => XS.iload X2.here hx rfl (hb hby at_37) rfl k) ?_
    show own_Go X2 (Q0 Z q0 p1 p2 q3 q4 h0 n0) 1 3 39 #[.val (.long q0), .second, .val (.int p1), .val (.int p2), .val (.long q3), .second, .val (.long q4), .second, .val (.long sz), .second, .val (.int fi), .val (.long up), .second, .unset, .unset, .unset, .unset] [(.int fi), (.long up), (.long q0), (.ref b2), (.ref b2)]
    refine own_callI (W := 1) X2 hx hZ hown (hw _ (List.mem_of_getElem? (i := 4) rfl)) (hw _ (List.mem_of_getElem? (i := 5) rfl)) (hw _ (List.mem_of_getElem? (i := 3) rfl)) (hw _ (List.mem_of_getElem? (i := 6) rfl)) rfl (by decide) (rm1 l Z a0 hw [] b2 q0 up fi h2 n0 Z_4 A2 G_3 F_lower_2 F_upper_2 F_first_2) (by decide) (by decide) (by rw [hml]; rfl) b2 [(.long q0), (.long up), (.int fi)] [(.ref b2)] (lenOf pd_0_0 rfl) rfl rfl (Nat.le_of_ble_eq_true rfl) (hb hby at_39) e2 (by decide) (by decide) ?_
    rintro _ T5 L5 X5 ⟨rfl, N5q, K5q, F5_lower, F5_upper, F5_first⟩
    have N_6 := Fr.app N0 N5q
    have f_7 := A2.keep K5q
    have Z_8 := Nat.le_trans Z_4 K5q.1
    show own_Go X5 (Q0 Z q0 p1 p2 q3 q4 h0 n0) 1 3 42 #[.val (.long q0), .second, .val (.int p1), .val (.int p2), .val (.long q3), .second, .val (.long q4), .second, .val (.long sz), .second, .val (.int fi), .val (.long up), .second, .unset, .unset, .unset, .unset] [(.ref b2)]
    refine own_st (fun _ k => XS.astore X5.here hx rfl (hb hby at_42) rfl rfl (l' := #[.val (.long q0), .second, .val (.int p1), .val (.int p2), .val (.long q3), .second, .val (.long q4), .second, .val (.long sz), .second, .val (.int fi), .val (.long up), .second, .val (.ref b2), .unset, .unset, .unset]) rfl k) ?_
    show own_Go X5 (Q0 Z q0 p1 p2 q3 q4 h0 n0) 1 3 44 #[.val (.long q0), .second, .val (.int p1), .val (.int p2), .val (.long q3), .second, .val (.long q4), .second, .val (.long sz), .second, .val (.int fi), .val (.long up), .second, .val (.ref b2), .unset, .unset, .unset] []
    refine own_st (fun _ k => XS.aload X5.here hx rfl (hb hby at_44) rfl rfl k) ?_
    show own_Go X5 (Q0 Z q0 p1 p2 q3 q4 h0 n0) 1 3 46 #[.val (.long q0), .second, .val (.int p1), .val (.int p2), .val (.long q3), .second, .val (.long q4), .second, .val (.long sz), .second, .val (.int fi), .val (.long up), .second, .val (.ref b2), .unset, .unset, .unset] [(.ref b2)]
    refine own_st (fun _ k => XS.lload X5.here hx rfl (hb hby at_46) rfl k) ?_
    show own_Go X5 (Q0 Z q0 p1 p2 q3 q4 h0 n0) 1 3 48 #[.val (.long q0), .second, .val (.int p1), .val (.int p2), .val (.long q3), .second, .val (.long q4), .second, .val (.long sz), .second, .val (.int fi), .val (.long up), .second, .val (.ref b2), .unset, .unset, .unset] [(.long q3), (.ref b2)]
    refine own_callV (W := 0) X5 hx hZ hown (hw _ (List.mem_of_getElem? (i := 21) rfl)) (hw _ (List.mem_of_getElem? (i := 22) rfl)) (hw _ (List.mem_of_getElem? (i := 24) rfl)) (hw _ (List.mem_of_getElem? (i := 23) rfl)) (hw _ (List.mem_of_getElem? (i := 3) rfl)) (hw _ (List.mem_of_getElem? (i := 25) rfl)) (by decide) (rm4 l Z a0 hw [] b2 q3 q0 up fi T5.heap n0 Z_8 F5_lower F5_upper F5_first) (by decide) (by decide) (by rw [hml]; rfl) b2 [(.long q3)] [] (lenOf pd_0_1 rfl) rfl rfl (Nat.le_of_ble_eq_true rfl) (hb hby at_48) (Eq.refl T5.heap) f_7 (by decide) (by decide) ?_
    rintro _ T9 L9 X9 ⟨rfl, N9q, e9⟩
    have N_10 := Fr.app N_6 N9q
    show own_Go X9 (Q0 Z q0 p1 p2 q3 q4 h0 n0) 1 3 51 #[.val (.long q0), .second, .val (.int p1), .val (.int p2), .val (.long q3), .second, .val (.long q4), .second, .val (.long sz), .second, .val (.int fi), .val (.long up), .second, .val (.ref b2), .unset, .unset, .unset] [(.int (own_am q0 up fi q3))]
    refine own_st (fun _ k => XS.lloadN X9.here hx rfl (hb hby at_51) rfl k) ?_
    show own_Go X9 (Q0 Z q0 p1 p2 q3 q4 h0 n0) 1 3 52 #[.val (.long q0), .second, .val (.int p1), .val (.int p2), .val (.long q3), .second, .val (.long q4), .second, .val (.long sz), .second, .val (.int fi), .val (.long up), .second, .val (.ref b2), .unset, .unset, .unset] [(.long q0), (.int (own_am q0 up fi q3))]
    refine own_st (fun _ k => XS.lload X9.here hx rfl (hb hby at_52) rfl k) ?_
    show own_Go X9 (Q0 Z q0 p1 p2 q3 q4 h0 n0) 1 3 54 #[.val (.long q0), .second, .val (.int p1), .val (.int p2), .val (.long q3), .second, .val (.long q4), .second, .val (.long sz), .second, .val (.int fi), .val (.long up), .second, .val (.ref b2), .unset, .unset, .unset] [(.long up), (.long q0), (.int (own_am q0 up fi q3))]
    refine own_st (fun _ k => XS.iload X9.here hx rfl (hb hby at_54) rfl k) ?_
    show own_Go X9 (Q0 Z q0 p1 p2 q3 q4 h0 n0) 1 3 56 #[.val (.long q0), .second, .val (.int p1), .val (.int p2), .val (.long q3), .second, .val (.long q4), .second, .val (.long sz), .second, .val (.int fi), .val (.long up), .second, .val (.ref b2), .unset, .unset, .unset] [(.int fi), (.long up), (.long q0), (.int (own_am q0 up fi q3))]
    refine own_st (fun _ k => XS.lload X9.here hx rfl (hb hby at_56) rfl k) ?_
    show own_Go X9 (Q0 Z q0 p1 p2 q3 q4 h0 n0) 1 3 58 #[.val (.long q0), .second, .val (.int p1), .val (.int p2), .val (.long q3), .second, .val (.long q4), .second, .val (.long sz), .second, .val (.int fi), .val (.long up), .second, .val (.ref b2), .unset, .unset, .unset] [(.long q3), (.int fi), (.long up), (.long q0), (.int (own_am q0 up fi q3))]
    refine own_callS (W := 1) X9 hx hZ hown (hw _ (List.mem_of_getElem? (i := 26) rfl)) (hw _ (List.mem_of_getElem? (i := 27) rfl)) (hw _ (List.mem_of_getElem? (i := 28) rfl)) (hw _ (List.mem_of_getElem? (i := 29) rfl)) (by decide) (rm5 l Z a0 hw [] q0 up fi q3  T5.heap n0 Z_8 ) (by decide) (by decide) (by rw [hml]; rfl) [(.long q0), (.long up), (.int fi), (.long q3)] [(.int (own_am q0 up fi q3))] (lenOf pd_0_2 rfl) rfl rfl (Nat.le_of_ble_eq_true rfl) (hb hby at_58) e9 (by decide) (by decide) ?_
    rintro _ T11 L11 X11 ⟨rfl, N11q, e11⟩
    have N_12 := Fr.app N_10 N11q
    show own_Go X11 (Q0 Z q0 p1 p2 q3 q4 h0 n0) 1 3 61 #[.val (.long q0), .second, .val (.int p1), .val (.int p2), .val (.long q3), .second, .val (.long q4), .second, .val (.long sz), .second, .val (.int fi), .val (.long up), .second, .val (.ref b2), .unset, .unset, .unset] [(.int (own_am q0 up fi q3)), (.int (own_am q0 up fi q3))]
    have c61_13 : (own_am q0 up fi q3) = (own_am q0 up fi q3) := rfl
    refine own_st (fun _ k => XS.icmpNo X11.here hx rfl (hb hby at_61) rfl (teq c61_13).2 k) ?_
    show own_Go X11 (Q0 Z q0 p1 p2 q3 q4 h0 n0) 1 3 64 #[.val (.long q0), .second, .val (.int p1), .val (.int p2), .val (.long q3), .second, .val (.long q4), .second, .val (.long sz), .second, .val (.int fi), .val (.long up), .second, .val (.ref b2), .unset, .unset, .unset] []
    refine own_st (fun _ k => XS.iconst X11.here hx rfl (hb hby at_64) k) ?_
    show own_Go X11 (Q0 Z q0 p1 p2 q3 q4 h0 n0) 1 3 65 #[.val (.long q0), .second, .val (.int p1), .val (.int p2), .val (.long q3), .second, .val (.long q4), .second, .val (.long sz), .second, .val (.int fi), .val (.long up), .second, .val (.ref b2), .unset, .unset, .unset] [(.int (1 : Int32))]
    refine own_st (fun _ k => XS.goto X11.here hx rfl (pc0 := 65) (pc' := 69) rfl (hb hby at_65) (by decide) (by decide) k) ?_
    show own_Go X11 (Q0 Z q0 p1 p2 q3 q4 h0 n0) 1 3 69 #[.val (.long q0), .second, .val (.int p1), .val (.int p2), .val (.long q3), .second, .val (.long q4), .second, .val (.long sz), .second, .val (.int fi), .val (.long up), .second, .val (.ref b2), .unset, .unset, .unset] [(.int (1 : Int32))]
    refine own_st (fun _ k => XS.istore X11.here hx rfl (hb hby at_69) rfl (l' := #[.val (.long q0), .second, .val (.int p1), .val (.int p2), .val (.long q3), .second, .val (.long q4), .second, .val (.long sz), .second, .val (.int fi), .val (.long up), .second, .val (.ref b2), .val (.int (1 : Int32)), .unset, .unset]) rfl k) ?_
    show own_Go X11 (Q0 Z q0 p1 p2 q3 q4 h0 n0) 1 3 71 #[.val (.long q0), .second, .val (.int p1), .val (.int p2), .val (.long q3), .second, .val (.long q4), .second, .val (.long sz), .second, .val (.int fi), .val (.long up), .second, .val (.ref b2), .val (.int (1 : Int32)), .unset, .unset] []
    refine own_st (fun _ k => XS.iload X11.here hx rfl (hb hby at_71) rfl k) ?_
    show own_Go X11 (Q0 Z q0 p1 p2 q3 q4 h0 n0) 1 3 73 #[.val (.long q0), .second, .val (.int p1), .val (.int p2), .val (.long q3), .second, .val (.long q4), .second, .val (.long sz), .second, .val (.int fi), .val (.long up), .second, .val (.ref b2), .val (.int (1 : Int32)), .unset, .unset] [(.int (1 : Int32))]
    have c73_14 : ¬ ((1 : Int32) = (0 : Int32)) := (by decide)
    refine own_st (fun _ k => XS.ifNo X11.here hx rfl (hb hby at_73) rfl ((if0 _ _).trans (feq c73_14).1) k) ?_
    show own_Go X11 (Q0 Z q0 p1 p2 q3 q4 h0 n0) 1 3 76 #[.val (.long q0), .second, .val (.int p1), .val (.int p2), .val (.long q3), .second, .val (.long q4), .second, .val (.long sz), .second, .val (.int fi), .val (.long up), .second, .val (.ref b2), .val (.int (1 : Int32)), .unset, .unset] []
    refine own_st (fun _ k => XS.aload X11.here hx rfl (hb hby at_76) rfl rfl k) ?_
    show own_Go X11 (Q0 Z q0 p1 p2 q3 q4 h0 n0) 1 3 78 #[.val (.long q0), .second, .val (.int p1), .val (.int p2), .val (.long q3), .second, .val (.long q4), .second, .val (.long sz), .second, .val (.int fi), .val (.long up), .second, .val (.ref b2), .val (.int (1 : Int32)), .unset, .unset] [(.ref b2)]
    refine own_st (fun _ k => XS.lload X11.here hx rfl (hb hby at_78) rfl k) ?_
    show own_Go X11 (Q0 Z q0 p1 p2 q3 q4 h0 n0) 1 3 80 #[.val (.long q0), .second, .val (.int p1), .val (.int p2), .val (.long q3), .second, .val (.long q4), .second, .val (.long sz), .second, .val (.int fi), .val (.long up), .second, .val (.ref b2), .val (.int (1 : Int32)), .unset, .unset] [(.long up), (.ref b2)]
    refine own_callV (W := 0) X11 hx hZ hown (hw _ (List.mem_of_getElem? (i := 21) rfl)) (hw _ (List.mem_of_getElem? (i := 22) rfl)) (hw _ (List.mem_of_getElem? (i := 24) rfl)) (hw _ (List.mem_of_getElem? (i := 23) rfl)) (hw _ (List.mem_of_getElem? (i := 3) rfl)) (hw _ (List.mem_of_getElem? (i := 25) rfl)) (by decide) (rm4 l Z a0 hw [] b2 up q0 up fi T5.heap n0 Z_8 F5_lower F5_upper F5_first) (by decide) (by decide) (by rw [hml]; rfl) b2 [(.long up)] [] (lenOf pd_0_1 rfl) rfl rfl (Nat.le_of_ble_eq_true rfl) (hb hby at_80) e11 f_7 (by decide) (by decide) ?_
    rintro _ T15 L15 X15 ⟨rfl, N15q, e15⟩
    have N_16 := Fr.app N_12 N15q
    show own_Go X15 (Q0 Z q0 p1 p2 q3 q4 h0 n0) 1 3 83 #[.val (.long q0), .second, .val (.int p1), .val (.int p2), .val (.long q3), .second, .val (.long q4), .second, .val (.long sz), .second, .val (.int fi), .val (.long up), .second, .val (.ref b2), .val (.int (1 : Int32)), .unset, .unset] [(.int (own_am q0 up fi up))]
    refine own_st (fun t k => X15.ldcInt hx hown (mvT hZ (hw _ (List.mem_of_getElem? (i := 31) rfl))) (g := (mkF m 83 #[.val (.long q0), .second, .val (.int p1), .val (.int p2), .val (.long q3), .second, .val (.long q4), .second, .val (.long sz), .second, .val (.int fi), .val (.long up), .second, .val (.ref b2), .val (.int (1 : Int32)), .unset, .unset] [(.int (own_am q0 up fi up))])) rfl (hb hby at_83) t k) ?_
    show own_Go X15 (Q0 Z q0 p1 p2 q3 q4 h0 n0) 1 3 85 #[.val (.long q0), .second, .val (.int p1), .val (.int p2), .val (.long q3), .second, .val (.long q4), .second, .val (.long sz), .second, .val (.int fi), .val (.long up), .second, .val (.ref b2), .val (.int (1 : Int32)), .unset, .unset] [(.int (-2147483648 : Int32)), (.int (own_am q0 up fi up))]
    have c85_17 : (own_am q0 up fi up) = (-2147483648 : Int32) := own_top c25_1
    refine own_st (fun _ k => XS.icmpNo X15.here hx rfl (hb hby at_85) rfl (teq c85_17).2 k) ?_
    show own_Go X15 (Q0 Z q0 p1 p2 q3 q4 h0 n0) 1 3 88 #[.val (.long q0), .second, .val (.int p1), .val (.int p2), .val (.long q3), .second, .val (.long q4), .second, .val (.long sz), .second, .val (.int fi), .val (.long up), .second, .val (.ref b2), .val (.int (1 : Int32)), .unset, .unset] []
    refine own_st (fun _ k => XS.iconst X15.here hx rfl (hb hby at_88) k) ?_
    show own_Go X15 (Q0 Z q0 p1 p2 q3 q4 h0 n0) 1 3 89 #[.val (.long q0), .second, .val (.int p1), .val (.int p2), .val (.long q3), .second, .val (.long q4), .second, .val (.long sz), .second, .val (.int fi), .val (.long up), .second, .val (.ref b2), .val (.int (1 : Int32)), .unset, .unset] [(.int (1 : Int32))]
    refine own_st (fun _ k => XS.goto X15.here hx rfl (pc0 := 89) (pc' := 93) rfl (hb hby at_89) (by decide) (by decide) k) ?_
    show own_Go X15 (Q0 Z q0 p1 p2 q3 q4 h0 n0) 1 3 93 #[.val (.long q0), .second, .val (.int p1), .val (.int p2), .val (.long q3), .second, .val (.long q4), .second, .val (.long sz), .second, .val (.int fi), .val (.long up), .second, .val (.ref b2), .val (.int (1 : Int32)), .unset, .unset] [(.int (1 : Int32))]
    refine own_st (fun _ k => XS.istore X15.here hx rfl (hb hby at_93) rfl (l' := #[.val (.long q0), .second, .val (.int p1), .val (.int p2), .val (.long q3), .second, .val (.long q4), .second, .val (.long sz), .second, .val (.int fi), .val (.long up), .second, .val (.ref b2), .val (.int (1 : Int32)), .unset, .unset]) rfl k) ?_
    show own_Go X15 (Q0 Z q0 p1 p2 q3 q4 h0 n0) 1 3 95 #[.val (.long q0), .second, .val (.int p1), .val (.int p2), .val (.long q3), .second, .val (.long q4), .second, .val (.long sz), .second, .val (.int fi), .val (.long up), .second, .val (.ref b2), .val (.int (1 : Int32)), .unset, .unset] []
    refine own_st (fun _ k => XS.lloadN X15.here hx rfl (hb hby at_95) rfl k) ?_
    show own_Go X15 (Q0 Z q0 p1 p2 q3 q4 h0 n0) 1 3 96 #[.val (.long q0), .second, .val (.int p1), .val (.int p2), .val (.long q3), .second, .val (.long q4), .second, .val (.long sz), .second, .val (.int fi), .val (.long up), .second, .val (.ref b2), .val (.int (1 : Int32)), .unset, .unset] [(.long q0)]
    refine own_st (fun t k => X15.ldc2Long hx hown (mvT hZ (hw _ (List.mem_of_getElem? (i := 32) rfl))) (g := (mkF m 96 #[.val (.long q0), .second, .val (.int p1), .val (.int p2), .val (.long q3), .second, .val (.long q4), .second, .val (.long sz), .second, .val (.int fi), .val (.long up), .second, .val (.ref b2), .val (.int (1 : Int32)), .unset, .unset] [(.long q0)])) rfl (hb hby at_96) t k) ?_
    show own_Go X15 (Q0 Z q0 p1 p2 q3 q4 h0 n0) 1 3 99 #[.val (.long q0), .second, .val (.int p1), .val (.int p2), .val (.long q3), .second, .val (.long q4), .second, .val (.long sz), .second, .val (.int fi), .val (.long up), .second, .val (.ref b2), .val (.int (1 : Int32)), .unset, .unset] [(.long (-9223372036854775808 : Int64)), (.long q0)]
    refine own_st (fun _ k => XS.lcmp X15.here hx rfl (hb hby at_99) rfl k) ?_
    show own_Go X15 (Q0 Z q0 p1 p2 q3 q4 h0 n0) 1 3 100 #[.val (.long q0), .second, .val (.int p1), .val (.int p2), .val (.long q3), .second, .val (.long q4), .second, .val (.long sz), .second, .val (.int fi), .val (.long up), .second, .val (.ref b2), .val (.int (1 : Int32)), .unset, .unset] [(.int (lcmpW q0 (-9223372036854775808 : Int64)))]
    by_cases c100_18 : q0 = (-9223372036854775808 : Int64)
    · skip
      refine own_st (fun _ k => XS.ifYes X15.here hx rfl (pc0 := 100) (pc' := 126) rfl (hb hby at_100) rfl ((if0 _ _).trans (teq ((lw_eq _ _).mpr c100_18)).1) (by decide) (by decide) k) ?_
      show own_Go X15 (Q0 Z q0 p1 p2 q3 q4 h0 n0) 1 3 126 #[.val (.long q0), .second, .val (.int p1), .val (.int p2), .val (.long q3), .second, .val (.long q4), .second, .val (.long sz), .second, .val (.int fi), .val (.long up), .second, .val (.ref b2), .val (.int (1 : Int32)), .unset, .unset] []
      refine own_st (fun _ k => XS.lload X15.here hx rfl (hb hby at_126) rfl k) ?_
      show own_Go X15 (Q0 Z q0 p1 p2 q3 q4 h0 n0) 1 3 128 #[.val (.long q0), .second, .val (.int p1), .val (.int p2), .val (.long q3), .second, .val (.long q4), .second, .val (.long sz), .second, .val (.int fi), .val (.long up), .second, .val (.ref b2), .val (.int (1 : Int32)), .unset, .unset] [(.long sz)]
      refine own_st (fun _ k => XS.lconst X15.here hx rfl (hb hby at_128) k) ?_
      show own_Go X15 (Q0 Z q0 p1 p2 q3 q4 h0 n0) 1 3 129 #[.val (.long q0), .second, .val (.int p1), .val (.int p2), .val (.long q3), .second, .val (.long q4), .second, .val (.long sz), .second, .val (.int fi), .val (.long up), .second, .val (.ref b2), .val (.int (1 : Int32)), .unset, .unset] [(.long (0 : Int64)), (.long sz)]
      refine own_st (fun _ k => XS.lcmp X15.here hx rfl (hb hby at_129) rfl k) ?_
      show own_Go X15 (Q0 Z q0 p1 p2 q3 q4 h0 n0) 1 3 130 #[.val (.long q0), .second, .val (.int p1), .val (.int p2), .val (.long q3), .second, .val (.long q4), .second, .val (.long sz), .second, .val (.int fi), .val (.long up), .second, .val (.ref b2), .val (.int (1 : Int32)), .unset, .unset] [(.int (lcmpW sz (0 : Int64)))]
      by_cases c130_19 : (0 : Int64) < sz
      · skip
        refine own_st (fun _ k => XS.ifNo X15.here hx rfl (hb hby at_130) rfl ((if0 _ _).trans (tlt ((lw_gt _ _).mpr c130_19)).2.2.2) k) ?_
        show own_Go X15 (Q0 Z q0 p1 p2 q3 q4 h0 n0) 1 3 133 #[.val (.long q0), .second, .val (.int p1), .val (.int p2), .val (.long q3), .second, .val (.long q4), .second, .val (.long sz), .second, .val (.int fi), .val (.long up), .second, .val (.ref b2), .val (.int (1 : Int32)), .unset, .unset] []
        refine own_st (fun _ k => XS.lload X15.here hx rfl (hb hby at_133) rfl k) ?_
        show own_Go X15 (Q0 Z q0 p1 p2 q3 q4 h0 n0) 1 3 135 #[.val (.long q0), .second, .val (.int p1), .val (.int p2), .val (.long q3), .second, .val (.long q4), .second, .val (.long sz), .second, .val (.int fi), .val (.long up), .second, .val (.ref b2), .val (.int (1 : Int32)), .unset, .unset] [(.long q4)]
        refine own_st (fun t k => X15.ldc2Long hx hown (mvT hZ (hw _ (List.mem_of_getElem? (i := 33) rfl))) (g := (mkF m 135 #[.val (.long q0), .second, .val (.int p1), .val (.int p2), .val (.long q3), .second, .val (.long q4), .second, .val (.long sz), .second, .val (.int fi), .val (.long up), .second, .val (.ref b2), .val (.int (1 : Int32)), .unset, .unset] [(.long q4)])) rfl (hb hby at_135) t k) ?_
        show own_Go X15 (Q0 Z q0 p1 p2 q3 q4 h0 n0) 1 3 138 #[.val (.long q0), .second, .val (.int p1), .val (.int p2), .val (.long q3), .second, .val (.long q4), .second, .val (.long sz), .second, .val (.int fi), .val (.long up), .second, .val (.ref b2), .val (.int (1 : Int32)), .unset, .unset] [(.long (9223372036854775807 : Int64)), (.long q4)]
        refine own_st (fun _ k => XS.land X15.here hx rfl (hb hby at_138) rfl k) ?_
        show own_Go X15 (Q0 Z q0 p1 p2 q3 q4 h0 n0) 1 3 139 #[.val (.long q0), .second, .val (.int p1), .val (.int p2), .val (.long q3), .second, .val (.long q4), .second, .val (.long sz), .second, .val (.int fi), .val (.long up), .second, .val (.ref b2), .val (.int (1 : Int32)), .unset, .unset] [(.long (q4 &&& (9223372036854775807 : Int64)))]
        refine own_st (fun _ k => XS.lload X15.here hx rfl (hb hby at_139) rfl k) ?_
        show own_Go X15 (Q0 Z q0 p1 p2 q3 q4 h0 n0) 1 3 141 #[.val (.long q0), .second, .val (.int p1), .val (.int p2), .val (.long q3), .second, .val (.long q4), .second, .val (.long sz), .second, .val (.int fi), .val (.long up), .second, .val (.ref b2), .val (.int (1 : Int32)), .unset, .unset] [(.long sz), (.long (q4 &&& (9223372036854775807 : Int64)))]
        refine own_st (fun _ k => own_lrem X15 hx rfl (hb hby at_141) rfl (own_nz c130_19) k) ?_
        show own_Go X15 (Q0 Z q0 p1 p2 q3 q4 h0 n0) 1 3 142 #[.val (.long q0), .second, .val (.int p1), .val (.int p2), .val (.long q3), .second, .val (.long q4), .second, .val (.long sz), .second, .val (.int fi), .val (.long up), .second, .val (.ref b2), .val (.int (1 : Int32)), .unset, .unset] [(.long ((q4 &&& (9223372036854775807 : Int64)) % sz))]
        refine own_st (fun _ k => XS.lstore X15.here hx rfl (hb hby at_142) rfl (l' := #[.val (.long q0), .second, .val (.int p1), .val (.int p2), .val (.long q3), .second, .val (.long q4), .second, .val (.long sz), .second, .val (.int fi), .val (.long up), .second, .val (.ref b2), .val (.int (1 : Int32)), .val (.long ((q4 &&& (9223372036854775807 : Int64)) % sz)), .second]) rfl k) ?_
        show own_Go X15 (Q0 Z q0 p1 p2 q3 q4 h0 n0) 1 3 144 #[.val (.long q0), .second, .val (.int p1), .val (.int p2), .val (.long q3), .second, .val (.long q4), .second, .val (.long sz), .second, .val (.int fi), .val (.long up), .second, .val (.ref b2), .val (.int (1 : Int32)), .val (.long ((q4 &&& (9223372036854775807 : Int64)) % sz)), .second] []
        generalize hkk : ((q4 &&& (9223372036854775807 : Int64)) % sz) = kk
        show own_Go X15 (Q0 Z q0 p1 p2 q3 q4 h0 n0) 1 3 144 #[.val (.long q0), .second, .val (.int p1), .val (.int p2), .val (.long q3), .second, .val (.long q4), .second, .val (.long sz), .second, .val (.int fi), .val (.long up), .second, .val (.ref b2), .val (.int (1 : Int32)), .val (.long kk), .second] []
        refine own_st (fun _ k => XS.iload X15.here hx rfl (hb hby at_144) rfl k) ?_
        show own_Go X15 (Q0 Z q0 p1 p2 q3 q4 h0 n0) 1 3 146 #[.val (.long q0), .second, .val (.int p1), .val (.int p2), .val (.long q3), .second, .val (.long q4), .second, .val (.long sz), .second, .val (.int fi), .val (.long up), .second, .val (.ref b2), .val (.int (1 : Int32)), .val (.long kk), .second] [(.int (1 : Int32))]
        have c146_20 : ¬ ((1 : Int32) = (0 : Int32)) := (by decide)
        refine own_st (fun _ k => XS.ifNo X15.here hx rfl (hb hby at_146) rfl ((if0 _ _).trans (feq c146_20).1) k) ?_
        show own_Go X15 (Q0 Z q0 p1 p2 q3 q4 h0 n0) 1 3 149 #[.val (.long q0), .second, .val (.int p1), .val (.int p2), .val (.long q3), .second, .val (.long q4), .second, .val (.long sz), .second, .val (.int fi), .val (.long up), .second, .val (.ref b2), .val (.int (1 : Int32)), .val (.long kk), .second] []
        refine own_st (fun _ k => XS.aload X15.here hx rfl (hb hby at_149) rfl rfl k) ?_
        show own_Go X15 (Q0 Z q0 p1 p2 q3 q4 h0 n0) 1 3 151 #[.val (.long q0), .second, .val (.int p1), .val (.int p2), .val (.long q3), .second, .val (.long q4), .second, .val (.long sz), .second, .val (.int fi), .val (.long up), .second, .val (.ref b2), .val (.int (1 : Int32)), .val (.long kk), .second] [(.ref b2)]
        refine own_st (fun _ k => XS.lloadN X15.here hx rfl (hb hby at_151) rfl k) ?_
        show own_Go X15 (Q0 Z q0 p1 p2 q3 q4 h0 n0) 1 3 152 #[.val (.long q0), .second, .val (.int p1), .val (.int p2), .val (.long q3), .second, .val (.long q4), .second, .val (.long sz), .second, .val (.int fi), .val (.long up), .second, .val (.ref b2), .val (.int (1 : Int32)), .val (.long kk), .second] [(.long q0), (.ref b2)]
        refine own_st (fun _ k => XS.lload X15.here hx rfl (hb hby at_152) rfl k) ?_
        show own_Go X15 (Q0 Z q0 p1 p2 q3 q4 h0 n0) 1 3 154 #[.val (.long q0), .second, .val (.int p1), .val (.int p2), .val (.long q3), .second, .val (.long q4), .second, .val (.long sz), .second, .val (.int fi), .val (.long up), .second, .val (.ref b2), .val (.int (1 : Int32)), .val (.long kk), .second] [(.long kk), (.long q0), (.ref b2)]
        refine own_st (fun _ k => XS.ladd X15.here hx rfl (hb hby at_154) rfl k) ?_
        show own_Go X15 (Q0 Z q0 p1 p2 q3 q4 h0 n0) 1 3 155 #[.val (.long q0), .second, .val (.int p1), .val (.int p2), .val (.long q3), .second, .val (.long q4), .second, .val (.long sz), .second, .val (.int fi), .val (.long up), .second, .val (.ref b2), .val (.int (1 : Int32)), .val (.long kk), .second] [(.long (q0 + kk)), (.ref b2)]
        refine own_callV (W := 0) X15 hx hZ hown (hw _ (List.mem_of_getElem? (i := 21) rfl)) (hw _ (List.mem_of_getElem? (i := 22) rfl)) (hw _ (List.mem_of_getElem? (i := 24) rfl)) (hw _ (List.mem_of_getElem? (i := 23) rfl)) (hw _ (List.mem_of_getElem? (i := 3) rfl)) (hw _ (List.mem_of_getElem? (i := 25) rfl)) (by decide) (rm4 l Z a0 hw [] b2 (q0 + kk) q0 up fi T5.heap n0 Z_8 F5_lower F5_upper F5_first) (by decide) (by decide) (by rw [hml]; rfl) b2 [(.long (q0 + kk))] [] (lenOf pd_0_1 rfl) rfl rfl (Nat.le_of_ble_eq_true rfl) (hb hby at_155) e15 f_7 (by decide) (by decide) ?_
        rintro _ T21 L21 X21 ⟨rfl, N21q, e21⟩
        have N_22 := Fr.app N_16 N21q
        show own_Go X21 (Q0 Z q0 p1 p2 q3 q4 h0 n0) 1 3 158 #[.val (.long q0), .second, .val (.int p1), .val (.int p2), .val (.long q3), .second, .val (.long q4), .second, .val (.long sz), .second, .val (.int fi), .val (.long up), .second, .val (.ref b2), .val (.int (1 : Int32)), .val (.long kk), .second] [(.int (own_am q0 up fi (q0 + kk)))]
        refine own_st (fun _ k => XS.iload X21.here hx rfl (hb hby at_158) rfl k) ?_
        show own_Go X21 (Q0 Z q0 p1 p2 q3 q4 h0 n0) 1 3 160 #[.val (.long q0), .second, .val (.int p1), .val (.int p2), .val (.long q3), .second, .val (.long q4), .second, .val (.long sz), .second, .val (.int fi), .val (.long up), .second, .val (.ref b2), .val (.int (1 : Int32)), .val (.long kk), .second] [(.int fi), (.int (own_am q0 up fi (q0 + kk)))]
        refine own_st (fun _ k => XS.lload X21.here hx rfl (hb hby at_160) rfl k) ?_
        show own_Go X21 (Q0 Z q0 p1 p2 q3 q4 h0 n0) 1 3 162 #[.val (.long q0), .second, .val (.int p1), .val (.int p2), .val (.long q3), .second, .val (.long q4), .second, .val (.long sz), .second, .val (.int fi), .val (.long up), .second, .val (.ref b2), .val (.int (1 : Int32)), .val (.long kk), .second] [(.long kk), (.int fi), (.int (own_am q0 up fi (q0 + kk)))]
        refine own_st (fun _ k => XS.l2i X21.here hx rfl (hb hby at_162) rfl k) ?_
        show own_Go X21 (Q0 Z q0 p1 p2 q3 q4 h0 n0) 1 3 163 #[.val (.long q0), .second, .val (.int p1), .val (.int p2), .val (.long q3), .second, .val (.long q4), .second, .val (.long sz), .second, .val (.int fi), .val (.long up), .second, .val (.ref b2), .val (.int (1 : Int32)), .val (.long kk), .second] [(.int (kk.toInt32)), (.int fi), (.int (own_am q0 up fi (q0 + kk)))]
        refine own_st (fun _ k => XS.iadd X21.here hx rfl (hb hby at_163) rfl k) ?_
        show own_Go X21 (Q0 Z q0 p1 p2 q3 q4 h0 n0) 1 3 164 #[.val (.long q0), .second, .val (.int p1), .val (.int p2), .val (.long q3), .second, .val (.long q4), .second, .val (.long sz), .second, .val (.int fi), .val (.long up), .second, .val (.ref b2), .val (.int (1 : Int32)), .val (.long kk), .second] [(.int (fi + (kk.toInt32))), (.int (own_am q0 up fi (q0 + kk)))]
        have c164_23 : (own_am q0 up fi (q0 + kk)) = (fi + (kk.toInt32)) := own_mid hup c25_1 (own_sz hsz).2 (own_kk hkk c130_19).1 (own_kk hkk c130_19).2
        refine own_st (fun _ k => XS.icmpNo X21.here hx rfl (hb hby at_164) rfl (teq c164_23).2 k) ?_
        show own_Go X21 (Q0 Z q0 p1 p2 q3 q4 h0 n0) 1 3 167 #[.val (.long q0), .second, .val (.int p1), .val (.int p2), .val (.long q3), .second, .val (.long q4), .second, .val (.long sz), .second, .val (.int fi), .val (.long up), .second, .val (.ref b2), .val (.int (1 : Int32)), .val (.long kk), .second] []
        refine own_st (fun _ k => XS.iconst X21.here hx rfl (hb hby at_167) k) ?_
        show own_Go X21 (Q0 Z q0 p1 p2 q3 q4 h0 n0) 1 3 168 #[.val (.long q0), .second, .val (.int p1), .val (.int p2), .val (.long q3), .second, .val (.long q4), .second, .val (.long sz), .second, .val (.int fi), .val (.long up), .second, .val (.ref b2), .val (.int (1 : Int32)), .val (.long kk), .second] [(.int (1 : Int32))]
        refine own_st (fun _ k => XS.goto X21.here hx rfl (pc0 := 168) (pc' := 172) rfl (hb hby at_168) (by decide) (by decide) k) ?_
        show own_Go X21 (Q0 Z q0 p1 p2 q3 q4 h0 n0) 1 3 172 #[.val (.long q0), .second, .val (.int p1), .val (.int p2), .val (.long q3), .second, .val (.long q4), .second, .val (.long sz), .second, .val (.int fi), .val (.long up), .second, .val (.ref b2), .val (.int (1 : Int32)), .val (.long kk), .second] [(.int (1 : Int32))]
        refine own_st (fun _ k => XS.istore X21.here hx rfl (hb hby at_172) rfl (l' := #[.val (.long q0), .second, .val (.int p1), .val (.int p2), .val (.long q3), .second, .val (.long q4), .second, .val (.long sz), .second, .val (.int fi), .val (.long up), .second, .val (.ref b2), .val (.int (1 : Int32)), .val (.long kk), .second]) rfl k) ?_
        show own_Go X21 (Q0 Z q0 p1 p2 q3 q4 h0 n0) 1 3 174 #[.val (.long q0), .second, .val (.int p1), .val (.int p2), .val (.long q3), .second, .val (.long q4), .second, .val (.long sz), .second, .val (.int fi), .val (.long up), .second, .val (.ref b2), .val (.int (1 : Int32)), .val (.long kk), .second] []
        refine own_st (fun _ k => XS.iload X21.here hx rfl (hb hby at_174) rfl k) ?_
        show own_Go X21 (Q0 Z q0 p1 p2 q3 q4 h0 n0) 1 3 176 #[.val (.long q0), .second, .val (.int p1), .val (.int p2), .val (.long q3), .second, .val (.long q4), .second, .val (.long sz), .second, .val (.int fi), .val (.long up), .second, .val (.ref b2), .val (.int (1 : Int32)), .val (.long kk), .second] [(.int (1 : Int32))]
        have c176_24 : ¬ ((1 : Int32) = (0 : Int32)) := (by decide)
        refine own_st (fun _ k => XS.ifNo X21.here hx rfl (hb hby at_176) rfl ((if0 _ _).trans (feq c176_24).1) k) ?_
        show own_Go X21 (Q0 Z q0 p1 p2 q3 q4 h0 n0) 1 3 179 #[.val (.long q0), .second, .val (.int p1), .val (.int p2), .val (.long q3), .second, .val (.long q4), .second, .val (.long sz), .second, .val (.int fi), .val (.long up), .second, .val (.ref b2), .val (.int (1 : Int32)), .val (.long kk), .second] []
        refine own_st (fun _ k => XS.aload X21.here hx rfl (hb hby at_179) rfl rfl k) ?_
        show own_Go X21 (Q0 Z q0 p1 p2 q3 q4 h0 n0) 1 3 181 #[.val (.long q0), .second, .val (.int p1), .val (.int p2), .val (.long q3), .second, .val (.long q4), .second, .val (.long sz), .second, .val (.int fi), .val (.long up), .second, .val (.ref b2), .val (.int (1 : Int32)), .val (.long kk), .second] [(.ref b2)]
        refine own_st (fun _ k => XS.lload X21.here hx rfl (hb hby at_181) rfl k) ?_
        show own_Go X21 (Q0 Z q0 p1 p2 q3 q4 h0 n0) 1 3 183 #[.val (.long q0), .second, .val (.int p1), .val (.int p2), .val (.long q3), .second, .val (.long q4), .second, .val (.long sz), .second, .val (.int fi), .val (.long up), .second, .val (.ref b2), .val (.int (1 : Int32)), .val (.long kk), .second] [(.long up), (.ref b2)]
        refine own_st (fun _ k => XS.lconst X21.here hx rfl (hb hby at_183) k) ?_
        show own_Go X21 (Q0 Z q0 p1 p2 q3 q4 h0 n0) 1 3 184 #[.val (.long q0), .second, .val (.int p1), .val (.int p2), .val (.long q3), .second, .val (.long q4), .second, .val (.long sz), .second, .val (.int fi), .val (.long up), .second, .val (.ref b2), .val (.int (1 : Int32)), .val (.long kk), .second] [(.long (1 : Int64)), (.long up), (.ref b2)]
        refine own_st (fun _ k => XS.lsub X21.here hx rfl (hb hby at_184) rfl k) ?_
        show own_Go X21 (Q0 Z q0 p1 p2 q3 q4 h0 n0) 1 3 185 #[.val (.long q0), .second, .val (.int p1), .val (.int p2), .val (.long q3), .second, .val (.long q4), .second, .val (.long sz), .second, .val (.int fi), .val (.long up), .second, .val (.ref b2), .val (.int (1 : Int32)), .val (.long kk), .second] [(.long (up - (1 : Int64))), (.ref b2)]
        refine own_callV (W := 0) X21 hx hZ hown (hw _ (List.mem_of_getElem? (i := 21) rfl)) (hw _ (List.mem_of_getElem? (i := 22) rfl)) (hw _ (List.mem_of_getElem? (i := 24) rfl)) (hw _ (List.mem_of_getElem? (i := 23) rfl)) (hw _ (List.mem_of_getElem? (i := 3) rfl)) (hw _ (List.mem_of_getElem? (i := 25) rfl)) (by decide) (rm4 l Z a0 hw [] b2 (up - (1 : Int64)) q0 up fi T5.heap n0 Z_8 F5_lower F5_upper F5_first) (by decide) (by decide) (by rw [hml]; rfl) b2 [(.long (up - (1 : Int64)))] [] (lenOf pd_0_1 rfl) rfl rfl (Nat.le_of_ble_eq_true rfl) (hb hby at_185) e21 f_7 (by decide) (by decide) ?_
        rintro _ T25 L25 X25 ⟨rfl, N25q, e25⟩
        have N_26 := Fr.app N_22 N25q
        show own_Go X25 (Q0 Z q0 p1 p2 q3 q4 h0 n0) 1 3 188 #[.val (.long q0), .second, .val (.int p1), .val (.int p2), .val (.long q3), .second, .val (.long q4), .second, .val (.long sz), .second, .val (.int fi), .val (.long up), .second, .val (.ref b2), .val (.int (1 : Int32)), .val (.long kk), .second] [(.int (own_am q0 up fi (up - (1 : Int64))))]
        refine own_st (fun _ k => XS.iload X25.here hx rfl (hb hby at_188) rfl k) ?_
        show own_Go X25 (Q0 Z q0 p1 p2 q3 q4 h0 n0) 1 3 190 #[.val (.long q0), .second, .val (.int p1), .val (.int p2), .val (.long q3), .second, .val (.long q4), .second, .val (.long sz), .second, .val (.int fi), .val (.long up), .second, .val (.ref b2), .val (.int (1 : Int32)), .val (.long kk), .second] [(.int fi), (.int (own_am q0 up fi (up - (1 : Int64))))]
        refine own_st (fun _ k => XS.lload X25.here hx rfl (hb hby at_190) rfl k) ?_
        show own_Go X25 (Q0 Z q0 p1 p2 q3 q4 h0 n0) 1 3 192 #[.val (.long q0), .second, .val (.int p1), .val (.int p2), .val (.long q3), .second, .val (.long q4), .second, .val (.long sz), .second, .val (.int fi), .val (.long up), .second, .val (.ref b2), .val (.int (1 : Int32)), .val (.long kk), .second] [(.long sz), (.int fi), (.int (own_am q0 up fi (up - (1 : Int64))))]
        refine own_st (fun _ k => XS.lconst X25.here hx rfl (hb hby at_192) k) ?_
        show own_Go X25 (Q0 Z q0 p1 p2 q3 q4 h0 n0) 1 3 193 #[.val (.long q0), .second, .val (.int p1), .val (.int p2), .val (.long q3), .second, .val (.long q4), .second, .val (.long sz), .second, .val (.int fi), .val (.long up), .second, .val (.ref b2), .val (.int (1 : Int32)), .val (.long kk), .second] [(.long (1 : Int64)), (.long sz), (.int fi), (.int (own_am q0 up fi (up - (1 : Int64))))]
        refine own_st (fun _ k => XS.lsub X25.here hx rfl (hb hby at_193) rfl k) ?_
        show own_Go X25 (Q0 Z q0 p1 p2 q3 q4 h0 n0) 1 3 194 #[.val (.long q0), .second, .val (.int p1), .val (.int p2), .val (.long q3), .second, .val (.long q4), .second, .val (.long sz), .second, .val (.int fi), .val (.long up), .second, .val (.ref b2), .val (.int (1 : Int32)), .val (.long kk), .second] [(.long (sz - (1 : Int64))), (.int fi), (.int (own_am q0 up fi (up - (1 : Int64))))]
        refine own_st (fun _ k => XS.l2i X25.here hx rfl (hb hby at_194) rfl k) ?_
        show own_Go X25 (Q0 Z q0 p1 p2 q3 q4 h0 n0) 1 3 195 #[.val (.long q0), .second, .val (.int p1), .val (.int p2), .val (.long q3), .second, .val (.long q4), .second, .val (.long sz), .second, .val (.int fi), .val (.long up), .second, .val (.ref b2), .val (.int (1 : Int32)), .val (.long kk), .second] [(.int ((sz - (1 : Int64)).toInt32)), (.int fi), (.int (own_am q0 up fi (up - (1 : Int64))))]
        refine own_st (fun _ k => XS.iadd X25.here hx rfl (hb hby at_195) rfl k) ?_
        show own_Go X25 (Q0 Z q0 p1 p2 q3 q4 h0 n0) 1 3 196 #[.val (.long q0), .second, .val (.int p1), .val (.int p2), .val (.long q3), .second, .val (.long q4), .second, .val (.long sz), .second, .val (.int fi), .val (.long up), .second, .val (.ref b2), .val (.int (1 : Int32)), .val (.long kk), .second] [(.int (fi + ((sz - (1 : Int64)).toInt32))), (.int (own_am q0 up fi (up - (1 : Int64))))]
        have c196_27 : (own_am q0 up fi (up - (1 : Int64))) = (fi + ((sz - (1 : Int64)).toInt32)) := own_last hup c25_1 (own_sz hsz).2 c130_19
        refine own_st (fun _ k => XS.icmpNo X25.here hx rfl (hb hby at_196) rfl (teq c196_27).2 k) ?_
        show own_Go X25 (Q0 Z q0 p1 p2 q3 q4 h0 n0) 1 3 199 #[.val (.long q0), .second, .val (.int p1), .val (.int p2), .val (.long q3), .second, .val (.long q4), .second, .val (.long sz), .second, .val (.int fi), .val (.long up), .second, .val (.ref b2), .val (.int (1 : Int32)), .val (.long kk), .second] []
        refine own_st (fun _ k => XS.iconst X25.here hx rfl (hb hby at_199) k) ?_
        show own_Go X25 (Q0 Z q0 p1 p2 q3 q4 h0 n0) 1 3 200 #[.val (.long q0), .second, .val (.int p1), .val (.int p2), .val (.long q3), .second, .val (.long q4), .second, .val (.long sz), .second, .val (.int fi), .val (.long up), .second, .val (.ref b2), .val (.int (1 : Int32)), .val (.long kk), .second] [(.int (1 : Int32))]
        refine own_st (fun _ k => XS.goto X25.here hx rfl (pc0 := 200) (pc' := 204) rfl (hb hby at_200) (by decide) (by decide) k) ?_
        show own_Go X25 (Q0 Z q0 p1 p2 q3 q4 h0 n0) 1 3 204 #[.val (.long q0), .second, .val (.int p1), .val (.int p2), .val (.long q3), .second, .val (.long q4), .second, .val (.long sz), .second, .val (.int fi), .val (.long up), .second, .val (.ref b2), .val (.int (1 : Int32)), .val (.long kk), .second] [(.int (1 : Int32))]
        refine own_st (fun _ k => XS.istore X25.here hx rfl (hb hby at_204) rfl (l' := #[.val (.long q0), .second, .val (.int p1), .val (.int p2), .val (.long q3), .second, .val (.long q4), .second, .val (.long sz), .second, .val (.int fi), .val (.long up), .second, .val (.ref b2), .val (.int (1 : Int32)), .val (.long kk), .second]) rfl k) ?_
        show own_Go X25 (Q0 Z q0 p1 p2 q3 q4 h0 n0) 1 3 206 #[.val (.long q0), .second, .val (.int p1), .val (.int p2), .val (.long q3), .second, .val (.long q4), .second, .val (.long sz), .second, .val (.int fi), .val (.long up), .second, .val (.ref b2), .val (.int (1 : Int32)), .val (.long kk), .second] []
        refine own_st (fun _ k => XS.iload X25.here hx rfl (hb hby at_206) rfl k) ?_
        show own_Go X25 (Q0 Z q0 p1 p2 q3 q4 h0 n0) 1 3 208 #[.val (.long q0), .second, .val (.int p1), .val (.int p2), .val (.long q3), .second, .val (.long q4), .second, .val (.long sz), .second, .val (.int fi), .val (.long up), .second, .val (.ref b2), .val (.int (1 : Int32)), .val (.long kk), .second] [(.int (1 : Int32))]
        refine own_retN X25 hx Bd.returns (by simp) hlk e25 (hb hby at_208) (by decide) (by decide) ?_
        exact ⟨rfl, N_26⟩
      · skip
        refine own_st (fun _ k => XS.ifYes X15.here hx rfl (pc0 := 130) (pc' := 206) rfl (hb hby at_130) rfl ((if0 _ _).trans (flt (fun q => c130_19 ((lw_gt _ _).mp q))).2.2.2) (by decide) (by decide) k) ?_
        show own_Go X15 (Q0 Z q0 p1 p2 q3 q4 h0 n0) 1 3 206 #[.val (.long q0), .second, .val (.int p1), .val (.int p2), .val (.long q3), .second, .val (.long q4), .second, .val (.long sz), .second, .val (.int fi), .val (.long up), .second, .val (.ref b2), .val (.int (1 : Int32)), .unset, .unset] []
        refine own_st (fun _ k => XS.iload X15.here hx rfl (hb hby at_206) rfl k) ?_
        show own_Go X15 (Q0 Z q0 p1 p2 q3 q4 h0 n0) 1 3 208 #[.val (.long q0), .second, .val (.int p1), .val (.int p2), .val (.long q3), .second, .val (.long q4), .second, .val (.long sz), .second, .val (.int fi), .val (.long up), .second, .val (.ref b2), .val (.int (1 : Int32)), .unset, .unset] [(.int (1 : Int32))]
        refine own_retN X15 hx Bd.returns (by simp) hlk e15 (hb hby at_208) (by decide) (by decide) ?_
        exact ⟨rfl, N_16⟩
    · skip
      refine own_st (fun _ k => XS.ifNo X15.here hx rfl (hb hby at_100) rfl ((if0 _ _).trans (feq (fun q => c100_18 ((lw_eq _ _).mp q))).1) k) ?_
      show own_Go X15 (Q0 Z q0 p1 p2 q3 q4 h0 n0) 1 3 103 #[.val (.long q0), .second, .val (.int p1), .val (.int p2), .val (.long q3), .second, .val (.long q4), .second, .val (.long sz), .second, .val (.int fi), .val (.long up), .second, .val (.ref b2), .val (.int (1 : Int32)), .unset, .unset] []
      refine own_st (fun _ k => XS.iload X15.here hx rfl (hb hby at_103) rfl k) ?_
      show own_Go X15 (Q0 Z q0 p1 p2 q3 q4 h0 n0) 1 3 105 #[.val (.long q0), .second, .val (.int p1), .val (.int p2), .val (.long q3), .second, .val (.long q4), .second, .val (.long sz), .second, .val (.int fi), .val (.long up), .second, .val (.ref b2), .val (.int (1 : Int32)), .unset, .unset] [(.int (1 : Int32))]
      have c105_28 : ¬ ((1 : Int32) = (0 : Int32)) := (by decide)
      refine own_st (fun _ k => XS.ifNo X15.here hx rfl (hb hby at_105) rfl ((if0 _ _).trans (feq c105_28).1) k) ?_
      show own_Go X15 (Q0 Z q0 p1 p2 q3 q4 h0 n0) 1 3 108 #[.val (.long q0), .second, .val (.int p1), .val (.int p2), .val (.long q3), .second, .val (.long q4), .second, .val (.long sz), .second, .val (.int fi), .val (.long up), .second, .val (.ref b2), .val (.int (1 : Int32)), .unset, .unset] []
      refine own_st (fun _ k => XS.aload X15.here hx rfl (hb hby at_108) rfl rfl k) ?_
      show own_Go X15 (Q0 Z q0 p1 p2 q3 q4 h0 n0) 1 3 110 #[.val (.long q0), .second, .val (.int p1), .val (.int p2), .val (.long q3), .second, .val (.long q4), .second, .val (.long sz), .second, .val (.int fi), .val (.long up), .second, .val (.ref b2), .val (.int (1 : Int32)), .unset, .unset] [(.ref b2)]
      refine own_st (fun _ k => XS.lloadN X15.here hx rfl (hb hby at_110) rfl k) ?_
      show own_Go X15 (Q0 Z q0 p1 p2 q3 q4 h0 n0) 1 3 111 #[.val (.long q0), .second, .val (.int p1), .val (.int p2), .val (.long q3), .second, .val (.long q4), .second, .val (.long sz), .second, .val (.int fi), .val (.long up), .second, .val (.ref b2), .val (.int (1 : Int32)), .unset, .unset] [(.long q0), (.ref b2)]
      refine own_st (fun _ k => XS.lconst X15.here hx rfl (hb hby at_111) k) ?_
      show own_Go X15 (Q0 Z q0 p1 p2 q3 q4 h0 n0) 1 3 112 #[.val (.long q0), .second, .val (.int p1), .val (.int p2), .val (.long q3), .second, .val (.long q4), .second, .val (.long sz), .second, .val (.int fi), .val (.long up), .second, .val (.ref b2), .val (.int (1 : Int32)), .unset, .unset] [(.long (1 : Int64)), (.long q0), (.ref b2)]
      refine own_st (fun _ k => XS.lsub X15.here hx rfl (hb hby at_112) rfl k) ?_
      show own_Go X15 (Q0 Z q0 p1 p2 q3 q4 h0 n0) 1 3 113 #[.val (.long q0), .second, .val (.int p1), .val (.int p2), .val (.long q3), .second, .val (.long q4), .second, .val (.long sz), .second, .val (.int fi), .val (.long up), .second, .val (.ref b2), .val (.int (1 : Int32)), .unset, .unset] [(.long (q0 - (1 : Int64))), (.ref b2)]
      refine own_callV (W := 0) X15 hx hZ hown (hw _ (List.mem_of_getElem? (i := 21) rfl)) (hw _ (List.mem_of_getElem? (i := 22) rfl)) (hw _ (List.mem_of_getElem? (i := 24) rfl)) (hw _ (List.mem_of_getElem? (i := 23) rfl)) (hw _ (List.mem_of_getElem? (i := 3) rfl)) (hw _ (List.mem_of_getElem? (i := 25) rfl)) (by decide) (rm4 l Z a0 hw [] b2 (q0 - (1 : Int64)) q0 up fi T5.heap n0 Z_8 F5_lower F5_upper F5_first) (by decide) (by decide) (by rw [hml]; rfl) b2 [(.long (q0 - (1 : Int64)))] [] (lenOf pd_0_1 rfl) rfl rfl (Nat.le_of_ble_eq_true rfl) (hb hby at_113) e15 f_7 (by decide) (by decide) ?_
      rintro _ T29 L29 X29 ⟨rfl, N29q, e29⟩
      have N_30 := Fr.app N_16 N29q
      show own_Go X29 (Q0 Z q0 p1 p2 q3 q4 h0 n0) 1 3 116 #[.val (.long q0), .second, .val (.int p1), .val (.int p2), .val (.long q3), .second, .val (.long q4), .second, .val (.long sz), .second, .val (.int fi), .val (.long up), .second, .val (.ref b2), .val (.int (1 : Int32)), .unset, .unset] [(.int (own_am q0 up fi (q0 - (1 : Int64))))]
      have c116_31 : (own_am q0 up fi (q0 - (1 : Int64))) = (0 : Int32) := own_bot c100_18
      refine own_st (fun _ k => XS.ifNo X29.here hx rfl (hb hby at_116) rfl ((if0 _ _).trans (teq c116_31).2) k) ?_
      show own_Go X29 (Q0 Z q0 p1 p2 q3 q4 h0 n0) 1 3 119 #[.val (.long q0), .second, .val (.int p1), .val (.int p2), .val (.long q3), .second, .val (.long q4), .second, .val (.long sz), .second, .val (.int fi), .val (.long up), .second, .val (.ref b2), .val (.int (1 : Int32)), .unset, .unset] []
      refine own_st (fun _ k => XS.iconst X29.here hx rfl (hb hby at_119) k) ?_
      show own_Go X29 (Q0 Z q0 p1 p2 q3 q4 h0 n0) 1 3 120 #[.val (.long q0), .second, .val (.int p1), .val (.int p2), .val (.long q3), .second, .val (.long q4), .second, .val (.long sz), .second, .val (.int fi), .val (.long up), .second, .val (.ref b2), .val (.int (1 : Int32)), .unset, .unset] [(.int (1 : Int32))]
      refine own_st (fun _ k => XS.goto X29.here hx rfl (pc0 := 120) (pc' := 124) rfl (hb hby at_120) (by decide) (by decide) k) ?_
      show own_Go X29 (Q0 Z q0 p1 p2 q3 q4 h0 n0) 1 3 124 #[.val (.long q0), .second, .val (.int p1), .val (.int p2), .val (.long q3), .second, .val (.long q4), .second, .val (.long sz), .second, .val (.int fi), .val (.long up), .second, .val (.ref b2), .val (.int (1 : Int32)), .unset, .unset] [(.int (1 : Int32))]
      refine own_st (fun _ k => XS.istore X29.here hx rfl (hb hby at_124) rfl (l' := #[.val (.long q0), .second, .val (.int p1), .val (.int p2), .val (.long q3), .second, .val (.long q4), .second, .val (.long sz), .second, .val (.int fi), .val (.long up), .second, .val (.ref b2), .val (.int (1 : Int32)), .unset, .unset]) rfl k) ?_
      show own_Go X29 (Q0 Z q0 p1 p2 q3 q4 h0 n0) 1 3 126 #[.val (.long q0), .second, .val (.int p1), .val (.int p2), .val (.long q3), .second, .val (.long q4), .second, .val (.long sz), .second, .val (.int fi), .val (.long up), .second, .val (.ref b2), .val (.int (1 : Int32)), .unset, .unset] []
      refine own_st (fun _ k => XS.lload X29.here hx rfl (hb hby at_126) rfl k) ?_
      show own_Go X29 (Q0 Z q0 p1 p2 q3 q4 h0 n0) 1 3 128 #[.val (.long q0), .second, .val (.int p1), .val (.int p2), .val (.long q3), .second, .val (.long q4), .second, .val (.long sz), .second, .val (.int fi), .val (.long up), .second, .val (.ref b2), .val (.int (1 : Int32)), .unset, .unset] [(.long sz)]
      refine own_st (fun _ k => XS.lconst X29.here hx rfl (hb hby at_128) k) ?_
      show own_Go X29 (Q0 Z q0 p1 p2 q3 q4 h0 n0) 1 3 129 #[.val (.long q0), .second, .val (.int p1), .val (.int p2), .val (.long q3), .second, .val (.long q4), .second, .val (.long sz), .second, .val (.int fi), .val (.long up), .second, .val (.ref b2), .val (.int (1 : Int32)), .unset, .unset] [(.long (0 : Int64)), (.long sz)]
      refine own_st (fun _ k => XS.lcmp X29.here hx rfl (hb hby at_129) rfl k) ?_
      show own_Go X29 (Q0 Z q0 p1 p2 q3 q4 h0 n0) 1 3 130 #[.val (.long q0), .second, .val (.int p1), .val (.int p2), .val (.long q3), .second, .val (.long q4), .second, .val (.long sz), .second, .val (.int fi), .val (.long up), .second, .val (.ref b2), .val (.int (1 : Int32)), .unset, .unset] [(.int (lcmpW sz (0 : Int64)))]
      by_cases c130_32 : (0 : Int64) < sz
      · skip
        refine own_st (fun _ k => XS.ifNo X29.here hx rfl (hb hby at_130) rfl ((if0 _ _).trans (tlt ((lw_gt _ _).mpr c130_32)).2.2.2) k) ?_
        show own_Go X29 (Q0 Z q0 p1 p2 q3 q4 h0 n0) 1 3 133 #[.val (.long q0), .second, .val (.int p1), .val (.int p2), .val (.long q3), .second, .val (.long q4), .second, .val (.long sz), .second, .val (.int fi), .val (.long up), .second, .val (.ref b2), .val (.int (1 : Int32)), .unset, .unset] []
        refine own_st (fun _ k => XS.lload X29.here hx rfl (hb hby at_133) rfl k) ?_
        show own_Go X29 (Q0 Z q0 p1 p2 q3 q4 h0 n0) 1 3 135 #[.val (.long q0), .second, .val (.int p1), .val (.int p2), .val (.long q3), .second, .val (.long q4), .second, .val (.long sz), .second, .val (.int fi), .val (.long up), .second, .val (.ref b2), .val (.int (1 : Int32)), .unset, .unset] [(.long q4)]
        refine own_st (fun t k => X29.ldc2Long hx hown (mvT hZ (hw _ (List.mem_of_getElem? (i := 33) rfl))) (g := (mkF m 135 #[.val (.long q0), .second, .val (.int p1), .val (.int p2), .val (.long q3), .second, .val (.long q4), .second, .val (.long sz), .second, .val (.int fi), .val (.long up), .second, .val (.ref b2), .val (.int (1 : Int32)), .unset, .unset] [(.long q4)])) rfl (hb hby at_135) t k) ?_
        show own_Go X29 (Q0 Z q0 p1 p2 q3 q4 h0 n0) 1 3 138 #[.val (.long q0), .second, .val (.int p1), .val (.int p2), .val (.long q3), .second, .val (.long q4), .second, .val (.long sz), .second, .val (.int fi), .val (.long up), .second, .val (.ref b2), .val (.int (1 : Int32)), .unset, .unset] [(.long (9223372036854775807 : Int64)), (.long q4)]
        refine own_st (fun _ k => XS.land X29.here hx rfl (hb hby at_138) rfl k) ?_
        show own_Go X29 (Q0 Z q0 p1 p2 q3 q4 h0 n0) 1 3 139 #[.val (.long q0), .second, .val (.int p1), .val (.int p2), .val (.long q3), .second, .val (.long q4), .second, .val (.long sz), .second, .val (.int fi), .val (.long up), .second, .val (.ref b2), .val (.int (1 : Int32)), .unset, .unset] [(.long (q4 &&& (9223372036854775807 : Int64)))]
        refine own_st (fun _ k => XS.lload X29.here hx rfl (hb hby at_139) rfl k) ?_
        show own_Go X29 (Q0 Z q0 p1 p2 q3 q4 h0 n0) 1 3 141 #[.val (.long q0), .second, .val (.int p1), .val (.int p2), .val (.long q3), .second, .val (.long q4), .second, .val (.long sz), .second, .val (.int fi), .val (.long up), .second, .val (.ref b2), .val (.int (1 : Int32)), .unset, .unset] [(.long sz), (.long (q4 &&& (9223372036854775807 : Int64)))]
        refine own_st (fun _ k => own_lrem X29 hx rfl (hb hby at_141) rfl (own_nz c130_32) k) ?_
        show own_Go X29 (Q0 Z q0 p1 p2 q3 q4 h0 n0) 1 3 142 #[.val (.long q0), .second, .val (.int p1), .val (.int p2), .val (.long q3), .second, .val (.long q4), .second, .val (.long sz), .second, .val (.int fi), .val (.long up), .second, .val (.ref b2), .val (.int (1 : Int32)), .unset, .unset] [(.long ((q4 &&& (9223372036854775807 : Int64)) % sz))]
        refine own_st (fun _ k => XS.lstore X29.here hx rfl (hb hby at_142) rfl (l' := #[.val (.long q0), .second, .val (.int p1), .val (.int p2), .val (.long q3), .second, .val (.long q4), .second, .val (.long sz), .second, .val (.int fi), .val (.long up), .second, .val (.ref b2), .val (.int (1 : Int32)), .val (.long ((q4 &&& (9223372036854775807 : Int64)) % sz)), .second]) rfl k) ?_
        show own_Go X29 (Q0 Z q0 p1 p2 q3 q4 h0 n0) 1 3 144 #[.val (.long q0), .second, .val (.int p1), .val (.int p2), .val (.long q3), .second, .val (.long q4), .second, .val (.long sz), .second, .val (.int fi), .val (.long up), .second, .val (.ref b2), .val (.int (1 : Int32)), .val (.long ((q4 &&& (9223372036854775807 : Int64)) % sz)), .second] []
        generalize hkk : ((q4 &&& (9223372036854775807 : Int64)) % sz) = kk
        show own_Go X29 (Q0 Z q0 p1 p2 q3 q4 h0 n0) 1 3 144 #[.val (.long q0), .second, .val (.int p1), .val (.int p2), .val (.long q3), .second, .val (.long q4), .second, .val (.long sz), .second, .val (.int fi), .val (.long up), .second, .val (.ref b2), .val (.int (1 : Int32)), .val (.long kk), .second] []
        refine own_st (fun _ k => XS.iload X29.here hx rfl (hb hby at_144) rfl k) ?_
        show own_Go X29 (Q0 Z q0 p1 p2 q3 q4 h0 n0) 1 3 146 #[.val (.long q0), .second, .val (.int p1), .val (.int p2), .val (.long q3), .second, .val (.long q4), .second, .val (.long sz), .second, .val (.int fi), .val (.long up), .second, .val (.ref b2), .val (.int (1 : Int32)), .val (.long kk), .second] [(.int (1 : Int32))]
        have c146_33 : ¬ ((1 : Int32) = (0 : Int32)) := (by decide)
        refine own_st (fun _ k => XS.ifNo X29.here hx rfl (hb hby at_146) rfl ((if0 _ _).trans (feq c146_33).1) k) ?_
        show own_Go X29 (Q0 Z q0 p1 p2 q3 q4 h0 n0) 1 3 149 #[.val (.long q0), .second, .val (.int p1), .val (.int p2), .val (.long q3), .second, .val (.long q4), .second, .val (.long sz), .second, .val (.int fi), .val (.long up), .second, .val (.ref b2), .val (.int (1 : Int32)), .val (.long kk), .second] []
        refine own_st (fun _ k => XS.aload X29.here hx rfl (hb hby at_149) rfl rfl k) ?_
        show own_Go X29 (Q0 Z q0 p1 p2 q3 q4 h0 n0) 1 3 151 #[.val (.long q0), .second, .val (.int p1), .val (.int p2), .val (.long q3), .second, .val (.long q4), .second, .val (.long sz), .second, .val (.int fi), .val (.long up), .second, .val (.ref b2), .val (.int (1 : Int32)), .val (.long kk), .second] [(.ref b2)]
        refine own_st (fun _ k => XS.lloadN X29.here hx rfl (hb hby at_151) rfl k) ?_
        show own_Go X29 (Q0 Z q0 p1 p2 q3 q4 h0 n0) 1 3 152 #[.val (.long q0), .second, .val (.int p1), .val (.int p2), .val (.long q3), .second, .val (.long q4), .second, .val (.long sz), .second, .val (.int fi), .val (.long up), .second, .val (.ref b2), .val (.int (1 : Int32)), .val (.long kk), .second] [(.long q0), (.ref b2)]
        refine own_st (fun _ k => XS.lload X29.here hx rfl (hb hby at_152) rfl k) ?_
        show own_Go X29 (Q0 Z q0 p1 p2 q3 q4 h0 n0) 1 3 154 #[.val (.long q0), .second, .val (.int p1), .val (.int p2), .val (.long q3), .second, .val (.long q4), .second, .val (.long sz), .second, .val (.int fi), .val (.long up), .second, .val (.ref b2), .val (.int (1 : Int32)), .val (.long kk), .second] [(.long kk), (.long q0), (.ref b2)]
        refine own_st (fun _ k => XS.ladd X29.here hx rfl (hb hby at_154) rfl k) ?_
        show own_Go X29 (Q0 Z q0 p1 p2 q3 q4 h0 n0) 1 3 155 #[.val (.long q0), .second, .val (.int p1), .val (.int p2), .val (.long q3), .second, .val (.long q4), .second, .val (.long sz), .second, .val (.int fi), .val (.long up), .second, .val (.ref b2), .val (.int (1 : Int32)), .val (.long kk), .second] [(.long (q0 + kk)), (.ref b2)]
        refine own_callV (W := 0) X29 hx hZ hown (hw _ (List.mem_of_getElem? (i := 21) rfl)) (hw _ (List.mem_of_getElem? (i := 22) rfl)) (hw _ (List.mem_of_getElem? (i := 24) rfl)) (hw _ (List.mem_of_getElem? (i := 23) rfl)) (hw _ (List.mem_of_getElem? (i := 3) rfl)) (hw _ (List.mem_of_getElem? (i := 25) rfl)) (by decide) (rm4 l Z a0 hw [] b2 (q0 + kk) q0 up fi T5.heap n0 Z_8 F5_lower F5_upper F5_first) (by decide) (by decide) (by rw [hml]; rfl) b2 [(.long (q0 + kk))] [] (lenOf pd_0_1 rfl) rfl rfl (Nat.le_of_ble_eq_true rfl) (hb hby at_155) e29 f_7 (by decide) (by decide) ?_
        rintro _ T34 L34 X34 ⟨rfl, N34q, e34⟩
        have N_35 := Fr.app N_30 N34q
        show own_Go X34 (Q0 Z q0 p1 p2 q3 q4 h0 n0) 1 3 158 #[.val (.long q0), .second, .val (.int p1), .val (.int p2), .val (.long q3), .second, .val (.long q4), .second, .val (.long sz), .second, .val (.int fi), .val (.long up), .second, .val (.ref b2), .val (.int (1 : Int32)), .val (.long kk), .second] [(.int (own_am q0 up fi (q0 + kk)))]
        refine own_st (fun _ k => XS.iload X34.here hx rfl (hb hby at_158) rfl k) ?_
        show own_Go X34 (Q0 Z q0 p1 p2 q3 q4 h0 n0) 1 3 160 #[.val (.long q0), .second, .val (.int p1), .val (.int p2), .val (.long q3), .second, .val (.long q4), .second, .val (.long sz), .second, .val (.int fi), .val (.long up), .second, .val (.ref b2), .val (.int (1 : Int32)), .val (.long kk), .second] [(.int fi), (.int (own_am q0 up fi (q0 + kk)))]
        refine own_st (fun _ k => XS.lload X34.here hx rfl (hb hby at_160) rfl k) ?_
        show own_Go X34 (Q0 Z q0 p1 p2 q3 q4 h0 n0) 1 3 162 #[.val (.long q0), .second, .val (.int p1), .val (.int p2), .val (.long q3), .second, .val (.long q4), .second, .val (.long sz), .second, .val (.int fi), .val (.long up), .second, .val (.ref b2), .val (.int (1 : Int32)), .val (.long kk), .second] [(.long kk), (.int fi), (.int (own_am q0 up fi (q0 + kk)))]
        refine own_st (fun _ k => XS.l2i X34.here hx rfl (hb hby at_162) rfl k) ?_
        show own_Go X34 (Q0 Z q0 p1 p2 q3 q4 h0 n0) 1 3 163 #[.val (.long q0), .second, .val (.int p1), .val (.int p2), .val (.long q3), .second, .val (.long q4), .second, .val (.long sz), .second, .val (.int fi), .val (.long up), .second, .val (.ref b2), .val (.int (1 : Int32)), .val (.long kk), .second] [(.int (kk.toInt32)), (.int fi), (.int (own_am q0 up fi (q0 + kk)))]
        refine own_st (fun _ k => XS.iadd X34.here hx rfl (hb hby at_163) rfl k) ?_
        show own_Go X34 (Q0 Z q0 p1 p2 q3 q4 h0 n0) 1 3 164 #[.val (.long q0), .second, .val (.int p1), .val (.int p2), .val (.long q3), .second, .val (.long q4), .second, .val (.long sz), .second, .val (.int fi), .val (.long up), .second, .val (.ref b2), .val (.int (1 : Int32)), .val (.long kk), .second] [(.int (fi + (kk.toInt32))), (.int (own_am q0 up fi (q0 + kk)))]
        have c164_36 : (own_am q0 up fi (q0 + kk)) = (fi + (kk.toInt32)) := own_mid hup c25_1 (own_sz hsz).2 (own_kk hkk c130_32).1 (own_kk hkk c130_32).2
        refine own_st (fun _ k => XS.icmpNo X34.here hx rfl (hb hby at_164) rfl (teq c164_36).2 k) ?_
        show own_Go X34 (Q0 Z q0 p1 p2 q3 q4 h0 n0) 1 3 167 #[.val (.long q0), .second, .val (.int p1), .val (.int p2), .val (.long q3), .second, .val (.long q4), .second, .val (.long sz), .second, .val (.int fi), .val (.long up), .second, .val (.ref b2), .val (.int (1 : Int32)), .val (.long kk), .second] []
        refine own_st (fun _ k => XS.iconst X34.here hx rfl (hb hby at_167) k) ?_
        show own_Go X34 (Q0 Z q0 p1 p2 q3 q4 h0 n0) 1 3 168 #[.val (.long q0), .second, .val (.int p1), .val (.int p2), .val (.long q3), .second, .val (.long q4), .second, .val (.long sz), .second, .val (.int fi), .val (.long up), .second, .val (.ref b2), .val (.int (1 : Int32)), .val (.long kk), .second] [(.int (1 : Int32))]
        refine own_st (fun _ k => XS.goto X34.here hx rfl (pc0 := 168) (pc' := 172) rfl (hb hby at_168) (by decide) (by decide) k) ?_
        show own_Go X34 (Q0 Z q0 p1 p2 q3 q4 h0 n0) 1 3 172 #[.val (.long q0), .second, .val (.int p1), .val (.int p2), .val (.long q3), .second, .val (.long q4), .second, .val (.long sz), .second, .val (.int fi), .val (.long up), .second, .val (.ref b2), .val (.int (1 : Int32)), .val (.long kk), .second] [(.int (1 : Int32))]
        refine own_st (fun _ k => XS.istore X34.here hx rfl (hb hby at_172) rfl (l' := #[.val (.long q0), .second, .val (.int p1), .val (.int p2), .val (.long q3), .second, .val (.long q4), .second, .val (.long sz), .second, .val (.int fi), .val (.long up), .second, .val (.ref b2), .val (.int (1 : Int32)), .val (.long kk), .second]) rfl k) ?_
        show own_Go X34 (Q0 Z q0 p1 p2 q3 q4 h0 n0) 1 3 174 #[.val (.long q0), .second, .val (.int p1), .val (.int p2), .val (.long q3), .second, .val (.long q4), .second, .val (.long sz), .second, .val (.int fi), .val (.long up), .second, .val (.ref b2), .val (.int (1 : Int32)), .val (.long kk), .second] []
        refine own_st (fun _ k => XS.iload X34.here hx rfl (hb hby at_174) rfl k) ?_
        show own_Go X34 (Q0 Z q0 p1 p2 q3 q4 h0 n0) 1 3 176 #[.val (.long q0), .second, .val (.int p1), .val (.int p2), .val (.long q3), .second, .val (.long q4), .second, .val (.long sz), .second, .val (.int fi), .val (.long up), .second, .val (.ref b2), .val (.int (1 : Int32)), .val (.long kk), .second] [(.int (1 : Int32))]
        have c176_37 : ¬ ((1 : Int32) = (0 : Int32)) := (by decide)
        refine own_st (fun _ k => XS.ifNo X34.here hx rfl (hb hby at_176) rfl ((if0 _ _).trans (feq c176_37).1) k) ?_
        show own_Go X34 (Q0 Z q0 p1 p2 q3 q4 h0 n0) 1 3 179 #[.val (.long q0), .second, .val (.int p1), .val (.int p2), .val (.long q3), .second, .val (.long q4), .second, .val (.long sz), .second, .val (.int fi), .val (.long up), .second, .val (.ref b2), .val (.int (1 : Int32)), .val (.long kk), .second] []
        refine own_st (fun _ k => XS.aload X34.here hx rfl (hb hby at_179) rfl rfl k) ?_
        show own_Go X34 (Q0 Z q0 p1 p2 q3 q4 h0 n0) 1 3 181 #[.val (.long q0), .second, .val (.int p1), .val (.int p2), .val (.long q3), .second, .val (.long q4), .second, .val (.long sz), .second, .val (.int fi), .val (.long up), .second, .val (.ref b2), .val (.int (1 : Int32)), .val (.long kk), .second] [(.ref b2)]
        refine own_st (fun _ k => XS.lload X34.here hx rfl (hb hby at_181) rfl k) ?_
        show own_Go X34 (Q0 Z q0 p1 p2 q3 q4 h0 n0) 1 3 183 #[.val (.long q0), .second, .val (.int p1), .val (.int p2), .val (.long q3), .second, .val (.long q4), .second, .val (.long sz), .second, .val (.int fi), .val (.long up), .second, .val (.ref b2), .val (.int (1 : Int32)), .val (.long kk), .second] [(.long up), (.ref b2)]
        refine own_st (fun _ k => XS.lconst X34.here hx rfl (hb hby at_183) k) ?_
        show own_Go X34 (Q0 Z q0 p1 p2 q3 q4 h0 n0) 1 3 184 #[.val (.long q0), .second, .val (.int p1), .val (.int p2), .val (.long q3), .second, .val (.long q4), .second, .val (.long sz), .second, .val (.int fi), .val (.long up), .second, .val (.ref b2), .val (.int (1 : Int32)), .val (.long kk), .second] [(.long (1 : Int64)), (.long up), (.ref b2)]
        refine own_st (fun _ k => XS.lsub X34.here hx rfl (hb hby at_184) rfl k) ?_
        show own_Go X34 (Q0 Z q0 p1 p2 q3 q4 h0 n0) 1 3 185 #[.val (.long q0), .second, .val (.int p1), .val (.int p2), .val (.long q3), .second, .val (.long q4), .second, .val (.long sz), .second, .val (.int fi), .val (.long up), .second, .val (.ref b2), .val (.int (1 : Int32)), .val (.long kk), .second] [(.long (up - (1 : Int64))), (.ref b2)]
        refine own_callV (W := 0) X34 hx hZ hown (hw _ (List.mem_of_getElem? (i := 21) rfl)) (hw _ (List.mem_of_getElem? (i := 22) rfl)) (hw _ (List.mem_of_getElem? (i := 24) rfl)) (hw _ (List.mem_of_getElem? (i := 23) rfl)) (hw _ (List.mem_of_getElem? (i := 3) rfl)) (hw _ (List.mem_of_getElem? (i := 25) rfl)) (by decide) (rm4 l Z a0 hw [] b2 (up - (1 : Int64)) q0 up fi T5.heap n0 Z_8 F5_lower F5_upper F5_first) (by decide) (by decide) (by rw [hml]; rfl) b2 [(.long (up - (1 : Int64)))] [] (lenOf pd_0_1 rfl) rfl rfl (Nat.le_of_ble_eq_true rfl) (hb hby at_185) e34 f_7 (by decide) (by decide) ?_
        rintro _ T38 L38 X38 ⟨rfl, N38q, e38⟩
        have N_39 := Fr.app N_35 N38q
        show own_Go X38 (Q0 Z q0 p1 p2 q3 q4 h0 n0) 1 3 188 #[.val (.long q0), .second, .val (.int p1), .val (.int p2), .val (.long q3), .second, .val (.long q4), .second, .val (.long sz), .second, .val (.int fi), .val (.long up), .second, .val (.ref b2), .val (.int (1 : Int32)), .val (.long kk), .second] [(.int (own_am q0 up fi (up - (1 : Int64))))]
        refine own_st (fun _ k => XS.iload X38.here hx rfl (hb hby at_188) rfl k) ?_
        show own_Go X38 (Q0 Z q0 p1 p2 q3 q4 h0 n0) 1 3 190 #[.val (.long q0), .second, .val (.int p1), .val (.int p2), .val (.long q3), .second, .val (.long q4), .second, .val (.long sz), .second, .val (.int fi), .val (.long up), .second, .val (.ref b2), .val (.int (1 : Int32)), .val (.long kk), .second] [(.int fi), (.int (own_am q0 up fi (up - (1 : Int64))))]
        refine own_st (fun _ k => XS.lload X38.here hx rfl (hb hby at_190) rfl k) ?_
        show own_Go X38 (Q0 Z q0 p1 p2 q3 q4 h0 n0) 1 3 192 #[.val (.long q0), .second, .val (.int p1), .val (.int p2), .val (.long q3), .second, .val (.long q4), .second, .val (.long sz), .second, .val (.int fi), .val (.long up), .second, .val (.ref b2), .val (.int (1 : Int32)), .val (.long kk), .second] [(.long sz), (.int fi), (.int (own_am q0 up fi (up - (1 : Int64))))]
        refine own_st (fun _ k => XS.lconst X38.here hx rfl (hb hby at_192) k) ?_
        show own_Go X38 (Q0 Z q0 p1 p2 q3 q4 h0 n0) 1 3 193 #[.val (.long q0), .second, .val (.int p1), .val (.int p2), .val (.long q3), .second, .val (.long q4), .second, .val (.long sz), .second, .val (.int fi), .val (.long up), .second, .val (.ref b2), .val (.int (1 : Int32)), .val (.long kk), .second] [(.long (1 : Int64)), (.long sz), (.int fi), (.int (own_am q0 up fi (up - (1 : Int64))))]
        refine own_st (fun _ k => XS.lsub X38.here hx rfl (hb hby at_193) rfl k) ?_
        show own_Go X38 (Q0 Z q0 p1 p2 q3 q4 h0 n0) 1 3 194 #[.val (.long q0), .second, .val (.int p1), .val (.int p2), .val (.long q3), .second, .val (.long q4), .second, .val (.long sz), .second, .val (.int fi), .val (.long up), .second, .val (.ref b2), .val (.int (1 : Int32)), .val (.long kk), .second] [(.long (sz - (1 : Int64))), (.int fi), (.int (own_am q0 up fi (up - (1 : Int64))))]
        refine own_st (fun _ k => XS.l2i X38.here hx rfl (hb hby at_194) rfl k) ?_
        show own_Go X38 (Q0 Z q0 p1 p2 q3 q4 h0 n0) 1 3 195 #[.val (.long q0), .second, .val (.int p1), .val (.int p2), .val (.long q3), .second, .val (.long q4), .second, .val (.long sz), .second, .val (.int fi), .val (.long up), .second, .val (.ref b2), .val (.int (1 : Int32)), .val (.long kk), .second] [(.int ((sz - (1 : Int64)).toInt32)), (.int fi), (.int (own_am q0 up fi (up - (1 : Int64))))]
        refine own_st (fun _ k => XS.iadd X38.here hx rfl (hb hby at_195) rfl k) ?_
        show own_Go X38 (Q0 Z q0 p1 p2 q3 q4 h0 n0) 1 3 196 #[.val (.long q0), .second, .val (.int p1), .val (.int p2), .val (.long q3), .second, .val (.long q4), .second, .val (.long sz), .second, .val (.int fi), .val (.long up), .second, .val (.ref b2), .val (.int (1 : Int32)), .val (.long kk), .second] [(.int (fi + ((sz - (1 : Int64)).toInt32))), (.int (own_am q0 up fi (up - (1 : Int64))))]
        have c196_40 : (own_am q0 up fi (up - (1 : Int64))) = (fi + ((sz - (1 : Int64)).toInt32)) := own_last hup c25_1 (own_sz hsz).2 c130_32
        refine own_st (fun _ k => XS.icmpNo X38.here hx rfl (hb hby at_196) rfl (teq c196_40).2 k) ?_
        show own_Go X38 (Q0 Z q0 p1 p2 q3 q4 h0 n0) 1 3 199 #[.val (.long q0), .second, .val (.int p1), .val (.int p2), .val (.long q3), .second, .val (.long q4), .second, .val (.long sz), .second, .val (.int fi), .val (.long up), .second, .val (.ref b2), .val (.int (1 : Int32)), .val (.long kk), .second] []
        refine own_st (fun _ k => XS.iconst X38.here hx rfl (hb hby at_199) k) ?_
        show own_Go X38 (Q0 Z q0 p1 p2 q3 q4 h0 n0) 1 3 200 #[.val (.long q0), .second, .val (.int p1), .val (.int p2), .val (.long q3), .second, .val (.long q4), .second, .val (.long sz), .second, .val (.int fi), .val (.long up), .second, .val (.ref b2), .val (.int (1 : Int32)), .val (.long kk), .second] [(.int (1 : Int32))]
        refine own_st (fun _ k => XS.goto X38.here hx rfl (pc0 := 200) (pc' := 204) rfl (hb hby at_200) (by decide) (by decide) k) ?_
        show own_Go X38 (Q0 Z q0 p1 p2 q3 q4 h0 n0) 1 3 204 #[.val (.long q0), .second, .val (.int p1), .val (.int p2), .val (.long q3), .second, .val (.long q4), .second, .val (.long sz), .second, .val (.int fi), .val (.long up), .second, .val (.ref b2), .val (.int (1 : Int32)), .val (.long kk), .second] [(.int (1 : Int32))]
        refine own_st (fun _ k => XS.istore X38.here hx rfl (hb hby at_204) rfl (l' := #[.val (.long q0), .second, .val (.int p1), .val (.int p2), .val (.long q3), .second, .val (.long q4), .second, .val (.long sz), .second, .val (.int fi), .val (.long up), .second, .val (.ref b2), .val (.int (1 : Int32)), .val (.long kk), .second]) rfl k) ?_
        show own_Go X38 (Q0 Z q0 p1 p2 q3 q4 h0 n0) 1 3 206 #[.val (.long q0), .second, .val (.int p1), .val (.int p2), .val (.long q3), .second, .val (.long q4), .second, .val (.long sz), .second, .val (.int fi), .val (.long up), .second, .val (.ref b2), .val (.int (1 : Int32)), .val (.long kk), .second] []
        refine own_st (fun _ k => XS.iload X38.here hx rfl (hb hby at_206) rfl k) ?_
        show own_Go X38 (Q0 Z q0 p1 p2 q3 q4 h0 n0) 1 3 208 #[.val (.long q0), .second, .val (.int p1), .val (.int p2), .val (.long q3), .second, .val (.long q4), .second, .val (.long sz), .second, .val (.int fi), .val (.long up), .second, .val (.ref b2), .val (.int (1 : Int32)), .val (.long kk), .second] [(.int (1 : Int32))]
        refine own_retN X38 hx Bd.returns (by simp) hlk e38 (hb hby at_208) (by decide) (by decide) ?_
        exact ⟨rfl, N_39⟩
      · skip
        refine own_st (fun _ k => XS.ifYes X29.here hx rfl (pc0 := 130) (pc' := 206) rfl (hb hby at_130) rfl ((if0 _ _).trans (flt (fun q => c130_32 ((lw_gt _ _).mp q))).2.2.2) (by decide) (by decide) k) ?_
        show own_Go X29 (Q0 Z q0 p1 p2 q3 q4 h0 n0) 1 3 206 #[.val (.long q0), .second, .val (.int p1), .val (.int p2), .val (.long q3), .second, .val (.long q4), .second, .val (.long sz), .second, .val (.int fi), .val (.long up), .second, .val (.ref b2), .val (.int (1 : Int32)), .unset, .unset] []
        refine own_st (fun _ k => XS.iload X29.here hx rfl (hb hby at_206) rfl k) ?_
        show own_Go X29 (Q0 Z q0 p1 p2 q3 q4 h0 n0) 1 3 208 #[.val (.long q0), .second, .val (.int p1), .val (.int p2), .val (.long q3), .second, .val (.long q4), .second, .val (.long sz), .second, .val (.int fi), .val (.long up), .second, .val (.ref b2), .val (.int (1 : Int32)), .unset, .unset] [(.int (1 : Int32))]
        refine own_retN X29 hx Bd.returns (by simp) hlk e29 (hb hby at_208) (by decide) (by decide) ?_
        exact ⟨rfl, N_30⟩
set_option maxRecDepth 65536 in
set_option maxHeartbeats 40000000 in
theorem comes_1 {Post : Tables → Env → Array Value → State → Outcome → State → Prop} (hpost : ∀ tb e args s v u, (limb_1_1.after args s (.returned v) u = true ∧ limb_1_2.after args s (.returned v) u = true ∧ True) → FrameEnd s (.returned v) u (Jvm.fieldLocs frame_1_writes args s ++ Jvm.arrayLocs frame_1_arrays args s ++ Jvm.staticLocs frame_1_statics s) 16 128 → Post tb e args s (.returned v) u) :
    ArmFor flags0 classFile x code maxLocals ret World_1 tables_1 room_1 Calls_1 rest_1 Pre_1 Post := by
  intro l hfl _ _ p e ha hc hk s m args below hf hA hF happ hP
  obtain ⟨hcalls, hrest, hpre⟩ := hP
  obtain ⟨-, -, -, hnamed, -, -, -, hat⟩ := (Spec.applies_iff hf).mp happ
  obtain ⟨hg, hn⟩ := and_e (Cond.before_iff.mp (show (Jvm.Cond.and given_1 narrow_1).before args s = true from hpre))
  obtain ⟨g1, g2⟩ := and_e hg
  obtain ⟨g3, g4⟩ := and_e g2
  obtain ⟨g5, g6⟩ := and_e g4
  obtain ⟨g7, g8⟩ := and_e g6
  obtain ⟨g9, g10⟩ := and_e g8
  obtain ⟨w0, w1, w2, w3, w4, rfl⟩ : ∃ w0 w1 w2 w3 w4 : Value, args = #[w0, w1, w2, w3, w4] := by
    have hs : args.size = 5 := by simpa [Cond.value, given_1] using g1
    obtain ⟨L⟩ := args
    match L, hs with
    | [w0, w1, w2, w3, w4], _ => exact ⟨w0, w1, w2, w3, w4, rfl⟩
  have hw := fun d (hd : d ∈ tables_1) => atoms_spec (ws := Jvm.Cond.code x code maxLocals ret :: tables_1) hat d (List.mem_cons_of_mem _ hd)
  obtain ⟨i0, ei0⟩ := isL_v g3
  obtain rfl : w0 = (.long i0) := Option.some.inj ei0
  obtain ⟨i1, ei1⟩ := is_v g5
  obtain rfl : w1 = (.int i1) := Option.some.inj ei1
  obtain ⟨i2, ei2⟩ := is_v g7
  obtain rfl : w2 = (.int i2) := Option.some.inj ei2
  obtain ⟨i3, ei3⟩ := isL_v g9
  obtain rfl : w3 = (.long i3) := Option.some.inj ei3
  obtain ⟨i4, ei4⟩ := isL_v g10
  obtain rfl : w4 = (.long i4) := Option.some.inj ei4
  obtain ⟨n, o, h1, h2, h3, _, L, rfl, ⟨rfl, N⟩, hq⟩ := rm0 l s _ hw tables_1 i0 i1 i2 i3 i4 s.heap s.heap.size (Nat.le_refl _) p e ha hc hk s m _ below hf ((Spec.applies_iff_loose hf).mp happ).1 ⟨rfl, State.Warmed39.refl s, rfl⟩ trivial
  refine ⟨n, _, h1, h2, h3, hpost _ _ _ _ _ _ ⟨Cond.after_iff.mpr rfl, Cond.after_iff.mpr (eq_i res_at (Term.int_eval (1)) rfl), trivial⟩ ⟨hq.1, hq.2.1, (hq.2.2.sift fun y hy => Or.inr (N y hy)).mono (by decide) (by decide)⟩⟩
theorem main_1_1 : Claimed_1_1 := comes_1 fun _ _ _ _ _ _ h hF => ⟨h.1, hF⟩
theorem main_1_2 : Claimed_1_2 := comes_1 fun _ _ _ _ _ _ h hF => ⟨h.2.1, hF⟩
end Jvm.Pilot.@@N@@
namespace Jvm.Pilot.@@N@@
open Jvm Jvm.ClassFile Sem Op Lib Jvm.Free Jvm.Stand Jvm.Pilot.@@N@@.Jvm.D
/-! MADE BY PROGRAM (witnessworld.py) out of the Statement's table words and the real class files: 10 classes; the members and pool entries that the words name. The judged class is class 1, her method 1. -/
namespace start1
open Jvm.ClassFile
def u (s : String) : CpInfo := .utf8 (stringToUtf16 s)
/-- a pool by its gaps: so many unusable entries, then the entry; so many at the end -/
def gap : Nat → List CpInfo → List CpInfo
  | 0, r => r
  | n + 1, r => .unusable :: gap n r
def poolList (es : List (Nat × CpInfo)) (last : Nat) : List CpInfo := es.foldr (fun e r => gap e.1 (e.2 :: r)) (gap last [])
def pool (es : List (Nat × CpInfo)) (last : Nat) : Array CpInfo := ⟨poolList es last⟩
def fileOf (pool : Array CpInfo) (this : Nat) (attrs : Array Attribute := #[]) (ms : Array MethodInfo := #[]) (fl : Nat := 33) (sup : Nat := 0) (ifs : Array Nat := #[]) (fds : Array FieldInfo := #[]) : ClassFile where
  minorVersion := 0
  majorVersion := 65
  constantPool := pool
  accessFlags := fl
  thisClass := this
  superClass := sup
  interfaces := ifs
  fields := fds
  methods := ms
  attributes := attrs
def plain (name : String) (sup : Option ClassId) : Class where
  name := name
  kind := .ordinary
  loader := none
  accessFlags := 33
  super := sup
  interfaces := #[]
  cf := none
  fields := #[]
  methods := #[]
  instanceTypes := #[]
  staticTypes := #[]
  resolved := #[]
  callSites := []
  init := .initialized
  statics := none
  mirror := none

def pool0 : Array CpInfo := pool [(5, u "<init>"), (0, u "()V"), (1, .class_ 10), (1, u "java/lang/Object")] 113

def k0c0 : Code := { maxStack := 0, maxLocals := 1, code := object_method_1_code, exceptionTable := #[], attributes := #[] }
def k0m0 : Method := { name := "<init>", desc := "()V", sig := { parameters := [], returnType := none }, accessFlags := 1, code := some k0c0 }
/-- java/lang/Object -/
def k0 : Class := { plain "java/lang/Object" none with
  accessFlags := 33
  interfaces := #[]
  cf := some (fileOf pool0 8 #[] #[{ accessFlags := 1, nameIndex := 5, descriptorIndex := 6, attributes := #[] }] 33 0 #[] #[])
  fields := #[]
  methods := #[k0m0]
  instanceTypes := #[]
  staticTypes := #[]
  resolved := Array.replicate 124 none
  statics := none }

def pool1 : Array CpInfo := pool [(2, .class_ 4), (1, u "java/lang/Object"), (0, u "<init>"), (0, u "()V"), (0, .integer 1073741823), (0, .class_ 9), (0, u "com/example/gingham/gingham/encoding/OrderInteger"), (0, .methodref 8 11), (0, .nameAndType 5 12), (0, u "(JJI)V"), (0, .methodref 8 14), (0, .nameAndType 15 16), (0, u "atMost"), (0, u "(J)I"), (0, .methodref 18 19), (0, .class_ 20), (0, .nameAndType 21 22), (0, u "com/example/gingham/gingham/encoding/OrderIntegerAtMostPinLaw"), (0, u "expected"), (0, u "(JJIJ)I"), (2, .integer 2147483648), (2, .long 9223372036854775808), (1, .long 9223372036854775807), (3, u "law"), (0, u "(JIIJJ)Z")] 3

def k1m0 : Method := { name := "<init>", desc := "()V", sig := { parameters := [], returnType := none }, accessFlags := 1, code := none }
def k1c1 : Code := { maxStack := 8, maxLocals := 17, code := code, exceptionTable := #[], attributes := #[] }
def k1m1 : Method := { name := "law", desc := "(JIIJJ)Z", sig := { parameters := [.long, .int, .int, .long, .long], returnType := some .boolean }, accessFlags := 9, code := some k1c1 }
def k1c2 : Code := { maxStack := 5, maxLocals := 7, code := method_3_code, exceptionTable := #[], attributes := #[] }
def k1m2 : Method := { name := "expected", desc := "(JJIJ)I", sig := { parameters := [.long, .long, .int, .long], returnType := some .int }, accessFlags := 10, code := some k1c2 }
/-- com/example/gingham/gingham/encoding/OrderIntegerAtMostPinLaw -/
def k1 : Class := { plain "com/example/gingham/gingham/encoding/OrderIntegerAtMostPinLaw" (some 0) with
  accessFlags := 49
  interfaces := #[]
  cf := some (fileOf pool1 18 #[] #[{ accessFlags := 1, nameIndex := 5, descriptorIndex := 6, attributes := #[] }, { accessFlags := 9, nameIndex := 34, descriptorIndex := 35, attributes := #[] }, { accessFlags := 10, nameIndex := 21, descriptorIndex := 22, attributes := #[] }] 49 2 #[] #[])
  fields := #[]
  methods := #[k1m0, k1m1, k1m2]
  instanceTypes := #[]
  staticTypes := #[]
  resolved := Array.replicate 39 none
  statics := none }

def pool2 : Array CpInfo := pool [(1, .methodref 2 3), (0, .class_ 4), (0, .nameAndType 5 6), (0, u "java/lang/Object"), (0, u "<init>"), (0, u "()V"), (0, .class_ 8), (0, u "java/lang/Record")] 13

def k2c0 : Code := { maxStack := 1, maxLocals := 1, code := jdk_30_method_1_code, exceptionTable := #[], attributes := #[] }
def k2m0 : Method := { name := "<init>", desc := "()V", sig := { parameters := [], returnType := none }, accessFlags := 4, code := some k2c0 }
/-- java/lang/Record -/
def k2 : Class := { plain "java/lang/Record" (some 0) with
  accessFlags := 1057
  interfaces := #[]
  cf := some (fileOf pool2 7 #[] #[{ accessFlags := 4, nameIndex := 5, descriptorIndex := 6, attributes := #[] }] 1057 2 #[] #[])
  fields := #[]
  methods := #[k2m0]
  instanceTypes := #[]
  staticTypes := #[]
  resolved := Array.replicate 22 none
  statics := none }

def pool3 : Array CpInfo := pool [(1, .methodref 2 3), (0, .class_ 4), (0, .nameAndType 5 6), (0, u "java/lang/Record"), (0, u "<init>"), (0, u "()V"), (0, .fieldref 8 9), (0, .class_ 10), (0, .nameAndType 11 12), (0, u "com/example/gingham/gingham/encoding/OrderInteger"), (0, u "lower"), (0, u "J"), (0, .fieldref 8 14), (0, .nameAndType 15 12), (0, u "upper"), (0, .fieldref 8 17), (0, .nameAndType 18 19), (0, u "first"), (0, u "I"), (2, .integer 2147483648), (2, u "atMost"), (0, u "(J)I"), (18, u "(JJI)V")] 33

def k3c0 : Code := { maxStack := 3, maxLocals := 6, code := prog_77_method_1_code, exceptionTable := #[], attributes := #[] }
def k3m0 : Method := { name := "<init>", desc := "(JJI)V", sig := { parameters := [.long, .long, .int], returnType := none }, accessFlags := 0, code := some k3c0 }
def k3c1 : Code := { maxStack := 5, maxLocals := 3, code := prog_77_method_3_code, exceptionTable := #[], attributes := #[] }
def k3m1 : Method := { name := "atMost", desc := "(J)I", sig := { parameters := [.long], returnType := some .int }, accessFlags := 0, code := some k3c1 }
/-- com/example/gingham/gingham/encoding/OrderInteger -/
def k3 : Class := { plain "com/example/gingham/gingham/encoding/OrderInteger" (some 2) with
  accessFlags := 48
  interfaces := #[]
  cf := some (fileOf pool3 8 #[] #[{ accessFlags := 0, nameIndex := 5, descriptorIndex := 45, attributes := #[] }, { accessFlags := 0, nameIndex := 25, descriptorIndex := 26, attributes := #[] }] 48 2 #[] #[{ accessFlags := 18, nameIndex := 11, descriptorIndex := 12, attributes := #[] }, { accessFlags := 18, nameIndex := 15, descriptorIndex := 12, attributes := #[] }, { accessFlags := 18, nameIndex := 18, descriptorIndex := 19, attributes := #[] }])
  fields := #[{ name := "lower", type := .long, accessFlags := 18, slot := 0, constantValue := 0 }, { name := "upper", type := .long, accessFlags := 18, slot := 1, constantValue := 0 }, { name := "first", type := .int, accessFlags := 18, slot := 2, constantValue := 0 }]
  methods := #[k3m0, k3m1]
  instanceTypes := #[.long, .long, .int]
  staticTypes := #[]
  resolved := Array.replicate 79 none
  statics := none }

def pool4 : Array CpInfo := pool [(1, u "java/lang/Cloneable"), (0, .class_ 1), (0, u "java/lang/Object"), (0, .class_ 3)] 3

/-- java/lang/Cloneable -/
def k4 : Class := { plain "java/lang/Cloneable" (some 0) with
  accessFlags := 1537
  interfaces := #[]
  cf := some (fileOf pool4 2 #[] #[] 1537 4 #[] #[])
  fields := #[]
  methods := #[]
  instanceTypes := #[]
  staticTypes := #[]
  resolved := Array.replicate 8 none
  statics := none }

def pool5 : Array CpInfo := pool [(1, u "java/io/Serializable"), (0, .class_ 1), (0, u "java/lang/Object"), (0, .class_ 3)] 3

/-- java/io/Serializable -/
def k5 : Class := { plain "java/io/Serializable" (some 0) with
  accessFlags := 1537
  interfaces := #[]
  cf := some (fileOf pool5 2 #[] #[] 1537 4 #[] #[])
  fields := #[]
  methods := #[]
  instanceTypes := #[]
  staticTypes := #[]
  resolved := Array.replicate 8 none
  statics := none }

/-- the primitive byte -/
def k6 : Class := { plain "byte" none with kind := .primitive 'B', accessFlags := 0x411 }
/-- [B -/
def k7 : Class := { plain "[B" (some 0) with kind := .array 6 .byte, interfaces := #[4, 5], accessFlags := 1041 }

/-- the primitive int -/
def k8 : Class := { plain "int" none with kind := .primitive 'I', accessFlags := 0x411 }
/-- [I -/
def k9 : Class := { plain "[I" (some 0) with kind := .array 8 .int, interfaces := #[4, 5], accessFlags := 1041 }

def heap : Heap := #[]
def classes : Array Class := #[k0, k1, k2, k3, k4, k5, k6, k7, k8, k9]
def interned : List (Array UInt16 × Addr) := []
def slotsUsed : Nat := 0
def theMethod : MethodId := ⟨1, 1⟩
def args0 : Array Value := #[.long 5, .int 7, .int 9, .long 11, .long 13]
def aboutOver (below : List Frame) : State where
  vm := { classes := classes, interned := interned.toArray }
  heap := heap
  slotsUsed := slotsUsed
  threads := #[{ frames := .invoking theMethod args0 :: below }]
def below0 : List Frame := [.native { method := ⟨0, 0⟩, args := #[] }]
def about1 : State := aboutOver below0
def p0 : Program := .bare "" "" ""
def e0 : Env := launch0.env 0 0 0
theorem w_frames : about1.frames = Frame.invoking theMethod args0 :: below0 := rfl
set_option maxRecDepth 65536 in
theorem w_args : argsFit about1.vm theMethod args0 = true := by decide +kernel
set_option maxRecDepth 65536 in
theorem w_heap : heapFits about1 = true := by decide +kernel
set_option maxRecDepth 65536 in
theorem w_runnable : about1.curStatus? = some .runnable := by decide +kernel
set_option maxRecDepth 65536 in
theorem w_alone : about1.alone = true := by decide +kernel
set_option maxRecDepth 65536 in
theorem w_named : about1.methodNamed? x = some theMethod := by decide +kernel
set_option maxRecDepth 65536 in
theorem w_hears : about1.hears theMethod below0 = true := by decide +kernel
set_option maxRecDepth 65536 in
theorem w_ripe : about1.ripe theMethod args0 below0 = true := by decide +kernel
theorem w_running : about1.status = .running := rfl
set_option maxRecDepth 65536 in
theorem w_room : about1.hasRoom e0.platform room_1 = true :=
  launch0.hasRoom_least _ room_1 (by decide +kernel) (by decide +kernel) (by decide +kernel) (by decide +kernel) (by decide +kernel) (by decide +kernel)
theorem allAtoms_all (ts : List Jvm.Cond) (a : Array Jvm.Value) (st : Jvm.State) : (allAtoms ts).before a st = ts.all (fun c => c.before a st) := by
  induction ts with
  | nil => rfl
  | cons c t ih =>
    show (Jvm.Cond.and c (allAtoms t)).before a st = _
    rw [Jvm.Cond.before_and, ih, List.all_cons]
def words1 : List Jvm.Cond := Jvm.Cond.code x code maxLocals ret :: tables_1
/-- a 'code' word, met by the world's own term for the bytes: nothing is compared byte by byte -/
theorem code_word {y : MethodName} {bytes : ByteArray} {mx : Nat} {rt : Option FieldType} {a : Array Value} {s : State} {m : MethodId} {meth : Method} {c : Code} (h1 : s.methodNamed? y = some m) (h2 : s.vm.method? m = some meth) (h3 : meth.code = some c) (h4 : c.code = bytes)
    (h5 : (c.maxLocals == mx && c.exceptionTable.isEmpty && decide (c.maxStack ≤ mostOperands) && decide (meth.sig.returnType = rt) && !meth.locks && decide (parseMethodDescriptor y.desc = some meth.sig)) = true) : (Jvm.Cond.code y bytes mx rt).before a s = true := by
  simp only [Bool.and_eq_true, beq_iff_eq, Bool.not_eq_true', decide_eq_true_eq] at h5
  obtain ⟨⟨⟨⟨⟨g1, g2⟩, g3⟩, g4⟩, g5⟩, g6⟩ := h5
  simp [Cond.before, Cond.holds, Cond.value, h1, h2, h3, h4, g1, g2, g3, g4, g5, g6]
def isCode : Jvm.Cond → Bool
  | .code _ _ _ _ => true
  | _ => false
theorem all_split {L : List Jvm.Cond} {P : Jvm.Cond → Bool} (h1 : L.all (fun c => isCode c || P c) = true) (h2 : ∀ c ∈ L.filter isCode, P c = true) : L.all P = true := by
  refine List.all_eq_true.mpr fun c hc => ?_
  have h := List.all_eq_true.mp h1 c hc
  rcases Bool.eq_false_or_eq_true (isCode c) with hi | hi
  · exact h2 c (List.mem_filter.mpr ⟨hc, hi⟩)
  · simpa [hi] using h
set_option maxRecDepth 65536 in
theorem w_c0 : (Jvm.Cond.code x code maxLocals ret).before args0 about1 = true := code_word (m := ⟨1, 1⟩) (meth := k1m1) (c := k1c1) (by decide +kernel) rfl rfl rfl (by decide +kernel)
set_option maxRecDepth 65536 in
theorem w_c1 : (Jvm.Cond.code ({ cls := "com/example/gingham/gingham/encoding/OrderInteger", name := "<init>", desc := "(JJI)V" } : Jvm.MethodName) prog_77_method_1_code (6 : Nat) (Option.none : Option Jvm.ClassFile.FieldType)).before args0 about1 = true := code_word (m := ⟨3, 0⟩) (meth := k3m0) (c := k3c0) (by decide +kernel) rfl rfl rfl (by decide +kernel)
set_option maxRecDepth 65536 in
theorem w_c2 : (Jvm.Cond.code ({ cls := "java/lang/Record", name := "<init>", desc := "()V" } : Jvm.MethodName) jdk_30_method_1_code (1 : Nat) (Option.none : Option Jvm.ClassFile.FieldType)).before args0 about1 = true := code_word (m := ⟨2, 0⟩) (meth := k2m0) (c := k2c0) (by decide +kernel) rfl rfl rfl (by decide +kernel)
set_option maxRecDepth 65536 in
theorem w_c3 : (Jvm.Cond.code ({ cls := "java/lang/Object", name := "<init>", desc := "()V" } : Jvm.MethodName) object_method_1_code (1 : Nat) (Option.none : Option Jvm.ClassFile.FieldType)).before args0 about1 = true := code_word (m := ⟨0, 0⟩) (meth := k0m0) (c := k0c0) (by decide +kernel) rfl rfl rfl (by decide +kernel)
set_option maxRecDepth 65536 in
theorem w_c4 : (Jvm.Cond.code ({ cls := "com/example/gingham/gingham/encoding/OrderInteger", name := "atMost", desc := "(J)I" } : Jvm.MethodName) prog_77_method_3_code (3 : Nat) (Option.some Jvm.ClassFile.FieldType.int)).before args0 about1 = true := code_word (m := ⟨3, 1⟩) (meth := k3m1) (c := k3c1) (by decide +kernel) rfl rfl rfl (by decide +kernel)
set_option maxRecDepth 65536 in
theorem w_c5 : (Jvm.Cond.code ({ cls := "com/example/gingham/gingham/encoding/OrderIntegerAtMostPinLaw", name := "expected", desc := "(JJIJ)I" } : Jvm.MethodName) method_3_code (7 : Nat) (Option.some Jvm.ClassFile.FieldType.int)).before args0 about1 = true := code_word (m := ⟨1, 2⟩) (meth := k1m2) (c := k1c2) (by decide +kernel) rfl rfl rfl (by decide +kernel)
def codes1 : List Jvm.Cond := [Jvm.Cond.code x code maxLocals ret, Jvm.Cond.code ({ cls := "com/example/gingham/gingham/encoding/OrderInteger", name := "<init>", desc := "(JJI)V" } : Jvm.MethodName) prog_77_method_1_code (6 : Nat) (Option.none : Option Jvm.ClassFile.FieldType), Jvm.Cond.code ({ cls := "java/lang/Record", name := "<init>", desc := "()V" } : Jvm.MethodName) jdk_30_method_1_code (1 : Nat) (Option.none : Option Jvm.ClassFile.FieldType), Jvm.Cond.code ({ cls := "java/lang/Object", name := "<init>", desc := "()V" } : Jvm.MethodName) object_method_1_code (1 : Nat) (Option.none : Option Jvm.ClassFile.FieldType), Jvm.Cond.code ({ cls := "com/example/gingham/gingham/encoding/OrderInteger", name := "atMost", desc := "(J)I" } : Jvm.MethodName) prog_77_method_3_code (3 : Nat) (Option.some Jvm.ClassFile.FieldType.int), Jvm.Cond.code ({ cls := "com/example/gingham/gingham/encoding/OrderIntegerAtMostPinLaw", name := "expected", desc := "(JJIJ)I" } : Jvm.MethodName) method_3_code (7 : Nat) (Option.some Jvm.ClassFile.FieldType.int)]
set_option maxRecDepth 65536 in
theorem codes_eq : words1.filter isCode = codes1 := rfl
theorem w_codes : ∀ c ∈ words1.filter isCode, c.before args0 about1 = true := by
  rw [codes_eq]
  intro c hc
  simp only [codes1, List.mem_cons, List.not_mem_nil, or_false] at hc
  rcases hc with rfl | rfl | rfl | rfl | rfl | rfl
  · exact w_c0
  · exact w_c1
  · exact w_c2
  · exact w_c3
  · exact w_c4
  · exact w_c5
set_option maxRecDepth 65536 in
theorem w_t1 : (words1.take 24).all (fun c => isCode c || c.before args0 about1) = true := by decide +kernel
set_option maxRecDepth 65536 in
theorem w_t2 : (words1.drop 24).all (fun c => isCode c || c.before args0 about1) = true := by decide +kernel
theorem w_tables : (allAtoms (Jvm.Cond.code x code maxLocals ret :: tables_1)).before args0 about1 = true := by
  rw [allAtoms_all]
  show words1.all (fun c => c.before args0 about1) = true
  refine all_split ?_ w_codes
  rw [← List.take_append_drop 24 words1, List.all_append, w_t1, w_t2]
  rfl
set_option maxRecDepth 65536 in
theorem w_case : (Jvm.Cond.and given_1 narrow_1).before args0 about1 = true := by decide +kernel
theorem w_applies : (headSpec (Jvm.Cond.code x code maxLocals ret :: tables_1) room_1).applies x e0.platform about1 = true :=
  (Spec.applies_iff w_frames).mpr ⟨w_running, w_runnable, w_alone, w_named, w_hears, w_ripe, w_room, w_tables⟩
theorem atStart : AtStart classFile x code maxLocals ret World_1 tables_1 room_1 Calls_1 rest_1 Pre_1 launch0 p0 e0 about1 theMethod args0 below0 :=
  ⟨lists_1, trivial, launch0.admits_env _ _ _, launch0.least_env, fairChoices_fair.cas, fairChoices_fair.clock, w_frames, w_args, w_heap, w_applies, trivial, trivial, w_case⟩
end start1
theorem witness_1 : WitnessClaimed_1 := ⟨start1.p0, start1.e0, start1.about1, start1.theMethod, start1.args0, start1.below0, start1.atStart⟩
end Jvm.Pilot.@@N@@
