import JvmDerived
import JvmDerived.Pilot.@@N@@Statement
import JvmDerived.Pilot.@@N@@Code
set_option linter.unusedVariables false
set_option linter.unusedSimpArgs false
namespace Jvm.Pilot.@@N@@
open Jvm Jvm.ClassFile Sem Op Lib Jvm.Free Jvm.Stand Jvm.LawKit Jvm.RoadKit Bundle Jvm.Pilot.@@N@@.Jvm.D
abbrev oU : Slot := .unset
abbrev oS : Slot := .second
abbrev oN : Slot := .val .null
abbrev oI (x : Int32) : Slot := .val (.int x)
abbrev oJ (x : Int64) : Slot := .val (.long x)
abbrev oR (a : Addr) : Slot := .val (.ref a)
section Own
variable {p : Program} {l : Launch} {e : Env} {R : Room} {s : State} {m : MethodId} {args : Array Value} {below : List Frame} {meth : Method} {c : Code} {T : State} {locs : List Loc} {cells slots : Nat} {Q : Option Value → Heap → List Loc → Prop} {kc ks : Nat} {Z : State} {a0 : Array Value} {h : Heap}
/-- from the state st the body comes to its end, and Q holds there -/
def own_Fin (p : Program) (e : Env) (below : List Frame) (s : State) (Q : Option Value → Heap → List Loc → Prop) (kc ks : Nat) (st : State) : Prop :=
  ∃ s₂ o, Steps p.tables e below st s₂ ∧ s₂.status = .running ∧ Ended s₂ below o ∧ ∃ v L, o = .returned v ∧ Q v s₂.heap L ∧ FrameEnd s o s₂ L kc ks
abbrev own_Go (X : Stand p l e R s m args below meth c T locs cells slots) (Q : Option Value → Heap → List Loc → Prop) (kc ks : Nat) (pc : Nat) (Ls : Array Slot) (S : List Value) : Prop := own_Fin p e below s Q kc ks (T.setTop (mkF m pc Ls S))
theorem own_st {a b : State} (hst : ∀ t, Steps p.tables e below b t → Steps p.tables e below a t) (k : own_Fin p e below s Q kc ks b) : own_Fin p e below s Q kc ks a := by
  obtain ⟨s₂, o, h1, r⟩ := k
  exact ⟨s₂, o, hst _ h1, r⟩
theorem own_cast {g g' : JFrame} (q : g = g') (k : own_Fin p e below s Q kc ks (T.setTop g')) : own_Fin p e below s Q kc ks (T.setTop g) := q ▸ k
theorem own_end (X : Stand p l e R s m args below meth c T locs cells slots) {v : Option Value} {a : State} (hv : meth.sig.returnType = none → v = none) (hlocks : meth.locks = false) (eT : T.heap = h)
    (hs : ∀ fs, (∀ (f : JFrame) (acts : List Action), f.method = m → f.locked = none → f.entered = [] → (doReturn e (T.setTop f) acts v).1 = T.setFrames fs) → Steps p.tables e below a (T.setFrames fs))
    (hc : cells ≤ kc) (hl : slots ≤ ks) (hq : Q v h locs) : own_Fin p e below s Q kc ks a := by
  obtain ⟨fs, hr, hrun, hended, hW, hsame⟩ := X.leave hv hlocks
  exact ⟨_, _, hs fs hr, hrun, hended, _, _, rfl, by show Q v T.heap locs; rw [eT]; exact hq, ⟨_, rfl⟩, hW, hsame.mono hc hl⟩
theorem own_retV (X : Stand p l e R s m args below meth c T locs cells slots) (hx : p.tables.exec = Jvm.exec) (hret : meth.sig.returnType = none) (hlocks : meth.locks = false) (eT : T.heap = h) {pc : Nat} {Ls : Array Slot} (hd : decode c.code pc = .ok (.return_, 1)) (hc : cells ≤ kc) (hl : slots ≤ ks) (hq : Q none h locs) :
    own_Fin p e below s Q kc ks (T.setTop (mkF m pc Ls [])) := own_end X (fun _ => rfl) hlocks eT (fun _ hr => X.returnOut hx hret hd hr) hc hl hq
theorem own_retN (X : Stand p l e R s m args below meth c T locs cells slots) (hx : p.tables.exec = Jvm.exec) {t : FieldType} (hret : meth.sig.returnType = some t) (ht : t = .boolean ∨ t = .byte ∨ t = .char ∨ t = .short) (hlocks : meth.locks = false) (eT : T.heap = h) {pc : Nat} {Ls : Array Slot} {z : Int32} {rest : List Value} (hd : decode c.code pc = .ok (.ireturn, 1)) (hc : cells ≤ kc) (hl : slots ≤ ks) (hq : Q (some (.int (nar t z))) h locs) :
    own_Fin p e below s Q kc ks (T.setTop (mkF m pc Ls (.int z :: rest))) := own_end X (fun h => by rw [hret] at h; cases h) hlocks eT (fun _ hr => retN X hx hret ht hd hr) hc hl hq
theorem own_retI (X : Stand p l e R s m args below meth c T locs cells slots) (hx : p.tables.exec = Jvm.exec) (hret : meth.sig.returnType = some .int) (hlocks : meth.locks = false) (eT : T.heap = h) {pc : Nat} {Ls : Array Slot} {z : Int32} {rest : List Value} (hd : decode c.code pc = .ok (.ireturn, 1)) (hc : cells ≤ kc) (hl : slots ≤ ks) (hq : Q (some (.int z)) h locs) :
    own_Fin p e below s Q kc ks (T.setTop (mkF m pc Ls (.int z :: rest))) := own_end X (fun h => by rw [hret] at h; cases h) hlocks eT (fun _ hr => retOut X hx hret rfl (Or.inl ⟨rfl, Or.inl rfl, _, rfl⟩) hd hr) hc hl hq
theorem own_retJ (X : Stand p l e R s m args below meth c T locs cells slots) (hx : p.tables.exec = Jvm.exec) (hret : meth.sig.returnType = some .long) (hlocks : meth.locks = false) (eT : T.heap = h) {pc : Nat} {Ls : Array Slot} {z : Int64} {rest : List Value} (hd : decode c.code pc = .ok (.lreturn, 1)) (hc : cells ≤ kc) (hl : slots ≤ ks) (hq : Q (some (.long z)) h locs) :
    own_Fin p e below s Q kc ks (T.setTop (mkF m pc Ls (.long z :: rest))) := own_end X (fun h => by rw [hret] at h; cases h) hlocks eT (fun _ hr => retOut X hx hret rfl (Or.inr (Or.inl ⟨rfl, rfl, _, rfl⟩)) hd hr) hc hl hq
theorem own_retA (X : Stand p l e R s m args below meth c T locs cells slots) (hx : p.tables.exec = Jvm.exec) {t : FieldType} (hret : meth.sig.returnType = some t) (ht : t.isReference = true) (hlocks : meth.locks = false) (eT : T.heap = h) {pc : Nat} {Ls : Array Slot} {a : Addr} {rest : List Value} (hd : decode c.code pc = .ok (.areturn, 1)) (hc : cells ≤ kc) (hl : slots ≤ ks) (hq : Q (some (.ref a)) h locs) :
    own_Fin p e below s Q kc ks (T.setTop (mkF m pc Ls (.ref a :: rest))) := own_end X (fun h => by rw [hret] at h; cases h) hlocks eT (fun _ hr => retOut X hx hret (by cases t <;> first | rfl | cases ht) (Or.inr (Or.inr (Or.inr (Or.inr ⟨rfl, ht, rfl⟩)))) hd hr) hc hl hq
theorem own_nar1 : nar .boolean 1 = 1 := by decide
theorem own_nar0 : nar .boolean 0 = 0 := by decide
theorem own_lrem {g : JFrame} {target : State} (X : Stand p l e R s m args below meth c T locs cells slots) (hx : p.tables.exec = Jvm.exec) (hg : g.method = m) {x y : Int64} {rest : List Value} (hd : decode c.code g.pc = .ok (.lrem, 1)) (hs : g.stack = .long y :: .long x :: rest) (hy : y ≠ 0)
    (hr : Steps p.tables e below (T.setTop { g with pc := g.pc + 1, stack := .long (x % y) :: rest }) target) : Steps p.tables e below (T.setTop g) target := by
  have q : x - x / y * y = x % y := lrem_mod x y
  exact XS.lrem X.here hx hg hd hs hy (by rw [q]; exact hr)
/-! the calls -/
variable {y z : MethodName} {bytes : ByteArray} {maxL : Nat} {ret : Option FieldType} {rm : Room} {W : Nat} {as' : Array Value} {Qc : Option Value → Heap → List Loc → Prop} {own C : String} {index : Nat}
theorem own_callS (X : Stand p l e R s m args below meth c T locs cells slots) (hx : p.tables.exec = Jvm.exec) (hZ : Z.Warmed39 s.vm) (hown : s.vm.findClass own = some m.cls)
    (wl : (Cond.methodLink own index y).before a0 Z = true) (ws : (Cond.static y).before a0 Z = true) (wz : (Cond.initialized y.cls).before a0 Z = true) (wc : (Cond.code y bytes maxL ret).before a0 Z = true)
    (hy : y.cls ≠ "java/lang/invoke/MethodHandle" ∧ y.cls ≠ "java/lang/invoke/VarHandle")
    (hM : MetFree l y (head1 [Cond.code y bytes maxL ret] rm) (fun a U => a = as' ∧ Z.Warmed39 U.vm ∧ U.heap = h) (fun _ _ _ _ _ => True) (fun _ U o U' => ∃ v L, o = .returned v ∧ Qc v U'.heap L ∧ FrameEnd U o U' L rm.cells rm.slots))
    (hf : rm.frames + 1 ≤ R.frames) (hl : W + (maxL + 11) + rm.locals ≤ R.locals) {pc : Nat} {Ls : Array Slot} {S : List Value} (hsize : Ls.size = c.maxLocals) (argsL rest : List Value)
    (hlen : ∀ sig, parseMethodDescriptor y.desc = some sig → argsL.length = sig.parameters.length) (hS : S = argsL.reverse ++ rest) (ha : argsL.toArray = as') (hW : (rest.map fun v => v.category).sum ≤ W)
    (hd : decode c.code pc = .ok (.invokestatic index, 3)) (eT : T.heap = h) (hcl : cells + rm.cells ≤ R.cells) (hsl : slots + rm.slots ≤ R.slots)
    (k : ∀ (v : Option Value) (T' : State) (L' : List Loc) (X' : Stand p l e R s m args below meth c T' (locs ++ L') (cells + rm.cells) (slots + rm.slots)), Qc v T'.heap L' → own_Fin p e below s Q kc ks (T'.setTop (mkF m (pc + 3) Ls (v.toList ++ rest)))) :
    own_Fin p e below s Q kc ks (T.setTop (mkF m pc Ls S)) := by
  subst hS
  obtain ⟨v, _, ⟨T', L1, k1, n1⟩, -, X', ⟨L', hQ, l1, y1, z1⟩, st⟩ := Jvm.LawKit.callS X hx (y := y) hown (mvT hZ wl) (mvT hZ ws) (mvT hZ wz) (mvT hZ wc) hy (backOf (W := W) hM hZ wc wz hf hl) (g := mkF m pc Ls (argsL.reverse ++ rest)) rfl hsize (argsL := argsL) (rest := rest) hlen rfl (by show 2 * 0 + _ ≤ _; omega) hd (fun _ _ => ⟨ha, eT, hcl, hsl⟩)
  dsimp only [Pt.U, Pt.locs, Pt.cells, Pt.slots] at X' l1 y1 z1 st hQ
  subst l1 y1 z1
  exact own_st (fun t => st t) (k v T' L' X' hQ)
theorem own_callI (X : Stand p l e R s m args below meth c T locs cells slots) (hx : p.tables.exec = Jvm.exec) (hZ : Z.Warmed39 s.vm) (hown : s.vm.findClass own = some m.cls)
    (wl : (Cond.methodLink own index y).before a0 Z = true) (ws : (Cond.instanceMethod y).before a0 Z = true) (wz : (Cond.initialized y.cls).before a0 Z = true) (wc : (Cond.code y bytes maxL none).before a0 Z = true)
    (hn : y.name = "<init>") (hy : y.cls ≠ "java/lang/invoke/MethodHandle" ∧ y.cls ≠ "java/lang/invoke/VarHandle")
    (hM : MetFree l y (head1 [Cond.code y bytes maxL none] rm) (fun a U => a = as' ∧ Z.Warmed39 U.vm ∧ U.heap = h) (fun _ _ _ _ _ => True) (fun _ U o U' => ∃ v L, o = .returned v ∧ Qc v U'.heap L ∧ FrameEnd U o U' L rm.cells rm.slots))
    (hf : rm.frames + 1 ≤ R.frames) (hl : W + (maxL + 11) + rm.locals ≤ R.locals) {pc : Nat} {Ls : Array Slot} {S : List Value} (hsize : Ls.size = c.maxLocals) (a : Addr) (argsL rest : List Value)
    (hlen : ∀ sig, parseMethodDescriptor y.desc = some sig → argsL.length = sig.parameters.length) (hS : S = argsL.reverse ++ .ref a :: rest) (ha : (Value.ref a :: argsL).toArray = as') (hW : (rest.map fun v => v.category).sum ≤ W)
    (hd : decode c.code pc = .ok (.invokespecial index, 3)) (eT : T.heap = h) (hcl : cells + rm.cells ≤ R.cells) (hsl : slots + rm.slots ≤ R.slots)
    (k : ∀ (v : Option Value) (T' : State) (L' : List Loc) (X' : Stand p l e R s m args below meth c T' (locs ++ L') (cells + rm.cells) (slots + rm.slots)), Qc v T'.heap L' → own_Fin p e below s Q kc ks (T'.setTop (mkF m (pc + 3) Ls (v.toList ++ rest)))) :
    own_Fin p e below s Q kc ks (T.setTop (mkF m pc Ls S)) := by
  subst hS
  obtain ⟨v, _, ⟨T', L1, k1, n1⟩, -, X', ⟨L', hQ, l1, y1, z1⟩, st⟩ := X.specialBack hx (y := y) hn hown (mvT hZ wl) (mvT hZ ws) (mvT hZ wc) hy (backOf (W := W) hM hZ wc wz hf hl) (g := mkF m pc Ls (argsL.reverse ++ .ref a :: rest)) rfl hsize (Steps.refl _) (a := a) (argsL := argsL) (rest := rest) hlen rfl (by show 2 * 0 + _ ≤ _; omega) hd (fun _ _ => ⟨ha, eT, hcl, hsl⟩)
  dsimp only [Pt.U, Pt.locs, Pt.cells, Pt.slots] at X' l1 y1 z1 st hQ
  subst l1 y1 z1
  exact own_st (fun t => st.trans) (k v T' L' X' hQ)
theorem own_callV (X : Stand p l e R s m args below meth c T locs cells slots) (hx : p.tables.exec = Jvm.exec) (hZ : Z.Warmed39 s.vm) (hown : s.vm.findClass own = some m.cls)
    (wl : (Cond.methodLink own index y).before a0 Z = true) (wd : (Cond.declares y).before a0 Z = true) (wsel : (Cond.selects C y y).before a0 Z = true) (ws : (Cond.instanceMethod y).before a0 Z = true) (wz : (Cond.initialized y.cls).before a0 Z = true) (wc : (Cond.code y bytes maxL ret).before a0 Z = true)
    (hy : y.cls ≠ "java/lang/invoke/MethodHandle" ∧ y.cls ≠ "java/lang/invoke/VarHandle")
    (hM : MetFree l y (head1 [Cond.code y bytes maxL ret] rm) (fun a U => a = as' ∧ Z.Warmed39 U.vm ∧ U.heap = h) (fun _ _ _ _ _ => True) (fun _ U o U' => ∃ v L, o = .returned v ∧ Qc v U'.heap L ∧ FrameEnd U o U' L rm.cells rm.slots))
    (hf : rm.frames + 1 ≤ R.frames) (hl : W + (maxL + 11) + rm.locals ≤ R.locals) {pc : Nat} {Ls : Array Slot} {S : List Value} (hsize : Ls.size = c.maxLocals) (a : Addr) (argsL rest : List Value)
    (hlen : ∀ sig, parseMethodDescriptor y.desc = some sig → argsL.length = sig.parameters.length) (hS : S = argsL.reverse ++ .ref a :: rest) (ha : (Value.ref a :: argsL).toArray = as') (hW : (rest.map fun v => v.category).sum ≤ W)
    (hd : decode c.code pc = .ok (.invokevirtual index, 3)) (eT : T.heap = h) (EA : Exa Z h a C) (hcl : cells + rm.cells ≤ R.cells) (hsl : slots + rm.slots ≤ R.slots)
    (k : ∀ (v : Option Value) (T' : State) (L' : List Loc) (X' : Stand p l e R s m args below meth c T' (locs ++ L') (cells + rm.cells) (slots + rm.slots)), Qc v T'.heap L' → own_Fin p e below s Q kc ks (T'.setTop (mkF m (pc + 3) Ls (v.toList ++ rest)))) :
    own_Fin p e below s Q kc ks (T.setTop (mkF m pc Ls S)) := by
  subst hS
  obtain ⟨cq, kq, q1, q2, q3⟩ := isOf hZ eT EA
  obtain ⟨v, _, ⟨T', L1, k1, n1⟩, -, X', ⟨L', hQ, l1, y1, z1⟩, st⟩ := X.virtualBack hx (y := y) (z := y) hown (mvT hZ wl) (mvT hZ wd) (notFace_of_selects (args := #[]) (mvT hZ wsel)) (mvT hZ wsel) (mvT hZ ws) hy (backOf (W := W) hM hZ wc wz hf hl) q1 q3 (g := mkF m pc Ls (argsL.reverse ++ .ref a :: rest)) rfl hsize (Steps.refl _) (argsL := argsL) (rest := rest) hlen rfl (by show 2 * 0 + _ ≤ _; omega) hd (fun _ _ => ⟨ha, eT, hcl, hsl⟩)
  dsimp only [Pt.U, Pt.locs, Pt.cells, Pt.slots] at X' l1 y1 z1 st hQ
  subst l1 y1 z1
  exact own_st (fun t => st.trans) (k v T' L' X' hQ)
/-! arrays -/
variable {a : Addr} {kA : ClassId} {n j x : Int32} {vs : List Value} {dv : Value}
theorem own_stI (X : Stand p l e R s m args below meth c T locs cells slots) (hx : p.tables.exec = Jvm.exec) (hZ : Z.Warmed39 s.vm) (eT : T.heap = h) (V : Arv Z h a kA .int n vs dv) (q : ¬ j < 0 ∧ j < n) (hi : j.toNatClampNeg < vs.length) {g : JFrame} (hg : g.method = m) {rest : List Value} (hs : g.stack = .int x :: .int j :: .ref a :: rest) (hd : decode c.code g.pc = .ok (.iastore, 1)) :
    ∃ T' h', Stand p l e R s m args below meth c T' (locs ++ [⟨a, j.toNatClampNeg⟩]) cells slots ∧ T'.heap = h' ∧ Wr h h' a j.toNatClampNeg (.int x) ∧ Arv Z h' a kA .int n (vs.set j.toNatClampNeg (.int x)) dv ∧ ∀ target, Steps p.tables e below (T'.setTop { g with pc := g.pc + 1, stack := rest }) target → Steps p.tables e below (T.setTop g) target := by
  obtain ⟨cl, Ar, q1, S1, N1, H1, G1⟩ := V
  obtain ⟨T', h', X', e', W', st⟩ := stI X hx hZ eT Ar (inb_of S1 q) hg hs hd
  exact ⟨T', h', X', e', W', Arv.set Ar q1 S1 N1 H1 G1 rfl W' _ rfl hi, st⟩
theorem own_stB (X : Stand p l e R s m args below meth c T locs cells slots) (hx : p.tables.exec = Jvm.exec) (hZ : Z.Warmed39 s.vm) (eT : T.heap = h) (V : Arv Z h a kA .byte n vs dv) (q : ¬ j < 0 ∧ j < n) (hi : j.toNatClampNeg < vs.length) {g : JFrame} (hg : g.method = m) {rest : List Value} (hs : g.stack = .int x :: .int j :: .ref a :: rest) (hd : decode c.code g.pc = .ok (.bastore, 1)) :
    ∃ T' h', Stand p l e R s m args below meth c T' (locs ++ [⟨a, j.toNatClampNeg⟩]) cells slots ∧ T'.heap = h' ∧ Wr h h' a j.toNatClampNeg (.int (nar .byte x)) ∧ Arv Z h' a kA .byte n (vs.set j.toNatClampNeg (.int x.toInt8.toInt32)) dv ∧ ∀ target, Steps p.tables e below (T'.setTop { g with pc := g.pc + 1, stack := rest }) target → Steps p.tables e below (T.setTop g) target := by
  obtain ⟨cl, Ar, q1, S1, N1, H1, G1⟩ := V
  obtain ⟨T', h', X', e', W', st⟩ := stB X hx hZ eT Ar (inb_of S1 q) hg hs hd
  exact ⟨T', h', X', e', W', Arv.set Ar q1 S1 N1 H1 G1 (fits_nar_byte x) W' _ rfl hi, st⟩
theorem own_stJ {x : Int64} (X : Stand p l e R s m args below meth c T locs cells slots) (hx : p.tables.exec = Jvm.exec) (hZ : Z.Warmed39 s.vm) (eT : T.heap = h) (V : Arv Z h a kA .long n vs dv) (q : ¬ j < 0 ∧ j < n) (hi : j.toNatClampNeg < vs.length) {g : JFrame} (hg : g.method = m) {rest : List Value} (hs : g.stack = .long x :: .int j :: .ref a :: rest) (hd : decode c.code g.pc = .ok (.lastore, 1)) :
    ∃ T' h', Stand p l e R s m args below meth c T' (locs ++ [⟨a, j.toNatClampNeg⟩]) cells slots ∧ T'.heap = h' ∧ Wr h h' a j.toNatClampNeg (.long x) ∧ Arv Z h' a kA .long n (vs.set j.toNatClampNeg (.long x)) dv ∧ ∀ target, Steps p.tables e below (T'.setTop { g with pc := g.pc + 1, stack := rest }) target → Steps p.tables e below (T.setTop g) target := by
  obtain ⟨cl, Ar, q1, S1, N1, H1, G1⟩ := V
  obtain ⟨T', h', X', e', W', st⟩ := stJ X hx hZ eT Ar (inb_of S1 q) hg hs hd
  exact ⟨T', h', X', e', W', Arv.set Ar q1 S1 N1 H1 G1 rfl W' _ rfl hi, st⟩
theorem own_ldI (X : Stand p l e R s m args below meth c T locs cells slots) (hx : p.tables.exec = Jvm.exec) (hZ : Z.Warmed39 s.vm) (eT : T.heap = h) (V : Arv Z h a kA .int n vs dv) (q : ¬ j < 0 ∧ j < n) {v : Value} (hv : vs.getD j.toNatClampNeg dv = v) {g : JFrame} (hg : g.method = m) {rest : List Value} (hs : g.stack = .int j :: .ref a :: rest) (hd : decode c.code g.pc = .ok (.iaload, 1)) :
    ∀ target, Steps p.tables e below (T.setTop { g with pc := g.pc + 1, stack := v :: rest }) target → Steps p.tables e below (T.setTop g) target := by
  obtain ⟨cl, Ar, q1, S1, N1, H1, G1⟩ := V
  exact X.iaload hx (by rw [eT]; exact Ar.1) (State.isArrayOf_alike hZ.alike Ar.2.1) Ar.2.2 (inb_of S1 q) (H1.at (inb_of S1 q) hv) hg hs hd
theorem own_ldB (X : Stand p l e R s m args below meth c T locs cells slots) (hx : p.tables.exec = Jvm.exec) (hZ : Z.Warmed39 s.vm) (eT : T.heap = h) (V : Arv Z h a kA .byte n vs dv) (q : ¬ j < 0 ∧ j < n) {v : Value} (hv : vs.getD j.toNatClampNeg dv = v) {g : JFrame} (hg : g.method = m) {rest : List Value} (hs : g.stack = .int j :: .ref a :: rest) (hd : decode c.code g.pc = .ok (.baload, 1)) :
    ∀ target, Steps p.tables e below (T.setTop { g with pc := g.pc + 1, stack := v :: rest }) target → Steps p.tables e below (T.setTop g) target := by
  obtain ⟨cl, Ar, q1, S1, N1, H1, G1⟩ := V
  exact X.baloadBytes hx (by rw [eT]; exact Ar.1) (State.isArrayOf_alike hZ.alike Ar.2.1) Ar.2.2 (inb_of S1 q) (H1.at (inb_of S1 q) hv) hg hs hd
theorem own_ldJ (X : Stand p l e R s m args below meth c T locs cells slots) (hx : p.tables.exec = Jvm.exec) (hZ : Z.Warmed39 s.vm) (eT : T.heap = h) (V : Arv Z h a kA .long n vs dv) (q : ¬ j < 0 ∧ j < n) {v : Value} (hv : vs.getD j.toNatClampNeg dv = v) {g : JFrame} (hg : g.method = m) {rest : List Value} (hs : g.stack = .int j :: .ref a :: rest) (hd : decode c.code g.pc = .ok (.laload, 1)) :
    ∀ target, Steps p.tables e below (T.setTop { g with pc := g.pc + 1, stack := v :: rest }) target → Steps p.tables e below (T.setTop g) target := by
  obtain ⟨cl, Ar, q1, S1, N1, H1, G1⟩ := V
  exact X.laload hx (by rw [eT]; exact Ar.1) (State.isArrayOf_alike hZ.alike Ar.2.1) Ar.2.2 (inb_of S1 q) (H1.at (inb_of S1 q) hv) hg hs hd
theorem own_len {ty : FieldType} (X : Stand p l e R s m args below meth c T locs cells slots) (hx : p.tables.exec = Jvm.exec) (hZ : Z.Warmed39 s.vm) (eT : T.heap = h) (V : Arv Z h a kA ty n vs dv) {g : JFrame} (hg : g.method = m) {rest : List Value} (hs : g.stack = .ref a :: rest) (hd : decode c.code g.pc = .ok (.arraylength, 1)) :
    ∀ target, Steps p.tables e below (T.setTop { g with pc := g.pc + 1, stack := .int n :: rest }) target → Steps p.tables e below (T.setTop g) target := by
  obtain ⟨cl, Ar, q1, S1, N1, H1, G1⟩ := V
  intro t k
  refine X.arraylength hx (by rw [eT]; exact Ar.1) (State.isArrayOf_alike hZ.alike Ar.2.1) hg hs hd t ?_
  rw [len_of S1 N1]; exact k
end Own

def own_lb (c : Int32) : Int32 := if c < 10 then (if c = 133 then 1 else if c = 8232 then 1 else if c = 8233 then 1 else 0) else if 13 < c then (if c = 133 then 1 else if c = 8232 then 1 else if c = 8233 then 1 else 0) else 1
def own_ex (c : Int32) : Int32 := if c = 10 then 1 else if c = 11 then 1 else if c = 12 then 1 else if c = 13 then 1 else if c = 133 then 1 else if c = 8232 then 1 else if c = 8233 then 1 else 0
theorem own_eq (c : Int32) : own_lb c = own_ex c := by
  unfold own_lb own_ex
  have e1 : (10 : Int32).toInt = 10 := by decide
  have e2 : (11 : Int32).toInt = 11 := by decide
  have e3 : (12 : Int32).toInt = 12 := by decide
  have e4 : (13 : Int32).toInt = 13 := by decide
  have e5 : (133 : Int32).toInt = 133 := by decide
  have e6 : (8232 : Int32).toInt = 8232 := by decide
  have e7 : (8233 : Int32).toInt = 8233 := by decide
  simp only [Int32.lt_iff_toInt_lt, ← Int32.toInt_inj, e1, e2, e3, e4, e5, e6, e7]
  repeat' split
  all_goals first | rfl | (exfalso; omega)
theorem d1_0 : decode prog_24_method_3_code 0 = .ok (.iload_n 0, 1) := by decide +kernel
theorem d1_1 : decode prog_24_method_3_code 1 = .ok (.bipush 10, 2) := by decide +kernel
theorem d1_3 : decode prog_24_method_3_code 3 = .ok (.if_icmp .lt 9, 3) := by decide +kernel
theorem d1_6 : decode prog_24_method_3_code 6 = .ok (.iload_n 0, 1) := by decide +kernel
theorem d1_7 : decode prog_24_method_3_code 7 = .ok (.bipush 13, 2) := by decide +kernel
theorem d1_9 : decode prog_24_method_3_code 9 = .ok (.if_icmp .le 24, 3) := by decide +kernel
theorem d1_12 : decode prog_24_method_3_code 12 = .ok (.iload_n 0, 1) := by decide +kernel
theorem d1_13 : decode prog_24_method_3_code 13 = .ok (.sipush 133, 3) := by decide +kernel
theorem d1_16 : decode prog_24_method_3_code 16 = .ok (.if_icmp .eq 17, 3) := by decide +kernel
theorem d1_19 : decode prog_24_method_3_code 19 = .ok (.iload_n 0, 1) := by decide +kernel
theorem d1_20 : decode prog_24_method_3_code 20 = .ok (.sipush 8232, 3) := by decide +kernel
theorem d1_23 : decode prog_24_method_3_code 23 = .ok (.if_icmp .eq 10, 3) := by decide +kernel
theorem d1_26 : decode prog_24_method_3_code 26 = .ok (.iload_n 0, 1) := by decide +kernel
theorem d1_27 : decode prog_24_method_3_code 27 = .ok (.sipush 8233, 3) := by decide +kernel
theorem d1_30 : decode prog_24_method_3_code 30 = .ok (.if_icmp .ne 7, 3) := by decide +kernel
theorem d1_33 : decode prog_24_method_3_code 33 = .ok (.iconst 1, 1) := by decide +kernel
theorem d1_34 : decode prog_24_method_3_code 34 = .ok (.goto 4, 3) := by decide +kernel
theorem d1_37 : decode prog_24_method_3_code 37 = .ok (.iconst 0, 1) := by decide +kernel
theorem d1_38 : decode prog_24_method_3_code 38 = .ok (.ireturn, 1) := by decide +kernel
theorem pn_1 : plainName "com/example/stopbit/stopbit/Escapes" = true := by first | (simp [plainName, overriddenIn]; done) | decide +kernel
theorem ef_1 (m : MethodId) (p0 : Int32) : entryFrame m #[(.int p0)] 1 = mkF m 0 #[.val (.int p0)] [] := by first | (simp [entryFrame, mkF, argsToLocals, Value.category]; done) | rfl
def Q1 (Z : State) (p0 : Int32)  (h0 : Heap) (n0 : Nat) (v : Option Value) (h : Heap) (L : List Loc) : Prop := v = some (.int (own_lb p0)) ∧ Fr n0 L ∧ h = h0
set_option maxRecDepth 65536 in
set_option maxHeartbeats 40000000 in
theorem rm1 (l : Launch) (Z : State) (a0 : Array Value) (hw : ∀ d ∈ tables_1, d.before a0 Z = true) (ws : List Jvm.Cond) (p0 : Int32)  (h0 : Heap) (n0 : Nat) (Z0 : n0 ≤ h0.size)  :
    MetFree l (⟨"com/example/stopbit/stopbit/Escapes", "isLineBreak", "(I)Z"⟩ : MethodName) (head1 (Jvm.Cond.code (⟨"com/example/stopbit/stopbit/Escapes", "isLineBreak", "(I)Z"⟩ : MethodName) prog_24_method_3_code 1 (some .boolean) :: ws) ({ frames := 0, cells := 0, slots := 0, locals := 0 } : Room)) (fun a U => a = #[(.int p0)] ∧ Z.Warmed39 U.vm ∧ U.heap = h0) (fun _ _ _ _ _ => True) (fun _ U o U' => ∃ v L, o = .returned v ∧ Q1 Z p0 h0 n0 v U'.heap L ∧ FrameEnd U o U' L ({ frames := 0, cells := 0, slots := 0, locals := 0 } : Room).cells ({ frames := 0, cells := 0, slots := 0, locals := 0 } : Room).slots) := by
  refine MetFree.of_bodySF (plainFor_of_name pn_1) hisR ?_
  intro p e s m args below meth c s₁ Bd hml0 hP hK
  obtain ⟨rfl, hZ, hh⟩ := hP
  have hx := Bd.exec
  have hby := Bd.bytes
  have hml : c.maxLocals = 1 := hml0
  have hown : s.vm.findClass "com/example/stopbit/stopbit/Escapes" = some m.cls := findClass_of_methodNamed Bd.named
  have hnm := (name_of_methodNamed Bd.named Bd.method).1
  have hlk : meth.locks = false := Bd.notSynchronized
  have X0 : Stand p l e ({ frames := 0, cells := 0, slots := 0, locals := 0 } : Room) s m #[(.int p0)] below meth c s₁ [] 0 0 := Stand.of_body Bd
  have e0 : s₁.heap = h0 := by rw [← hh, Bd.state]; rfl
  have N0 := Fr.nil n0
  refine own_cast (Q := Q1 Z p0 h0 n0) (kc := 0) (ks := 0) (ef_1 m p0) ?_
  refine own_st (fun _ k => XS.iloadN X0.here hx rfl (hb hby d1_0) rfl k) ?_
  show own_Go X0 (Q1 Z p0 h0 n0) 0 0 1 #[.val (.int p0)] [(.int p0)]
  refine own_st (fun _ k => XS.bipush X0.here hx rfl (hb hby d1_1) k) ?_
  show own_Go X0 (Q1 Z p0 h0 n0) 0 0 3 #[.val (.int p0)] [(.int (10 : Int32)), (.int p0)]
  by_cases c3_1 : p0 < (10 : Int32)
  · skip
    refine own_st (fun _ k => XS.icmpYes X0.here hx rfl (pc0 := 3) (pc' := 12) rfl (hb hby d1_3) rfl (tlt c3_1).1 (by decide) (by decide) k) ?_
    show own_Go X0 (Q1 Z p0 h0 n0) 0 0 12 #[.val (.int p0)] []
    refine own_st (fun _ k => XS.iloadN X0.here hx rfl (hb hby d1_12) rfl k) ?_
    show own_Go X0 (Q1 Z p0 h0 n0) 0 0 13 #[.val (.int p0)] [(.int p0)]
    refine own_st (fun _ k => XS.sipush X0.here hx rfl (hb hby d1_13) k) ?_
    show own_Go X0 (Q1 Z p0 h0 n0) 0 0 16 #[.val (.int p0)] [(.int (133 : Int32)), (.int p0)]
    by_cases c16_2 : p0 = (133 : Int32)
    · skip
      refine own_st (fun _ k => XS.icmpYes X0.here hx rfl (pc0 := 16) (pc' := 33) rfl (hb hby d1_16) rfl (teq c16_2).1 (by decide) (by decide) k) ?_
      show own_Go X0 (Q1 Z p0 h0 n0) 0 0 33 #[.val (.int p0)] []
      refine own_st (fun _ k => XS.iconst X0.here hx rfl (hb hby d1_33) k) ?_
      show own_Go X0 (Q1 Z p0 h0 n0) 0 0 34 #[.val (.int p0)] [(.int (1 : Int32))]
      refine own_st (fun _ k => XS.goto X0.here hx rfl (pc0 := 34) (pc' := 38) rfl (hb hby d1_34) (by decide) (by decide) k) ?_
      show own_Go X0 (Q1 Z p0 h0 n0) 0 0 38 #[.val (.int p0)] [(.int (1 : Int32))]
      refine own_retN X0 hx Bd.returns (by simp) hlk e0 (hb hby d1_38) (by decide) (by decide) ?_
      exact ⟨by simp [own_lb, own_nar0, own_nar1, c3_1, c16_2], N0, rfl⟩
    · skip
      refine own_st (fun _ k => XS.icmpNo X0.here hx rfl (hb hby d1_16) rfl (feq c16_2).1 k) ?_
      show own_Go X0 (Q1 Z p0 h0 n0) 0 0 19 #[.val (.int p0)] []
      refine own_st (fun _ k => XS.iloadN X0.here hx rfl (hb hby d1_19) rfl k) ?_
      show own_Go X0 (Q1 Z p0 h0 n0) 0 0 20 #[.val (.int p0)] [(.int p0)]
      refine own_st (fun _ k => XS.sipush X0.here hx rfl (hb hby d1_20) k) ?_
      show own_Go X0 (Q1 Z p0 h0 n0) 0 0 23 #[.val (.int p0)] [(.int (8232 : Int32)), (.int p0)]
      by_cases c23_3 : p0 = (8232 : Int32)
      · skip
        refine own_st (fun _ k => XS.icmpYes X0.here hx rfl (pc0 := 23) (pc' := 33) rfl (hb hby d1_23) rfl (teq c23_3).1 (by decide) (by decide) k) ?_
        show own_Go X0 (Q1 Z p0 h0 n0) 0 0 33 #[.val (.int p0)] []
        refine own_st (fun _ k => XS.iconst X0.here hx rfl (hb hby d1_33) k) ?_
        show own_Go X0 (Q1 Z p0 h0 n0) 0 0 34 #[.val (.int p0)] [(.int (1 : Int32))]
        refine own_st (fun _ k => XS.goto X0.here hx rfl (pc0 := 34) (pc' := 38) rfl (hb hby d1_34) (by decide) (by decide) k) ?_
        show own_Go X0 (Q1 Z p0 h0 n0) 0 0 38 #[.val (.int p0)] [(.int (1 : Int32))]
        refine own_retN X0 hx Bd.returns (by simp) hlk e0 (hb hby d1_38) (by decide) (by decide) ?_
        exact ⟨by simp [own_lb, own_nar0, own_nar1, c3_1, c16_2, c23_3], N0, rfl⟩
      · skip
        refine own_st (fun _ k => XS.icmpNo X0.here hx rfl (hb hby d1_23) rfl (feq c23_3).1 k) ?_
        show own_Go X0 (Q1 Z p0 h0 n0) 0 0 26 #[.val (.int p0)] []
        refine own_st (fun _ k => XS.iloadN X0.here hx rfl (hb hby d1_26) rfl k) ?_
        show own_Go X0 (Q1 Z p0 h0 n0) 0 0 27 #[.val (.int p0)] [(.int p0)]
        refine own_st (fun _ k => XS.sipush X0.here hx rfl (hb hby d1_27) k) ?_
        show own_Go X0 (Q1 Z p0 h0 n0) 0 0 30 #[.val (.int p0)] [(.int (8233 : Int32)), (.int p0)]
        by_cases c30_4 : p0 = (8233 : Int32)
        · skip
          refine own_st (fun _ k => XS.icmpNo X0.here hx rfl (hb hby d1_30) rfl (teq c30_4).2 k) ?_
          show own_Go X0 (Q1 Z p0 h0 n0) 0 0 33 #[.val (.int p0)] []
          refine own_st (fun _ k => XS.iconst X0.here hx rfl (hb hby d1_33) k) ?_
          show own_Go X0 (Q1 Z p0 h0 n0) 0 0 34 #[.val (.int p0)] [(.int (1 : Int32))]
          refine own_st (fun _ k => XS.goto X0.here hx rfl (pc0 := 34) (pc' := 38) rfl (hb hby d1_34) (by decide) (by decide) k) ?_
          show own_Go X0 (Q1 Z p0 h0 n0) 0 0 38 #[.val (.int p0)] [(.int (1 : Int32))]
          refine own_retN X0 hx Bd.returns (by simp) hlk e0 (hb hby d1_38) (by decide) (by decide) ?_
          exact ⟨by simp [own_lb, own_nar0, own_nar1, c3_1, c16_2, c23_3, c30_4], N0, rfl⟩
        · skip
          refine own_st (fun _ k => XS.icmpYes X0.here hx rfl (pc0 := 30) (pc' := 37) rfl (hb hby d1_30) rfl (feq c30_4).2 (by decide) (by decide) k) ?_
          show own_Go X0 (Q1 Z p0 h0 n0) 0 0 37 #[.val (.int p0)] []
          refine own_st (fun _ k => XS.iconst X0.here hx rfl (hb hby d1_37) k) ?_
          show own_Go X0 (Q1 Z p0 h0 n0) 0 0 38 #[.val (.int p0)] [(.int (0 : Int32))]
          refine own_retN X0 hx Bd.returns (by simp) hlk e0 (hb hby d1_38) (by decide) (by decide) ?_
          exact ⟨by simp [own_lb, own_nar0, own_nar1, c3_1, c16_2, c23_3, c30_4], N0, rfl⟩
  · skip
    refine own_st (fun _ k => XS.icmpNo X0.here hx rfl (hb hby d1_3) rfl (flt c3_1).1 k) ?_
    show own_Go X0 (Q1 Z p0 h0 n0) 0 0 6 #[.val (.int p0)] []
    refine own_st (fun _ k => XS.iloadN X0.here hx rfl (hb hby d1_6) rfl k) ?_
    show own_Go X0 (Q1 Z p0 h0 n0) 0 0 7 #[.val (.int p0)] [(.int p0)]
    refine own_st (fun _ k => XS.bipush X0.here hx rfl (hb hby d1_7) k) ?_
    show own_Go X0 (Q1 Z p0 h0 n0) 0 0 9 #[.val (.int p0)] [(.int (13 : Int32)), (.int p0)]
    by_cases c9_5 : (13 : Int32) < p0
    · skip
      refine own_st (fun _ k => XS.icmpNo X0.here hx rfl (hb hby d1_9) rfl (tlt c9_5).2.2.2 k) ?_
      show own_Go X0 (Q1 Z p0 h0 n0) 0 0 12 #[.val (.int p0)] []
      refine own_st (fun _ k => XS.iloadN X0.here hx rfl (hb hby d1_12) rfl k) ?_
      show own_Go X0 (Q1 Z p0 h0 n0) 0 0 13 #[.val (.int p0)] [(.int p0)]
      refine own_st (fun _ k => XS.sipush X0.here hx rfl (hb hby d1_13) k) ?_
      show own_Go X0 (Q1 Z p0 h0 n0) 0 0 16 #[.val (.int p0)] [(.int (133 : Int32)), (.int p0)]
      by_cases c16_6 : p0 = (133 : Int32)
      · skip
        refine own_st (fun _ k => XS.icmpYes X0.here hx rfl (pc0 := 16) (pc' := 33) rfl (hb hby d1_16) rfl (teq c16_6).1 (by decide) (by decide) k) ?_
        show own_Go X0 (Q1 Z p0 h0 n0) 0 0 33 #[.val (.int p0)] []
        refine own_st (fun _ k => XS.iconst X0.here hx rfl (hb hby d1_33) k) ?_
        show own_Go X0 (Q1 Z p0 h0 n0) 0 0 34 #[.val (.int p0)] [(.int (1 : Int32))]
        refine own_st (fun _ k => XS.goto X0.here hx rfl (pc0 := 34) (pc' := 38) rfl (hb hby d1_34) (by decide) (by decide) k) ?_
        show own_Go X0 (Q1 Z p0 h0 n0) 0 0 38 #[.val (.int p0)] [(.int (1 : Int32))]
        refine own_retN X0 hx Bd.returns (by simp) hlk e0 (hb hby d1_38) (by decide) (by decide) ?_
        exact ⟨by simp [own_lb, own_nar0, own_nar1, c3_1, c9_5, c16_6], N0, rfl⟩
      · skip
        refine own_st (fun _ k => XS.icmpNo X0.here hx rfl (hb hby d1_16) rfl (feq c16_6).1 k) ?_
        show own_Go X0 (Q1 Z p0 h0 n0) 0 0 19 #[.val (.int p0)] []
        refine own_st (fun _ k => XS.iloadN X0.here hx rfl (hb hby d1_19) rfl k) ?_
        show own_Go X0 (Q1 Z p0 h0 n0) 0 0 20 #[.val (.int p0)] [(.int p0)]
        refine own_st (fun _ k => XS.sipush X0.here hx rfl (hb hby d1_20) k) ?_
        show own_Go X0 (Q1 Z p0 h0 n0) 0 0 23 #[.val (.int p0)] [(.int (8232 : Int32)), (.int p0)]
        by_cases c23_7 : p0 = (8232 : Int32)
        · skip
          refine own_st (fun _ k => XS.icmpYes X0.here hx rfl (pc0 := 23) (pc' := 33) rfl (hb hby d1_23) rfl (teq c23_7).1 (by decide) (by decide) k) ?_
          show own_Go X0 (Q1 Z p0 h0 n0) 0 0 33 #[.val (.int p0)] []
          refine own_st (fun _ k => XS.iconst X0.here hx rfl (hb hby d1_33) k) ?_
          show own_Go X0 (Q1 Z p0 h0 n0) 0 0 34 #[.val (.int p0)] [(.int (1 : Int32))]
          refine own_st (fun _ k => XS.goto X0.here hx rfl (pc0 := 34) (pc' := 38) rfl (hb hby d1_34) (by decide) (by decide) k) ?_
          show own_Go X0 (Q1 Z p0 h0 n0) 0 0 38 #[.val (.int p0)] [(.int (1 : Int32))]
          refine own_retN X0 hx Bd.returns (by simp) hlk e0 (hb hby d1_38) (by decide) (by decide) ?_
          exact ⟨by simp [own_lb, own_nar0, own_nar1, c3_1, c9_5, c16_6, c23_7], N0, rfl⟩
        · skip
          refine own_st (fun _ k => XS.icmpNo X0.here hx rfl (hb hby d1_23) rfl (feq c23_7).1 k) ?_
          show own_Go X0 (Q1 Z p0 h0 n0) 0 0 26 #[.val (.int p0)] []
          refine own_st (fun _ k => XS.iloadN X0.here hx rfl (hb hby d1_26) rfl k) ?_
          show own_Go X0 (Q1 Z p0 h0 n0) 0 0 27 #[.val (.int p0)] [(.int p0)]
          refine own_st (fun _ k => XS.sipush X0.here hx rfl (hb hby d1_27) k) ?_
          show own_Go X0 (Q1 Z p0 h0 n0) 0 0 30 #[.val (.int p0)] [(.int (8233 : Int32)), (.int p0)]
          by_cases c30_8 : p0 = (8233 : Int32)
          · skip
            refine own_st (fun _ k => XS.icmpNo X0.here hx rfl (hb hby d1_30) rfl (teq c30_8).2 k) ?_
            show own_Go X0 (Q1 Z p0 h0 n0) 0 0 33 #[.val (.int p0)] []
            refine own_st (fun _ k => XS.iconst X0.here hx rfl (hb hby d1_33) k) ?_
            show own_Go X0 (Q1 Z p0 h0 n0) 0 0 34 #[.val (.int p0)] [(.int (1 : Int32))]
            refine own_st (fun _ k => XS.goto X0.here hx rfl (pc0 := 34) (pc' := 38) rfl (hb hby d1_34) (by decide) (by decide) k) ?_
            show own_Go X0 (Q1 Z p0 h0 n0) 0 0 38 #[.val (.int p0)] [(.int (1 : Int32))]
            refine own_retN X0 hx Bd.returns (by simp) hlk e0 (hb hby d1_38) (by decide) (by decide) ?_
            exact ⟨by simp [own_lb, own_nar0, own_nar1, c3_1, c9_5, c16_6, c23_7, c30_8], N0, rfl⟩
          · skip
            refine own_st (fun _ k => XS.icmpYes X0.here hx rfl (pc0 := 30) (pc' := 37) rfl (hb hby d1_30) rfl (feq c30_8).2 (by decide) (by decide) k) ?_
            show own_Go X0 (Q1 Z p0 h0 n0) 0 0 37 #[.val (.int p0)] []
            refine own_st (fun _ k => XS.iconst X0.here hx rfl (hb hby d1_37) k) ?_
            show own_Go X0 (Q1 Z p0 h0 n0) 0 0 38 #[.val (.int p0)] [(.int (0 : Int32))]
            refine own_retN X0 hx Bd.returns (by simp) hlk e0 (hb hby d1_38) (by decide) (by decide) ?_
            exact ⟨by simp [own_lb, own_nar0, own_nar1, c3_1, c9_5, c16_6, c23_7, c30_8], N0, rfl⟩
    · skip
      refine own_st (fun _ k => XS.icmpYes X0.here hx rfl (pc0 := 9) (pc' := 33) rfl (hb hby d1_9) rfl (flt c9_5).2.2.2 (by decide) (by decide) k) ?_
      show own_Go X0 (Q1 Z p0 h0 n0) 0 0 33 #[.val (.int p0)] []
      refine own_st (fun _ k => XS.iconst X0.here hx rfl (hb hby d1_33) k) ?_
      show own_Go X0 (Q1 Z p0 h0 n0) 0 0 34 #[.val (.int p0)] [(.int (1 : Int32))]
      refine own_st (fun _ k => XS.goto X0.here hx rfl (pc0 := 34) (pc' := 38) rfl (hb hby d1_34) (by decide) (by decide) k) ?_
      show own_Go X0 (Q1 Z p0 h0 n0) 0 0 38 #[.val (.int p0)] [(.int (1 : Int32))]
      refine own_retN X0 hx Bd.returns (by simp) hlk e0 (hb hby d1_38) (by decide) (by decide) ?_
      exact ⟨by simp [own_lb, own_nar0, own_nar1, c3_1, c9_5], N0, rfl⟩
theorem d2_0 : decode method_2_code 0 = .ok (.iload_n 0, 1) := by decide +kernel
theorem d2_1 : decode method_2_code 1 = .ok (.bipush 10, 2) := by decide +kernel
theorem d2_3 : decode method_2_code 3 = .ok (.if_icmp .eq 42, 3) := by decide +kernel
theorem d2_6 : decode method_2_code 6 = .ok (.iload_n 0, 1) := by decide +kernel
theorem d2_7 : decode method_2_code 7 = .ok (.bipush 11, 2) := by decide +kernel
theorem d2_9 : decode method_2_code 9 = .ok (.if_icmp .eq 36, 3) := by decide +kernel
theorem d2_12 : decode method_2_code 12 = .ok (.iload_n 0, 1) := by decide +kernel
theorem d2_13 : decode method_2_code 13 = .ok (.bipush 12, 2) := by decide +kernel
theorem d2_15 : decode method_2_code 15 = .ok (.if_icmp .eq 30, 3) := by decide +kernel
theorem d2_18 : decode method_2_code 18 = .ok (.iload_n 0, 1) := by decide +kernel
theorem d2_19 : decode method_2_code 19 = .ok (.bipush 13, 2) := by decide +kernel
theorem d2_21 : decode method_2_code 21 = .ok (.if_icmp .eq 24, 3) := by decide +kernel
theorem d2_24 : decode method_2_code 24 = .ok (.iload_n 0, 1) := by decide +kernel
theorem d2_25 : decode method_2_code 25 = .ok (.sipush 133, 3) := by decide +kernel
theorem d2_28 : decode method_2_code 28 = .ok (.if_icmp .eq 17, 3) := by decide +kernel
theorem d2_31 : decode method_2_code 31 = .ok (.iload_n 0, 1) := by decide +kernel
theorem d2_32 : decode method_2_code 32 = .ok (.sipush 8232, 3) := by decide +kernel
theorem d2_35 : decode method_2_code 35 = .ok (.if_icmp .eq 10, 3) := by decide +kernel
theorem d2_38 : decode method_2_code 38 = .ok (.iload_n 0, 1) := by decide +kernel
theorem d2_39 : decode method_2_code 39 = .ok (.sipush 8233, 3) := by decide +kernel
theorem d2_42 : decode method_2_code 42 = .ok (.if_icmp .ne 7, 3) := by decide +kernel
theorem d2_45 : decode method_2_code 45 = .ok (.iconst 1, 1) := by decide +kernel
theorem d2_46 : decode method_2_code 46 = .ok (.goto 4, 3) := by decide +kernel
theorem d2_49 : decode method_2_code 49 = .ok (.iconst 0, 1) := by decide +kernel
theorem d2_50 : decode method_2_code 50 = .ok (.ireturn, 1) := by decide +kernel
theorem pn_2 : plainName "com/example/stopbit/stopbit/EscapesIsLineBreakPinLaw" = true := by first | (simp [plainName, overriddenIn]; done) | decide +kernel
theorem ef_2 (m : MethodId) (p0 : Int32) : entryFrame m #[(.int p0)] 1 = mkF m 0 #[.val (.int p0)] [] := by first | (simp [entryFrame, mkF, argsToLocals, Value.category]; done) | rfl
def Q2 (Z : State) (p0 : Int32)  (h0 : Heap) (n0 : Nat) (v : Option Value) (h : Heap) (L : List Loc) : Prop := v = some (.int (own_ex p0)) ∧ Fr n0 L ∧ h = h0
set_option maxRecDepth 65536 in
set_option maxHeartbeats 40000000 in
theorem rm2 (l : Launch) (Z : State) (a0 : Array Value) (hw : ∀ d ∈ tables_1, d.before a0 Z = true) (ws : List Jvm.Cond) (p0 : Int32)  (h0 : Heap) (n0 : Nat) (Z0 : n0 ≤ h0.size)  :
    MetFree l (⟨"com/example/stopbit/stopbit/EscapesIsLineBreakPinLaw", "expected", "(I)Z"⟩ : MethodName) (head1 (Jvm.Cond.code (⟨"com/example/stopbit/stopbit/EscapesIsLineBreakPinLaw", "expected", "(I)Z"⟩ : MethodName) method_2_code 1 (some .boolean) :: ws) ({ frames := 0, cells := 0, slots := 0, locals := 0 } : Room)) (fun a U => a = #[(.int p0)] ∧ Z.Warmed39 U.vm ∧ U.heap = h0) (fun _ _ _ _ _ => True) (fun _ U o U' => ∃ v L, o = .returned v ∧ Q2 Z p0 h0 n0 v U'.heap L ∧ FrameEnd U o U' L ({ frames := 0, cells := 0, slots := 0, locals := 0 } : Room).cells ({ frames := 0, cells := 0, slots := 0, locals := 0 } : Room).slots) := by
  refine MetFree.of_bodySF (plainFor_of_name pn_2) hisR ?_
  intro p e s m args below meth c s₁ Bd hml0 hP hK
  obtain ⟨rfl, hZ, hh⟩ := hP
  have hx := Bd.exec
  have hby := Bd.bytes
  have hml : c.maxLocals = 1 := hml0
  have hown : s.vm.findClass "com/example/stopbit/stopbit/EscapesIsLineBreakPinLaw" = some m.cls := findClass_of_methodNamed Bd.named
  have hnm := (name_of_methodNamed Bd.named Bd.method).1
  have hlk : meth.locks = false := Bd.notSynchronized
  have X0 : Stand p l e ({ frames := 0, cells := 0, slots := 0, locals := 0 } : Room) s m #[(.int p0)] below meth c s₁ [] 0 0 := Stand.of_body Bd
  have e0 : s₁.heap = h0 := by rw [← hh, Bd.state]; rfl
  have N0 := Fr.nil n0
  refine own_cast (Q := Q2 Z p0 h0 n0) (kc := 0) (ks := 0) (ef_2 m p0) ?_
  refine own_st (fun _ k => XS.iloadN X0.here hx rfl (hb hby d2_0) rfl k) ?_
  show own_Go X0 (Q2 Z p0 h0 n0) 0 0 1 #[.val (.int p0)] [(.int p0)]
  refine own_st (fun _ k => XS.bipush X0.here hx rfl (hb hby d2_1) k) ?_
  show own_Go X0 (Q2 Z p0 h0 n0) 0 0 3 #[.val (.int p0)] [(.int (10 : Int32)), (.int p0)]
  by_cases c3_1 : p0 = (10 : Int32)
  · skip
    refine own_st (fun _ k => XS.icmpYes X0.here hx rfl (pc0 := 3) (pc' := 45) rfl (hb hby d2_3) rfl (teq c3_1).1 (by decide) (by decide) k) ?_
    show own_Go X0 (Q2 Z p0 h0 n0) 0 0 45 #[.val (.int p0)] []
    refine own_st (fun _ k => XS.iconst X0.here hx rfl (hb hby d2_45) k) ?_
    show own_Go X0 (Q2 Z p0 h0 n0) 0 0 46 #[.val (.int p0)] [(.int (1 : Int32))]
    refine own_st (fun _ k => XS.goto X0.here hx rfl (pc0 := 46) (pc' := 50) rfl (hb hby d2_46) (by decide) (by decide) k) ?_
    show own_Go X0 (Q2 Z p0 h0 n0) 0 0 50 #[.val (.int p0)] [(.int (1 : Int32))]
    refine own_retN X0 hx Bd.returns (by simp) hlk e0 (hb hby d2_50) (by decide) (by decide) ?_
    exact ⟨by simp [own_ex, own_nar0, own_nar1, c3_1], N0, rfl⟩
  · skip
    refine own_st (fun _ k => XS.icmpNo X0.here hx rfl (hb hby d2_3) rfl (feq c3_1).1 k) ?_
    show own_Go X0 (Q2 Z p0 h0 n0) 0 0 6 #[.val (.int p0)] []
    refine own_st (fun _ k => XS.iloadN X0.here hx rfl (hb hby d2_6) rfl k) ?_
    show own_Go X0 (Q2 Z p0 h0 n0) 0 0 7 #[.val (.int p0)] [(.int p0)]
    refine own_st (fun _ k => XS.bipush X0.here hx rfl (hb hby d2_7) k) ?_
    show own_Go X0 (Q2 Z p0 h0 n0) 0 0 9 #[.val (.int p0)] [(.int (11 : Int32)), (.int p0)]
    by_cases c9_2 : p0 = (11 : Int32)
    · skip
      refine own_st (fun _ k => XS.icmpYes X0.here hx rfl (pc0 := 9) (pc' := 45) rfl (hb hby d2_9) rfl (teq c9_2).1 (by decide) (by decide) k) ?_
      show own_Go X0 (Q2 Z p0 h0 n0) 0 0 45 #[.val (.int p0)] []
      refine own_st (fun _ k => XS.iconst X0.here hx rfl (hb hby d2_45) k) ?_
      show own_Go X0 (Q2 Z p0 h0 n0) 0 0 46 #[.val (.int p0)] [(.int (1 : Int32))]
      refine own_st (fun _ k => XS.goto X0.here hx rfl (pc0 := 46) (pc' := 50) rfl (hb hby d2_46) (by decide) (by decide) k) ?_
      show own_Go X0 (Q2 Z p0 h0 n0) 0 0 50 #[.val (.int p0)] [(.int (1 : Int32))]
      refine own_retN X0 hx Bd.returns (by simp) hlk e0 (hb hby d2_50) (by decide) (by decide) ?_
      exact ⟨by simp [own_ex, own_nar0, own_nar1, c3_1, c9_2], N0, rfl⟩
    · skip
      refine own_st (fun _ k => XS.icmpNo X0.here hx rfl (hb hby d2_9) rfl (feq c9_2).1 k) ?_
      show own_Go X0 (Q2 Z p0 h0 n0) 0 0 12 #[.val (.int p0)] []
      refine own_st (fun _ k => XS.iloadN X0.here hx rfl (hb hby d2_12) rfl k) ?_
      show own_Go X0 (Q2 Z p0 h0 n0) 0 0 13 #[.val (.int p0)] [(.int p0)]
      refine own_st (fun _ k => XS.bipush X0.here hx rfl (hb hby d2_13) k) ?_
      show own_Go X0 (Q2 Z p0 h0 n0) 0 0 15 #[.val (.int p0)] [(.int (12 : Int32)), (.int p0)]
      by_cases c15_3 : p0 = (12 : Int32)
      · skip
        refine own_st (fun _ k => XS.icmpYes X0.here hx rfl (pc0 := 15) (pc' := 45) rfl (hb hby d2_15) rfl (teq c15_3).1 (by decide) (by decide) k) ?_
        show own_Go X0 (Q2 Z p0 h0 n0) 0 0 45 #[.val (.int p0)] []
        refine own_st (fun _ k => XS.iconst X0.here hx rfl (hb hby d2_45) k) ?_
        show own_Go X0 (Q2 Z p0 h0 n0) 0 0 46 #[.val (.int p0)] [(.int (1 : Int32))]
        refine own_st (fun _ k => XS.goto X0.here hx rfl (pc0 := 46) (pc' := 50) rfl (hb hby d2_46) (by decide) (by decide) k) ?_
        show own_Go X0 (Q2 Z p0 h0 n0) 0 0 50 #[.val (.int p0)] [(.int (1 : Int32))]
        refine own_retN X0 hx Bd.returns (by simp) hlk e0 (hb hby d2_50) (by decide) (by decide) ?_
        exact ⟨by simp [own_ex, own_nar0, own_nar1, c3_1, c9_2, c15_3], N0, rfl⟩
      · skip
        refine own_st (fun _ k => XS.icmpNo X0.here hx rfl (hb hby d2_15) rfl (feq c15_3).1 k) ?_
        show own_Go X0 (Q2 Z p0 h0 n0) 0 0 18 #[.val (.int p0)] []
        refine own_st (fun _ k => XS.iloadN X0.here hx rfl (hb hby d2_18) rfl k) ?_
        show own_Go X0 (Q2 Z p0 h0 n0) 0 0 19 #[.val (.int p0)] [(.int p0)]
        refine own_st (fun _ k => XS.bipush X0.here hx rfl (hb hby d2_19) k) ?_
        show own_Go X0 (Q2 Z p0 h0 n0) 0 0 21 #[.val (.int p0)] [(.int (13 : Int32)), (.int p0)]
        by_cases c21_4 : p0 = (13 : Int32)
        · skip
          refine own_st (fun _ k => XS.icmpYes X0.here hx rfl (pc0 := 21) (pc' := 45) rfl (hb hby d2_21) rfl (teq c21_4).1 (by decide) (by decide) k) ?_
          show own_Go X0 (Q2 Z p0 h0 n0) 0 0 45 #[.val (.int p0)] []
          refine own_st (fun _ k => XS.iconst X0.here hx rfl (hb hby d2_45) k) ?_
          show own_Go X0 (Q2 Z p0 h0 n0) 0 0 46 #[.val (.int p0)] [(.int (1 : Int32))]
          refine own_st (fun _ k => XS.goto X0.here hx rfl (pc0 := 46) (pc' := 50) rfl (hb hby d2_46) (by decide) (by decide) k) ?_
          show own_Go X0 (Q2 Z p0 h0 n0) 0 0 50 #[.val (.int p0)] [(.int (1 : Int32))]
          refine own_retN X0 hx Bd.returns (by simp) hlk e0 (hb hby d2_50) (by decide) (by decide) ?_
          exact ⟨by simp [own_ex, own_nar0, own_nar1, c3_1, c9_2, c15_3, c21_4], N0, rfl⟩
        · skip
          refine own_st (fun _ k => XS.icmpNo X0.here hx rfl (hb hby d2_21) rfl (feq c21_4).1 k) ?_
          show own_Go X0 (Q2 Z p0 h0 n0) 0 0 24 #[.val (.int p0)] []
          refine own_st (fun _ k => XS.iloadN X0.here hx rfl (hb hby d2_24) rfl k) ?_
          show own_Go X0 (Q2 Z p0 h0 n0) 0 0 25 #[.val (.int p0)] [(.int p0)]
          refine own_st (fun _ k => XS.sipush X0.here hx rfl (hb hby d2_25) k) ?_
          show own_Go X0 (Q2 Z p0 h0 n0) 0 0 28 #[.val (.int p0)] [(.int (133 : Int32)), (.int p0)]
          by_cases c28_5 : p0 = (133 : Int32)
          · skip
            refine own_st (fun _ k => XS.icmpYes X0.here hx rfl (pc0 := 28) (pc' := 45) rfl (hb hby d2_28) rfl (teq c28_5).1 (by decide) (by decide) k) ?_
            show own_Go X0 (Q2 Z p0 h0 n0) 0 0 45 #[.val (.int p0)] []
            refine own_st (fun _ k => XS.iconst X0.here hx rfl (hb hby d2_45) k) ?_
            show own_Go X0 (Q2 Z p0 h0 n0) 0 0 46 #[.val (.int p0)] [(.int (1 : Int32))]
            refine own_st (fun _ k => XS.goto X0.here hx rfl (pc0 := 46) (pc' := 50) rfl (hb hby d2_46) (by decide) (by decide) k) ?_
            show own_Go X0 (Q2 Z p0 h0 n0) 0 0 50 #[.val (.int p0)] [(.int (1 : Int32))]
            refine own_retN X0 hx Bd.returns (by simp) hlk e0 (hb hby d2_50) (by decide) (by decide) ?_
            exact ⟨by simp [own_ex, own_nar0, own_nar1, c3_1, c9_2, c15_3, c21_4, c28_5], N0, rfl⟩
          · skip
            refine own_st (fun _ k => XS.icmpNo X0.here hx rfl (hb hby d2_28) rfl (feq c28_5).1 k) ?_
            show own_Go X0 (Q2 Z p0 h0 n0) 0 0 31 #[.val (.int p0)] []
            refine own_st (fun _ k => XS.iloadN X0.here hx rfl (hb hby d2_31) rfl k) ?_
            show own_Go X0 (Q2 Z p0 h0 n0) 0 0 32 #[.val (.int p0)] [(.int p0)]
            refine own_st (fun _ k => XS.sipush X0.here hx rfl (hb hby d2_32) k) ?_
            show own_Go X0 (Q2 Z p0 h0 n0) 0 0 35 #[.val (.int p0)] [(.int (8232 : Int32)), (.int p0)]
            by_cases c35_6 : p0 = (8232 : Int32)
            · skip
              refine own_st (fun _ k => XS.icmpYes X0.here hx rfl (pc0 := 35) (pc' := 45) rfl (hb hby d2_35) rfl (teq c35_6).1 (by decide) (by decide) k) ?_
              show own_Go X0 (Q2 Z p0 h0 n0) 0 0 45 #[.val (.int p0)] []
              refine own_st (fun _ k => XS.iconst X0.here hx rfl (hb hby d2_45) k) ?_
              show own_Go X0 (Q2 Z p0 h0 n0) 0 0 46 #[.val (.int p0)] [(.int (1 : Int32))]
              refine own_st (fun _ k => XS.goto X0.here hx rfl (pc0 := 46) (pc' := 50) rfl (hb hby d2_46) (by decide) (by decide) k) ?_
              show own_Go X0 (Q2 Z p0 h0 n0) 0 0 50 #[.val (.int p0)] [(.int (1 : Int32))]
              refine own_retN X0 hx Bd.returns (by simp) hlk e0 (hb hby d2_50) (by decide) (by decide) ?_
              exact ⟨by simp [own_ex, own_nar0, own_nar1, c3_1, c9_2, c15_3, c21_4, c28_5, c35_6], N0, rfl⟩
            · skip
              refine own_st (fun _ k => XS.icmpNo X0.here hx rfl (hb hby d2_35) rfl (feq c35_6).1 k) ?_
              show own_Go X0 (Q2 Z p0 h0 n0) 0 0 38 #[.val (.int p0)] []
              refine own_st (fun _ k => XS.iloadN X0.here hx rfl (hb hby d2_38) rfl k) ?_
              show own_Go X0 (Q2 Z p0 h0 n0) 0 0 39 #[.val (.int p0)] [(.int p0)]
              refine own_st (fun _ k => XS.sipush X0.here hx rfl (hb hby d2_39) k) ?_
              show own_Go X0 (Q2 Z p0 h0 n0) 0 0 42 #[.val (.int p0)] [(.int (8233 : Int32)), (.int p0)]
              by_cases c42_7 : p0 = (8233 : Int32)
              · skip
                refine own_st (fun _ k => XS.icmpNo X0.here hx rfl (hb hby d2_42) rfl (teq c42_7).2 k) ?_
                show own_Go X0 (Q2 Z p0 h0 n0) 0 0 45 #[.val (.int p0)] []
                refine own_st (fun _ k => XS.iconst X0.here hx rfl (hb hby d2_45) k) ?_
                show own_Go X0 (Q2 Z p0 h0 n0) 0 0 46 #[.val (.int p0)] [(.int (1 : Int32))]
                refine own_st (fun _ k => XS.goto X0.here hx rfl (pc0 := 46) (pc' := 50) rfl (hb hby d2_46) (by decide) (by decide) k) ?_
                show own_Go X0 (Q2 Z p0 h0 n0) 0 0 50 #[.val (.int p0)] [(.int (1 : Int32))]
                refine own_retN X0 hx Bd.returns (by simp) hlk e0 (hb hby d2_50) (by decide) (by decide) ?_
                exact ⟨by simp [own_ex, own_nar0, own_nar1, c3_1, c9_2, c15_3, c21_4, c28_5, c35_6, c42_7], N0, rfl⟩
              · skip
                refine own_st (fun _ k => XS.icmpYes X0.here hx rfl (pc0 := 42) (pc' := 49) rfl (hb hby d2_42) rfl (feq c42_7).2 (by decide) (by decide) k) ?_
                show own_Go X0 (Q2 Z p0 h0 n0) 0 0 49 #[.val (.int p0)] []
                refine own_st (fun _ k => XS.iconst X0.here hx rfl (hb hby d2_49) k) ?_
                show own_Go X0 (Q2 Z p0 h0 n0) 0 0 50 #[.val (.int p0)] [(.int (0 : Int32))]
                refine own_retN X0 hx Bd.returns (by simp) hlk e0 (hb hby d2_50) (by decide) (by decide) ?_
                exact ⟨by simp [own_ex, own_nar0, own_nar1, c3_1, c9_2, c15_3, c21_4, c28_5, c35_6, c42_7], N0, rfl⟩
theorem pn_0 : plainName "com/example/stopbit/stopbit/EscapesIsLineBreakPinLaw" = true := by first | (simp [plainName, overriddenIn]; done) | decide +kernel
theorem pd_0_0 : parseMethodDescriptor "(I)Z" = some ⟨[.int], some .boolean⟩ := by decide +kernel
theorem ef_0 (m : MethodId) (p0 : Int32) (p1 : Int32) : entryFrame m #[(.int p0), (.int p1)] maxLocals = mkF m 0 #[.val (.int p0), .val (.int p1), .unset, .unset] [] := by first | (simp [entryFrame, mkF, argsToLocals, Value.category, maxLocals]; done) | rfl
def Q0 (Z : State) (p0 : Int32) (p1 : Int32)  (h0 : Heap) (n0 : Nat) (v : Option Value) (h : Heap) (L : List Loc) : Prop := v = some (.int 1) ∧ Fr n0 L
set_option maxRecDepth 65536 in
set_option maxHeartbeats 40000000 in
theorem rm0 (l : Launch) (Z : State) (a0 : Array Value) (hw : ∀ d ∈ tables_1, d.before a0 Z = true) (ws : List Jvm.Cond) (p0 : Int32) (p1 : Int32)  (h0 : Heap) (n0 : Nat) (Z0 : n0 ≤ h0.size)  :
    MetFree l x (head1 (Jvm.Cond.code x code maxLocals ret :: ws) room_1) (fun a U => a = #[(.int p0), (.int p1)] ∧ Z.Warmed39 U.vm ∧ U.heap = h0) (fun _ _ _ _ _ => True) (fun _ U o U' => ∃ v L, o = .returned v ∧ Q0 Z p0 p1 h0 n0 v U'.heap L ∧ FrameEnd U o U' L 0 0) := by
  refine MetFree.of_bodySF (plainFor_of_name pn_0) hisR ?_
  intro p e s m args below meth c s₁ Bd hml0 hP hK
  obtain ⟨rfl, hZ, hh⟩ := hP
  have hx := Bd.exec
  have hby := Bd.bytes
  have hml : c.maxLocals = 4 := hml0
  have hown : s.vm.findClass "com/example/stopbit/stopbit/EscapesIsLineBreakPinLaw" = some m.cls := findClass_of_methodNamed Bd.named
  have hnm := (name_of_methodNamed Bd.named Bd.method).1
  have hlk : meth.locks = false := Bd.notSynchronized
  have X0 : Stand p l e room_1 s m #[(.int p0), (.int p1)] below meth c s₁ [] 0 0 := Stand.of_body Bd
  have e0 : s₁.heap = h0 := by rw [← hh, Bd.state]; rfl
  have N0 := Fr.nil n0
  refine own_cast (Q := Q0 Z p0 p1 h0 n0) (kc := 0) (ks := 0) (ef_0 m p0 p1) ?_
  refine own_st (fun _ k => XS.iloadN X0.here hx rfl (hb hby at_0) rfl k) ?_
  show own_Go X0 (Q0 Z p0 p1 h0 n0) 0 0 1 #[.val (.int p0), .val (.int p1), .unset, .unset] [(.int p1)]
  refine own_st (fun _ k => XS.iconst X0.here hx rfl (hb hby at_1) k) ?_
  show own_Go X0 (Q0 Z p0 p1 h0 n0) 0 0 2 #[.val (.int p0), .val (.int p1), .unset, .unset] [(.int (3 : Int32)), (.int p1)]
  refine own_st (fun _ k => XS.iand X0.here hx rfl (hb hby at_2) rfl k) ?_
  show own_Go X0 (Q0 Z p0 p1 h0 n0) 0 0 3 #[.val (.int p0), .val (.int p1), .unset, .unset] [(.int (p1 &&& (3 : Int32)))]
  refine own_st (fun _ k => XS.istoreN X0.here hx rfl (hb hby at_3) rfl (l' := #[.val (.int p0), .val (.int p1), .val (.int (p1 &&& (3 : Int32))), .unset]) rfl k) ?_
  show own_Go X0 (Q0 Z p0 p1 h0 n0) 0 0 4 #[.val (.int p0), .val (.int p1), .val (.int (p1 &&& (3 : Int32))), .unset] []
  refine own_st (fun _ k => XS.iloadN X0.here hx rfl (hb hby at_4) rfl k) ?_
  show own_Go X0 (Q0 Z p0 p1 h0 n0) 0 0 5 #[.val (.int p0), .val (.int p1), .val (.int (p1 &&& (3 : Int32))), .unset] [(.int (p1 &&& (3 : Int32)))]
  by_cases c5_1 : (p1 &&& (3 : Int32)) = (0 : Int32)
  · skip
    refine own_st (fun _ k => XS.ifNo X0.here hx rfl (hb hby at_5) rfl ((if0 _ _).trans (teq c5_1).2) k) ?_
    show own_Go X0 (Q0 Z p0 p1 h0 n0) 0 0 8 #[.val (.int p0), .val (.int p1), .val (.int (p1 &&& (3 : Int32))), .unset] []
    refine own_st (fun _ k => XS.iloadN X0.here hx rfl (hb hby at_8) rfl k) ?_
    show own_Go X0 (Q0 Z p0 p1 h0 n0) 0 0 9 #[.val (.int p0), .val (.int p1), .val (.int (p1 &&& (3 : Int32))), .unset] [(.int p0)]
    refine own_st (fun _ k => XS.istoreN X0.here hx rfl (hb hby at_9) rfl (l' := #[.val (.int p0), .val (.int p1), .val (.int (p1 &&& (3 : Int32))), .val (.int p0)]) rfl k) ?_
    show own_Go X0 (Q0 Z p0 p1 h0 n0) 0 0 10 #[.val (.int p0), .val (.int p1), .val (.int (p1 &&& (3 : Int32))), .val (.int p0)] []
    refine own_st (fun _ k => XS.goto X0.here hx rfl (pc0 := 10) (pc' := 55) rfl (hb hby at_10) (by decide) (by decide) k) ?_
    show own_Go X0 (Q0 Z p0 p1 h0 n0) 0 0 55 #[.val (.int p0), .val (.int p1), .val (.int (p1 &&& (3 : Int32))), .val (.int p0)] []
    refine own_st (fun _ k => XS.iloadN X0.here hx rfl (hb hby at_55) rfl k) ?_
    show own_Go X0 (Q0 Z p0 p1 h0 n0) 0 0 56 #[.val (.int p0), .val (.int p1), .val (.int (p1 &&& (3 : Int32))), .val (.int p0)] [(.int p0)]
    refine own_callS (W := 0) X0 hx hZ hown (hw _ (List.mem_of_getElem? (i := 0) rfl)) (hw _ (List.mem_of_getElem? (i := 1) rfl)) (hw _ (List.mem_of_getElem? (i := 2) rfl)) (hw _ (List.mem_of_getElem? (i := 3) rfl)) (by decide) (rm1 l Z a0 hw [] p0  h0 n0 Z0 ) (by decide) (by decide) (by rw [hml]; rfl) [(.int p0)] [] (lenOf pd_0_0 rfl) rfl rfl (Nat.le_of_ble_eq_true rfl) (hb hby at_56) e0 (by decide) (by decide) ?_
    rintro _ T2 L2 X2 ⟨rfl, N2q, e2⟩
    have N_3 := Fr.app N0 N2q
    show own_Go X2 (Q0 Z p0 p1 h0 n0) 0 0 59 #[.val (.int p0), .val (.int p1), .val (.int (p1 &&& (3 : Int32))), .val (.int p0)] [(.int (own_lb p0))]
    refine own_st (fun _ k => XS.iloadN X2.here hx rfl (hb hby at_59) rfl k) ?_
    show own_Go X2 (Q0 Z p0 p1 h0 n0) 0 0 60 #[.val (.int p0), .val (.int p1), .val (.int (p1 &&& (3 : Int32))), .val (.int p0)] [(.int p0), (.int (own_lb p0))]
    refine own_callS (W := 1) X2 hx hZ hown (hw _ (List.mem_of_getElem? (i := 4) rfl)) (hw _ (List.mem_of_getElem? (i := 5) rfl)) (hw _ (List.mem_of_getElem? (i := 6) rfl)) (hw _ (List.mem_of_getElem? (i := 7) rfl)) (by decide) (rm2 l Z a0 hw [] p0  h0 n0 Z0 ) (by decide) (by decide) (by rw [hml]; rfl) [(.int p0)] [(.int (own_lb p0))] (lenOf pd_0_0 rfl) rfl rfl (Nat.le_of_ble_eq_true rfl) (hb hby at_60) e2 (by decide) (by decide) ?_
    rintro _ T4 L4 X4 ⟨rfl, N4q, e4⟩
    have N_5 := Fr.app N_3 N4q
    show own_Go X4 (Q0 Z p0 p1 h0 n0) 0 0 63 #[.val (.int p0), .val (.int p1), .val (.int (p1 &&& (3 : Int32))), .val (.int p0)] [(.int (own_ex p0)), (.int (own_lb p0))]
    have c63_6 : (own_lb p0) = (own_ex p0) := own_eq _
    refine own_st (fun _ k => XS.icmpNo X4.here hx rfl (hb hby at_63) rfl (teq c63_6).2 k) ?_
    show own_Go X4 (Q0 Z p0 p1 h0 n0) 0 0 66 #[.val (.int p0), .val (.int p1), .val (.int (p1 &&& (3 : Int32))), .val (.int p0)] []
    refine own_st (fun _ k => XS.iconst X4.here hx rfl (hb hby at_66) k) ?_
    show own_Go X4 (Q0 Z p0 p1 h0 n0) 0 0 67 #[.val (.int p0), .val (.int p1), .val (.int (p1 &&& (3 : Int32))), .val (.int p0)] [(.int (1 : Int32))]
    refine own_st (fun _ k => XS.goto X4.here hx rfl (pc0 := 67) (pc' := 71) rfl (hb hby at_67) (by decide) (by decide) k) ?_
    show own_Go X4 (Q0 Z p0 p1 h0 n0) 0 0 71 #[.val (.int p0), .val (.int p1), .val (.int (p1 &&& (3 : Int32))), .val (.int p0)] [(.int (1 : Int32))]
    refine own_retN X4 hx Bd.returns (by simp) hlk e4 (hb hby at_71) (by decide) (by decide) ?_
    exact ⟨rfl, N_5⟩
  · skip
    refine own_st (fun _ k => XS.ifYes X0.here hx rfl (pc0 := 5) (pc' := 13) rfl (hb hby at_5) rfl ((if0 _ _).trans (feq c5_1).2) (by decide) (by decide) k) ?_
    show own_Go X0 (Q0 Z p0 p1 h0 n0) 0 0 13 #[.val (.int p0), .val (.int p1), .val (.int (p1 &&& (3 : Int32))), .unset] []
    refine own_st (fun _ k => XS.iloadN X0.here hx rfl (hb hby at_13) rfl k) ?_
    show own_Go X0 (Q0 Z p0 p1 h0 n0) 0 0 14 #[.val (.int p0), .val (.int p1), .val (.int (p1 &&& (3 : Int32))), .unset] [(.int (p1 &&& (3 : Int32)))]
    refine own_st (fun _ k => XS.iconst X0.here hx rfl (hb hby at_14) k) ?_
    show own_Go X0 (Q0 Z p0 p1 h0 n0) 0 0 15 #[.val (.int p0), .val (.int p1), .val (.int (p1 &&& (3 : Int32))), .unset] [(.int (1 : Int32)), (.int (p1 &&& (3 : Int32)))]
    by_cases c15_7 : (p1 &&& (3 : Int32)) = (1 : Int32)
    · skip
      refine own_st (fun _ k => XS.icmpNo X0.here hx rfl (hb hby at_15) rfl (teq c15_7).2 k) ?_
      show own_Go X0 (Q0 Z p0 p1 h0 n0) 0 0 18 #[.val (.int p0), .val (.int p1), .val (.int (p1 &&& (3 : Int32))), .unset] []
      refine own_st (fun _ k => XS.bipush X0.here hx rfl (hb hby at_18) k) ?_
      show own_Go X0 (Q0 Z p0 p1 h0 n0) 0 0 20 #[.val (.int p0), .val (.int p1), .val (.int (p1 &&& (3 : Int32))), .unset] [(.int (8 : Int32))]
      refine own_st (fun _ k => XS.iloadN X0.here hx rfl (hb hby at_20) rfl k) ?_
      show own_Go X0 (Q0 Z p0 p1 h0 n0) 0 0 21 #[.val (.int p0), .val (.int p1), .val (.int (p1 &&& (3 : Int32))), .unset] [(.int p0), (.int (8 : Int32))]
      refine own_st (fun _ k => XS.bipush X0.here hx rfl (hb hby at_21) k) ?_
      show own_Go X0 (Q0 Z p0 p1 h0 n0) 0 0 23 #[.val (.int p0), .val (.int p1), .val (.int (p1 &&& (3 : Int32))), .unset] [(.int (7 : Int32)), (.int p0), (.int (8 : Int32))]
      refine own_st (fun _ k => XS.iand X0.here hx rfl (hb hby at_23) rfl k) ?_
      show own_Go X0 (Q0 Z p0 p1 h0 n0) 0 0 24 #[.val (.int p0), .val (.int p1), .val (.int (p1 &&& (3 : Int32))), .unset] [(.int (p0 &&& (7 : Int32))), (.int (8 : Int32))]
      refine own_st (fun _ k => XS.iadd X0.here hx rfl (hb hby at_24) rfl k) ?_
      show own_Go X0 (Q0 Z p0 p1 h0 n0) 0 0 25 #[.val (.int p0), .val (.int p1), .val (.int (p1 &&& (3 : Int32))), .unset] [(.int ((8 : Int32) + (p0 &&& (7 : Int32))))]
      refine own_st (fun _ k => XS.istoreN X0.here hx rfl (hb hby at_25) rfl (l' := #[.val (.int p0), .val (.int p1), .val (.int (p1 &&& (3 : Int32))), .val (.int ((8 : Int32) + (p0 &&& (7 : Int32))))]) rfl k) ?_
      show own_Go X0 (Q0 Z p0 p1 h0 n0) 0 0 26 #[.val (.int p0), .val (.int p1), .val (.int (p1 &&& (3 : Int32))), .val (.int ((8 : Int32) + (p0 &&& (7 : Int32))))] []
      refine own_st (fun _ k => XS.goto X0.here hx rfl (pc0 := 26) (pc' := 55) rfl (hb hby at_26) (by decide) (by decide) k) ?_
      show own_Go X0 (Q0 Z p0 p1 h0 n0) 0 0 55 #[.val (.int p0), .val (.int p1), .val (.int (p1 &&& (3 : Int32))), .val (.int ((8 : Int32) + (p0 &&& (7 : Int32))))] []
      refine own_st (fun _ k => XS.iloadN X0.here hx rfl (hb hby at_55) rfl k) ?_
      show own_Go X0 (Q0 Z p0 p1 h0 n0) 0 0 56 #[.val (.int p0), .val (.int p1), .val (.int (p1 &&& (3 : Int32))), .val (.int ((8 : Int32) + (p0 &&& (7 : Int32))))] [(.int ((8 : Int32) + (p0 &&& (7 : Int32))))]
      refine own_callS (W := 0) X0 hx hZ hown (hw _ (List.mem_of_getElem? (i := 0) rfl)) (hw _ (List.mem_of_getElem? (i := 1) rfl)) (hw _ (List.mem_of_getElem? (i := 2) rfl)) (hw _ (List.mem_of_getElem? (i := 3) rfl)) (by decide) (rm1 l Z a0 hw [] ((8 : Int32) + (p0 &&& (7 : Int32)))  h0 n0 Z0 ) (by decide) (by decide) (by rw [hml]; rfl) [(.int ((8 : Int32) + (p0 &&& (7 : Int32))))] [] (lenOf pd_0_0 rfl) rfl rfl (Nat.le_of_ble_eq_true rfl) (hb hby at_56) e0 (by decide) (by decide) ?_
      rintro _ T8 L8 X8 ⟨rfl, N8q, e8⟩
      have N_9 := Fr.app N0 N8q
      show own_Go X8 (Q0 Z p0 p1 h0 n0) 0 0 59 #[.val (.int p0), .val (.int p1), .val (.int (p1 &&& (3 : Int32))), .val (.int ((8 : Int32) + (p0 &&& (7 : Int32))))] [(.int (own_lb ((8 : Int32) + (p0 &&& (7 : Int32)))))]
      refine own_st (fun _ k => XS.iloadN X8.here hx rfl (hb hby at_59) rfl k) ?_
      show own_Go X8 (Q0 Z p0 p1 h0 n0) 0 0 60 #[.val (.int p0), .val (.int p1), .val (.int (p1 &&& (3 : Int32))), .val (.int ((8 : Int32) + (p0 &&& (7 : Int32))))] [(.int ((8 : Int32) + (p0 &&& (7 : Int32)))), (.int (own_lb ((8 : Int32) + (p0 &&& (7 : Int32)))))]
      refine own_callS (W := 1) X8 hx hZ hown (hw _ (List.mem_of_getElem? (i := 4) rfl)) (hw _ (List.mem_of_getElem? (i := 5) rfl)) (hw _ (List.mem_of_getElem? (i := 6) rfl)) (hw _ (List.mem_of_getElem? (i := 7) rfl)) (by decide) (rm2 l Z a0 hw [] ((8 : Int32) + (p0 &&& (7 : Int32)))  h0 n0 Z0 ) (by decide) (by decide) (by rw [hml]; rfl) [(.int ((8 : Int32) + (p0 &&& (7 : Int32))))] [(.int (own_lb ((8 : Int32) + (p0 &&& (7 : Int32)))))] (lenOf pd_0_0 rfl) rfl rfl (Nat.le_of_ble_eq_true rfl) (hb hby at_60) e8 (by decide) (by decide) ?_
      rintro _ T10 L10 X10 ⟨rfl, N10q, e10⟩
      have N_11 := Fr.app N_9 N10q
      show own_Go X10 (Q0 Z p0 p1 h0 n0) 0 0 63 #[.val (.int p0), .val (.int p1), .val (.int (p1 &&& (3 : Int32))), .val (.int ((8 : Int32) + (p0 &&& (7 : Int32))))] [(.int (own_ex ((8 : Int32) + (p0 &&& (7 : Int32))))), (.int (own_lb ((8 : Int32) + (p0 &&& (7 : Int32)))))]
      have c63_12 : (own_lb ((8 : Int32) + (p0 &&& (7 : Int32)))) = (own_ex ((8 : Int32) + (p0 &&& (7 : Int32)))) := own_eq _
      refine own_st (fun _ k => XS.icmpNo X10.here hx rfl (hb hby at_63) rfl (teq c63_12).2 k) ?_
      show own_Go X10 (Q0 Z p0 p1 h0 n0) 0 0 66 #[.val (.int p0), .val (.int p1), .val (.int (p1 &&& (3 : Int32))), .val (.int ((8 : Int32) + (p0 &&& (7 : Int32))))] []
      refine own_st (fun _ k => XS.iconst X10.here hx rfl (hb hby at_66) k) ?_
      show own_Go X10 (Q0 Z p0 p1 h0 n0) 0 0 67 #[.val (.int p0), .val (.int p1), .val (.int (p1 &&& (3 : Int32))), .val (.int ((8 : Int32) + (p0 &&& (7 : Int32))))] [(.int (1 : Int32))]
      refine own_st (fun _ k => XS.goto X10.here hx rfl (pc0 := 67) (pc' := 71) rfl (hb hby at_67) (by decide) (by decide) k) ?_
      show own_Go X10 (Q0 Z p0 p1 h0 n0) 0 0 71 #[.val (.int p0), .val (.int p1), .val (.int (p1 &&& (3 : Int32))), .val (.int ((8 : Int32) + (p0 &&& (7 : Int32))))] [(.int (1 : Int32))]
      refine own_retN X10 hx Bd.returns (by simp) hlk e10 (hb hby at_71) (by decide) (by decide) ?_
      exact ⟨rfl, N_11⟩
    · skip
      refine own_st (fun _ k => XS.icmpYes X0.here hx rfl (pc0 := 15) (pc' := 29) rfl (hb hby at_15) rfl (feq c15_7).2 (by decide) (by decide) k) ?_
      show own_Go X0 (Q0 Z p0 p1 h0 n0) 0 0 29 #[.val (.int p0), .val (.int p1), .val (.int (p1 &&& (3 : Int32))), .unset] []
      refine own_st (fun _ k => XS.iloadN X0.here hx rfl (hb hby at_29) rfl k) ?_
      show own_Go X0 (Q0 Z p0 p1 h0 n0) 0 0 30 #[.val (.int p0), .val (.int p1), .val (.int (p1 &&& (3 : Int32))), .unset] [(.int (p1 &&& (3 : Int32)))]
      refine own_st (fun _ k => XS.iconst X0.here hx rfl (hb hby at_30) k) ?_
      show own_Go X0 (Q0 Z p0 p1 h0 n0) 0 0 31 #[.val (.int p0), .val (.int p1), .val (.int (p1 &&& (3 : Int32))), .unset] [(.int (2 : Int32)), (.int (p1 &&& (3 : Int32)))]
      by_cases c31_13 : (p1 &&& (3 : Int32)) = (2 : Int32)
      · skip
        refine own_st (fun _ k => XS.icmpNo X0.here hx rfl (hb hby at_31) rfl (teq c31_13).2 k) ?_
        show own_Go X0 (Q0 Z p0 p1 h0 n0) 0 0 34 #[.val (.int p0), .val (.int p1), .val (.int (p1 &&& (3 : Int32))), .unset] []
        refine own_st (fun _ k => XS.sipush X0.here hx rfl (hb hby at_34) k) ?_
        show own_Go X0 (Q0 Z p0 p1 h0 n0) 0 0 37 #[.val (.int p0), .val (.int p1), .val (.int (p1 &&& (3 : Int32))), .unset] [(.int (130 : Int32))]
        refine own_st (fun _ k => XS.iloadN X0.here hx rfl (hb hby at_37) rfl k) ?_
        show own_Go X0 (Q0 Z p0 p1 h0 n0) 0 0 38 #[.val (.int p0), .val (.int p1), .val (.int (p1 &&& (3 : Int32))), .unset] [(.int p0), (.int (130 : Int32))]
        refine own_st (fun _ k => XS.bipush X0.here hx rfl (hb hby at_38) k) ?_
        show own_Go X0 (Q0 Z p0 p1 h0 n0) 0 0 40 #[.val (.int p0), .val (.int p1), .val (.int (p1 &&& (3 : Int32))), .unset] [(.int (7 : Int32)), (.int p0), (.int (130 : Int32))]
        refine own_st (fun _ k => XS.iand X0.here hx rfl (hb hby at_40) rfl k) ?_
        show own_Go X0 (Q0 Z p0 p1 h0 n0) 0 0 41 #[.val (.int p0), .val (.int p1), .val (.int (p1 &&& (3 : Int32))), .unset] [(.int (p0 &&& (7 : Int32))), (.int (130 : Int32))]
        refine own_st (fun _ k => XS.iadd X0.here hx rfl (hb hby at_41) rfl k) ?_
        show own_Go X0 (Q0 Z p0 p1 h0 n0) 0 0 42 #[.val (.int p0), .val (.int p1), .val (.int (p1 &&& (3 : Int32))), .unset] [(.int ((130 : Int32) + (p0 &&& (7 : Int32))))]
        refine own_st (fun _ k => XS.istoreN X0.here hx rfl (hb hby at_42) rfl (l' := #[.val (.int p0), .val (.int p1), .val (.int (p1 &&& (3 : Int32))), .val (.int ((130 : Int32) + (p0 &&& (7 : Int32))))]) rfl k) ?_
        show own_Go X0 (Q0 Z p0 p1 h0 n0) 0 0 43 #[.val (.int p0), .val (.int p1), .val (.int (p1 &&& (3 : Int32))), .val (.int ((130 : Int32) + (p0 &&& (7 : Int32))))] []
        refine own_st (fun _ k => XS.goto X0.here hx rfl (pc0 := 43) (pc' := 55) rfl (hb hby at_43) (by decide) (by decide) k) ?_
        show own_Go X0 (Q0 Z p0 p1 h0 n0) 0 0 55 #[.val (.int p0), .val (.int p1), .val (.int (p1 &&& (3 : Int32))), .val (.int ((130 : Int32) + (p0 &&& (7 : Int32))))] []
        refine own_st (fun _ k => XS.iloadN X0.here hx rfl (hb hby at_55) rfl k) ?_
        show own_Go X0 (Q0 Z p0 p1 h0 n0) 0 0 56 #[.val (.int p0), .val (.int p1), .val (.int (p1 &&& (3 : Int32))), .val (.int ((130 : Int32) + (p0 &&& (7 : Int32))))] [(.int ((130 : Int32) + (p0 &&& (7 : Int32))))]
        refine own_callS (W := 0) X0 hx hZ hown (hw _ (List.mem_of_getElem? (i := 0) rfl)) (hw _ (List.mem_of_getElem? (i := 1) rfl)) (hw _ (List.mem_of_getElem? (i := 2) rfl)) (hw _ (List.mem_of_getElem? (i := 3) rfl)) (by decide) (rm1 l Z a0 hw [] ((130 : Int32) + (p0 &&& (7 : Int32)))  h0 n0 Z0 ) (by decide) (by decide) (by rw [hml]; rfl) [(.int ((130 : Int32) + (p0 &&& (7 : Int32))))] [] (lenOf pd_0_0 rfl) rfl rfl (Nat.le_of_ble_eq_true rfl) (hb hby at_56) e0 (by decide) (by decide) ?_
        rintro _ T14 L14 X14 ⟨rfl, N14q, e14⟩
        have N_15 := Fr.app N0 N14q
        show own_Go X14 (Q0 Z p0 p1 h0 n0) 0 0 59 #[.val (.int p0), .val (.int p1), .val (.int (p1 &&& (3 : Int32))), .val (.int ((130 : Int32) + (p0 &&& (7 : Int32))))] [(.int (own_lb ((130 : Int32) + (p0 &&& (7 : Int32)))))]
        refine own_st (fun _ k => XS.iloadN X14.here hx rfl (hb hby at_59) rfl k) ?_
        show own_Go X14 (Q0 Z p0 p1 h0 n0) 0 0 60 #[.val (.int p0), .val (.int p1), .val (.int (p1 &&& (3 : Int32))), .val (.int ((130 : Int32) + (p0 &&& (7 : Int32))))] [(.int ((130 : Int32) + (p0 &&& (7 : Int32)))), (.int (own_lb ((130 : Int32) + (p0 &&& (7 : Int32)))))]
        refine own_callS (W := 1) X14 hx hZ hown (hw _ (List.mem_of_getElem? (i := 4) rfl)) (hw _ (List.mem_of_getElem? (i := 5) rfl)) (hw _ (List.mem_of_getElem? (i := 6) rfl)) (hw _ (List.mem_of_getElem? (i := 7) rfl)) (by decide) (rm2 l Z a0 hw [] ((130 : Int32) + (p0 &&& (7 : Int32)))  h0 n0 Z0 ) (by decide) (by decide) (by rw [hml]; rfl) [(.int ((130 : Int32) + (p0 &&& (7 : Int32))))] [(.int (own_lb ((130 : Int32) + (p0 &&& (7 : Int32)))))] (lenOf pd_0_0 rfl) rfl rfl (Nat.le_of_ble_eq_true rfl) (hb hby at_60) e14 (by decide) (by decide) ?_
        rintro _ T16 L16 X16 ⟨rfl, N16q, e16⟩
        have N_17 := Fr.app N_15 N16q
        show own_Go X16 (Q0 Z p0 p1 h0 n0) 0 0 63 #[.val (.int p0), .val (.int p1), .val (.int (p1 &&& (3 : Int32))), .val (.int ((130 : Int32) + (p0 &&& (7 : Int32))))] [(.int (own_ex ((130 : Int32) + (p0 &&& (7 : Int32))))), (.int (own_lb ((130 : Int32) + (p0 &&& (7 : Int32)))))]
        have c63_18 : (own_lb ((130 : Int32) + (p0 &&& (7 : Int32)))) = (own_ex ((130 : Int32) + (p0 &&& (7 : Int32)))) := own_eq _
        refine own_st (fun _ k => XS.icmpNo X16.here hx rfl (hb hby at_63) rfl (teq c63_18).2 k) ?_
        show own_Go X16 (Q0 Z p0 p1 h0 n0) 0 0 66 #[.val (.int p0), .val (.int p1), .val (.int (p1 &&& (3 : Int32))), .val (.int ((130 : Int32) + (p0 &&& (7 : Int32))))] []
        refine own_st (fun _ k => XS.iconst X16.here hx rfl (hb hby at_66) k) ?_
        show own_Go X16 (Q0 Z p0 p1 h0 n0) 0 0 67 #[.val (.int p0), .val (.int p1), .val (.int (p1 &&& (3 : Int32))), .val (.int ((130 : Int32) + (p0 &&& (7 : Int32))))] [(.int (1 : Int32))]
        refine own_st (fun _ k => XS.goto X16.here hx rfl (pc0 := 67) (pc' := 71) rfl (hb hby at_67) (by decide) (by decide) k) ?_
        show own_Go X16 (Q0 Z p0 p1 h0 n0) 0 0 71 #[.val (.int p0), .val (.int p1), .val (.int (p1 &&& (3 : Int32))), .val (.int ((130 : Int32) + (p0 &&& (7 : Int32))))] [(.int (1 : Int32))]
        refine own_retN X16 hx Bd.returns (by simp) hlk e16 (hb hby at_71) (by decide) (by decide) ?_
        exact ⟨rfl, N_17⟩
      · skip
        refine own_st (fun _ k => XS.icmpYes X0.here hx rfl (pc0 := 31) (pc' := 46) rfl (hb hby at_31) rfl (feq c31_13).2 (by decide) (by decide) k) ?_
        show own_Go X0 (Q0 Z p0 p1 h0 n0) 0 0 46 #[.val (.int p0), .val (.int p1), .val (.int (p1 &&& (3 : Int32))), .unset] []
        refine own_st (fun _ k => XS.sipush X0.here hx rfl (hb hby at_46) k) ?_
        show own_Go X0 (Q0 Z p0 p1 h0 n0) 0 0 49 #[.val (.int p0), .val (.int p1), .val (.int (p1 &&& (3 : Int32))), .unset] [(.int (8229 : Int32))]
        refine own_st (fun _ k => XS.iloadN X0.here hx rfl (hb hby at_49) rfl k) ?_
        show own_Go X0 (Q0 Z p0 p1 h0 n0) 0 0 50 #[.val (.int p0), .val (.int p1), .val (.int (p1 &&& (3 : Int32))), .unset] [(.int p0), (.int (8229 : Int32))]
        refine own_st (fun _ k => XS.bipush X0.here hx rfl (hb hby at_50) k) ?_
        show own_Go X0 (Q0 Z p0 p1 h0 n0) 0 0 52 #[.val (.int p0), .val (.int p1), .val (.int (p1 &&& (3 : Int32))), .unset] [(.int (7 : Int32)), (.int p0), (.int (8229 : Int32))]
        refine own_st (fun _ k => XS.iand X0.here hx rfl (hb hby at_52) rfl k) ?_
        show own_Go X0 (Q0 Z p0 p1 h0 n0) 0 0 53 #[.val (.int p0), .val (.int p1), .val (.int (p1 &&& (3 : Int32))), .unset] [(.int (p0 &&& (7 : Int32))), (.int (8229 : Int32))]
        refine own_st (fun _ k => XS.iadd X0.here hx rfl (hb hby at_53) rfl k) ?_
        show own_Go X0 (Q0 Z p0 p1 h0 n0) 0 0 54 #[.val (.int p0), .val (.int p1), .val (.int (p1 &&& (3 : Int32))), .unset] [(.int ((8229 : Int32) + (p0 &&& (7 : Int32))))]
        refine own_st (fun _ k => XS.istoreN X0.here hx rfl (hb hby at_54) rfl (l' := #[.val (.int p0), .val (.int p1), .val (.int (p1 &&& (3 : Int32))), .val (.int ((8229 : Int32) + (p0 &&& (7 : Int32))))]) rfl k) ?_
        show own_Go X0 (Q0 Z p0 p1 h0 n0) 0 0 55 #[.val (.int p0), .val (.int p1), .val (.int (p1 &&& (3 : Int32))), .val (.int ((8229 : Int32) + (p0 &&& (7 : Int32))))] []
        refine own_st (fun _ k => XS.iloadN X0.here hx rfl (hb hby at_55) rfl k) ?_
        show own_Go X0 (Q0 Z p0 p1 h0 n0) 0 0 56 #[.val (.int p0), .val (.int p1), .val (.int (p1 &&& (3 : Int32))), .val (.int ((8229 : Int32) + (p0 &&& (7 : Int32))))] [(.int ((8229 : Int32) + (p0 &&& (7 : Int32))))]
        refine own_callS (W := 0) X0 hx hZ hown (hw _ (List.mem_of_getElem? (i := 0) rfl)) (hw _ (List.mem_of_getElem? (i := 1) rfl)) (hw _ (List.mem_of_getElem? (i := 2) rfl)) (hw _ (List.mem_of_getElem? (i := 3) rfl)) (by decide) (rm1 l Z a0 hw [] ((8229 : Int32) + (p0 &&& (7 : Int32)))  h0 n0 Z0 ) (by decide) (by decide) (by rw [hml]; rfl) [(.int ((8229 : Int32) + (p0 &&& (7 : Int32))))] [] (lenOf pd_0_0 rfl) rfl rfl (Nat.le_of_ble_eq_true rfl) (hb hby at_56) e0 (by decide) (by decide) ?_
        rintro _ T19 L19 X19 ⟨rfl, N19q, e19⟩
        have N_20 := Fr.app N0 N19q
        show own_Go X19 (Q0 Z p0 p1 h0 n0) 0 0 59 #[.val (.int p0), .val (.int p1), .val (.int (p1 &&& (3 : Int32))), .val (.int ((8229 : Int32) + (p0 &&& (7 : Int32))))] [(.int (own_lb ((8229 : Int32) + (p0 &&& (7 : Int32)))))]
        refine own_st (fun _ k => XS.iloadN X19.here hx rfl (hb hby at_59) rfl k) ?_
        show own_Go X19 (Q0 Z p0 p1 h0 n0) 0 0 60 #[.val (.int p0), .val (.int p1), .val (.int (p1 &&& (3 : Int32))), .val (.int ((8229 : Int32) + (p0 &&& (7 : Int32))))] [(.int ((8229 : Int32) + (p0 &&& (7 : Int32)))), (.int (own_lb ((8229 : Int32) + (p0 &&& (7 : Int32)))))]
        refine own_callS (W := 1) X19 hx hZ hown (hw _ (List.mem_of_getElem? (i := 4) rfl)) (hw _ (List.mem_of_getElem? (i := 5) rfl)) (hw _ (List.mem_of_getElem? (i := 6) rfl)) (hw _ (List.mem_of_getElem? (i := 7) rfl)) (by decide) (rm2 l Z a0 hw [] ((8229 : Int32) + (p0 &&& (7 : Int32)))  h0 n0 Z0 ) (by decide) (by decide) (by rw [hml]; rfl) [(.int ((8229 : Int32) + (p0 &&& (7 : Int32))))] [(.int (own_lb ((8229 : Int32) + (p0 &&& (7 : Int32)))))] (lenOf pd_0_0 rfl) rfl rfl (Nat.le_of_ble_eq_true rfl) (hb hby at_60) e19 (by decide) (by decide) ?_
        rintro _ T21 L21 X21 ⟨rfl, N21q, e21⟩
        have N_22 := Fr.app N_20 N21q
        show own_Go X21 (Q0 Z p0 p1 h0 n0) 0 0 63 #[.val (.int p0), .val (.int p1), .val (.int (p1 &&& (3 : Int32))), .val (.int ((8229 : Int32) + (p0 &&& (7 : Int32))))] [(.int (own_ex ((8229 : Int32) + (p0 &&& (7 : Int32))))), (.int (own_lb ((8229 : Int32) + (p0 &&& (7 : Int32)))))]
        have c63_23 : (own_lb ((8229 : Int32) + (p0 &&& (7 : Int32)))) = (own_ex ((8229 : Int32) + (p0 &&& (7 : Int32)))) := own_eq _
        refine own_st (fun _ k => XS.icmpNo X21.here hx rfl (hb hby at_63) rfl (teq c63_23).2 k) ?_
        show own_Go X21 (Q0 Z p0 p1 h0 n0) 0 0 66 #[.val (.int p0), .val (.int p1), .val (.int (p1 &&& (3 : Int32))), .val (.int ((8229 : Int32) + (p0 &&& (7 : Int32))))] []
        refine own_st (fun _ k => XS.iconst X21.here hx rfl (hb hby at_66) k) ?_
        show own_Go X21 (Q0 Z p0 p1 h0 n0) 0 0 67 #[.val (.int p0), .val (.int p1), .val (.int (p1 &&& (3 : Int32))), .val (.int ((8229 : Int32) + (p0 &&& (7 : Int32))))] [(.int (1 : Int32))]
        refine own_st (fun _ k => XS.goto X21.here hx rfl (pc0 := 67) (pc' := 71) rfl (hb hby at_67) (by decide) (by decide) k) ?_
        show own_Go X21 (Q0 Z p0 p1 h0 n0) 0 0 71 #[.val (.int p0), .val (.int p1), .val (.int (p1 &&& (3 : Int32))), .val (.int ((8229 : Int32) + (p0 &&& (7 : Int32))))] [(.int (1 : Int32))]
        refine own_retN X21 hx Bd.returns (by simp) hlk e21 (hb hby at_71) (by decide) (by decide) ?_
        exact ⟨rfl, N_22⟩
set_option maxRecDepth 65536 in
set_option maxHeartbeats 40000000 in
theorem comes_1 {Post : Tables → Env → Array Value → State → Outcome → State → Prop} (hpost : ∀ tb e args s v u, (limb_1_1.after args s (.returned v) u = true ∧ limb_1_2.after args s (.returned v) u = true ∧ True) → FrameEnd s (.returned v) u (Jvm.fieldLocs frame_1_writes args s ++ Jvm.arrayLocs frame_1_arrays args s ++ Jvm.staticLocs frame_1_statics s) 0 0 → Post tb e args s (.returned v) u) :
    ArmFor flags0 classFile x code maxLocals ret World_1 tables_1 room_1 Calls_1 rest_1 Pre_1 Post := by
  intro l hfl _ _ p e ha hc hk s m args below hf hA hF happ hP
  obtain ⟨hcalls, hrest, hpre⟩ := hP
  obtain ⟨-, -, -, hnamed, -, -, -, hat⟩ := (Spec.applies_iff hf).mp happ
  obtain ⟨hg, hn⟩ := and_e (Cond.before_iff.mp (show (Jvm.Cond.and given_1 narrow_1).before args s = true from hpre))
  obtain ⟨g1, g2⟩ := and_e hg
  obtain ⟨g3, g4⟩ := and_e g2
  obtain ⟨w0, w1, rfl⟩ : ∃ w0 w1 : Value, args = #[w0, w1] := by
    have hs : args.size = 2 := by simpa [Cond.value, given_1] using g1
    obtain ⟨L⟩ := args
    match L, hs with
    | [w0, w1], _ => exact ⟨w0, w1, rfl⟩
  have hw := fun d (hd : d ∈ tables_1) => atoms_spec (ws := Jvm.Cond.code x code maxLocals ret :: tables_1) hat d (List.mem_cons_of_mem _ hd)
  obtain ⟨i0, ei0⟩ := is_v g3
  obtain rfl : w0 = (.int i0) := Option.some.inj ei0
  obtain ⟨i1, ei1⟩ := is_v g4
  obtain rfl : w1 = (.int i1) := Option.some.inj ei1
  obtain ⟨n, o, h1, h2, h3, _, L, rfl, ⟨rfl, N⟩, hq⟩ := rm0 l s _ hw tables_1 i0 i1 s.heap s.heap.size (Nat.le_refl _) p e ha hc hk s m _ below hf ((Spec.applies_iff_loose hf).mp happ).1 ⟨rfl, State.Warmed39.refl s, rfl⟩ trivial
  refine ⟨n, _, h1, h2, h3, hpost _ _ _ _ _ _ ⟨Cond.after_iff.mpr rfl, Cond.after_iff.mpr (eq_i res_at (Term.int_eval (1)) rfl), trivial⟩ ⟨hq.1, hq.2.1, (hq.2.2.sift fun y hy => Or.inr (N y hy)).mono (by decide) (by decide)⟩⟩
theorem main_1_1 : Claimed_1_1 := comes_1 fun _ _ _ _ _ _ h hF => ⟨h.1, hF⟩
theorem main_1_2 : Claimed_1_2 := comes_1 fun _ _ _ _ _ _ h hF => ⟨h.2.1, hF⟩
end Jvm.Pilot.@@N@@
namespace Jvm.Pilot.@@N@@
open Jvm Jvm.ClassFile Sem Op Lib Jvm.Free Jvm.Stand Jvm.Pilot.@@N@@.Jvm.D
/-! MADE BY PROGRAM (witnessworld.py) out of the Statement's table words and the real class files: 9 classes; the members and pool entries that the words name. The judged class is class 1, her method 2. -/
namespace start1
open Jvm.ClassFile
def u (s : String) : CpInfo := .utf8 (stringToUtf16 s)
/-- a pool by its gaps: so many unusable entries, then the entry; so many at the end -/
def gap : Nat → List CpInfo → List CpInfo
  | 0, r => r
  | n + 1, r => .unusable :: gap n r
def poolList (es : List (Nat × CpInfo)) (last : Nat) : List CpInfo := es.foldr (fun e r => gap e.1 (e.2 :: r)) (gap last [])
def pool (es : List (Nat × CpInfo)) (last : Nat) : Array CpInfo := ⟨poolList es last⟩
def fileOf (pool : Array CpInfo) (this : Nat) (attrs : Array Attribute := #[]) (ms : Array MethodInfo := #[]) (fl : Nat := 33) (sup : Nat := 0) (ifs : Array Nat := #[]) (fds : Array FieldInfo := #[]) : ClassFile where
  minorVersion := 0
  majorVersion := 65
  constantPool := pool
  accessFlags := fl
  thisClass := this
  superClass := sup
  interfaces := ifs
  fields := fds
  methods := ms
  attributes := attrs
def plain (name : String) (sup : Option ClassId) : Class where
  name := name
  kind := .ordinary
  loader := none
  accessFlags := 33
  super := sup
  interfaces := #[]
  cf := none
  fields := #[]
  methods := #[]
  instanceTypes := #[]
  staticTypes := #[]
  resolved := #[]
  callSites := []
  init := .initialized
  statics := none
  mirror := none

def pool0 : Array CpInfo := pool [(5, u "<init>"), (0, u "()V"), (1, .class_ 10), (1, u "java/lang/Object")] 113

def k0m0 : Method := { name := "<init>", desc := "()V", sig := { parameters := [], returnType := none }, accessFlags := 1, code := none }
/-- java/lang/Object -/
def k0 : Class := { plain "java/lang/Object" none with
  accessFlags := 33
  interfaces := #[]
  cf := some (fileOf pool0 8 #[] #[{ accessFlags := 1, nameIndex := 5, descriptorIndex := 6, attributes := #[] }] 33 0 #[] #[])
  fields := #[]
  methods := #[k0m0]
  instanceTypes := #[]
  staticTypes := #[]
  resolved := Array.replicate 124 none
  statics := none }

def pool1 : Array CpInfo := pool [(2, .class_ 4), (1, u "java/lang/Object"), (0, u "<init>"), (0, u "()V"), (0, .methodref 8 9), (0, .class_ 10), (0, .nameAndType 11 12), (0, u "com/example/stopbit/stopbit/Escapes"), (0, u "isLineBreak"), (0, u "(I)Z"), (0, .methodref 14 15), (0, .class_ 16), (0, .nameAndType 17 12), (0, u "com/example/stopbit/stopbit/EscapesIsLineBreakPinLaw"), (0, u "expected"), (3, u "law"), (0, u "(II)Z")] 2

def k1m0 : Method := { name := "<init>", desc := "()V", sig := { parameters := [], returnType := none }, accessFlags := 2, code := none }
def k1c1 : Code := { maxStack := 2, maxLocals := 1, code := method_2_code, exceptionTable := #[], attributes := #[] }
def k1m1 : Method := { name := "expected", desc := "(I)Z", sig := { parameters := [.int], returnType := some .boolean }, accessFlags := 10, code := some k1c1 }
def k1c2 : Code := { maxStack := 3, maxLocals := 4, code := code, exceptionTable := #[], attributes := #[] }
def k1m2 : Method := { name := "law", desc := "(II)Z", sig := { parameters := [.int, .int], returnType := some .boolean }, accessFlags := 9, code := some k1c2 }
/-- com/example/stopbit/stopbit/EscapesIsLineBreakPinLaw -/
def k1 : Class := { plain "com/example/stopbit/stopbit/EscapesIsLineBreakPinLaw" (some 0) with
  accessFlags := 49
  interfaces := #[]
  cf := some (fileOf pool1 14 #[] #[{ accessFlags := 2, nameIndex := 5, descriptorIndex := 6, attributes := #[] }, { accessFlags := 10, nameIndex := 17, descriptorIndex := 12, attributes := #[] }, { accessFlags := 9, nameIndex := 21, descriptorIndex := 22, attributes := #[] }] 49 2 #[] #[])
  fields := #[]
  methods := #[k1m0, k1m1, k1m2]
  instanceTypes := #[]
  staticTypes := #[]
  resolved := Array.replicate 25 none
  statics := none }

def pool2 : Array CpInfo := pool [(2, .class_ 4), (1, u "java/lang/Object"), (0, u "<init>"), (0, u "()V"), (5, u "(I)Z"), (0, .class_ 14), (0, u "com/example/stopbit/stopbit/Escapes"), (98, u "HEX_DIGITS"), (0, u "[C"), (6, u "NEXT_LINE"), (0, u "I"), (2, u "LINE_SEPARATOR"), (1, u "PARAGRAPH_SEPARATOR"), (5, u "isLineBreak")] 35

def k2m0 : Method := { name := "<init>", desc := "()V", sig := { parameters := [], returnType := none }, accessFlags := 2, code := none }
def k2c1 : Code := { maxStack := 2, maxLocals := 1, code := prog_24_method_3_code, exceptionTable := #[], attributes := #[] }
def k2m1 : Method := { name := "isLineBreak", desc := "(I)Z", sig := { parameters := [.int], returnType := some .boolean }, accessFlags := 8, code := some k2c1 }
/-- com/example/stopbit/stopbit/Escapes -/
def k2 : Class := { plain "com/example/stopbit/stopbit/Escapes" (some 0) with
  accessFlags := 48
  interfaces := #[]
  cf := some (fileOf pool2 13 #[] #[{ accessFlags := 2, nameIndex := 5, descriptorIndex := 6, attributes := #[] }, { accessFlags := 8, nameIndex := 133, descriptorIndex := 12, attributes := #[] }] 48 2 #[] #[{ accessFlags := 26, nameIndex := 113, descriptorIndex := 114, attributes := #[] }, { accessFlags := 26, nameIndex := 121, descriptorIndex := 122, attributes := #[] }, { accessFlags := 26, nameIndex := 125, descriptorIndex := 122, attributes := #[] }, { accessFlags := 26, nameIndex := 127, descriptorIndex := 122, attributes := #[] }])
  fields := #[{ name := "HEX_DIGITS", type := (.array .char), accessFlags := 26, slot := 0, constantValue := 0 }, { name := "NEXT_LINE", type := .int, accessFlags := 26, slot := 1, constantValue := 0 }, { name := "LINE_SEPARATOR", type := .int, accessFlags := 26, slot := 2, constantValue := 0 }, { name := "PARAGRAPH_SEPARATOR", type := .int, accessFlags := 26, slot := 3, constantValue := 0 }]
  methods := #[k2m0, k2m1]
  instanceTypes := #[]
  staticTypes := #[(.array .char), .int, .int, .int]
  resolved := Array.replicate 169 none
  statics := none }

def pool3 : Array CpInfo := pool [(1, u "java/lang/Cloneable"), (0, .class_ 1), (0, u "java/lang/Object"), (0, .class_ 3)] 3

/-- java/lang/Cloneable -/
def k3 : Class := { plain "java/lang/Cloneable" (some 0) with
  accessFlags := 1537
  interfaces := #[]
  cf := some (fileOf pool3 2 #[] #[] 1537 4 #[] #[])
  fields := #[]
  methods := #[]
  instanceTypes := #[]
  staticTypes := #[]
  resolved := Array.replicate 8 none
  statics := none }

def pool4 : Array CpInfo := pool [(1, u "java/io/Serializable"), (0, .class_ 1), (0, u "java/lang/Object"), (0, .class_ 3)] 3

/-- java/io/Serializable -/
def k4 : Class := { plain "java/io/Serializable" (some 0) with
  accessFlags := 1537
  interfaces := #[]
  cf := some (fileOf pool4 2 #[] #[] 1537 4 #[] #[])
  fields := #[]
  methods := #[]
  instanceTypes := #[]
  staticTypes := #[]
  resolved := Array.replicate 8 none
  statics := none }

/-- the primitive byte -/
def k5 : Class := { plain "byte" none with kind := .primitive 'B', accessFlags := 0x411 }
/-- [B -/
def k6 : Class := { plain "[B" (some 0) with kind := .array 5 .byte, interfaces := #[3, 4], accessFlags := 1041 }

/-- the primitive int -/
def k7 : Class := { plain "int" none with kind := .primitive 'I', accessFlags := 0x411 }
/-- [I -/
def k8 : Class := { plain "[I" (some 0) with kind := .array 7 .int, interfaces := #[3, 4], accessFlags := 1041 }

def heap : Heap := #[]
def classes : Array Class := #[k0, k1, k2, k3, k4, k5, k6, k7, k8]
def interned : List (Array UInt16 × Addr) := []
def slotsUsed : Nat := 0
def theMethod : MethodId := ⟨1, 2⟩
def args0 : Array Value := #[.int 5, .int 7]
def aboutOver (below : List Frame) : State where
  vm := { classes := classes, interned := interned.toArray }
  heap := heap
  slotsUsed := slotsUsed
  threads := #[{ frames := .invoking theMethod args0 :: below }]
def below0 : List Frame := [.native { method := ⟨0, 0⟩, args := #[] }]
def about1 : State := aboutOver below0
def p0 : Program := .bare "" "" ""
def e0 : Env := launch0.env 0 0 0
theorem w_frames : about1.frames = Frame.invoking theMethod args0 :: below0 := rfl
set_option maxRecDepth 65536 in
theorem w_args : argsFit about1.vm theMethod args0 = true := by decide +kernel
set_option maxRecDepth 65536 in
theorem w_heap : heapFits about1 = true := by decide +kernel
set_option maxRecDepth 65536 in
theorem w_runnable : about1.curStatus? = some .runnable := by decide +kernel
set_option maxRecDepth 65536 in
theorem w_alone : about1.alone = true := by decide +kernel
set_option maxRecDepth 65536 in
theorem w_named : about1.methodNamed? x = some theMethod := by decide +kernel
set_option maxRecDepth 65536 in
theorem w_hears : about1.hears theMethod below0 = true := by decide +kernel
set_option maxRecDepth 65536 in
theorem w_ripe : about1.ripe theMethod args0 below0 = true := by decide +kernel
theorem w_running : about1.status = .running := rfl
set_option maxRecDepth 65536 in
theorem w_room : about1.hasRoom e0.platform room_1 = true :=
  launch0.hasRoom_least _ room_1 (by decide +kernel) (by decide +kernel) (by decide +kernel) (by decide +kernel) (by decide +kernel) (by decide +kernel)
theorem allAtoms_all (ts : List Jvm.Cond) (a : Array Jvm.Value) (st : Jvm.State) : (allAtoms ts).before a st = ts.all (fun c => c.before a st) := by
  induction ts with
  | nil => rfl
  | cons c t ih =>
    show (Jvm.Cond.and c (allAtoms t)).before a st = _
    rw [Jvm.Cond.before_and, ih, List.all_cons]
def words1 : List Jvm.Cond := Jvm.Cond.code x code maxLocals ret :: tables_1
/-- a 'code' word, met by the world's own term for the bytes: nothing is compared byte by byte -/
theorem code_word {y : MethodName} {bytes : ByteArray} {mx : Nat} {rt : Option FieldType} {a : Array Value} {s : State} {m : MethodId} {meth : Method} {c : Code} (h1 : s.methodNamed? y = some m) (h2 : s.vm.method? m = some meth) (h3 : meth.code = some c) (h4 : c.code = bytes)
    (h5 : (c.maxLocals == mx && c.exceptionTable.isEmpty && decide (c.maxStack ≤ mostOperands) && decide (meth.sig.returnType = rt) && !meth.locks && decide (parseMethodDescriptor y.desc = some meth.sig)) = true) : (Jvm.Cond.code y bytes mx rt).before a s = true := by
  simp only [Bool.and_eq_true, beq_iff_eq, Bool.not_eq_true', decide_eq_true_eq] at h5
  obtain ⟨⟨⟨⟨⟨g1, g2⟩, g3⟩, g4⟩, g5⟩, g6⟩ := h5
  simp [Cond.before, Cond.holds, Cond.value, h1, h2, h3, h4, g1, g2, g3, g4, g5, g6]
def isCode : Jvm.Cond → Bool
  | .code _ _ _ _ => true
  | _ => false
theorem all_split {L : List Jvm.Cond} {P : Jvm.Cond → Bool} (h1 : L.all (fun c => isCode c || P c) = true) (h2 : ∀ c ∈ L.filter isCode, P c = true) : L.all P = true := by
  refine List.all_eq_true.mpr fun c hc => ?_
  have h := List.all_eq_true.mp h1 c hc
  rcases Bool.eq_false_or_eq_true (isCode c) with hi | hi
  · exact h2 c (List.mem_filter.mpr ⟨hc, hi⟩)
  · simpa [hi] using h
set_option maxRecDepth 65536 in
theorem w_c0 : (Jvm.Cond.code x code maxLocals ret).before args0 about1 = true := code_word (m := ⟨1, 2⟩) (meth := k1m2) (c := k1c2) (by decide +kernel) rfl rfl rfl (by decide +kernel)
set_option maxRecDepth 65536 in
theorem w_c1 : (Jvm.Cond.code ({ cls := "com/example/stopbit/stopbit/Escapes", name := "isLineBreak", desc := "(I)Z" } : Jvm.MethodName) prog_24_method_3_code (1 : Nat) (Option.some Jvm.ClassFile.FieldType.boolean)).before args0 about1 = true := code_word (m := ⟨2, 1⟩) (meth := k2m1) (c := k2c1) (by decide +kernel) rfl rfl rfl (by decide +kernel)
set_option maxRecDepth 65536 in
theorem w_c2 : (Jvm.Cond.code ({ cls := "com/example/stopbit/stopbit/EscapesIsLineBreakPinLaw", name := "expected", desc := "(I)Z" } : Jvm.MethodName) method_2_code (1 : Nat) (Option.some Jvm.ClassFile.FieldType.boolean)).before args0 about1 = true := code_word (m := ⟨1, 1⟩) (meth := k1m1) (c := k1c1) (by decide +kernel) rfl rfl rfl (by decide +kernel)
def codes1 : List Jvm.Cond := [Jvm.Cond.code x code maxLocals ret, Jvm.Cond.code ({ cls := "com/example/stopbit/stopbit/Escapes", name := "isLineBreak", desc := "(I)Z" } : Jvm.MethodName) prog_24_method_3_code (1 : Nat) (Option.some Jvm.ClassFile.FieldType.boolean), Jvm.Cond.code ({ cls := "com/example/stopbit/stopbit/EscapesIsLineBreakPinLaw", name := "expected", desc := "(I)Z" } : Jvm.MethodName) method_2_code (1 : Nat) (Option.some Jvm.ClassFile.FieldType.boolean)]
set_option maxRecDepth 65536 in
theorem codes_eq : words1.filter isCode = codes1 := rfl
theorem w_codes : ∀ c ∈ words1.filter isCode, c.before args0 about1 = true := by
  rw [codes_eq]
  intro c hc
  simp only [codes1, List.mem_cons, List.not_mem_nil, or_false] at hc
  rcases hc with rfl | rfl | rfl
  · exact w_c0
  · exact w_c1
  · exact w_c2
set_option maxRecDepth 65536 in
theorem w_t1 : words1.all (fun c => isCode c || c.before args0 about1) = true := by decide +kernel
theorem w_tables : (allAtoms (Jvm.Cond.code x code maxLocals ret :: tables_1)).before args0 about1 = true := by
  rw [allAtoms_all]
  show words1.all (fun c => c.before args0 about1) = true
  refine all_split ?_ w_codes
  rw [w_t1]
set_option maxRecDepth 65536 in
theorem w_case : (Jvm.Cond.and given_1 narrow_1).before args0 about1 = true := by decide +kernel
theorem w_applies : (headSpec (Jvm.Cond.code x code maxLocals ret :: tables_1) room_1).applies x e0.platform about1 = true :=
  (Spec.applies_iff w_frames).mpr ⟨w_running, w_runnable, w_alone, w_named, w_hears, w_ripe, w_room, w_tables⟩
theorem atStart : AtStart classFile x code maxLocals ret World_1 tables_1 room_1 Calls_1 rest_1 Pre_1 launch0 p0 e0 about1 theMethod args0 below0 :=
  ⟨lists_1, trivial, launch0.admits_env _ _ _, launch0.least_env, fairChoices_fair.cas, fairChoices_fair.clock, w_frames, w_args, w_heap, w_applies, trivial, trivial, w_case⟩
end start1
theorem witness_1 : WitnessClaimed_1 := ⟨start1.p0, start1.e0, start1.about1, start1.theMethod, start1.args0, start1.below0, start1.atStart⟩
end Jvm.Pilot.@@N@@
