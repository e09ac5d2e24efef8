import JvmDerived
import JvmDerived.Pilot.@@N@@Statement
import JvmDerived.Pilot.@@N@@Code
set_option linter.unusedVariables false
set_option linter.unusedSimpArgs false
namespace Jvm.Pilot.@@N@@
open Jvm Jvm.ClassFile Sem Op Lib Jvm.Free Jvm.Stand Jvm.LawKit Jvm.RoadKit Bundle Jvm.Pilot.@@N@@.Jvm.D
abbrev oU : Slot := .unset
abbrev oS : Slot := .second
abbrev oN : Slot := .val .null
abbrev oI (x : Int32) : Slot := .val (.int x)
abbrev oJ (x : Int64) : Slot := .val (.long x)
abbrev oR (a : Addr) : Slot := .val (.ref a)
section Own
variable {p : Program} {l : Launch} {e : Env} {R : Room} {s : State} {m : MethodId} {args : Array Value} {below : List Frame} {meth : Method} {c : Code} {T : State} {locs : List Loc} {cells slots : Nat} {Q : Option Value → Heap → List Loc → Prop} {kc ks : Nat} {Z : State} {a0 : Array Value} {h : Heap}
/-- from the state st the body comes to its end, and Q holds there -/
def own_Fin (p : Program) (e : Env) (below : List Frame) (s : State) (Q : Option Value → Heap → List Loc → Prop) (kc ks : Nat) (st : State) : Prop :=
  ∃ s₂ o, Steps p.tables e below st s₂ ∧ s₂.status = .running ∧ Ended s₂ below o ∧ ∃ v L, o = .returned v ∧ Q v s₂.heap L ∧ FrameEnd s o s₂ L kc ks
abbrev own_Go (X : Stand p l e R s m args below meth c T locs cells slots) (Q : Option Value → Heap → List Loc → Prop) (kc ks : Nat) (pc : Nat) (Ls : Array Slot) (S : List Value) : Prop := own_Fin p e below s Q kc ks (T.setTop (mkF m pc Ls S))
theorem own_st {a b : State} (hst : ∀ t, Steps p.tables e below b t → Steps p.tables e below a t) (k : own_Fin p e below s Q kc ks b) : own_Fin p e below s Q kc ks a := by
  obtain ⟨s₂, o, h1, r⟩ := k
  exact ⟨s₂, o, hst _ h1, r⟩
theorem own_cast {g g' : JFrame} (q : g = g') (k : own_Fin p e below s Q kc ks (T.setTop g')) : own_Fin p e below s Q kc ks (T.setTop g) := q ▸ k
theorem own_end (X : Stand p l e R s m args below meth c T locs cells slots) {v : Option Value} {a : State} (hv : meth.sig.returnType = none → v = none) (hlocks : meth.locks = false) (eT : T.heap = h)
    (hs : ∀ fs, (∀ (f : JFrame) (acts : List Action), f.method = m → f.locked = none → f.entered = [] → (doReturn e (T.setTop f) acts v).1 = T.setFrames fs) → Steps p.tables e below a (T.setFrames fs))
    (hc : cells ≤ kc) (hl : slots ≤ ks) (hq : Q v h locs) : own_Fin p e below s Q kc ks a := by
  obtain ⟨fs, hr, hrun, hended, hW, hsame⟩ := X.leave hv hlocks
  exact ⟨_, _, hs fs hr, hrun, hended, _, _, rfl, by show Q v T.heap locs; rw [eT]; exact hq, ⟨_, rfl⟩, hW, hsame.mono hc hl⟩
theorem own_retV (X : Stand p l e R s m args below meth c T locs cells slots) (hx : p.tables.exec = Jvm.exec) (hret : meth.sig.returnType = none) (hlocks : meth.locks = false) (eT : T.heap = h) {pc : Nat} {Ls : Array Slot} (hd : decode c.code pc = .ok (.return_, 1)) (hc : cells ≤ kc) (hl : slots ≤ ks) (hq : Q none h locs) :
    own_Fin p e below s Q kc ks (T.setTop (mkF m pc Ls [])) := own_end X (fun _ => rfl) hlocks eT (fun _ hr => X.returnOut hx hret hd hr) hc hl hq
theorem own_retN (X : Stand p l e R s m args below meth c T locs cells slots) (hx : p.tables.exec = Jvm.exec) {t : FieldType} (hret : meth.sig.returnType = some t) (ht : t = .boolean ∨ t = .byte ∨ t = .char ∨ t = .short) (hlocks : meth.locks = false) (eT : T.heap = h) {pc : Nat} {Ls : Array Slot} {z : Int32} {rest : List Value} (hd : decode c.code pc = .ok (.ireturn, 1)) (hc : cells ≤ kc) (hl : slots ≤ ks) (hq : Q (some (.int (nar t z))) h locs) :
    own_Fin p e below s Q kc ks (T.setTop (mkF m pc Ls (.int z :: rest))) := own_end X (fun h => by rw [hret] at h; cases h) hlocks eT (fun _ hr => retN X hx hret ht hd hr) hc hl hq
theorem own_retI (X : Stand p l e R s m args below meth c T locs cells slots) (hx : p.tables.exec = Jvm.exec) (hret : meth.sig.returnType = some .int) (hlocks : meth.locks = false) (eT : T.heap = h) {pc : Nat} {Ls : Array Slot} {z : Int32} {rest : List Value} (hd : decode c.code pc = .ok (.ireturn, 1)) (hc : cells ≤ kc) (hl : slots ≤ ks) (hq : Q (some (.int z)) h locs) :
    own_Fin p e below s Q kc ks (T.setTop (mkF m pc Ls (.int z :: rest))) := own_end X (fun h => by rw [hret] at h; cases h) hlocks eT (fun _ hr => retOut X hx hret rfl (Or.inl ⟨rfl, Or.inl rfl, _, rfl⟩) hd hr) hc hl hq
theorem own_retJ (X : Stand p l e R s m args below meth c T locs cells slots) (hx : p.tables.exec = Jvm.exec) (hret : meth.sig.returnType = some .long) (hlocks : meth.locks = false) (eT : T.heap = h) {pc : Nat} {Ls : Array Slot} {z : Int64} {rest : List Value} (hd : decode c.code pc = .ok (.lreturn, 1)) (hc : cells ≤ kc) (hl : slots ≤ ks) (hq : Q (some (.long z)) h locs) :
    own_Fin p e below s Q kc ks (T.setTop (mkF m pc Ls (.long z :: rest))) := own_end X (fun h => by rw [hret] at h; cases h) hlocks eT (fun _ hr => retOut X hx hret rfl (Or.inr (Or.inl ⟨rfl, rfl, _, rfl⟩)) hd hr) hc hl hq
theorem own_retA (X : Stand p l e R s m args below meth c T locs cells slots) (hx : p.tables.exec = Jvm.exec) {t : FieldType} (hret : meth.sig.returnType = some t) (ht : t.isReference = true) (hlocks : meth.locks = false) (eT : T.heap = h) {pc : Nat} {Ls : Array Slot} {a : Addr} {rest : List Value} (hd : decode c.code pc = .ok (.areturn, 1)) (hc : cells ≤ kc) (hl : slots ≤ ks) (hq : Q (some (.ref a)) h locs) :
    own_Fin p e below s Q kc ks (T.setTop (mkF m pc Ls (.ref a :: rest))) := own_end X (fun h => by rw [hret] at h; cases h) hlocks eT (fun _ hr => retOut X hx hret (by cases t <;> first | rfl | cases ht) (Or.inr (Or.inr (Or.inr (Or.inr ⟨rfl, ht, rfl⟩)))) hd hr) hc hl hq
theorem own_nar1 : nar .boolean 1 = 1 := by decide
theorem own_nar0 : nar .boolean 0 = 0 := by decide
theorem own_lrem {g : JFrame} {target : State} (X : Stand p l e R s m args below meth c T locs cells slots) (hx : p.tables.exec = Jvm.exec) (hg : g.method = m) {x y : Int64} {rest : List Value} (hd : decode c.code g.pc = .ok (.lrem, 1)) (hs : g.stack = .long y :: .long x :: rest) (hy : y ≠ 0)
    (hr : Steps p.tables e below (T.setTop { g with pc := g.pc + 1, stack := .long (x % y) :: rest }) target) : Steps p.tables e below (T.setTop g) target := by
  have q : x - x / y * y = x % y := lrem_mod x y
  exact XS.lrem X.here hx hg hd hs hy (by rw [q]; exact hr)
/-! the calls -/
variable {y z : MethodName} {bytes : ByteArray} {maxL : Nat} {ret : Option FieldType} {rm : Room} {W : Nat} {as' : Array Value} {Qc : Option Value → Heap → List Loc → Prop} {own C : String} {index : Nat}
theorem own_callS (X : Stand p l e R s m args below meth c T locs cells slots) (hx : p.tables.exec = Jvm.exec) (hZ : Z.Warmed39 s.vm) (hown : s.vm.findClass own = some m.cls)
    (wl : (Cond.methodLink own index y).before a0 Z = true) (ws : (Cond.static y).before a0 Z = true) (wz : (Cond.initialized y.cls).before a0 Z = true) (wc : (Cond.code y bytes maxL ret).before a0 Z = true)
    (hy : y.cls ≠ "java/lang/invoke/MethodHandle" ∧ y.cls ≠ "java/lang/invoke/VarHandle")
    (hM : MetFree l y (head1 [Cond.code y bytes maxL ret] rm) (fun a U => a = as' ∧ Z.Warmed39 U.vm ∧ U.heap = h) (fun _ _ _ _ _ => True) (fun _ U o U' => ∃ v L, o = .returned v ∧ Qc v U'.heap L ∧ FrameEnd U o U' L rm.cells rm.slots))
    (hf : rm.frames + 1 ≤ R.frames) (hl : W + (maxL + 11) + rm.locals ≤ R.locals) {pc : Nat} {Ls : Array Slot} {S : List Value} (hsize : Ls.size = c.maxLocals) (argsL rest : List Value)
    (hlen : ∀ sig, parseMethodDescriptor y.desc = some sig → argsL.length = sig.parameters.length) (hS : S = argsL.reverse ++ rest) (ha : argsL.toArray = as') (hW : (rest.map fun v => v.category).sum ≤ W)
    (hd : decode c.code pc = .ok (.invokestatic index, 3)) (eT : T.heap = h) (hcl : cells + rm.cells ≤ R.cells) (hsl : slots + rm.slots ≤ R.slots)
    (k : ∀ (v : Option Value) (T' : State) (L' : List Loc) (X' : Stand p l e R s m args below meth c T' (locs ++ L') (cells + rm.cells) (slots + rm.slots)), Qc v T'.heap L' → own_Fin p e below s Q kc ks (T'.setTop (mkF m (pc + 3) Ls (v.toList ++ rest)))) :
    own_Fin p e below s Q kc ks (T.setTop (mkF m pc Ls S)) := by
  subst hS
  obtain ⟨v, _, ⟨T', L1, k1, n1⟩, -, X', ⟨L', hQ, l1, y1, z1⟩, st⟩ := Jvm.LawKit.callS X hx (y := y) hown (mvT hZ wl) (mvT hZ ws) (mvT hZ wz) (mvT hZ wc) hy (backOf (W := W) hM hZ wc wz hf hl) (g := mkF m pc Ls (argsL.reverse ++ rest)) rfl hsize (argsL := argsL) (rest := rest) hlen rfl (by show 2 * 0 + _ ≤ _; omega) hd (fun _ _ => ⟨ha, eT, hcl, hsl⟩)
  dsimp only [Pt.U, Pt.locs, Pt.cells, Pt.slots] at X' l1 y1 z1 st hQ
  subst l1 y1 z1
  exact own_st (fun t => st t) (k v T' L' X' hQ)
theorem own_callI (X : Stand p l e R s m args below meth c T locs cells slots) (hx : p.tables.exec = Jvm.exec) (hZ : Z.Warmed39 s.vm) (hown : s.vm.findClass own = some m.cls)
    (wl : (Cond.methodLink own index y).before a0 Z = true) (ws : (Cond.instanceMethod y).before a0 Z = true) (wz : (Cond.initialized y.cls).before a0 Z = true) (wc : (Cond.code y bytes maxL none).before a0 Z = true)
    (hn : y.name = "<init>") (hy : y.cls ≠ "java/lang/invoke/MethodHandle" ∧ y.cls ≠ "java/lang/invoke/VarHandle")
    (hM : MetFree l y (head1 [Cond.code y bytes maxL none] rm) (fun a U => a = as' ∧ Z.Warmed39 U.vm ∧ U.heap = h) (fun _ _ _ _ _ => True) (fun _ U o U' => ∃ v L, o = .returned v ∧ Qc v U'.heap L ∧ FrameEnd U o U' L rm.cells rm.slots))
    (hf : rm.frames + 1 ≤ R.frames) (hl : W + (maxL + 11) + rm.locals ≤ R.locals) {pc : Nat} {Ls : Array Slot} {S : List Value} (hsize : Ls.size = c.maxLocals) (a : Addr) (argsL rest : List Value)
    (hlen : ∀ sig, parseMethodDescriptor y.desc = some sig → argsL.length = sig.parameters.length) (hS : S = argsL.reverse ++ .ref a :: rest) (ha : (Value.ref a :: argsL).toArray = as') (hW : (rest.map fun v => v.category).sum ≤ W)
    (hd : decode c.code pc = .ok (.invokespecial index, 3)) (eT : T.heap = h) (hcl : cells + rm.cells ≤ R.cells) (hsl : slots + rm.slots ≤ R.slots)
    (k : ∀ (v : Option Value) (T' : State) (L' : List Loc) (X' : Stand p l e R s m args below meth c T' (locs ++ L') (cells + rm.cells) (slots + rm.slots)), Qc v T'.heap L' → own_Fin p e below s Q kc ks (T'.setTop (mkF m (pc + 3) Ls (v.toList ++ rest)))) :
    own_Fin p e below s Q kc ks (T.setTop (mkF m pc Ls S)) := by
  subst hS
  obtain ⟨v, _, ⟨T', L1, k1, n1⟩, -, X', ⟨L', hQ, l1, y1, z1⟩, st⟩ := X.specialBack hx (y := y) hn hown (mvT hZ wl) (mvT hZ ws) (mvT hZ wc) hy (backOf (W := W) hM hZ wc wz hf hl) (g := mkF m pc Ls (argsL.reverse ++ .ref a :: rest)) rfl hsize (Steps.refl _) (a := a) (argsL := argsL) (rest := rest) hlen rfl (by show 2 * 0 + _ ≤ _; omega) hd (fun _ _ => ⟨ha, eT, hcl, hsl⟩)
  dsimp only [Pt.U, Pt.locs, Pt.cells, Pt.slots] at X' l1 y1 z1 st hQ
  subst l1 y1 z1
  exact own_st (fun t => st.trans) (k v T' L' X' hQ)
theorem own_callV (X : Stand p l e R s m args below meth c T locs cells slots) (hx : p.tables.exec = Jvm.exec) (hZ : Z.Warmed39 s.vm) (hown : s.vm.findClass own = some m.cls)
    (wl : (Cond.methodLink own index y).before a0 Z = true) (wd : (Cond.declares y).before a0 Z = true) (wsel : (Cond.selects C y y).before a0 Z = true) (ws : (Cond.instanceMethod y).before a0 Z = true) (wz : (Cond.initialized y.cls).before a0 Z = true) (wc : (Cond.code y bytes maxL ret).before a0 Z = true)
    (hy : y.cls ≠ "java/lang/invoke/MethodHandle" ∧ y.cls ≠ "java/lang/invoke/VarHandle")
    (hM : MetFree l y (head1 [Cond.code y bytes maxL ret] rm) (fun a U => a = as' ∧ Z.Warmed39 U.vm ∧ U.heap = h) (fun _ _ _ _ _ => True) (fun _ U o U' => ∃ v L, o = .returned v ∧ Qc v U'.heap L ∧ FrameEnd U o U' L rm.cells rm.slots))
    (hf : rm.frames + 1 ≤ R.frames) (hl : W + (maxL + 11) + rm.locals ≤ R.locals) {pc : Nat} {Ls : Array Slot} {S : List Value} (hsize : Ls.size = c.maxLocals) (a : Addr) (argsL rest : List Value)
    (hlen : ∀ sig, parseMethodDescriptor y.desc = some sig → argsL.length = sig.parameters.length) (hS : S = argsL.reverse ++ .ref a :: rest) (ha : (Value.ref a :: argsL).toArray = as') (hW : (rest.map fun v => v.category).sum ≤ W)
    (hd : decode c.code pc = .ok (.invokevirtual index, 3)) (eT : T.heap = h) (EA : Exa Z h a C) (hcl : cells + rm.cells ≤ R.cells) (hsl : slots + rm.slots ≤ R.slots)
    (k : ∀ (v : Option Value) (T' : State) (L' : List Loc) (X' : Stand p l e R s m args below meth c T' (locs ++ L') (cells + rm.cells) (slots + rm.slots)), Qc v T'.heap L' → own_Fin p e below s Q kc ks (T'.setTop (mkF m (pc + 3) Ls (v.toList ++ rest)))) :
    own_Fin p e below s Q kc ks (T.setTop (mkF m pc Ls S)) := by
  subst hS
  obtain ⟨cq, kq, q1, q2, q3⟩ := isOf hZ eT EA
  obtain ⟨v, _, ⟨T', L1, k1, n1⟩, -, X', ⟨L', hQ, l1, y1, z1⟩, st⟩ := X.virtualBack hx (y := y) (z := y) hown (mvT hZ wl) (mvT hZ wd) (notFace_of_selects (args := #[]) (mvT hZ wsel)) (mvT hZ wsel) (mvT hZ ws) hy (backOf (W := W) hM hZ wc wz hf hl) q1 q3 (g := mkF m pc Ls (argsL.reverse ++ .ref a :: rest)) rfl hsize (Steps.refl _) (argsL := argsL) (rest := rest) hlen rfl (by show 2 * 0 + _ ≤ _; omega) hd (fun _ _ => ⟨ha, eT, hcl, hsl⟩)
  dsimp only [Pt.U, Pt.locs, Pt.cells, Pt.slots] at X' l1 y1 z1 st hQ
  subst l1 y1 z1
  exact own_st (fun t => st.trans) (k v T' L' X' hQ)
/-! arrays -/
variable {a : Addr} {kA : ClassId} {n j x : Int32} {vs : List Value} {dv : Value}
theorem own_stI (X : Stand p l e R s m args below meth c T locs cells slots) (hx : p.tables.exec = Jvm.exec) (hZ : Z.Warmed39 s.vm) (eT : T.heap = h) (V : Arv Z h a kA .int n vs dv) (q : ¬ j < 0 ∧ j < n) (hi : j.toNatClampNeg < vs.length) {g : JFrame} (hg : g.method = m) {rest : List Value} (hs : g.stack = .int x :: .int j :: .ref a :: rest) (hd : decode c.code g.pc = .ok (.iastore, 1)) :
    ∃ T' h', Stand p l e R s m args below meth c T' (locs ++ [⟨a, j.toNatClampNeg⟩]) cells slots ∧ T'.heap = h' ∧ Wr h h' a j.toNatClampNeg (.int x) ∧ Arv Z h' a kA .int n (vs.set j.toNatClampNeg (.int x)) dv ∧ ∀ target, Steps p.tables e below (T'.setTop { g with pc := g.pc + 1, stack := rest }) target → Steps p.tables e below (T.setTop g) target := by
  obtain ⟨cl, Ar, q1, S1, N1, H1, G1⟩ := V
  obtain ⟨T', h', X', e', W', st⟩ := stI X hx hZ eT Ar (inb_of S1 q) hg hs hd
  exact ⟨T', h', X', e', W', Arv.set Ar q1 S1 N1 H1 G1 rfl W' _ rfl hi, st⟩
theorem own_stB (X : Stand p l e R s m args below meth c T locs cells slots) (hx : p.tables.exec = Jvm.exec) (hZ : Z.Warmed39 s.vm) (eT : T.heap = h) (V : Arv Z h a kA .byte n vs dv) (q : ¬ j < 0 ∧ j < n) (hi : j.toNatClampNeg < vs.length) {g : JFrame} (hg : g.method = m) {rest : List Value} (hs : g.stack = .int x :: .int j :: .ref a :: rest) (hd : decode c.code g.pc = .ok (.bastore, 1)) :
    ∃ T' h', Stand p l e R s m args below meth c T' (locs ++ [⟨a, j.toNatClampNeg⟩]) cells slots ∧ T'.heap = h' ∧ Wr h h' a j.toNatClampNeg (.int (nar .byte x)) ∧ Arv Z h' a kA .byte n (vs.set j.toNatClampNeg (.int x.toInt8.toInt32)) dv ∧ ∀ target, Steps p.tables e below (T'.setTop { g with pc := g.pc + 1, stack := rest }) target → Steps p.tables e below (T.setTop g) target := by
  obtain ⟨cl, Ar, q1, S1, N1, H1, G1⟩ := V
  obtain ⟨T', h', X', e', W', st⟩ := stB X hx hZ eT Ar (inb_of S1 q) hg hs hd
  exact ⟨T', h', X', e', W', Arv.set Ar q1 S1 N1 H1 G1 (fits_nar_byte x) W' _ rfl hi, st⟩
theorem own_stJ {x : Int64} (X : Stand p l e R s m args below meth c T locs cells slots) (hx : p.tables.exec = Jvm.exec) (hZ : Z.Warmed39 s.vm) (eT : T.heap = h) (V : Arv Z h a kA .long n vs dv) (q : ¬ j < 0 ∧ j < n) (hi : j.toNatClampNeg < vs.length) {g : JFrame} (hg : g.method = m) {rest : List Value} (hs : g.stack = .long x :: .int j :: .ref a :: rest) (hd : decode c.code g.pc = .ok (.lastore, 1)) :
    ∃ T' h', Stand p l e R s m args below meth c T' (locs ++ [⟨a, j.toNatClampNeg⟩]) cells slots ∧ T'.heap = h' ∧ Wr h h' a j.toNatClampNeg (.long x) ∧ Arv Z h' a kA .long n (vs.set j.toNatClampNeg (.long x)) dv ∧ ∀ target, Steps p.tables e below (T'.setTop { g with pc := g.pc + 1, stack := rest }) target → Steps p.tables e below (T.setTop g) target := by
  obtain ⟨cl, Ar, q1, S1, N1, H1, G1⟩ := V
  obtain ⟨T', h', X', e', W', st⟩ := stJ X hx hZ eT Ar (inb_of S1 q) hg hs hd
  exact ⟨T', h', X', e', W', Arv.set Ar q1 S1 N1 H1 G1 rfl W' _ rfl hi, st⟩
theorem own_ldI (X : Stand p l e R s m args below meth c T locs cells slots) (hx : p.tables.exec = Jvm.exec) (hZ : Z.Warmed39 s.vm) (eT : T.heap = h) (V : Arv Z h a kA .int n vs dv) (q : ¬ j < 0 ∧ j < n) {v : Value} (hv : vs.getD j.toNatClampNeg dv = v) {g : JFrame} (hg : g.method = m) {rest : List Value} (hs : g.stack = .int j :: .ref a :: rest) (hd : decode c.code g.pc = .ok (.iaload, 1)) :
    ∀ target, Steps p.tables e below (T.setTop { g with pc := g.pc + 1, stack := v :: rest }) target → Steps p.tables e below (T.setTop g) target := by
  obtain ⟨cl, Ar, q1, S1, N1, H1, G1⟩ := V
  exact X.iaload hx (by rw [eT]; exact Ar.1) (State.isArrayOf_alike hZ.alike Ar.2.1) Ar.2.2 (inb_of S1 q) (H1.at (inb_of S1 q) hv) hg hs hd
theorem own_ldB (X : Stand p l e R s m args below meth c T locs cells slots) (hx : p.tables.exec = Jvm.exec) (hZ : Z.Warmed39 s.vm) (eT : T.heap = h) (V : Arv Z h a kA .byte n vs dv) (q : ¬ j < 0 ∧ j < n) {v : Value} (hv : vs.getD j.toNatClampNeg dv = v) {g : JFrame} (hg : g.method = m) {rest : List Value} (hs : g.stack = .int j :: .ref a :: rest) (hd : decode c.code g.pc = .ok (.baload, 1)) :
    ∀ target, Steps p.tables e below (T.setTop { g with pc := g.pc + 1, stack := v :: rest }) target → Steps p.tables e below (T.setTop g) target := by
  obtain ⟨cl, Ar, q1, S1, N1, H1, G1⟩ := V
  exact X.baloadBytes hx (by rw [eT]; exact Ar.1) (State.isArrayOf_alike hZ.alike Ar.2.1) Ar.2.2 (inb_of S1 q) (H1.at (inb_of S1 q) hv) hg hs hd
theorem own_ldJ (X : Stand p l e R s m args below meth c T locs cells slots) (hx : p.tables.exec = Jvm.exec) (hZ : Z.Warmed39 s.vm) (eT : T.heap = h) (V : Arv Z h a kA .long n vs dv) (q : ¬ j < 0 ∧ j < n) {v : Value} (hv : vs.getD j.toNatClampNeg dv = v) {g : JFrame} (hg : g.method = m) {rest : List Value} (hs : g.stack = .int j :: .ref a :: rest) (hd : decode c.code g.pc = .ok (.laload, 1)) :
    ∀ target, Steps p.tables e below (T.setTop { g with pc := g.pc + 1, stack := v :: rest }) target → Steps p.tables e below (T.setTop g) target := by
  obtain ⟨cl, Ar, q1, S1, N1, H1, G1⟩ := V
  exact X.laload hx (by rw [eT]; exact Ar.1) (State.isArrayOf_alike hZ.alike Ar.2.1) Ar.2.2 (inb_of S1 q) (H1.at (inb_of S1 q) hv) hg hs hd
theorem own_len {ty : FieldType} (X : Stand p l e R s m args below meth c T locs cells slots) (hx : p.tables.exec = Jvm.exec) (hZ : Z.Warmed39 s.vm) (eT : T.heap = h) (V : Arv Z h a kA ty n vs dv) {g : JFrame} (hg : g.method = m) {rest : List Value} (hs : g.stack = .ref a :: rest) (hd : decode c.code g.pc = .ok (.arraylength, 1)) :
    ∀ target, Steps p.tables e below (T.setTop { g with pc := g.pc + 1, stack := .int n :: rest }) target → Steps p.tables e below (T.setTop g) target := by
  obtain ⟨cl, Ar, q1, S1, N1, H1, G1⟩ := V
  intro t k
  refine X.arraylength hx (by rw [eT]; exact Ar.1) (State.isArrayOf_alike hZ.alike Ar.2.1) hg hs hd t ?_
  rw [len_of S1 N1]; exact k
end Own

def own_y0 (q : Int64) : Int32 := ((q.toInt32).toInt8.toInt32).toInt8.toInt32
def own_ys (k : Int32) (q : Int64) : Int32 := ((((q.toUInt64 >>> (k &&& 0x3f).toInt64.toUInt64).toInt64).toInt32).toInt8.toInt32).toInt8.toInt32
def own_at6 (x0 x1 x2 x3 x4 x5 i : Int32) : Int32 := if i = 0 then x0 else if i = 1 then x1 else if i = 2 then x2 else if i = 3 then x3 else if i = 4 then x4 else x5
theorem own_cases6 {i : Int32} (h : ¬ i < 0 ∧ i < 6) : i = 0 ∨ i = 1 ∨ i = 2 ∨ i = 3 ∨ i = 4 ∨ i = 5 := by
  obtain ⟨h, h'⟩ := h
  rw [Int32.lt_iff_toInt_lt] at h h'
  have e0 : (0 : Int32).toInt = 0 := by decide
  have e1 : (1 : Int32).toInt = 1 := by decide
  have e2 : (2 : Int32).toInt = 2 := by decide
  have e3 : (3 : Int32).toInt = 3 := by decide
  have e4 : (4 : Int32).toInt = 4 := by decide
  have e5 : (5 : Int32).toInt = 5 := by decide
  have e6 : (6 : Int32).toInt = 6 := by decide
  simp only [← Int32.toInt_inj, e0, e1, e2, e3, e4, e5]
  omega
theorem own_getD6 {x0 x1 x2 x3 x4 x5 i : Int32} (h : ¬ i < 0 ∧ i < 6) : [Value.int x0, Value.int x1, Value.int x2, Value.int x3, Value.int x4, Value.int x5].getD i.toNatClampNeg (.int (0 : Int32)) = .int (own_at6 x0 x1 x2 x3 x4 x5 i) := by
  rcases own_cases6 h with rfl | rfl | rfl | rfl | rfl | rfl <;> rfl
theorem own_msk (r : Int32) : 0 ≤ (r &&& (2147483647 : Int32)).toInt := by rw [c_mask r 2147483647 31 (by decide) (by decide)]; omega
theorem own_rem {r n : Int32} (hn : 0 < n.toInt) : 0 ≤ ((r &&& (2147483647 : Int32)) % n).toInt ∧ ((r &&& (2147483647 : Int32)) % n).toInt < n.toInt := by
  have h := (c_iremV (r &&& (2147483647 : Int32)) n).1 (own_msk r) hn
  exact ⟨h.1, h.2.1⟩
theorem own_7 {f : Int32} (h : 0 ≤ f.toInt ∧ f.toInt ≤ 6) : ((7 : Int32) - f).toInt = 7 - f.toInt := by
  have h1 := c_isub 7 f
  have e : (7 : Int32).toInt = 7 := by decide
  have h2 := rng32 ((7 : Int32) - f)
  omega
theorem own_7nz {f : Int32} (h : 0 ≤ f.toInt ∧ f.toInt ≤ 6) : ((7 : Int32) - f) ≠ 0 := fun q => by
  have h1 := own_7 h
  rw [q] at h1
  have e : (0 : Int32).toInt = 0 := by decide
  omega
theorem own_b8 (y : Int32) : (y.toInt8.toInt32).toInt8.toInt32 = y.toInt8.toInt32 := by simp
theorem own_at6b {x0 x1 x2 x3 x4 x5 : Int32} (h : x0.toInt8.toInt32 = x0 ∧ x1.toInt8.toInt32 = x1 ∧ x2.toInt8.toInt32 = x2 ∧ x3.toInt8.toInt32 = x3 ∧ x4.toInt8.toInt32 = x4 ∧ x5.toInt8.toInt32 = x5) (i : Int32) : (own_at6 x0 x1 x2 x3 x4 x5 i).toInt8.toInt32 = own_at6 x0 x1 x2 x3 x4 x5 i := by
  obtain ⟨h0, h1, h2, h3, h4, h5⟩ := h
  unfold own_at6
  repeat' split
  all_goals assumption
theorem own_frB {r f : Int32} (h : (r &&& (2147483647 : Int32)) % (7 : Int32) = f) : 0 ≤ f.toInt ∧ f.toInt ≤ 6 := by
  subst h
  have h := own_rem (r := r) (n := 7) (by decide)
  have e : (7 : Int32).toInt = 7 := by decide
  omega
theorem own_toB {r f t : Int32} (h : 0 ≤ f.toInt ∧ f.toInt ≤ 6) (ht : f + ((r &&& (2147483647 : Int32)) % ((7 : Int32) - f)) = t) : 0 ≤ f.toInt ∧ 0 ≤ (t - f).toInt ∧ f.toInt + (t - f).toInt ≤ 6 := by
  have h1 := own_7 h
  have h2 := own_rem (r := r) (n := (7 : Int32) - f) (by omega)
  have h3 := c_iadd f ((r &&& (2147483647 : Int32)) % ((7 : Int32) - f))
  have h4 := rng32 (f + ((r &&& (2147483647 : Int32)) % ((7 : Int32) - f)))
  rw [ht] at h3 h4
  have h5 := c_isub t f
  have h6 := rng32 (t - f)
  omega
theorem own_atB {f n i : Int32} (hb : 0 ≤ f.toInt ∧ 0 ≤ n.toInt ∧ f.toInt + n.toInt ≤ 6) (h0 : ¬ i < 0) (h1 : i < n) : ¬ (f + i) < 0 ∧ (f + i) < 6 := by
  have e : (0 : Int32).toInt = 0 := by decide
  have e6 : (6 : Int32).toInt = 6 := by decide
  have h4 := c_iadd f i
  have h5 := rng32 (f + i)
  simp only [Int32.lt_iff_toInt_lt, e, e6] at *
  omega
theorem d8_0 : decode jdk_41_method_11_code 0 = .ok (.iload_n 0, 1) := by decide +kernel
theorem d8_1 : decode jdk_41_method_11_code 1 = .ok (.ifCond .lt 8, 3) := by decide +kernel
theorem d8_4 : decode jdk_41_method_11_code 4 = .ok (.iload_n 0, 1) := by decide +kernel
theorem d8_5 : decode jdk_41_method_11_code 5 = .ok (.iload_n 1, 1) := by decide +kernel
theorem d8_6 : decode jdk_41_method_11_code 6 = .ok (.if_icmp .lt 10, 3) := by decide +kernel
theorem d8_16 : decode jdk_41_method_11_code 16 = .ok (.iload_n 0, 1) := by decide +kernel
theorem d8_17 : decode jdk_41_method_11_code 17 = .ok (.ireturn, 1) := by decide +kernel
theorem pn_8 : plainName "jdk/internal/util/Preconditions" = true := by first | (simp [plainName, overriddenIn]; done) | decide +kernel
theorem ef_8 (m : MethodId) (p0 : Int32) (p1 : Int32) : entryFrame m #[(.int p0), (.int p1), .null] 3 = mkF m 0 #[.val (.int p0), .val (.int p1), .val .null] [] := by first | (simp [entryFrame, mkF, argsToLocals, Value.category]; done) | rfl
def Q8 (Z : State) (p0 : Int32) (p1 : Int32)  (h0 : Heap) (n0 : Nat) (v : Option Value) (h : Heap) (L : List Loc) : Prop := v = some (.int p0) ∧ Fr n0 L ∧ h = h0
set_option maxRecDepth 65536 in
set_option maxHeartbeats 40000000 in
theorem rm8 (l : Launch) (Z : State) (a0 : Array Value) (hw : ∀ d ∈ tables_1, d.before a0 Z = true) (ws : List Jvm.Cond) (p0 : Int32) (p1 : Int32)  (h0 : Heap) (n0 : Nat) (Z0 : n0 ≤ h0.size) (H0 : ¬ p0 < 0) (H1 : p0 < p1) :
    MetFree l (⟨"jdk/internal/util/Preconditions", "checkIndex", "(IILjava/util/function/BiFunction;)I"⟩ : MethodName) (head1 (Jvm.Cond.code (⟨"jdk/internal/util/Preconditions", "checkIndex", "(IILjava/util/function/BiFunction;)I"⟩ : MethodName) jdk_41_method_11_code 3 (some .int) :: ws) ({ frames := 0, cells := 0, slots := 0, locals := 0 } : Room)) (fun a U => a = #[(.int p0), (.int p1), .null] ∧ Z.Warmed39 U.vm ∧ U.heap = h0) (fun _ _ _ _ _ => True) (fun _ U o U' => ∃ v L, o = .returned v ∧ Q8 Z p0 p1 h0 n0 v U'.heap L ∧ FrameEnd U o U' L ({ frames := 0, cells := 0, slots := 0, locals := 0 } : Room).cells ({ frames := 0, cells := 0, slots := 0, locals := 0 } : Room).slots) := by
  refine MetFree.of_bodySF (plainFor_of_name pn_8) hisR ?_
  intro p e s m args below meth c s₁ Bd hml0 hP hK
  obtain ⟨rfl, hZ, hh⟩ := hP
  have hx := Bd.exec
  have hby := Bd.bytes
  have hml : c.maxLocals = 3 := hml0
  have hown : s.vm.findClass "jdk/internal/util/Preconditions" = some m.cls := findClass_of_methodNamed Bd.named
  have hnm := (name_of_methodNamed Bd.named Bd.method).1
  have hlk : meth.locks = false := Bd.notSynchronized
  have X0 : Stand p l e ({ frames := 0, cells := 0, slots := 0, locals := 0 } : Room) s m #[(.int p0), (.int p1), .null] below meth c s₁ [] 0 0 := Stand.of_body Bd
  have e0 : s₁.heap = h0 := by rw [← hh, Bd.state]; rfl
  have N0 := Fr.nil n0
  refine own_cast (Q := Q8 Z p0 p1 h0 n0) (kc := 0) (ks := 0) (ef_8 m p0 p1) ?_
  refine own_st (fun _ k => XS.iloadN X0.here hx rfl (hb hby d8_0) rfl k) ?_
  show own_Go X0 (Q8 Z p0 p1 h0 n0) 0 0 1 #[.val (.int p0), .val (.int p1), .val .null] [(.int p0)]
  have c1_1 : ¬ (p0 < (0 : Int32)) := H0
  refine own_st (fun _ k => XS.ifNo X0.here hx rfl (hb hby d8_1) rfl ((if0 _ _).trans (flt c1_1).1) k) ?_
  show own_Go X0 (Q8 Z p0 p1 h0 n0) 0 0 4 #[.val (.int p0), .val (.int p1), .val .null] []
  refine own_st (fun _ k => XS.iloadN X0.here hx rfl (hb hby d8_4) rfl k) ?_
  show own_Go X0 (Q8 Z p0 p1 h0 n0) 0 0 5 #[.val (.int p0), .val (.int p1), .val .null] [(.int p0)]
  refine own_st (fun _ k => XS.iloadN X0.here hx rfl (hb hby d8_5) rfl k) ?_
  show own_Go X0 (Q8 Z p0 p1 h0 n0) 0 0 6 #[.val (.int p0), .val (.int p1), .val .null] [(.int p1), (.int p0)]
  have c6_2 : p0 < p1 := H1
  refine own_st (fun _ k => XS.icmpYes X0.here hx rfl (pc0 := 6) (pc' := 16) rfl (hb hby d8_6) rfl (tlt c6_2).1 (by decide) (by decide) k) ?_
  show own_Go X0 (Q8 Z p0 p1 h0 n0) 0 0 16 #[.val (.int p0), .val (.int p1), .val .null] []
  refine own_st (fun _ k => XS.iloadN X0.here hx rfl (hb hby d8_16) rfl k) ?_
  show own_Go X0 (Q8 Z p0 p1 h0 n0) 0 0 17 #[.val (.int p0), .val (.int p1), .val .null] [(.int p0)]
  refine own_retI X0 hx Bd.returns hlk e0 (hb hby d8_17) (by decide) (by decide) ?_
  exact ⟨rfl, N0, rfl⟩
theorem d7_0 : decode jdk_31_method_17_code 0 = .ok (.iload_n 0, 1) := by decide +kernel
theorem d7_1 : decode jdk_31_method_17_code 1 = .ok (.iload_n 1, 1) := by decide +kernel
theorem d7_2 : decode jdk_31_method_17_code 2 = .ok (.aconst_null, 1) := by decide +kernel
theorem d7_3 : decode jdk_31_method_17_code 3 = .ok (.invokestatic 105, 3) := by decide +kernel
theorem d7_6 : decode jdk_31_method_17_code 6 = .ok (.ireturn, 1) := by decide +kernel
theorem pn_7 : plainName "java/util/Objects" = true := by first | (simp [plainName, overriddenIn]; done) | decide +kernel
theorem pd_7_0 : parseMethodDescriptor "(IILjava/util/function/BiFunction;)I" = some ⟨[.int, .int, (.object "java/util/function/BiFunction")], some .int⟩ := by decide +kernel
theorem ef_7 (m : MethodId) (p0 : Int32) (p1 : Int32) : entryFrame m #[(.int p0), (.int p1)] 2 = mkF m 0 #[.val (.int p0), .val (.int p1)] [] := by first | (simp [entryFrame, mkF, argsToLocals, Value.category]; done) | rfl
def Q7 (Z : State) (p0 : Int32) (p1 : Int32)  (h0 : Heap) (n0 : Nat) (v : Option Value) (h : Heap) (L : List Loc) : Prop := v = some (.int p0) ∧ Fr n0 L ∧ h = h0
set_option maxRecDepth 65536 in
set_option maxHeartbeats 40000000 in
theorem rm7 (l : Launch) (Z : State) (a0 : Array Value) (hw : ∀ d ∈ tables_1, d.before a0 Z = true) (ws : List Jvm.Cond) (p0 : Int32) (p1 : Int32)  (h0 : Heap) (n0 : Nat) (Z0 : n0 ≤ h0.size) (H0 : ¬ p0 < 0) (H1 : p0 < p1) :
    MetFree l (⟨"java/util/Objects", "checkIndex", "(II)I"⟩ : MethodName) (head1 (Jvm.Cond.code (⟨"java/util/Objects", "checkIndex", "(II)I"⟩ : MethodName) jdk_31_method_17_code 2 (some .int) :: ws) ({ frames := 1, cells := 0, slots := 0, locals := 14 } : Room)) (fun a U => a = #[(.int p0), (.int p1)] ∧ Z.Warmed39 U.vm ∧ U.heap = h0) (fun _ _ _ _ _ => True) (fun _ U o U' => ∃ v L, o = .returned v ∧ Q7 Z p0 p1 h0 n0 v U'.heap L ∧ FrameEnd U o U' L ({ frames := 1, cells := 0, slots := 0, locals := 14 } : Room).cells ({ frames := 1, cells := 0, slots := 0, locals := 14 } : Room).slots) := by
  refine MetFree.of_bodySF (plainFor_of_name pn_7) hisR ?_
  intro p e s m args below meth c s₁ Bd hml0 hP hK
  obtain ⟨rfl, hZ, hh⟩ := hP
  have hx := Bd.exec
  have hby := Bd.bytes
  have hml : c.maxLocals = 2 := hml0
  have hown : s.vm.findClass "java/util/Objects" = some m.cls := findClass_of_methodNamed Bd.named
  have hnm := (name_of_methodNamed Bd.named Bd.method).1
  have hlk : meth.locks = false := Bd.notSynchronized
  have X0 : Stand p l e ({ frames := 1, cells := 0, slots := 0, locals := 14 } : Room) s m #[(.int p0), (.int p1)] below meth c s₁ [] 0 0 := Stand.of_body Bd
  have e0 : s₁.heap = h0 := by rw [← hh, Bd.state]; rfl
  have N0 := Fr.nil n0
  refine own_cast (Q := Q7 Z p0 p1 h0 n0) (kc := 0) (ks := 0) (ef_7 m p0 p1) ?_
  refine own_st (fun _ k => XS.iloadN X0.here hx rfl (hb hby d7_0) rfl k) ?_
  show own_Go X0 (Q7 Z p0 p1 h0 n0) 0 0 1 #[.val (.int p0), .val (.int p1)] [(.int p0)]
  refine own_st (fun _ k => XS.iloadN X0.here hx rfl (hb hby d7_1) rfl k) ?_
  show own_Go X0 (Q7 Z p0 p1 h0 n0) 0 0 2 #[.val (.int p0), .val (.int p1)] [(.int p1), (.int p0)]
  refine own_st (fun _ k => XS.aconstNull X0.here hx rfl (hb hby d7_2) k) ?_
  show own_Go X0 (Q7 Z p0 p1 h0 n0) 0 0 3 #[.val (.int p0), .val (.int p1)] [.null, (.int p1), (.int p0)]
  refine own_callS (W := 0) X0 hx hZ hown (hw _ (List.mem_of_getElem? (i := 40) rfl)) (hw _ (List.mem_of_getElem? (i := 41) rfl)) (hw _ (List.mem_of_getElem? (i := 42) rfl)) (hw _ (List.mem_of_getElem? (i := 43) rfl)) (by decide) (rm8 l Z a0 hw [] p0 p1  h0 n0 Z0 H0 H1) (by decide) (by decide) (by rw [hml]; rfl) [(.int p0), (.int p1), .null] [] (lenOf pd_7_0 rfl) rfl rfl (Nat.le_of_ble_eq_true rfl) (hb hby d7_3) e0 (by decide) (by decide) ?_
  rintro _ T1 L1 X1 ⟨rfl, N1q, e1⟩
  have N_2 := Fr.app N0 N1q
  show own_Go X1 (Q7 Z p0 p1 h0 n0) 0 0 6 #[.val (.int p0), .val (.int p1)] [(.int p0)]
  refine own_retI X1 hx Bd.returns hlk e1 (hb hby d7_6) (by decide) (by decide) ?_
  exact ⟨rfl, N_2, rfl⟩
theorem d4_0 : decode prog_2_method_7_code 0 = .ok (.aload_n 0, 1) := by decide +kernel
theorem d4_1 : decode prog_2_method_7_code 1 = .ok (.getfield 53, 3) := by decide +kernel
theorem d4_4 : decode prog_2_method_7_code 4 = .ok (.ireturn, 1) := by decide +kernel
theorem pn_4 : plainName "com/example/stopbit/stopbit/ByteVector" = true := by first | (simp [plainName, overriddenIn]; done) | decide +kernel
theorem ef_4 (m : MethodId) (r0 : Addr) : entryFrame m #[(.ref r0)] 1 = mkF m 0 #[.val (.ref r0)] [] := by first | (simp [entryFrame, mkF, argsToLocals, Value.category]; done) | rfl
def Q4 (Z : State) (r0 : Addr) (ln : Int32) (h0 : Heap) (n0 : Nat) (v : Option Value) (h : Heap) (L : List Loc) : Prop := v = some (.int ln) ∧ Fr n0 L ∧ h = h0
set_option maxRecDepth 65536 in
set_option maxHeartbeats 40000000 in
theorem rm4 (l : Launch) (Z : State) (a0 : Array Value) (hw : ∀ d ∈ tables_1, d.before a0 Z = true) (ws : List Jvm.Cond) (r0 : Addr) (ln : Int32) (h0 : Heap) (n0 : Nat) (Z0 : n0 ≤ h0.size) (P_length : Fld Z h0 r0 "com/example/stopbit/stopbit/ByteVector" "length" "I" (.int ln)) :
    MetFree l (⟨"com/example/stopbit/stopbit/ByteVector", "length", "()I"⟩ : MethodName) (head1 (Jvm.Cond.code (⟨"com/example/stopbit/stopbit/ByteVector", "length", "()I"⟩ : MethodName) prog_2_method_7_code 1 (some .int) :: ws) ({ frames := 0, cells := 0, slots := 0, locals := 0 } : Room)) (fun a U => a = #[(.ref r0)] ∧ Z.Warmed39 U.vm ∧ U.heap = h0) (fun _ _ _ _ _ => True) (fun _ U o U' => ∃ v L, o = .returned v ∧ Q4 Z r0 ln h0 n0 v U'.heap L ∧ FrameEnd U o U' L ({ frames := 0, cells := 0, slots := 0, locals := 0 } : Room).cells ({ frames := 0, cells := 0, slots := 0, locals := 0 } : Room).slots) := by
  refine MetFree.of_bodySF (plainFor_of_name pn_4) hisR ?_
  intro p e s m args below meth c s₁ Bd hml0 hP hK
  obtain ⟨rfl, hZ, hh⟩ := hP
  have hx := Bd.exec
  have hby := Bd.bytes
  have hml : c.maxLocals = 1 := hml0
  have hown : s.vm.findClass "com/example/stopbit/stopbit/ByteVector" = some m.cls := findClass_of_methodNamed Bd.named
  have hnm := (name_of_methodNamed Bd.named Bd.method).1
  have hlk : meth.locks = false := Bd.notSynchronized
  have X0 : Stand p l e ({ frames := 0, cells := 0, slots := 0, locals := 0 } : Room) s m #[(.ref r0)] below meth c s₁ [] 0 0 := Stand.of_body Bd
  have e0 : s₁.heap = h0 := by rw [← hh, Bd.state]; rfl
  have N0 := Fr.nil n0
  refine own_cast (Q := Q4 Z r0 ln h0 n0) (kc := 0) (ks := 0) (ef_4 m r0) ?_
  refine own_st (fun _ k => XS.aloadN X0.here hx rfl (hb hby d4_0) rfl rfl k) ?_
  show own_Go X0 (Q4 Z r0 ln h0 n0) 0 0 1 #[.val (.ref r0)] [(.ref r0)]
  obtain ⟨T1, X1, e1, st1⟩ := getF X0 hx hZ hown (host := "") (Or.inl (hw _ (List.mem_of_getElem? (i := 20) rfl))) Via.refl e0 P_length (g := (mkF m 1 #[.val (.ref r0)] [(.ref r0)])) rfl rfl (hb hby d4_1)
  refine own_st st1 ?_
  show own_Go X1 (Q4 Z r0 ln h0 n0) 0 0 4 #[.val (.ref r0)] [(.int ln)]
  refine own_retI X1 hx Bd.returns hlk e1 (hb hby d4_4) (by decide) (by decide) ?_
  exact ⟨rfl, N0, rfl⟩
theorem d6_0 : decode prog_2_method_8_code 0 = .ok (.iload_n 1, 1) := by decide +kernel
theorem d6_1 : decode prog_2_method_8_code 1 = .ok (.aload_n 0, 1) := by decide +kernel
theorem d6_2 : decode prog_2_method_8_code 2 = .ok (.getfield 53, 3) := by decide +kernel
theorem d6_5 : decode prog_2_method_8_code 5 = .ok (.invokestatic 78, 3) := by decide +kernel
theorem d6_8 : decode prog_2_method_8_code 8 = .ok (.pop, 1) := by decide +kernel
theorem d6_9 : decode prog_2_method_8_code 9 = .ok (.aload_n 0, 1) := by decide +kernel
theorem d6_10 : decode prog_2_method_8_code 10 = .ok (.getfield 44, 3) := by decide +kernel
theorem d6_13 : decode prog_2_method_8_code 13 = .ok (.aload_n 0, 1) := by decide +kernel
theorem d6_14 : decode prog_2_method_8_code 14 = .ok (.getfield 57, 3) := by decide +kernel
theorem d6_17 : decode prog_2_method_8_code 17 = .ok (.iload_n 1, 1) := by decide +kernel
theorem d6_18 : decode prog_2_method_8_code 18 = .ok (.iadd, 1) := by decide +kernel
theorem d6_19 : decode prog_2_method_8_code 19 = .ok (.baload, 1) := by decide +kernel
theorem d6_20 : decode prog_2_method_8_code 20 = .ok (.ireturn, 1) := by decide +kernel
theorem pn_6 : plainName "com/example/stopbit/stopbit/ByteVector" = true := by first | (simp [plainName, overriddenIn]; done) | decide +kernel
theorem pd_6_0 : parseMethodDescriptor "(II)I" = some ⟨[.int, .int], some .int⟩ := by decide +kernel
theorem ef_6 (m : MethodId) (r0 : Addr) (p1 : Int32) : entryFrame m #[(.ref r0), (.int p1)] 2 = mkF m 0 #[.val (.ref r0), .val (.int p1)] [] := by first | (simp [entryFrame, mkF, argsToLocals, Value.category]; done) | rfl
def Q6 (Z : State) (r0 : Addr) (p1 : Int32) (ch : Addr) (sa ln nn : Int32) (kA : ClassId) (vs : List Value) (bb : Int32) (h0 : Heap) (n0 : Nat) (v : Option Value) (h : Heap) (L : List Loc) : Prop := v = some (.int bb) ∧ Fr n0 L ∧ h = h0
set_option maxRecDepth 65536 in
set_option maxHeartbeats 40000000 in
theorem rm6 (l : Launch) (Z : State) (a0 : Array Value) (hw : ∀ d ∈ tables_1, d.before a0 Z = true) (ws : List Jvm.Cond) (r0 : Addr) (p1 : Int32) (ch : Addr) (sa ln nn : Int32) (kA : ClassId) (vs : List Value) (bb : Int32) (h0 : Heap) (n0 : Nat) (Z0 : n0 ≤ h0.size) (P_length : Fld Z h0 r0 "com/example/stopbit/stopbit/ByteVector" "length" "I" (.int ln)) (P_bytes : Fld Z h0 r0 "com/example/stopbit/stopbit/ByteVector" "bytes" "[B" (.ref ch)) (P_start : Fld Z h0 r0 "com/example/stopbit/stopbit/ByteVector" "start" "I" (.int sa)) (PV : Arv Z h0 ch kA .byte nn vs (.int (0 : Int32))) (H0 : ¬ p1 < 0) (H1 : p1 < ln) (B : ¬ (sa + p1) < 0 ∧ (sa + p1) < nn) (hv : vs.getD (sa + p1).toNatClampNeg (.int (0 : Int32)) = .int bb) (h8 : bb.toInt8.toInt32 = bb) :
    MetFree l (⟨"com/example/stopbit/stopbit/ByteVector", "byteAt", "(I)B"⟩ : MethodName) (head1 (Jvm.Cond.code (⟨"com/example/stopbit/stopbit/ByteVector", "byteAt", "(I)B"⟩ : MethodName) prog_2_method_8_code 2 (some .byte) :: ws) ({ frames := 2, cells := 0, slots := 0, locals := 27 } : Room)) (fun a U => a = #[(.ref r0), (.int p1)] ∧ Z.Warmed39 U.vm ∧ U.heap = h0) (fun _ _ _ _ _ => True) (fun _ U o U' => ∃ v L, o = .returned v ∧ Q6 Z r0 p1 ch sa ln nn kA vs bb h0 n0 v U'.heap L ∧ FrameEnd U o U' L ({ frames := 2, cells := 0, slots := 0, locals := 27 } : Room).cells ({ frames := 2, cells := 0, slots := 0, locals := 27 } : Room).slots) := by
  refine MetFree.of_bodySF (plainFor_of_name pn_6) hisR ?_
  intro p e s m args below meth c s₁ Bd hml0 hP hK
  obtain ⟨rfl, hZ, hh⟩ := hP
  have hx := Bd.exec
  have hby := Bd.bytes
  have hml : c.maxLocals = 2 := hml0
  have hown : s.vm.findClass "com/example/stopbit/stopbit/ByteVector" = some m.cls := findClass_of_methodNamed Bd.named
  have hnm := (name_of_methodNamed Bd.named Bd.method).1
  have hlk : meth.locks = false := Bd.notSynchronized
  have X0 : Stand p l e ({ frames := 2, cells := 0, slots := 0, locals := 27 } : Room) s m #[(.ref r0), (.int p1)] below meth c s₁ [] 0 0 := Stand.of_body Bd
  have e0 : s₁.heap = h0 := by rw [← hh, Bd.state]; rfl
  have N0 := Fr.nil n0
  refine own_cast (Q := Q6 Z r0 p1 ch sa ln nn kA vs bb h0 n0) (kc := 0) (ks := 0) (ef_6 m r0 p1) ?_
  refine own_st (fun _ k => XS.iloadN X0.here hx rfl (hb hby d6_0) rfl k) ?_
  show own_Go X0 (Q6 Z r0 p1 ch sa ln nn kA vs bb h0 n0) 0 0 1 #[.val (.ref r0), .val (.int p1)] [(.int p1)]
  refine own_st (fun _ k => XS.aloadN X0.here hx rfl (hb hby d6_1) rfl rfl k) ?_
  show own_Go X0 (Q6 Z r0 p1 ch sa ln nn kA vs bb h0 n0) 0 0 2 #[.val (.ref r0), .val (.int p1)] [(.ref r0), (.int p1)]
  obtain ⟨T1, X1, e1, st1⟩ := getF X0 hx hZ hown (host := "") (Or.inl (hw _ (List.mem_of_getElem? (i := 20) rfl))) Via.refl e0 P_length (g := (mkF m 2 #[.val (.ref r0), .val (.int p1)] [(.ref r0), (.int p1)])) rfl rfl (hb hby d6_2)
  refine own_st st1 ?_
  show own_Go X1 (Q6 Z r0 p1 ch sa ln nn kA vs bb h0 n0) 0 0 5 #[.val (.ref r0), .val (.int p1)] [(.int ln), (.int p1)]
  refine own_callS (W := 0) X1 hx hZ hown (hw _ (List.mem_of_getElem? (i := 36) rfl)) (hw _ (List.mem_of_getElem? (i := 37) rfl)) (hw _ (List.mem_of_getElem? (i := 38) rfl)) (hw _ (List.mem_of_getElem? (i := 39) rfl)) (by decide) (rm7 l Z a0 hw [] p1 ln  h0 n0 Z0 H0 H1) (by decide) (by decide) (by rw [hml]; rfl) [(.int p1), (.int ln)] [] (lenOf pd_6_0 rfl) rfl rfl (Nat.le_of_ble_eq_true rfl) (hb hby d6_5) e1 (by decide) (by decide) ?_
  rintro _ T2 L2 X2 ⟨rfl, N2q, e2⟩
  have N_3 := Fr.app N0 N2q
  show own_Go X2 (Q6 Z r0 p1 ch sa ln nn kA vs bb h0 n0) 0 0 8 #[.val (.ref r0), .val (.int p1)] [(.int p1)]
  refine own_st (fun _ k => XS.pop X2.here hx rfl (hb hby d6_8) rfl rfl k) ?_
  show own_Go X2 (Q6 Z r0 p1 ch sa ln nn kA vs bb h0 n0) 0 0 9 #[.val (.ref r0), .val (.int p1)] []
  refine own_st (fun _ k => XS.aloadN X2.here hx rfl (hb hby d6_9) rfl rfl k) ?_
  show own_Go X2 (Q6 Z r0 p1 ch sa ln nn kA vs bb h0 n0) 0 0 10 #[.val (.ref r0), .val (.int p1)] [(.ref r0)]
  obtain ⟨T4, X4, e4, st4⟩ := getF X2 hx hZ hown (host := "") (Or.inl (hw _ (List.mem_of_getElem? (i := 11) rfl))) Via.refl e2 P_bytes (g := (mkF m 10 #[.val (.ref r0), .val (.int p1)] [(.ref r0)])) rfl rfl (hb hby d6_10)
  refine own_st st4 ?_
  show own_Go X4 (Q6 Z r0 p1 ch sa ln nn kA vs bb h0 n0) 0 0 13 #[.val (.ref r0), .val (.int p1)] [(.ref ch)]
  refine own_st (fun _ k => XS.aloadN X4.here hx rfl (hb hby d6_13) rfl rfl k) ?_
  show own_Go X4 (Q6 Z r0 p1 ch sa ln nn kA vs bb h0 n0) 0 0 14 #[.val (.ref r0), .val (.int p1)] [(.ref r0), (.ref ch)]
  obtain ⟨T5, X5, e5, st5⟩ := getF X4 hx hZ hown (host := "") (Or.inl (hw _ (List.mem_of_getElem? (i := 18) rfl))) Via.refl e4 P_start (g := (mkF m 14 #[.val (.ref r0), .val (.int p1)] [(.ref r0), (.ref ch)])) rfl rfl (hb hby d6_14)
  refine own_st st5 ?_
  show own_Go X5 (Q6 Z r0 p1 ch sa ln nn kA vs bb h0 n0) 0 0 17 #[.val (.ref r0), .val (.int p1)] [(.int sa), (.ref ch)]
  refine own_st (fun _ k => XS.iloadN X5.here hx rfl (hb hby d6_17) rfl k) ?_
  show own_Go X5 (Q6 Z r0 p1 ch sa ln nn kA vs bb h0 n0) 0 0 18 #[.val (.ref r0), .val (.int p1)] [(.int p1), (.int sa), (.ref ch)]
  refine own_st (fun _ k => XS.iadd X5.here hx rfl (hb hby d6_18) rfl k) ?_
  show own_Go X5 (Q6 Z r0 p1 ch sa ln nn kA vs bb h0 n0) 0 0 19 #[.val (.ref r0), .val (.int p1)] [(.int (sa + p1)), (.ref ch)]
  refine own_st (fun _ k => own_ldB X5 hx hZ e5 PV (j := (sa + p1)) B (v := (.int bb)) hv (g := (mkF m 19 #[.val (.ref r0), .val (.int p1)] [(.int (sa + p1)), (.ref ch)])) rfl rfl (hb hby d6_19) _ k) ?_
  show own_Go X5 (Q6 Z r0 p1 ch sa ln nn kA vs bb h0 n0) 0 0 20 #[.val (.ref r0), .val (.int p1)] [(.int bb)]
  refine own_retN X5 hx Bd.returns (by simp) hlk e5 (hb hby d6_20) (by decide) (by decide) ?_
  exact ⟨by show some (Value.int bb.toInt8.toInt32) = _; rw [h8], N_3, rfl⟩
theorem d5_0 : decode method_2_code 0 = .ok (.iload 4, 2) := by decide +kernel
theorem d5_2 : decode method_2_code 2 = .ok (.iload_n 3, 1) := by decide +kernel
theorem d5_3 : decode method_2_code 3 = .ok (.if_icmp .ge 24, 3) := by decide +kernel
theorem d5_6 : decode method_2_code 6 = .ok (.aload_n 0, 1) := by decide +kernel
theorem d5_7 : decode method_2_code 7 = .ok (.iload 4, 2) := by decide +kernel
theorem d5_9 : decode method_2_code 9 = .ok (.invokevirtual 7, 3) := by decide +kernel
theorem d5_12 : decode method_2_code 12 = .ok (.aload_n 1, 1) := by decide +kernel
theorem d5_13 : decode method_2_code 13 = .ok (.iload_n 2, 1) := by decide +kernel
theorem d5_14 : decode method_2_code 14 = .ok (.iload 4, 2) := by decide +kernel
theorem d5_16 : decode method_2_code 16 = .ok (.iadd, 1) := by decide +kernel
theorem d5_17 : decode method_2_code 17 = .ok (.baload, 1) := by decide +kernel
theorem d5_18 : decode method_2_code 18 = .ok (.if_icmp .ne 7, 3) := by decide +kernel
theorem d5_21 : decode method_2_code 21 = .ok (.iconst 1, 1) := by decide +kernel
theorem d5_22 : decode method_2_code 22 = .ok (.goto 4, 3) := by decide +kernel
theorem d5_26 : decode method_2_code 26 = .ok (.ireturn, 1) := by decide +kernel
theorem d5_27 : decode method_2_code 27 = .ok (.iconst 1, 1) := by decide +kernel
theorem d5_28 : decode method_2_code 28 = .ok (.ireturn, 1) := by decide +kernel
theorem pn_5 : plainName "com/example/stopbit/stopbit/ByteVectorViewPinLaw" = true := by first | (simp [plainName, overriddenIn]; done) | decide +kernel
theorem pd_5_0 : parseMethodDescriptor "(I)B" = some ⟨[.int], some .byte⟩ := by decide +kernel
theorem ef_5 (m : MethodId) (r0 : Addr) (r1 : Addr) (p2 : Int32) (p3 : Int32) (p4 : Int32) : entryFrame m #[(.ref r0), (.ref r1), (.int p2), (.int p3), (.int p4)] 5 = mkF m 0 #[.val (.ref r0), .val (.ref r1), .val (.int p2), .val (.int p3), .val (.int p4)] [] := by first | (simp [entryFrame, mkF, argsToLocals, Value.category]; done) | rfl
def Q5 (Z : State) (r0 : Addr) (r1 : Addr) (p2 : Int32) (p3 : Int32) (p4 : Int32) (kA : ClassId) (x0 x1 x2 x3 x4 x5 : Int32) (h0 : Heap) (n0 : Nat) (v : Option Value) (h : Heap) (L : List Loc) : Prop := v = some (.int 1) ∧ Fr n0 L ∧ h = h0
set_option maxRecDepth 65536 in
set_option maxHeartbeats 40000000 in
theorem rm5 (l : Launch) (Z : State) (a0 : Array Value) (hw : ∀ d ∈ tables_1, d.before a0 Z = true) (ws : List Jvm.Cond) (r0 : Addr) (r1 : Addr) (p2 : Int32) (p3 : Int32) (p4 : Int32) (kA : ClassId) (x0 x1 x2 x3 x4 x5 : Int32) (h0 : Heap) (n0 : Nat) (Z0 : n0 ≤ h0.size) (PE : Exa Z h0 r0 "com/example/stopbit/stopbit/ByteVector") (P_length : Fld Z h0 r0 "com/example/stopbit/stopbit/ByteVector" "length" "I" (.int p3)) (P_bytes : Fld Z h0 r0 "com/example/stopbit/stopbit/ByteVector" "bytes" "[B" (.ref r1)) (P_start : Fld Z h0 r0 "com/example/stopbit/stopbit/ByteVector" "start" "I" (.int p2)) (PV : Arv Z h0 r1 kA .byte (6 : Int32) [(.int x0), (.int x1), (.int x2), (.int x3), (.int x4), (.int x5)] (.int (0 : Int32))) (HB : 0 ≤ p2.toInt ∧ 0 ≤ p3.toInt ∧ p2.toInt + p3.toInt ≤ 6) (Hi : ¬ p4 < 0) (H8 : x0.toInt8.toInt32 = x0 ∧ x1.toInt8.toInt32 = x1 ∧ x2.toInt8.toInt32 = x2 ∧ x3.toInt8.toInt32 = x3 ∧ x4.toInt8.toInt32 = x4 ∧ x5.toInt8.toInt32 = x5) :
    MetFree l (⟨"com/example/stopbit/stopbit/ByteVectorViewPinLaw", "at", "(Lcom/example/stopbit/stopbit/ByteVector;[BIII)Z"⟩ : MethodName) (head1 (Jvm.Cond.code (⟨"com/example/stopbit/stopbit/ByteVectorViewPinLaw", "at", "(Lcom/example/stopbit/stopbit/ByteVector;[BIII)Z"⟩ : MethodName) method_2_code 5 (some .boolean) :: ws) ({ frames := 3, cells := 0, slots := 0, locals := 40 } : Room)) (fun a U => a = #[(.ref r0), (.ref r1), (.int p2), (.int p3), (.int p4)] ∧ Z.Warmed39 U.vm ∧ U.heap = h0) (fun _ _ _ _ _ => True) (fun _ U o U' => ∃ v L, o = .returned v ∧ Q5 Z r0 r1 p2 p3 p4 kA x0 x1 x2 x3 x4 x5 h0 n0 v U'.heap L ∧ FrameEnd U o U' L ({ frames := 3, cells := 0, slots := 0, locals := 40 } : Room).cells ({ frames := 3, cells := 0, slots := 0, locals := 40 } : Room).slots) := by
  refine MetFree.of_bodySF (plainFor_of_name pn_5) hisR ?_
  intro p e s m args below meth c s₁ Bd hml0 hP hK
  obtain ⟨rfl, hZ, hh⟩ := hP
  have hx := Bd.exec
  have hby := Bd.bytes
  have hml : c.maxLocals = 5 := hml0
  have hown : s.vm.findClass "com/example/stopbit/stopbit/ByteVectorViewPinLaw" = some m.cls := findClass_of_methodNamed Bd.named
  have hnm := (name_of_methodNamed Bd.named Bd.method).1
  have hlk : meth.locks = false := Bd.notSynchronized
  have X0 : Stand p l e ({ frames := 3, cells := 0, slots := 0, locals := 40 } : Room) s m #[(.ref r0), (.ref r1), (.int p2), (.int p3), (.int p4)] below meth c s₁ [] 0 0 := Stand.of_body Bd
  have e0 : s₁.heap = h0 := by rw [← hh, Bd.state]; rfl
  have N0 := Fr.nil n0
  refine own_cast (Q := Q5 Z r0 r1 p2 p3 p4 kA x0 x1 x2 x3 x4 x5 h0 n0) (kc := 0) (ks := 0) (ef_5 m r0 r1 p2 p3 p4) ?_
  refine own_st (fun _ k => XS.iload X0.here hx rfl (hb hby d5_0) rfl k) ?_
  show own_Go X0 (Q5 Z r0 r1 p2 p3 p4 kA x0 x1 x2 x3 x4 x5 h0 n0) 0 0 2 #[.val (.ref r0), .val (.ref r1), .val (.int p2), .val (.int p3), .val (.int p4)] [(.int p4)]
  refine own_st (fun _ k => XS.iloadN X0.here hx rfl (hb hby d5_2) rfl k) ?_
  show own_Go X0 (Q5 Z r0 r1 p2 p3 p4 kA x0 x1 x2 x3 x4 x5 h0 n0) 0 0 3 #[.val (.ref r0), .val (.ref r1), .val (.int p2), .val (.int p3), .val (.int p4)] [(.int p3), (.int p4)]
  by_cases c3_1 : p4 < p3
  · skip
    refine own_st (fun _ k => XS.icmpNo X0.here hx rfl (hb hby d5_3) rfl (tlt c3_1).2.1 k) ?_
    show own_Go X0 (Q5 Z r0 r1 p2 p3 p4 kA x0 x1 x2 x3 x4 x5 h0 n0) 0 0 6 #[.val (.ref r0), .val (.ref r1), .val (.int p2), .val (.int p3), .val (.int p4)] []
    refine own_st (fun _ k => XS.aloadN X0.here hx rfl (hb hby d5_6) rfl rfl k) ?_
    show own_Go X0 (Q5 Z r0 r1 p2 p3 p4 kA x0 x1 x2 x3 x4 x5 h0 n0) 0 0 7 #[.val (.ref r0), .val (.ref r1), .val (.int p2), .val (.int p3), .val (.int p4)] [(.ref r0)]
    refine own_st (fun _ k => XS.iload X0.here hx rfl (hb hby d5_7) rfl k) ?_
    show own_Go X0 (Q5 Z r0 r1 p2 p3 p4 kA x0 x1 x2 x3 x4 x5 h0 n0) 0 0 9 #[.val (.ref r0), .val (.ref r1), .val (.int p2), .val (.int p3), .val (.int p4)] [(.int p4), (.ref r0)]
    refine own_callV (W := 0) X0 hx hZ hown (hw _ (List.mem_of_getElem? (i := 31) rfl)) (hw _ (List.mem_of_getElem? (i := 32) rfl)) (hw _ (List.mem_of_getElem? (i := 34) rfl)) (hw _ (List.mem_of_getElem? (i := 33) rfl)) (hw _ (List.mem_of_getElem? (i := 4) rfl)) (hw _ (List.mem_of_getElem? (i := 35) rfl)) (by decide) (rm6 l Z a0 hw [] r0 p4 r1 p2 p3 (6 : Int32) kA [(.int x0), (.int x1), (.int x2), (.int x3), (.int x4), (.int x5)] (own_at6 x0 x1 x2 x3 x4 x5 (p2 + p4)) h0 n0 Z0 P_length P_bytes P_start PV Hi c3_1 (own_atB HB Hi c3_1) (own_getD6 (own_atB HB Hi c3_1)) (own_at6b H8 _)) (by decide) (by decide) (by rw [hml]; rfl) r0 [(.int p4)] [] (lenOf pd_5_0 rfl) rfl rfl (Nat.le_of_ble_eq_true rfl) (hb hby d5_9) e0 PE (by decide) (by decide) ?_
    rintro _ T2 L2 X2 ⟨rfl, N2q, e2⟩
    have N_3 := Fr.app N0 N2q
    show own_Go X2 (Q5 Z r0 r1 p2 p3 p4 kA x0 x1 x2 x3 x4 x5 h0 n0) 0 0 12 #[.val (.ref r0), .val (.ref r1), .val (.int p2), .val (.int p3), .val (.int p4)] [(.int (own_at6 x0 x1 x2 x3 x4 x5 (p2 + p4)))]
    refine own_st (fun _ k => XS.aloadN X2.here hx rfl (hb hby d5_12) rfl rfl k) ?_
    show own_Go X2 (Q5 Z r0 r1 p2 p3 p4 kA x0 x1 x2 x3 x4 x5 h0 n0) 0 0 13 #[.val (.ref r0), .val (.ref r1), .val (.int p2), .val (.int p3), .val (.int p4)] [(.ref r1), (.int (own_at6 x0 x1 x2 x3 x4 x5 (p2 + p4)))]
    refine own_st (fun _ k => XS.iloadN X2.here hx rfl (hb hby d5_13) rfl k) ?_
    show own_Go X2 (Q5 Z r0 r1 p2 p3 p4 kA x0 x1 x2 x3 x4 x5 h0 n0) 0 0 14 #[.val (.ref r0), .val (.ref r1), .val (.int p2), .val (.int p3), .val (.int p4)] [(.int p2), (.ref r1), (.int (own_at6 x0 x1 x2 x3 x4 x5 (p2 + p4)))]
    refine own_st (fun _ k => XS.iload X2.here hx rfl (hb hby d5_14) rfl k) ?_
    show own_Go X2 (Q5 Z r0 r1 p2 p3 p4 kA x0 x1 x2 x3 x4 x5 h0 n0) 0 0 16 #[.val (.ref r0), .val (.ref r1), .val (.int p2), .val (.int p3), .val (.int p4)] [(.int p4), (.int p2), (.ref r1), (.int (own_at6 x0 x1 x2 x3 x4 x5 (p2 + p4)))]
    refine own_st (fun _ k => XS.iadd X2.here hx rfl (hb hby d5_16) rfl k) ?_
    show own_Go X2 (Q5 Z r0 r1 p2 p3 p4 kA x0 x1 x2 x3 x4 x5 h0 n0) 0 0 17 #[.val (.ref r0), .val (.ref r1), .val (.int p2), .val (.int p3), .val (.int p4)] [(.int (p2 + p4)), (.ref r1), (.int (own_at6 x0 x1 x2 x3 x4 x5 (p2 + p4)))]
    refine own_st (fun _ k => own_ldB X2 hx hZ e2 PV (j := (p2 + p4)) (own_atB HB Hi c3_1) (v := (.int (own_at6 x0 x1 x2 x3 x4 x5 (p2 + p4)))) (own_getD6 (own_atB HB Hi c3_1)) (g := (mkF m 17 #[.val (.ref r0), .val (.ref r1), .val (.int p2), .val (.int p3), .val (.int p4)] [(.int (p2 + p4)), (.ref r1), (.int (own_at6 x0 x1 x2 x3 x4 x5 (p2 + p4)))])) rfl rfl (hb hby d5_17) _ k) ?_
    show own_Go X2 (Q5 Z r0 r1 p2 p3 p4 kA x0 x1 x2 x3 x4 x5 h0 n0) 0 0 18 #[.val (.ref r0), .val (.ref r1), .val (.int p2), .val (.int p3), .val (.int p4)] [(.int (own_at6 x0 x1 x2 x3 x4 x5 (p2 + p4))), (.int (own_at6 x0 x1 x2 x3 x4 x5 (p2 + p4)))]
    have c18_4 : (own_at6 x0 x1 x2 x3 x4 x5 (p2 + p4)) = (own_at6 x0 x1 x2 x3 x4 x5 (p2 + p4)) := rfl
    refine own_st (fun _ k => XS.icmpNo X2.here hx rfl (hb hby d5_18) rfl (teq c18_4).2 k) ?_
    show own_Go X2 (Q5 Z r0 r1 p2 p3 p4 kA x0 x1 x2 x3 x4 x5 h0 n0) 0 0 21 #[.val (.ref r0), .val (.ref r1), .val (.int p2), .val (.int p3), .val (.int p4)] []
    refine own_st (fun _ k => XS.iconst X2.here hx rfl (hb hby d5_21) k) ?_
    show own_Go X2 (Q5 Z r0 r1 p2 p3 p4 kA x0 x1 x2 x3 x4 x5 h0 n0) 0 0 22 #[.val (.ref r0), .val (.ref r1), .val (.int p2), .val (.int p3), .val (.int p4)] [(.int (1 : Int32))]
    refine own_st (fun _ k => XS.goto X2.here hx rfl (pc0 := 22) (pc' := 26) rfl (hb hby d5_22) (by decide) (by decide) k) ?_
    show own_Go X2 (Q5 Z r0 r1 p2 p3 p4 kA x0 x1 x2 x3 x4 x5 h0 n0) 0 0 26 #[.val (.ref r0), .val (.ref r1), .val (.int p2), .val (.int p3), .val (.int p4)] [(.int (1 : Int32))]
    refine own_retN X2 hx Bd.returns (by simp) hlk e2 (hb hby d5_26) (by decide) (by decide) ?_
    exact ⟨rfl, N_3, rfl⟩
  · skip
    refine own_st (fun _ k => XS.icmpYes X0.here hx rfl (pc0 := 3) (pc' := 27) rfl (hb hby d5_3) rfl (flt c3_1).2.1 (by decide) (by decide) k) ?_
    show own_Go X0 (Q5 Z r0 r1 p2 p3 p4 kA x0 x1 x2 x3 x4 x5 h0 n0) 0 0 27 #[.val (.ref r0), .val (.ref r1), .val (.int p2), .val (.int p3), .val (.int p4)] []
    refine own_st (fun _ k => XS.iconst X0.here hx rfl (hb hby d5_27) k) ?_
    show own_Go X0 (Q5 Z r0 r1 p2 p3 p4 kA x0 x1 x2 x3 x4 x5 h0 n0) 0 0 28 #[.val (.ref r0), .val (.ref r1), .val (.int p2), .val (.int p3), .val (.int p4)] [(.int (1 : Int32))]
    refine own_retN X0 hx Bd.returns (by simp) hlk e0 (hb hby d5_28) (by decide) (by decide) ?_
    exact ⟨rfl, N0, rfl⟩
theorem d3_0 : decode prog_2_method_5_code 0 = .ok (.aload_n 0, 1) := by decide +kernel
theorem d3_1 : decode prog_2_method_5_code 1 = .ok (.getfield 44, 3) := by decide +kernel
theorem d3_4 : decode prog_2_method_5_code 4 = .ok (.aload_n 1, 1) := by decide +kernel
theorem d3_5 : decode prog_2_method_5_code 5 = .ok (.if_acmp .eq 8, 3) := by decide +kernel
theorem d3_8 : decode prog_2_method_5_code 8 = .ok (.aload_n 0, 1) := by decide +kernel
theorem d3_9 : decode prog_2_method_5_code 9 = .ok (.aload_n 1, 1) := by decide +kernel
theorem d3_10 : decode prog_2_method_5_code 10 = .ok (.putfield 44, 3) := by decide +kernel
theorem d3_13 : decode prog_2_method_5_code 13 = .ok (.aload_n 0, 1) := by decide +kernel
theorem d3_14 : decode prog_2_method_5_code 14 = .ok (.iload_n 2, 1) := by decide +kernel
theorem d3_15 : decode prog_2_method_5_code 15 = .ok (.putfield 57, 3) := by decide +kernel
theorem d3_18 : decode prog_2_method_5_code 18 = .ok (.aload_n 0, 1) := by decide +kernel
theorem d3_19 : decode prog_2_method_5_code 19 = .ok (.iload_n 3, 1) := by decide +kernel
theorem d3_20 : decode prog_2_method_5_code 20 = .ok (.iload_n 2, 1) := by decide +kernel
theorem d3_21 : decode prog_2_method_5_code 21 = .ok (.isub, 1) := by decide +kernel
theorem d3_22 : decode prog_2_method_5_code 22 = .ok (.putfield 53, 3) := by decide +kernel
theorem d3_25 : decode prog_2_method_5_code 25 = .ok (.return_, 1) := by decide +kernel
theorem pn_3 : plainName "com/example/stopbit/stopbit/ByteVector" = true := by first | (simp [plainName, overriddenIn]; done) | decide +kernel
theorem ef_3 (m : MethodId) (r0 : Addr) (r1 : Addr) (p2 : Int32) (p3 : Int32) : entryFrame m #[(.ref r0), (.ref r1), (.int p2), (.int p3)] 4 = mkF m 0 #[.val (.ref r0), .val (.ref r1), .val (.int p2), .val (.int p3)] [] := by first | (simp [entryFrame, mkF, argsToLocals, Value.category]; done) | rfl
def Q3 (Z : State) (r0 : Addr) (r1 : Addr) (p2 : Int32) (p3 : Int32) (u1 u2 : Int32) (ch : Addr) (h0 : Heap) (n0 : Nat) (v : Option Value) (h : Heap) (L : List Loc) : Prop := v = none ∧ Fr n0 L ∧ Keep h0 h [r0] ∧ Fld Z h r0 "com/example/stopbit/stopbit/ByteVector" "length" "I" (.int (p3 - p2)) ∧ Fld Z h r0 "com/example/stopbit/stopbit/ByteVector" "bytes" "[B" (.ref r1) ∧ Fld Z h r0 "com/example/stopbit/stopbit/ByteVector" "start" "I" (.int p2)
set_option maxRecDepth 65536 in
set_option maxHeartbeats 40000000 in
theorem rm3 (l : Launch) (Z : State) (a0 : Array Value) (hw : ∀ d ∈ tables_1, d.before a0 Z = true) (ws : List Jvm.Cond) (r0 : Addr) (r1 : Addr) (p2 : Int32) (p3 : Int32) (u1 u2 : Int32) (ch : Addr) (h0 : Heap) (n0 : Nat) (Z0 : n0 ≤ h0.size) (PE : Exa Z h0 r0 "com/example/stopbit/stopbit/ByteVector") (PG : n0 ≤ r0) (P_length : Fld Z h0 r0 "com/example/stopbit/stopbit/ByteVector" "length" "I" (.int u1)) (P_bytes : Fld Z h0 r0 "com/example/stopbit/stopbit/ByteVector" "bytes" "[B" (.ref ch)) (P_start : Fld Z h0 r0 "com/example/stopbit/stopbit/ByteVector" "start" "I" (.int u2)) (PN : ch ≠ r1) :
    MetFree l (⟨"com/example/stopbit/stopbit/ByteVector", "view", "([BII)V"⟩ : MethodName) (head1 (Jvm.Cond.code (⟨"com/example/stopbit/stopbit/ByteVector", "view", "([BII)V"⟩ : MethodName) prog_2_method_5_code 4 none :: ws) ({ frames := 0, cells := 0, slots := 0, locals := 0 } : Room)) (fun a U => a = #[(.ref r0), (.ref r1), (.int p2), (.int p3)] ∧ Z.Warmed39 U.vm ∧ U.heap = h0) (fun _ _ _ _ _ => True) (fun _ U o U' => ∃ v L, o = .returned v ∧ Q3 Z r0 r1 p2 p3 u1 u2 ch h0 n0 v U'.heap L ∧ FrameEnd U o U' L ({ frames := 0, cells := 0, slots := 0, locals := 0 } : Room).cells ({ frames := 0, cells := 0, slots := 0, locals := 0 } : Room).slots) := by
  refine MetFree.of_bodySF (plainFor_of_name pn_3) hisR ?_
  intro p e s m args below meth c s₁ Bd hml0 hP hK
  obtain ⟨rfl, hZ, hh⟩ := hP
  have hx := Bd.exec
  have hby := Bd.bytes
  have hml : c.maxLocals = 4 := hml0
  have hown : s.vm.findClass "com/example/stopbit/stopbit/ByteVector" = some m.cls := findClass_of_methodNamed Bd.named
  have hnm := (name_of_methodNamed Bd.named Bd.method).1
  have hlk : meth.locks = false := Bd.notSynchronized
  have X0 : Stand p l e ({ frames := 0, cells := 0, slots := 0, locals := 0 } : Room) s m #[(.ref r0), (.ref r1), (.int p2), (.int p3)] below meth c s₁ [] 0 0 := Stand.of_body Bd
  have e0 : s₁.heap = h0 := by rw [← hh, Bd.state]; rfl
  have N0 := Fr.nil n0
  refine own_cast (Q := Q3 Z r0 r1 p2 p3 u1 u2 ch h0 n0) (kc := 0) (ks := 0) (ef_3 m r0 r1 p2 p3) ?_
  have K_1 := Keep.refl h0 [r0]
  refine own_st (fun _ k => XS.aloadN X0.here hx rfl (hb hby d3_0) rfl rfl k) ?_
  show own_Go X0 (Q3 Z r0 r1 p2 p3 u1 u2 ch h0 n0) 0 0 1 #[.val (.ref r0), .val (.ref r1), .val (.int p2), .val (.int p3)] [(.ref r0)]
  obtain ⟨T2, X2, e2, st2⟩ := getF X0 hx hZ hown (host := "") (Or.inl (hw _ (List.mem_of_getElem? (i := 11) rfl))) Via.refl e0 P_bytes (g := (mkF m 1 #[.val (.ref r0), .val (.ref r1), .val (.int p2), .val (.int p3)] [(.ref r0)])) rfl rfl (hb hby d3_1)
  refine own_st st2 ?_
  show own_Go X2 (Q3 Z r0 r1 p2 p3 u1 u2 ch h0 n0) 0 0 4 #[.val (.ref r0), .val (.ref r1), .val (.int p2), .val (.int p3)] [(.ref ch)]
  refine own_st (fun _ k => XS.aloadN X2.here hx rfl (hb hby d3_4) rfl rfl k) ?_
  show own_Go X2 (Q3 Z r0 r1 p2 p3 u1 u2 ch h0 n0) 0 0 5 #[.val (.ref r0), .val (.ref r1), .val (.int p2), .val (.int p3)] [(.ref r1), (.ref ch)]
  refine own_st (fun _ k => Jvm.RoadKit.acmp (g := (mkF m 5 #[.val (.ref r0), .val (.ref r1), .val (.int p2), .val (.int p3)] [(.ref r1), (.ref ch)])) X2 hx rfl rfl rfl (pc0 := 5) (pc' := 8) (same := false) rfl (hb hby d3_5) rfl (decide_eq_false fun q => PN (Value.ref.inj q)) (by decide) (by decide) k) ?_
  show own_Go X2 (Q3 Z r0 r1 p2 p3 u1 u2 ch h0 n0) 0 0 8 #[.val (.ref r0), .val (.ref r1), .val (.int p2), .val (.int p3)] []
  refine own_st (fun _ k => XS.aloadN X2.here hx rfl (hb hby d3_8) rfl rfl k) ?_
  show own_Go X2 (Q3 Z r0 r1 p2 p3 u1 u2 ch h0 n0) 0 0 9 #[.val (.ref r0), .val (.ref r1), .val (.int p2), .val (.int p3)] [(.ref r0)]
  refine own_st (fun _ k => XS.aloadN X2.here hx rfl (hb hby d3_9) rfl rfl k) ?_
  show own_Go X2 (Q3 Z r0 r1 p2 p3 u1 u2 ch h0 n0) 0 0 10 #[.val (.ref r0), .val (.ref r1), .val (.int p2), .val (.int p3)] [(.ref r1), (.ref r0)]
  obtain ⟨T3, h3, X3, e3, W3, st3⟩ := putF X2 hx hZ hown (host := "") (Or.inl (hw _ (List.mem_of_getElem? (i := 11) rfl))) Via.refl e2 P_bytes PE (Or.inl (hw _ (List.mem_of_getElem? (i := 12) rfl))) (hw _ (List.mem_of_getElem? (i := 3) rfl)) (ty := (.array .byte)) (by decide) rfl rfl (g := (mkF m 10 #[.val (.ref r0), .val (.ref r1), .val (.int p2), .val (.int p3)] [(.ref r1), (.ref r0)])) rfl rfl (hb hby d3_10)
  refine own_st st3 ?_
  have f_4 := PE.wr W3
  have f_5 := P_length.other W3 (Or.inr (slot_ne (Or.inl (hw _ (List.mem_of_getElem? (i := 21) rfl))) (Or.inl (hw _ (List.mem_of_getElem? (i := 12) rfl))) (by decide) (t := .int) (t' := (.array .byte)) (by decide) (by decide)))
  have f_6 := P_start.other W3 (Or.inr (slot_ne (Or.inl (hw _ (List.mem_of_getElem? (i := 19) rfl))) (Or.inl (hw _ (List.mem_of_getElem? (i := 12) rfl))) (by decide) (t := .int) (t' := (.array .byte)) (by decide) (by decide)))
  have Z_7 := Nat.le_trans Z0 (Nat.le_of_eq W3.size.symm)
  have K_8 := K_1.wr W3 (Or.inl (List.mem_of_getElem? (i := 0) rfl))
  have f_9 := P_bytes.same W3
  have N_10 := Fr.snoc X3 N0 PG
  show own_Go X3 (Q3 Z r0 r1 p2 p3 u1 u2 ch h0 n0) 0 0 13 #[.val (.ref r0), .val (.ref r1), .val (.int p2), .val (.int p3)] []
  refine own_st (fun _ k => XS.aloadN X3.here hx rfl (hb hby d3_13) rfl rfl k) ?_
  show own_Go X3 (Q3 Z r0 r1 p2 p3 u1 u2 ch h0 n0) 0 0 14 #[.val (.ref r0), .val (.ref r1), .val (.int p2), .val (.int p3)] [(.ref r0)]
  refine own_st (fun _ k => XS.iloadN X3.here hx rfl (hb hby d3_14) rfl k) ?_
  show own_Go X3 (Q3 Z r0 r1 p2 p3 u1 u2 ch h0 n0) 0 0 15 #[.val (.ref r0), .val (.ref r1), .val (.int p2), .val (.int p3)] [(.int p2), (.ref r0)]
  obtain ⟨T11, h11, X11, e11, W11, st11⟩ := putF X3 hx hZ hown (host := "") (Or.inl (hw _ (List.mem_of_getElem? (i := 18) rfl))) Via.refl e3 f_6 f_4 (Or.inl (hw _ (List.mem_of_getElem? (i := 19) rfl))) (hw _ (List.mem_of_getElem? (i := 3) rfl)) (ty := .int) (by decide) rfl rfl (g := (mkF m 15 #[.val (.ref r0), .val (.ref r1), .val (.int p2), .val (.int p3)] [(.int p2), (.ref r0)])) rfl rfl (hb hby d3_15)
  refine own_st st11 ?_
  have f_12 := f_4.wr W11
  have f_13 := f_5.other W11 (Or.inr (slot_ne (Or.inl (hw _ (List.mem_of_getElem? (i := 21) rfl))) (Or.inl (hw _ (List.mem_of_getElem? (i := 19) rfl))) (by decide) (t := .int) (t' := .int) (by decide) (by decide)))
  have f_14 := f_9.other W11 (Or.inr (slot_ne (Or.inl (hw _ (List.mem_of_getElem? (i := 12) rfl))) (Or.inl (hw _ (List.mem_of_getElem? (i := 19) rfl))) (by decide) (t := (.array .byte)) (t' := .int) (by decide) (by decide)))
  have Z_15 := Nat.le_trans Z_7 (Nat.le_of_eq W11.size.symm)
  have K_16 := K_8.wr W11 (Or.inl (List.mem_of_getElem? (i := 0) rfl))
  have f_17 := f_6.same W11
  have N_18 := Fr.snoc X11 N_10 PG
  show own_Go X11 (Q3 Z r0 r1 p2 p3 u1 u2 ch h0 n0) 0 0 18 #[.val (.ref r0), .val (.ref r1), .val (.int p2), .val (.int p3)] []
  refine own_st (fun _ k => XS.aloadN X11.here hx rfl (hb hby d3_18) rfl rfl k) ?_
  show own_Go X11 (Q3 Z r0 r1 p2 p3 u1 u2 ch h0 n0) 0 0 19 #[.val (.ref r0), .val (.ref r1), .val (.int p2), .val (.int p3)] [(.ref r0)]
  refine own_st (fun _ k => XS.iloadN X11.here hx rfl (hb hby d3_19) rfl k) ?_
  show own_Go X11 (Q3 Z r0 r1 p2 p3 u1 u2 ch h0 n0) 0 0 20 #[.val (.ref r0), .val (.ref r1), .val (.int p2), .val (.int p3)] [(.int p3), (.ref r0)]
  refine own_st (fun _ k => XS.iloadN X11.here hx rfl (hb hby d3_20) rfl k) ?_
  show own_Go X11 (Q3 Z r0 r1 p2 p3 u1 u2 ch h0 n0) 0 0 21 #[.val (.ref r0), .val (.ref r1), .val (.int p2), .val (.int p3)] [(.int p2), (.int p3), (.ref r0)]
  refine own_st (fun _ k => XS.isub X11.here hx rfl (hb hby d3_21) rfl k) ?_
  show own_Go X11 (Q3 Z r0 r1 p2 p3 u1 u2 ch h0 n0) 0 0 22 #[.val (.ref r0), .val (.ref r1), .val (.int p2), .val (.int p3)] [(.int (p3 - p2)), (.ref r0)]
  obtain ⟨T19, h19, X19, e19, W19, st19⟩ := putF X11 hx hZ hown (host := "") (Or.inl (hw _ (List.mem_of_getElem? (i := 20) rfl))) Via.refl e11 f_13 f_12 (Or.inl (hw _ (List.mem_of_getElem? (i := 21) rfl))) (hw _ (List.mem_of_getElem? (i := 3) rfl)) (ty := .int) (by decide) rfl rfl (g := (mkF m 22 #[.val (.ref r0), .val (.ref r1), .val (.int p2), .val (.int p3)] [(.int (p3 - p2)), (.ref r0)])) rfl rfl (hb hby d3_22)
  refine own_st st19 ?_
  have f_20 := f_12.wr W19
  have f_21 := f_14.other W19 (Or.inr (slot_ne (Or.inl (hw _ (List.mem_of_getElem? (i := 12) rfl))) (Or.inl (hw _ (List.mem_of_getElem? (i := 21) rfl))) (by decide) (t := (.array .byte)) (t' := .int) (by decide) (by decide)))
  have f_22 := f_17.other W19 (Or.inr (slot_ne (Or.inl (hw _ (List.mem_of_getElem? (i := 19) rfl))) (Or.inl (hw _ (List.mem_of_getElem? (i := 21) rfl))) (by decide) (t := .int) (t' := .int) (by decide) (by decide)))
  have Z_23 := Nat.le_trans Z_15 (Nat.le_of_eq W19.size.symm)
  have K_24 := K_16.wr W19 (Or.inl (List.mem_of_getElem? (i := 0) rfl))
  have f_25 := f_13.same W19
  have N_26 := Fr.snoc X19 N_18 PG
  show own_Go X19 (Q3 Z r0 r1 p2 p3 u1 u2 ch h0 n0) 0 0 25 #[.val (.ref r0), .val (.ref r1), .val (.int p2), .val (.int p3)] []
  refine own_retV X19 hx Bd.returns hlk e19 (hb hby d3_25) (by decide) (by decide) ?_
  exact ⟨rfl, N_26, K_24, f_25, f_21, f_22⟩
theorem d13_0 : decode prog_2_method_5_code 0 = .ok (.aload_n 0, 1) := by decide +kernel
theorem d13_1 : decode prog_2_method_5_code 1 = .ok (.getfield 44, 3) := by decide +kernel
theorem d13_4 : decode prog_2_method_5_code 4 = .ok (.aload_n 1, 1) := by decide +kernel
theorem d13_5 : decode prog_2_method_5_code 5 = .ok (.if_acmp .eq 8, 3) := by decide +kernel
theorem d13_13 : decode prog_2_method_5_code 13 = .ok (.aload_n 0, 1) := by decide +kernel
theorem d13_14 : decode prog_2_method_5_code 14 = .ok (.iload_n 2, 1) := by decide +kernel
theorem d13_15 : decode prog_2_method_5_code 15 = .ok (.putfield 57, 3) := by decide +kernel
theorem d13_18 : decode prog_2_method_5_code 18 = .ok (.aload_n 0, 1) := by decide +kernel
theorem d13_19 : decode prog_2_method_5_code 19 = .ok (.iload_n 3, 1) := by decide +kernel
theorem d13_20 : decode prog_2_method_5_code 20 = .ok (.iload_n 2, 1) := by decide +kernel
theorem d13_21 : decode prog_2_method_5_code 21 = .ok (.isub, 1) := by decide +kernel
theorem d13_22 : decode prog_2_method_5_code 22 = .ok (.putfield 53, 3) := by decide +kernel
theorem d13_25 : decode prog_2_method_5_code 25 = .ok (.return_, 1) := by decide +kernel
theorem pn_13 : plainName "com/example/stopbit/stopbit/ByteVector" = true := by first | (simp [plainName, overriddenIn]; done) | decide +kernel
theorem ef_13 (m : MethodId) (r0 : Addr) (r1 : Addr) (p2 : Int32) (p3 : Int32) : entryFrame m #[(.ref r0), (.ref r1), (.int p2), (.int p3)] 4 = mkF m 0 #[.val (.ref r0), .val (.ref r1), .val (.int p2), .val (.int p3)] [] := by first | (simp [entryFrame, mkF, argsToLocals, Value.category]; done) | rfl
def Q13 (Z : State) (r0 : Addr) (r1 : Addr) (p2 : Int32) (p3 : Int32) (u1 u2 : Int32) (h0 : Heap) (n0 : Nat) (v : Option Value) (h : Heap) (L : List Loc) : Prop := v = none ∧ Fr n0 L ∧ Keep h0 h [r0] ∧ Fld Z h r0 "com/example/stopbit/stopbit/ByteVector" "length" "I" (.int (p3 - p2)) ∧ Fld Z h r0 "com/example/stopbit/stopbit/ByteVector" "bytes" "[B" (.ref r1) ∧ Fld Z h r0 "com/example/stopbit/stopbit/ByteVector" "start" "I" (.int p2)
set_option maxRecDepth 65536 in
set_option maxHeartbeats 40000000 in
theorem rm13 (l : Launch) (Z : State) (a0 : Array Value) (hw : ∀ d ∈ tables_1, d.before a0 Z = true) (ws : List Jvm.Cond) (r0 : Addr) (r1 : Addr) (p2 : Int32) (p3 : Int32) (u1 u2 : Int32) (h0 : Heap) (n0 : Nat) (Z0 : n0 ≤ h0.size) (PE : Exa Z h0 r0 "com/example/stopbit/stopbit/ByteVector") (PG : n0 ≤ r0) (P_length : Fld Z h0 r0 "com/example/stopbit/stopbit/ByteVector" "length" "I" (.int u1)) (P_bytes : Fld Z h0 r0 "com/example/stopbit/stopbit/ByteVector" "bytes" "[B" (.ref r1)) (P_start : Fld Z h0 r0 "com/example/stopbit/stopbit/ByteVector" "start" "I" (.int u2)) :
    MetFree l (⟨"com/example/stopbit/stopbit/ByteVector", "view", "([BII)V"⟩ : MethodName) (head1 (Jvm.Cond.code (⟨"com/example/stopbit/stopbit/ByteVector", "view", "([BII)V"⟩ : MethodName) prog_2_method_5_code 4 none :: ws) ({ frames := 0, cells := 0, slots := 0, locals := 0 } : Room)) (fun a U => a = #[(.ref r0), (.ref r1), (.int p2), (.int p3)] ∧ Z.Warmed39 U.vm ∧ U.heap = h0) (fun _ _ _ _ _ => True) (fun _ U o U' => ∃ v L, o = .returned v ∧ Q13 Z r0 r1 p2 p3 u1 u2 h0 n0 v U'.heap L ∧ FrameEnd U o U' L ({ frames := 0, cells := 0, slots := 0, locals := 0 } : Room).cells ({ frames := 0, cells := 0, slots := 0, locals := 0 } : Room).slots) := by
  refine MetFree.of_bodySF (plainFor_of_name pn_13) hisR ?_
  intro p e s m args below meth c s₁ Bd hml0 hP hK
  obtain ⟨rfl, hZ, hh⟩ := hP
  have hx := Bd.exec
  have hby := Bd.bytes
  have hml : c.maxLocals = 4 := hml0
  have hown : s.vm.findClass "com/example/stopbit/stopbit/ByteVector" = some m.cls := findClass_of_methodNamed Bd.named
  have hnm := (name_of_methodNamed Bd.named Bd.method).1
  have hlk : meth.locks = false := Bd.notSynchronized
  have X0 : Stand p l e ({ frames := 0, cells := 0, slots := 0, locals := 0 } : Room) s m #[(.ref r0), (.ref r1), (.int p2), (.int p3)] below meth c s₁ [] 0 0 := Stand.of_body Bd
  have e0 : s₁.heap = h0 := by rw [← hh, Bd.state]; rfl
  have N0 := Fr.nil n0
  refine own_cast (Q := Q13 Z r0 r1 p2 p3 u1 u2 h0 n0) (kc := 0) (ks := 0) (ef_13 m r0 r1 p2 p3) ?_
  have K_1 := Keep.refl h0 [r0]
  refine own_st (fun _ k => XS.aloadN X0.here hx rfl (hb hby d13_0) rfl rfl k) ?_
  show own_Go X0 (Q13 Z r0 r1 p2 p3 u1 u2 h0 n0) 0 0 1 #[.val (.ref r0), .val (.ref r1), .val (.int p2), .val (.int p3)] [(.ref r0)]
  obtain ⟨T2, X2, e2, st2⟩ := getF X0 hx hZ hown (host := "") (Or.inl (hw _ (List.mem_of_getElem? (i := 11) rfl))) Via.refl e0 P_bytes (g := (mkF m 1 #[.val (.ref r0), .val (.ref r1), .val (.int p2), .val (.int p3)] [(.ref r0)])) rfl rfl (hb hby d13_1)
  refine own_st st2 ?_
  show own_Go X2 (Q13 Z r0 r1 p2 p3 u1 u2 h0 n0) 0 0 4 #[.val (.ref r0), .val (.ref r1), .val (.int p2), .val (.int p3)] [(.ref r1)]
  refine own_st (fun _ k => XS.aloadN X2.here hx rfl (hb hby d13_4) rfl rfl k) ?_
  show own_Go X2 (Q13 Z r0 r1 p2 p3 u1 u2 h0 n0) 0 0 5 #[.val (.ref r0), .val (.ref r1), .val (.int p2), .val (.int p3)] [(.ref r1), (.ref r1)]
  refine own_st (fun _ k => Jvm.RoadKit.acmp (g := (mkF m 5 #[.val (.ref r0), .val (.ref r1), .val (.int p2), .val (.int p3)] [(.ref r1), (.ref r1)])) X2 hx rfl rfl rfl (pc0 := 5) (pc' := 13) (same := true) rfl (hb hby d13_5) rfl (decide_eq_true rfl) (by decide) (by decide) k) ?_
  show own_Go X2 (Q13 Z r0 r1 p2 p3 u1 u2 h0 n0) 0 0 13 #[.val (.ref r0), .val (.ref r1), .val (.int p2), .val (.int p3)] []
  refine own_st (fun _ k => XS.aloadN X2.here hx rfl (hb hby d13_13) rfl rfl k) ?_
  show own_Go X2 (Q13 Z r0 r1 p2 p3 u1 u2 h0 n0) 0 0 14 #[.val (.ref r0), .val (.ref r1), .val (.int p2), .val (.int p3)] [(.ref r0)]
  refine own_st (fun _ k => XS.iloadN X2.here hx rfl (hb hby d13_14) rfl k) ?_
  show own_Go X2 (Q13 Z r0 r1 p2 p3 u1 u2 h0 n0) 0 0 15 #[.val (.ref r0), .val (.ref r1), .val (.int p2), .val (.int p3)] [(.int p2), (.ref r0)]
  obtain ⟨T3, h3, X3, e3, W3, st3⟩ := putF X2 hx hZ hown (host := "") (Or.inl (hw _ (List.mem_of_getElem? (i := 18) rfl))) Via.refl e2 P_start PE (Or.inl (hw _ (List.mem_of_getElem? (i := 19) rfl))) (hw _ (List.mem_of_getElem? (i := 3) rfl)) (ty := .int) (by decide) rfl rfl (g := (mkF m 15 #[.val (.ref r0), .val (.ref r1), .val (.int p2), .val (.int p3)] [(.int p2), (.ref r0)])) rfl rfl (hb hby d13_15)
  refine own_st st3 ?_
  have f_4 := PE.wr W3
  have f_5 := P_length.other W3 (Or.inr (slot_ne (Or.inl (hw _ (List.mem_of_getElem? (i := 21) rfl))) (Or.inl (hw _ (List.mem_of_getElem? (i := 19) rfl))) (by decide) (t := .int) (t' := .int) (by decide) (by decide)))
  have f_6 := P_bytes.other W3 (Or.inr (slot_ne (Or.inl (hw _ (List.mem_of_getElem? (i := 12) rfl))) (Or.inl (hw _ (List.mem_of_getElem? (i := 19) rfl))) (by decide) (t := (.array .byte)) (t' := .int) (by decide) (by decide)))
  have Z_7 := Nat.le_trans Z0 (Nat.le_of_eq W3.size.symm)
  have K_8 := K_1.wr W3 (Or.inl (List.mem_of_getElem? (i := 0) rfl))
  have f_9 := P_start.same W3
  have N_10 := Fr.snoc X3 N0 PG
  show own_Go X3 (Q13 Z r0 r1 p2 p3 u1 u2 h0 n0) 0 0 18 #[.val (.ref r0), .val (.ref r1), .val (.int p2), .val (.int p3)] []
  refine own_st (fun _ k => XS.aloadN X3.here hx rfl (hb hby d13_18) rfl rfl k) ?_
  show own_Go X3 (Q13 Z r0 r1 p2 p3 u1 u2 h0 n0) 0 0 19 #[.val (.ref r0), .val (.ref r1), .val (.int p2), .val (.int p3)] [(.ref r0)]
  refine own_st (fun _ k => XS.iloadN X3.here hx rfl (hb hby d13_19) rfl k) ?_
  show own_Go X3 (Q13 Z r0 r1 p2 p3 u1 u2 h0 n0) 0 0 20 #[.val (.ref r0), .val (.ref r1), .val (.int p2), .val (.int p3)] [(.int p3), (.ref r0)]
  refine own_st (fun _ k => XS.iloadN X3.here hx rfl (hb hby d13_20) rfl k) ?_
  show own_Go X3 (Q13 Z r0 r1 p2 p3 u1 u2 h0 n0) 0 0 21 #[.val (.ref r0), .val (.ref r1), .val (.int p2), .val (.int p3)] [(.int p2), (.int p3), (.ref r0)]
  refine own_st (fun _ k => XS.isub X3.here hx rfl (hb hby d13_21) rfl k) ?_
  show own_Go X3 (Q13 Z r0 r1 p2 p3 u1 u2 h0 n0) 0 0 22 #[.val (.ref r0), .val (.ref r1), .val (.int p2), .val (.int p3)] [(.int (p3 - p2)), (.ref r0)]
  obtain ⟨T11, h11, X11, e11, W11, st11⟩ := putF X3 hx hZ hown (host := "") (Or.inl (hw _ (List.mem_of_getElem? (i := 20) rfl))) Via.refl e3 f_5 f_4 (Or.inl (hw _ (List.mem_of_getElem? (i := 21) rfl))) (hw _ (List.mem_of_getElem? (i := 3) rfl)) (ty := .int) (by decide) rfl rfl (g := (mkF m 22 #[.val (.ref r0), .val (.ref r1), .val (.int p2), .val (.int p3)] [(.int (p3 - p2)), (.ref r0)])) rfl rfl (hb hby d13_22)
  refine own_st st11 ?_
  have f_12 := f_4.wr W11
  have f_13 := f_6.other W11 (Or.inr (slot_ne (Or.inl (hw _ (List.mem_of_getElem? (i := 12) rfl))) (Or.inl (hw _ (List.mem_of_getElem? (i := 21) rfl))) (by decide) (t := (.array .byte)) (t' := .int) (by decide) (by decide)))
  have f_14 := f_9.other W11 (Or.inr (slot_ne (Or.inl (hw _ (List.mem_of_getElem? (i := 19) rfl))) (Or.inl (hw _ (List.mem_of_getElem? (i := 21) rfl))) (by decide) (t := .int) (t' := .int) (by decide) (by decide)))
  have Z_15 := Nat.le_trans Z_7 (Nat.le_of_eq W11.size.symm)
  have K_16 := K_8.wr W11 (Or.inl (List.mem_of_getElem? (i := 0) rfl))
  have f_17 := f_5.same W11
  have N_18 := Fr.snoc X11 N_10 PG
  show own_Go X11 (Q13 Z r0 r1 p2 p3 u1 u2 h0 n0) 0 0 25 #[.val (.ref r0), .val (.ref r1), .val (.int p2), .val (.int p3)] []
  refine own_retV X11 hx Bd.returns hlk e11 (hb hby d13_25) (by decide) (by decide) ?_
  exact ⟨rfl, N_18, K_16, f_17, f_13, f_14⟩
theorem d1_0 : decode prog_2_method_3_code 0 = .ok (.aload_n 0, 1) := by decide +kernel
theorem d1_1 : decode prog_2_method_3_code 1 = .ok (.invokespecial 39, 3) := by decide +kernel
theorem d1_4 : decode prog_2_method_3_code 4 = .ok (.aload_n 0, 1) := by decide +kernel
theorem d1_5 : decode prog_2_method_3_code 5 = .ok (.bipush 16, 2) := by decide +kernel
theorem d1_7 : decode prog_2_method_3_code 7 = .ok (.newarray .byte, 2) := by decide +kernel
theorem d1_9 : decode prog_2_method_3_code 9 = .ok (.putfield 44, 3) := by decide +kernel
theorem d1_12 : decode prog_2_method_3_code 12 = .ok (.return_, 1) := by decide +kernel
theorem pn_1 : plainName "com/example/stopbit/stopbit/ByteVector" = true := by first | (simp [plainName, overriddenIn]; done) | decide +kernel
theorem ef_1 (m : MethodId) (r0 : Addr) : entryFrame m #[(.ref r0)] 1 = mkF m 0 #[.val (.ref r0)] [] := by first | (simp [entryFrame, mkF, argsToLocals, Value.category]; done) | rfl
def Q1 (Z : State) (r0 : Addr)  (h0 : Heap) (n0 : Nat) (v : Option Value) (h : Heap) (L : List Loc) : Prop := ∃ b : Addr, v = none ∧ Fr n0 L ∧ Keep h0 h [r0] ∧ n0 ≤ b ∧ h0.size ≤ b ∧ Fld Z h r0 "com/example/stopbit/stopbit/ByteVector" "length" "I" (.int (0 : Int32)) ∧ Fld Z h r0 "com/example/stopbit/stopbit/ByteVector" "bytes" "[B" (.ref b) ∧ Fld Z h r0 "com/example/stopbit/stopbit/ByteVector" "start" "I" (.int (0 : Int32))
set_option maxRecDepth 65536 in
set_option maxHeartbeats 40000000 in
theorem rm1 (l : Launch) (Z : State) (a0 : Array Value) (hw : ∀ d ∈ tables_1, d.before a0 Z = true) (ws : List Jvm.Cond) (r0 : Addr)  (h0 : Heap) (n0 : Nat) (Z0 : n0 ≤ h0.size) (PE : Exa Z h0 r0 "com/example/stopbit/stopbit/ByteVector") (PG : n0 ≤ r0) (P_length : Fld Z h0 r0 "com/example/stopbit/stopbit/ByteVector" "length" "I" (.int (0 : Int32))) (P_bytes : Fld Z h0 r0 "com/example/stopbit/stopbit/ByteVector" "bytes" "[B" .null) (P_start : Fld Z h0 r0 "com/example/stopbit/stopbit/ByteVector" "start" "I" (.int (0 : Int32))) :
    MetFree l (⟨"com/example/stopbit/stopbit/ByteVector", "<init>", "()V"⟩ : MethodName) (head1 (Jvm.Cond.code (⟨"com/example/stopbit/stopbit/ByteVector", "<init>", "()V"⟩ : MethodName) prog_2_method_3_code 1 none :: ws) ({ frames := 1, cells := 1, slots := 16, locals := 12 } : Room)) (fun a U => a = #[(.ref r0)] ∧ Z.Warmed39 U.vm ∧ U.heap = h0) (fun _ _ _ _ _ => True) (fun _ U o U' => ∃ v L, o = .returned v ∧ Q1 Z r0 h0 n0 v U'.heap L ∧ FrameEnd U o U' L ({ frames := 1, cells := 1, slots := 16, locals := 12 } : Room).cells ({ frames := 1, cells := 1, slots := 16, locals := 12 } : Room).slots) := by
  refine MetFree.of_bodySF (plainFor_of_name pn_1) hisR ?_
  intro p e s m args below meth c s₁ Bd hml0 hP hK
  obtain ⟨rfl, hZ, hh⟩ := hP
  have hx := Bd.exec
  have hby := Bd.bytes
  have hml : c.maxLocals = 1 := hml0
  have hown : s.vm.findClass "com/example/stopbit/stopbit/ByteVector" = some m.cls := findClass_of_methodNamed Bd.named
  have hnm := (name_of_methodNamed Bd.named Bd.method).1
  have hlk : meth.locks = false := Bd.notSynchronized
  have X0 : Stand p l e ({ frames := 1, cells := 1, slots := 16, locals := 12 } : Room) s m #[(.ref r0)] below meth c s₁ [] 0 0 := Stand.of_body Bd
  have e0 : s₁.heap = h0 := by rw [← hh, Bd.state]; rfl
  have N0 := Fr.nil n0
  refine own_cast (Q := Q1 Z r0 h0 n0) (kc := 1) (ks := 16) (ef_1 m r0) ?_
  have K_1 := Keep.refl h0 [r0]
  refine own_st (fun _ k => XS.aloadN X0.here hx rfl (hb hby d1_0) rfl rfl k) ?_
  show own_Go X0 (Q1 Z r0 h0 n0) 1 16 1 #[.val (.ref r0)] [(.ref r0)]
  obtain ⟨T2, X2, e2, st2⟩ := initO X0 hx hZ hown (hw _ (List.mem_of_getElem? (i := 8) rfl)) (hw _ (List.mem_of_getElem? (i := 9) rfl)) (hw _ (List.mem_of_getElem? (i := 10) rfl)) e0 (g := (mkF m 1 #[.val (.ref r0)] [(.ref r0)])) rfl (by rw [hml]; rfl) rfl (hb hby d1_1) (by decide) (W := 0) (by show 2 * 0 + _ ≤ _; exact Nat.le_of_eq rfl) (by decide)
  refine own_st st2 ?_
  show own_Go X2 (Q1 Z r0 h0 n0) 1 16 4 #[.val (.ref r0)] []
  refine own_st (fun _ k => XS.aloadN X2.here hx rfl (hb hby d1_4) rfl rfl k) ?_
  show own_Go X2 (Q1 Z r0 h0 n0) 1 16 5 #[.val (.ref r0)] [(.ref r0)]
  refine own_st (fun _ k => XS.bipush X2.here hx rfl (hb hby d1_5) k) ?_
  show own_Go X2 (Q1 Z r0 h0 n0) 1 16 7 #[.val (.ref r0)] [(.int (16 : Int32)), (.ref r0)]
  obtain ⟨T3, h3, k3, X3, e3, E3, A3, st3⟩ := newP X2 hx hZ (hw _ (List.mem_of_getElem? (i := 0) rfl)) e2 (g := (mkF m 7 #[.val (.ref r0)] [(.int (16 : Int32)), (.ref r0)])) rfl (hb hby d1_7) rfl (by decide) (cap := 16) (by decide) (by decide) (by decide) (by decide)
  obtain ⟨b3, g3⟩ : ∃ z, z = h0.size := ⟨_, rfl⟩
  rw [← g3] at A3 st3
  refine own_st st3 ?_
  have ne_4 := Nat.ne_of_lt (Nat.lt_of_lt_of_le PE.lt (Nat.le_of_eq g3.symm))
  have G_5 := Nat.le_trans Z0 (Nat.le_of_eq g3.symm)
  have S_6 := Nat.le_trans K_1.1 (Nat.le_of_eq g3.symm)
  have f_7 := PE.ext E3
  have f_8 := P_length.ext E3
  have f_9 := P_bytes.ext E3
  have f_10 := P_start.ext E3
  have Z_11 := Nat.le_trans Z0 E3.1
  have K_12 := K_1.ext E3
  have V3 : Arv Z h3 b3 k3 .byte (16 : Int32) [(.int (0 : Int32)), (.int (0 : Int32)), (.int (0 : Int32)), (.int (0 : Int32)), (.int (0 : Int32)), (.int (0 : Int32)), (.int (0 : Int32)), (.int (0 : Int32)), (.int (0 : Int32)), (.int (0 : Int32)), (.int (0 : Int32)), (.int (0 : Int32)), (.int (0 : Int32)), (.int (0 : Int32)), (.int (0 : Int32)), (.int (0 : Int32))] (.int (0 : Int32)) := (Arv.new A3 (by decide)).pad (pad_rep [] (.int (0 : Int32)) 16)
  show own_Go X3 (Q1 Z r0 h0 n0) 1 16 9 #[.val (.ref r0)] [(.ref b3), (.ref r0)]
  obtain ⟨T13, h13, X13, e13, W13, st13⟩ := putF X3 hx hZ hown (host := "") (Or.inl (hw _ (List.mem_of_getElem? (i := 11) rfl))) Via.refl e3 f_9 f_7 (Or.inl (hw _ (List.mem_of_getElem? (i := 12) rfl))) (hw _ (List.mem_of_getElem? (i := 3) rfl)) (ty := (.array .byte)) (by decide) rfl rfl (g := (mkF m 9 #[.val (.ref r0)] [(.ref b3), (.ref r0)])) rfl rfl (hb hby d1_9)
  refine own_st st13 ?_
  have f_14 := f_7.wr W13
  have f_15 := f_8.other W13 (Or.inr (slot_ne (Or.inl (hw _ (List.mem_of_getElem? (i := 21) rfl))) (Or.inl (hw _ (List.mem_of_getElem? (i := 12) rfl))) (by decide) (t := .int) (t' := (.array .byte)) (by decide) (by decide)))
  have f_16 := f_10.other W13 (Or.inr (slot_ne (Or.inl (hw _ (List.mem_of_getElem? (i := 19) rfl))) (Or.inl (hw _ (List.mem_of_getElem? (i := 12) rfl))) (by decide) (t := .int) (t' := (.array .byte)) (by decide) (by decide)))
  have f_17 := V3.other W13 (Ne.symm ne_4)
  have Z_18 := Nat.le_trans Z_11 (Nat.le_of_eq W13.size.symm)
  have K_19 := K_12.wr W13 (Or.inl (List.mem_of_getElem? (i := 0) rfl))
  have f_20 := f_9.same W13
  have N_21 := Fr.snoc X13 N0 PG
  show own_Go X13 (Q1 Z r0 h0 n0) 1 16 12 #[.val (.ref r0)] []
  refine own_retV X13 hx Bd.returns hlk e13 (hb hby d1_12) (by decide) (by decide) ?_
  exact ⟨b3, rfl, N_21, K_19, G_5, S_6, f_15, f_20, f_16⟩
theorem pn_0 : plainName "com/example/stopbit/stopbit/ByteVectorViewPinLaw" = true := by first | (simp [plainName, overriddenIn]; done) | decide +kernel
theorem pd_0_0 : parseMethodDescriptor "()V" = some ⟨[], none⟩ := by decide +kernel
theorem pd_0_1 : parseMethodDescriptor "([BII)V" = some ⟨[(.array .byte), .int, .int], none⟩ := by decide +kernel
theorem pd_0_2 : parseMethodDescriptor "()I" = some ⟨[], some .int⟩ := by decide +kernel
theorem pd_0_3 : parseMethodDescriptor "(Lcom/example/stopbit/stopbit/ByteVector;[BIII)Z" = some ⟨[(.object "com/example/stopbit/stopbit/ByteVector"), (.array .byte), .int, .int, .int], some .boolean⟩ := by decide +kernel
theorem ef_0 (m : MethodId) (q0 : Int64) (p1 : Int32) (p2 : Int32) (p3 : Int32) (q4 : Int64) : entryFrame m #[(.long q0), (.int p1), (.int p2), (.int p3), (.long q4)] maxLocals = mkF m 0 #[.val (.long q0), .second, .val (.int p1), .val (.int p2), .val (.int p3), .val (.long q4), .second, .unset, .unset, .unset, .unset, .unset, .unset, .unset, .unset] [] := by first | (simp [entryFrame, mkF, argsToLocals, Value.category, maxLocals]; done) | rfl
def Q0 (Z : State) (q0 : Int64) (p1 : Int32) (p2 : Int32) (p3 : Int32) (q4 : Int64)  (h0 : Heap) (n0 : Nat) (v : Option Value) (h : Heap) (L : List Loc) : Prop := v = some (.int 1) ∧ Fr n0 L
set_option maxRecDepth 65536 in
set_option maxHeartbeats 40000000 in
theorem rm0 (l : Launch) (Z : State) (a0 : Array Value) (hw : ∀ d ∈ tables_1, d.before a0 Z = true) (ws : List Jvm.Cond) (q0 : Int64) (p1 : Int32) (p2 : Int32) (p3 : Int32) (q4 : Int64)  (h0 : Heap) (n0 : Nat) (Z0 : n0 ≤ h0.size)  :
    MetFree l x (head1 (Jvm.Cond.code x code maxLocals ret :: ws) room_1) (fun a U => a = #[(.long q0), (.int p1), (.int p2), (.int p3), (.long q4)] ∧ Z.Warmed39 U.vm ∧ U.heap = h0) (fun _ _ _ _ _ => True) (fun _ U o U' => ∃ v L, o = .returned v ∧ Q0 Z q0 p1 p2 p3 q4 h0 n0 v U'.heap L ∧ FrameEnd U o U' L 4 29) := by
  refine MetFree.of_bodySF (plainFor_of_name pn_0) hisR ?_
  intro p e s m args below meth c s₁ Bd hml0 hP hK
  obtain ⟨rfl, hZ, hh⟩ := hP
  have hx := Bd.exec
  have hby := Bd.bytes
  have hml : c.maxLocals = 15 := hml0
  have hown : s.vm.findClass "com/example/stopbit/stopbit/ByteVectorViewPinLaw" = some m.cls := findClass_of_methodNamed Bd.named
  have hnm := (name_of_methodNamed Bd.named Bd.method).1
  have hlk : meth.locks = false := Bd.notSynchronized
  have X0 : Stand p l e room_1 s m #[(.long q0), (.int p1), (.int p2), (.int p3), (.long q4)] below meth c s₁ [] 0 0 := Stand.of_body Bd
  have e0 : s₁.heap = h0 := by rw [← hh, Bd.state]; rfl
  have N0 := Fr.nil n0
  refine own_cast (Q := Q0 Z q0 p1 p2 p3 q4 h0 n0) (kc := 4) (ks := 29) (ef_0 m q0 p1 p2 p3 q4) ?_
  refine own_st (fun _ k => XS.bipush X0.here hx rfl (hb hby at_0) k) ?_
  show own_Go X0 (Q0 Z q0 p1 p2 p3 q4 h0 n0) 4 29 2 #[.val (.long q0), .second, .val (.int p1), .val (.int p2), .val (.int p3), .val (.long q4), .second, .unset, .unset, .unset, .unset, .unset, .unset, .unset, .unset] [(.int (6 : Int32))]
  obtain ⟨T1, h1, k1, X1, e1, E1, A1, st1⟩ := newP X0 hx hZ (hw _ (List.mem_of_getElem? (i := 0) rfl)) e0 (g := (mkF m 2 #[.val (.long q0), .second, .val (.int p1), .val (.int p2), .val (.int p3), .val (.long q4), .second, .unset, .unset, .unset, .unset, .unset, .unset, .unset, .unset] [(.int (6 : Int32))])) rfl (hb hby at_2) rfl (by decide) (cap := 6) (by decide) (by decide) (by decide) (by decide)
  obtain ⟨b1, g1⟩ : ∃ z, z = h0.size := ⟨_, rfl⟩
  rw [← g1] at A1 st1
  refine own_st st1 ?_
  have G_2 := Nat.le_trans Z0 (Nat.le_of_eq g1.symm)
  have Z_3 := Nat.le_trans Z0 E1.1
  have V1 : Arv Z h1 b1 k1 .byte (6 : Int32) [(.int (0 : Int32)), (.int (0 : Int32)), (.int (0 : Int32)), (.int (0 : Int32)), (.int (0 : Int32)), (.int (0 : Int32))] (.int (0 : Int32)) := (Arv.new A1 (by decide)).pad (pad_rep [] (.int (0 : Int32)) 6)
  show own_Go X1 (Q0 Z q0 p1 p2 p3 q4 h0 n0) 4 29 4 #[.val (.long q0), .second, .val (.int p1), .val (.int p2), .val (.int p3), .val (.long q4), .second, .unset, .unset, .unset, .unset, .unset, .unset, .unset, .unset] [(.ref b1)]
  refine own_st (fun _ k => XS.astore X1.here hx rfl (hb hby at_4) rfl rfl (l' := #[.val (.long q0), .second, .val (.int p1), .val (.int p2), .val (.int p3), .val (.long q4), .second, .val (.ref b1), .unset, .unset, .unset, .unset, .unset, .unset, .unset]) rfl k) ?_
  show own_Go X1 (Q0 Z q0 p1 p2 p3 q4 h0 n0) 4 29 6 #[.val (.long q0), .second, .val (.int p1), .val (.int p2), .val (.int p3), .val (.long q4), .second, .val (.ref b1), .unset, .unset, .unset, .unset, .unset, .unset, .unset] []
  refine own_st (fun _ k => XS.aload X1.here hx rfl (hb hby at_6) rfl rfl k) ?_
  show own_Go X1 (Q0 Z q0 p1 p2 p3 q4 h0 n0) 4 29 8 #[.val (.long q0), .second, .val (.int p1), .val (.int p2), .val (.int p3), .val (.long q4), .second, .val (.ref b1), .unset, .unset, .unset, .unset, .unset, .unset, .unset] [(.ref b1)]
  refine own_st (fun _ k => XS.iconst X1.here hx rfl (hb hby at_8) k) ?_
  show own_Go X1 (Q0 Z q0 p1 p2 p3 q4 h0 n0) 4 29 9 #[.val (.long q0), .second, .val (.int p1), .val (.int p2), .val (.int p3), .val (.long q4), .second, .val (.ref b1), .unset, .unset, .unset, .unset, .unset, .unset, .unset] [(.int (0 : Int32)), (.ref b1)]
  refine own_st (fun _ k => XS.lloadN X1.here hx rfl (hb hby at_9) rfl k) ?_
  show own_Go X1 (Q0 Z q0 p1 p2 p3 q4 h0 n0) 4 29 10 #[.val (.long q0), .second, .val (.int p1), .val (.int p2), .val (.int p3), .val (.long q4), .second, .val (.ref b1), .unset, .unset, .unset, .unset, .unset, .unset, .unset] [(.long q0), (.int (0 : Int32)), (.ref b1)]
  refine own_st (fun _ k => XS.l2i X1.here hx rfl (hb hby at_10) rfl k) ?_
  show own_Go X1 (Q0 Z q0 p1 p2 p3 q4 h0 n0) 4 29 11 #[.val (.long q0), .second, .val (.int p1), .val (.int p2), .val (.int p3), .val (.long q4), .second, .val (.ref b1), .unset, .unset, .unset, .unset, .unset, .unset, .unset] [(.int (q0.toInt32)), (.int (0 : Int32)), (.ref b1)]
  refine own_st (fun _ k => XS.i2b X1.here hx rfl (hb hby at_11) rfl k) ?_
  show own_Go X1 (Q0 Z q0 p1 p2 p3 q4 h0 n0) 4 29 12 #[.val (.long q0), .second, .val (.int p1), .val (.int p2), .val (.int p3), .val (.long q4), .second, .val (.ref b1), .unset, .unset, .unset, .unset, .unset, .unset, .unset] [(.int ((q0.toInt32).toInt8.toInt32)), (.int (0 : Int32)), (.ref b1)]
  obtain ⟨T4, h4, X4, e4, W4, V4, st4⟩ := own_stB X1 hx hZ e1 V1 (j := (0 : Int32)) ⟨by decide, by decide⟩ (Nat.le_of_ble_eq_true rfl) (g := (mkF m 12 #[.val (.long q0), .second, .val (.int p1), .val (.int p2), .val (.int p3), .val (.long q4), .second, .val (.ref b1), .unset, .unset, .unset, .unset, .unset, .unset, .unset] [(.int ((q0.toInt32).toInt8.toInt32)), (.int (0 : Int32)), (.ref b1)])) rfl rfl (hb hby at_12)
  refine own_st st4 ?_
  have Z_5 := Nat.le_trans Z_3 (Nat.le_of_eq W4.size.symm)
  have U4 : Arv Z h4 b1 k1 .byte (6 : Int32) [(.int ((q0.toInt32).toInt8.toInt32).toInt8.toInt32), (.int (0 : Int32)), (.int (0 : Int32)), (.int (0 : Int32)), (.int (0 : Int32)), (.int (0 : Int32))] (.int (0 : Int32)) := V4
  have N_6 := Fr.snoc X4 N0 G_2
  show own_Go X4 (Q0 Z q0 p1 p2 p3 q4 h0 n0) 4 29 13 #[.val (.long q0), .second, .val (.int p1), .val (.int p2), .val (.int p3), .val (.long q4), .second, .val (.ref b1), .unset, .unset, .unset, .unset, .unset, .unset, .unset] []
  refine own_st (fun _ k => XS.aload X4.here hx rfl (hb hby at_13) rfl rfl k) ?_
  show own_Go X4 (Q0 Z q0 p1 p2 p3 q4 h0 n0) 4 29 15 #[.val (.long q0), .second, .val (.int p1), .val (.int p2), .val (.int p3), .val (.long q4), .second, .val (.ref b1), .unset, .unset, .unset, .unset, .unset, .unset, .unset] [(.ref b1)]
  refine own_st (fun _ k => XS.iconst X4.here hx rfl (hb hby at_15) k) ?_
  show own_Go X4 (Q0 Z q0 p1 p2 p3 q4 h0 n0) 4 29 16 #[.val (.long q0), .second, .val (.int p1), .val (.int p2), .val (.int p3), .val (.long q4), .second, .val (.ref b1), .unset, .unset, .unset, .unset, .unset, .unset, .unset] [(.int (1 : Int32)), (.ref b1)]
  refine own_st (fun _ k => XS.lloadN X4.here hx rfl (hb hby at_16) rfl k) ?_
  show own_Go X4 (Q0 Z q0 p1 p2 p3 q4 h0 n0) 4 29 17 #[.val (.long q0), .second, .val (.int p1), .val (.int p2), .val (.int p3), .val (.long q4), .second, .val (.ref b1), .unset, .unset, .unset, .unset, .unset, .unset, .unset] [(.long q0), (.int (1 : Int32)), (.ref b1)]
  refine own_st (fun _ k => XS.bipush X4.here hx rfl (hb hby at_17) k) ?_
  show own_Go X4 (Q0 Z q0 p1 p2 p3 q4 h0 n0) 4 29 19 #[.val (.long q0), .second, .val (.int p1), .val (.int p2), .val (.int p3), .val (.long q4), .second, .val (.ref b1), .unset, .unset, .unset, .unset, .unset, .unset, .unset] [(.int (8 : Int32)), (.long q0), (.int (1 : Int32)), (.ref b1)]
  refine own_st (fun _ k => XS.lushr X4.here hx rfl (hb hby at_19) rfl k) ?_
  show own_Go X4 (Q0 Z q0 p1 p2 p3 q4 h0 n0) 4 29 20 #[.val (.long q0), .second, .val (.int p1), .val (.int p2), .val (.int p3), .val (.long q4), .second, .val (.ref b1), .unset, .unset, .unset, .unset, .unset, .unset, .unset] [(.long ((q0.toUInt64 >>> ((8 : Int32) &&& 0x3f).toInt64.toUInt64).toInt64)), (.int (1 : Int32)), (.ref b1)]
  refine own_st (fun _ k => XS.l2i X4.here hx rfl (hb hby at_20) rfl k) ?_
  show own_Go X4 (Q0 Z q0 p1 p2 p3 q4 h0 n0) 4 29 21 #[.val (.long q0), .second, .val (.int p1), .val (.int p2), .val (.int p3), .val (.long q4), .second, .val (.ref b1), .unset, .unset, .unset, .unset, .unset, .unset, .unset] [(.int (((q0.toUInt64 >>> ((8 : Int32) &&& 0x3f).toInt64.toUInt64).toInt64).toInt32)), (.int (1 : Int32)), (.ref b1)]
  refine own_st (fun _ k => XS.i2b X4.here hx rfl (hb hby at_21) rfl k) ?_
  show own_Go X4 (Q0 Z q0 p1 p2 p3 q4 h0 n0) 4 29 22 #[.val (.long q0), .second, .val (.int p1), .val (.int p2), .val (.int p3), .val (.long q4), .second, .val (.ref b1), .unset, .unset, .unset, .unset, .unset, .unset, .unset] [(.int ((((q0.toUInt64 >>> ((8 : Int32) &&& 0x3f).toInt64.toUInt64).toInt64).toInt32).toInt8.toInt32)), (.int (1 : Int32)), (.ref b1)]
  obtain ⟨T7, h7, X7, e7, W7, V7, st7⟩ := own_stB X4 hx hZ e4 U4 (j := (1 : Int32)) ⟨by decide, by decide⟩ (Nat.le_of_ble_eq_true rfl) (g := (mkF m 22 #[.val (.long q0), .second, .val (.int p1), .val (.int p2), .val (.int p3), .val (.long q4), .second, .val (.ref b1), .unset, .unset, .unset, .unset, .unset, .unset, .unset] [(.int ((((q0.toUInt64 >>> ((8 : Int32) &&& 0x3f).toInt64.toUInt64).toInt64).toInt32).toInt8.toInt32)), (.int (1 : Int32)), (.ref b1)])) rfl rfl (hb hby at_22)
  refine own_st st7 ?_
  have Z_8 := Nat.le_trans Z_5 (Nat.le_of_eq W7.size.symm)
  have U7 : Arv Z h7 b1 k1 .byte (6 : Int32) [(.int ((q0.toInt32).toInt8.toInt32).toInt8.toInt32), (.int ((((q0.toUInt64 >>> ((8 : Int32) &&& 0x3f).toInt64.toUInt64).toInt64).toInt32).toInt8.toInt32).toInt8.toInt32), (.int (0 : Int32)), (.int (0 : Int32)), (.int (0 : Int32)), (.int (0 : Int32))] (.int (0 : Int32)) := V7
  have N_9 := Fr.snoc X7 N_6 G_2
  show own_Go X7 (Q0 Z q0 p1 p2 p3 q4 h0 n0) 4 29 23 #[.val (.long q0), .second, .val (.int p1), .val (.int p2), .val (.int p3), .val (.long q4), .second, .val (.ref b1), .unset, .unset, .unset, .unset, .unset, .unset, .unset] []
  refine own_st (fun _ k => XS.aload X7.here hx rfl (hb hby at_23) rfl rfl k) ?_
  show own_Go X7 (Q0 Z q0 p1 p2 p3 q4 h0 n0) 4 29 25 #[.val (.long q0), .second, .val (.int p1), .val (.int p2), .val (.int p3), .val (.long q4), .second, .val (.ref b1), .unset, .unset, .unset, .unset, .unset, .unset, .unset] [(.ref b1)]
  refine own_st (fun _ k => XS.iconst X7.here hx rfl (hb hby at_25) k) ?_
  show own_Go X7 (Q0 Z q0 p1 p2 p3 q4 h0 n0) 4 29 26 #[.val (.long q0), .second, .val (.int p1), .val (.int p2), .val (.int p3), .val (.long q4), .second, .val (.ref b1), .unset, .unset, .unset, .unset, .unset, .unset, .unset] [(.int (2 : Int32)), (.ref b1)]
  refine own_st (fun _ k => XS.lloadN X7.here hx rfl (hb hby at_26) rfl k) ?_
  show own_Go X7 (Q0 Z q0 p1 p2 p3 q4 h0 n0) 4 29 27 #[.val (.long q0), .second, .val (.int p1), .val (.int p2), .val (.int p3), .val (.long q4), .second, .val (.ref b1), .unset, .unset, .unset, .unset, .unset, .unset, .unset] [(.long q0), (.int (2 : Int32)), (.ref b1)]
  refine own_st (fun _ k => XS.bipush X7.here hx rfl (hb hby at_27) k) ?_
  show own_Go X7 (Q0 Z q0 p1 p2 p3 q4 h0 n0) 4 29 29 #[.val (.long q0), .second, .val (.int p1), .val (.int p2), .val (.int p3), .val (.long q4), .second, .val (.ref b1), .unset, .unset, .unset, .unset, .unset, .unset, .unset] [(.int (16 : Int32)), (.long q0), (.int (2 : Int32)), (.ref b1)]
  refine own_st (fun _ k => XS.lushr X7.here hx rfl (hb hby at_29) rfl k) ?_
  show own_Go X7 (Q0 Z q0 p1 p2 p3 q4 h0 n0) 4 29 30 #[.val (.long q0), .second, .val (.int p1), .val (.int p2), .val (.int p3), .val (.long q4), .second, .val (.ref b1), .unset, .unset, .unset, .unset, .unset, .unset, .unset] [(.long ((q0.toUInt64 >>> ((16 : Int32) &&& 0x3f).toInt64.toUInt64).toInt64)), (.int (2 : Int32)), (.ref b1)]
  refine own_st (fun _ k => XS.l2i X7.here hx rfl (hb hby at_30) rfl k) ?_
  show own_Go X7 (Q0 Z q0 p1 p2 p3 q4 h0 n0) 4 29 31 #[.val (.long q0), .second, .val (.int p1), .val (.int p2), .val (.int p3), .val (.long q4), .second, .val (.ref b1), .unset, .unset, .unset, .unset, .unset, .unset, .unset] [(.int (((q0.toUInt64 >>> ((16 : Int32) &&& 0x3f).toInt64.toUInt64).toInt64).toInt32)), (.int (2 : Int32)), (.ref b1)]
  refine own_st (fun _ k => XS.i2b X7.here hx rfl (hb hby at_31) rfl k) ?_
  show own_Go X7 (Q0 Z q0 p1 p2 p3 q4 h0 n0) 4 29 32 #[.val (.long q0), .second, .val (.int p1), .val (.int p2), .val (.int p3), .val (.long q4), .second, .val (.ref b1), .unset, .unset, .unset, .unset, .unset, .unset, .unset] [(.int ((((q0.toUInt64 >>> ((16 : Int32) &&& 0x3f).toInt64.toUInt64).toInt64).toInt32).toInt8.toInt32)), (.int (2 : Int32)), (.ref b1)]
  obtain ⟨T10, h10, X10, e10, W10, V10, st10⟩ := own_stB X7 hx hZ e7 U7 (j := (2 : Int32)) ⟨by decide, by decide⟩ (Nat.le_of_ble_eq_true rfl) (g := (mkF m 32 #[.val (.long q0), .second, .val (.int p1), .val (.int p2), .val (.int p3), .val (.long q4), .second, .val (.ref b1), .unset, .unset, .unset, .unset, .unset, .unset, .unset] [(.int ((((q0.toUInt64 >>> ((16 : Int32) &&& 0x3f).toInt64.toUInt64).toInt64).toInt32).toInt8.toInt32)), (.int (2 : Int32)), (.ref b1)])) rfl rfl (hb hby at_32)
  refine own_st st10 ?_
  have Z_11 := Nat.le_trans Z_8 (Nat.le_of_eq W10.size.symm)
  have U10 : Arv Z h10 b1 k1 .byte (6 : Int32) [(.int ((q0.toInt32).toInt8.toInt32).toInt8.toInt32), (.int ((((q0.toUInt64 >>> ((8 : Int32) &&& 0x3f).toInt64.toUInt64).toInt64).toInt32).toInt8.toInt32).toInt8.toInt32), (.int ((((q0.toUInt64 >>> ((16 : Int32) &&& 0x3f).toInt64.toUInt64).toInt64).toInt32).toInt8.toInt32).toInt8.toInt32), (.int (0 : Int32)), (.int (0 : Int32)), (.int (0 : Int32))] (.int (0 : Int32)) := V10
  have N_12 := Fr.snoc X10 N_9 G_2
  show own_Go X10 (Q0 Z q0 p1 p2 p3 q4 h0 n0) 4 29 33 #[.val (.long q0), .second, .val (.int p1), .val (.int p2), .val (.int p3), .val (.long q4), .second, .val (.ref b1), .unset, .unset, .unset, .unset, .unset, .unset, .unset] []
  refine own_st (fun _ k => XS.aload X10.here hx rfl (hb hby at_33) rfl rfl k) ?_
  show own_Go X10 (Q0 Z q0 p1 p2 p3 q4 h0 n0) 4 29 35 #[.val (.long q0), .second, .val (.int p1), .val (.int p2), .val (.int p3), .val (.long q4), .second, .val (.ref b1), .unset, .unset, .unset, .unset, .unset, .unset, .unset] [(.ref b1)]
  refine own_st (fun _ k => XS.iconst X10.here hx rfl (hb hby at_35) k) ?_
  show own_Go X10 (Q0 Z q0 p1 p2 p3 q4 h0 n0) 4 29 36 #[.val (.long q0), .second, .val (.int p1), .val (.int p2), .val (.int p3), .val (.long q4), .second, .val (.ref b1), .unset, .unset, .unset, .unset, .unset, .unset, .unset] [(.int (3 : Int32)), (.ref b1)]
  refine own_st (fun _ k => XS.lloadN X10.here hx rfl (hb hby at_36) rfl k) ?_
  show own_Go X10 (Q0 Z q0 p1 p2 p3 q4 h0 n0) 4 29 37 #[.val (.long q0), .second, .val (.int p1), .val (.int p2), .val (.int p3), .val (.long q4), .second, .val (.ref b1), .unset, .unset, .unset, .unset, .unset, .unset, .unset] [(.long q0), (.int (3 : Int32)), (.ref b1)]
  refine own_st (fun _ k => XS.bipush X10.here hx rfl (hb hby at_37) k) ?_
  show own_Go X10 (Q0 Z q0 p1 p2 p3 q4 h0 n0) 4 29 39 #[.val (.long q0), .second, .val (.int p1), .val (.int p2), .val (.int p3), .val (.long q4), .second, .val (.ref b1), .unset, .unset, .unset, .unset, .unset, .unset, .unset] [(.int (24 : Int32)), (.long q0), (.int (3 : Int32)), (.ref b1)]
  refine own_st (fun _ k => XS.lushr X10.here hx rfl (hb hby at_39) rfl k) ?_
  show own_Go X10 (Q0 Z q0 p1 p2 p3 q4 h0 n0) 4 29 40 #[.val (.long q0), .second, .val (.int p1), .val (.int p2), .val (.int p3), .val (.long q4), .second, .val (.ref b1), .unset, .unset, .unset, .unset, .unset, .unset, .unset] [(.long ((q0.toUInt64 >>> ((24 : Int32) &&& 0x3f).toInt64.toUInt64).toInt64)), (.int (3 : Int32)), (.ref b1)]
  refine own_st (fun _ k => XS.l2i X10.here hx rfl (hb hby at_40) rfl k) ?_
  show own_Go X10 (Q0 Z q0 p1 p2 p3 q4 h0 n0) 4 29 41 #[.val (.long q0), .second, .val (.int p1), .val (.int p2), .val (.int p3), .val (.long q4), .second, .val (.ref b1), .unset, .unset, .unset, .unset, .unset, .unset, .unset] [(.int (((q0.toUInt64 >>> ((24 : Int32) &&& 0x3f).toInt64.toUInt64).toInt64).toInt32)), (.int (3 : Int32)), (.ref b1)]
  refine own_st (fun _ k => XS.i2b X10.here hx rfl (hb hby at_41) rfl k) ?_
  show own_Go X10 (Q0 Z q0 p1 p2 p3 q4 h0 n0) 4 29 42 #[.val (.long q0), .second, .val (.int p1), .val (.int p2), .val (.int p3), .val (.long q4), .second, .val (.ref b1), .unset, .unset, .unset, .unset, .unset, .unset, .unset] [(.int ((((q0.toUInt64 >>> ((24 : Int32) &&& 0x3f).toInt64.toUInt64).toInt64).toInt32).toInt8.toInt32)), (.int (3 : Int32)), (.ref b1)]
  obtain ⟨T13, h13, X13, e13, W13, V13, st13⟩ := own_stB X10 hx hZ e10 U10 (j := (3 : Int32)) ⟨by decide, by decide⟩ (Nat.le_of_ble_eq_true rfl) (g := (mkF m 42 #[.val (.long q0), .second, .val (.int p1), .val (.int p2), .val (.int p3), .val (.long q4), .second, .val (.ref b1), .unset, .unset, .unset, .unset, .unset, .unset, .unset] [(.int ((((q0.toUInt64 >>> ((24 : Int32) &&& 0x3f).toInt64.toUInt64).toInt64).toInt32).toInt8.toInt32)), (.int (3 : Int32)), (.ref b1)])) rfl rfl (hb hby at_42)
  refine own_st st13 ?_
  have Z_14 := Nat.le_trans Z_11 (Nat.le_of_eq W13.size.symm)
  have U13 : Arv Z h13 b1 k1 .byte (6 : Int32) [(.int ((q0.toInt32).toInt8.toInt32).toInt8.toInt32), (.int ((((q0.toUInt64 >>> ((8 : Int32) &&& 0x3f).toInt64.toUInt64).toInt64).toInt32).toInt8.toInt32).toInt8.toInt32), (.int ((((q0.toUInt64 >>> ((16 : Int32) &&& 0x3f).toInt64.toUInt64).toInt64).toInt32).toInt8.toInt32).toInt8.toInt32), (.int ((((q0.toUInt64 >>> ((24 : Int32) &&& 0x3f).toInt64.toUInt64).toInt64).toInt32).toInt8.toInt32).toInt8.toInt32), (.int (0 : Int32)), (.int (0 : Int32))] (.int (0 : Int32)) := V13
  have N_15 := Fr.snoc X13 N_12 G_2
  show own_Go X13 (Q0 Z q0 p1 p2 p3 q4 h0 n0) 4 29 43 #[.val (.long q0), .second, .val (.int p1), .val (.int p2), .val (.int p3), .val (.long q4), .second, .val (.ref b1), .unset, .unset, .unset, .unset, .unset, .unset, .unset] []
  refine own_st (fun _ k => XS.aload X13.here hx rfl (hb hby at_43) rfl rfl k) ?_
  show own_Go X13 (Q0 Z q0 p1 p2 p3 q4 h0 n0) 4 29 45 #[.val (.long q0), .second, .val (.int p1), .val (.int p2), .val (.int p3), .val (.long q4), .second, .val (.ref b1), .unset, .unset, .unset, .unset, .unset, .unset, .unset] [(.ref b1)]
  refine own_st (fun _ k => XS.iconst X13.here hx rfl (hb hby at_45) k) ?_
  show own_Go X13 (Q0 Z q0 p1 p2 p3 q4 h0 n0) 4 29 46 #[.val (.long q0), .second, .val (.int p1), .val (.int p2), .val (.int p3), .val (.long q4), .second, .val (.ref b1), .unset, .unset, .unset, .unset, .unset, .unset, .unset] [(.int (4 : Int32)), (.ref b1)]
  refine own_st (fun _ k => XS.lloadN X13.here hx rfl (hb hby at_46) rfl k) ?_
  show own_Go X13 (Q0 Z q0 p1 p2 p3 q4 h0 n0) 4 29 47 #[.val (.long q0), .second, .val (.int p1), .val (.int p2), .val (.int p3), .val (.long q4), .second, .val (.ref b1), .unset, .unset, .unset, .unset, .unset, .unset, .unset] [(.long q0), (.int (4 : Int32)), (.ref b1)]
  refine own_st (fun _ k => XS.bipush X13.here hx rfl (hb hby at_47) k) ?_
  show own_Go X13 (Q0 Z q0 p1 p2 p3 q4 h0 n0) 4 29 49 #[.val (.long q0), .second, .val (.int p1), .val (.int p2), .val (.int p3), .val (.long q4), .second, .val (.ref b1), .unset, .unset, .unset, .unset, .unset, .unset, .unset] [(.int (32 : Int32)), (.long q0), (.int (4 : Int32)), (.ref b1)]
  refine own_st (fun _ k => XS.lushr X13.here hx rfl (hb hby at_49) rfl k) ?_
  show own_Go X13 (Q0 Z q0 p1 p2 p3 q4 h0 n0) 4 29 50 #[.val (.long q0), .second, .val (.int p1), .val (.int p2), .val (.int p3), .val (.long q4), .second, .val (.ref b1), .unset, .unset, .unset, .unset, .unset, .unset, .unset] [(.long ((q0.toUInt64 >>> ((32 : Int32) &&& 0x3f).toInt64.toUInt64).toInt64)), (.int (4 : Int32)), (.ref b1)]
  refine own_st (fun _ k => XS.l2i X13.here hx rfl (hb hby at_50) rfl k) ?_
  show own_Go X13 (Q0 Z q0 p1 p2 p3 q4 h0 n0) 4 29 51 #[.val (.long q0), .second, .val (.int p1), .val (.int p2), .val (.int p3), .val (.long q4), .second, .val (.ref b1), .unset, .unset, .unset, .unset, .unset, .unset, .unset] [(.int (((q0.toUInt64 >>> ((32 : Int32) &&& 0x3f).toInt64.toUInt64).toInt64).toInt32)), (.int (4 : Int32)), (.ref b1)]
  refine own_st (fun _ k => XS.i2b X13.here hx rfl (hb hby at_51) rfl k) ?_
  show own_Go X13 (Q0 Z q0 p1 p2 p3 q4 h0 n0) 4 29 52 #[.val (.long q0), .second, .val (.int p1), .val (.int p2), .val (.int p3), .val (.long q4), .second, .val (.ref b1), .unset, .unset, .unset, .unset, .unset, .unset, .unset] [(.int ((((q0.toUInt64 >>> ((32 : Int32) &&& 0x3f).toInt64.toUInt64).toInt64).toInt32).toInt8.toInt32)), (.int (4 : Int32)), (.ref b1)]
  obtain ⟨T16, h16, X16, e16, W16, V16, st16⟩ := own_stB X13 hx hZ e13 U13 (j := (4 : Int32)) ⟨by decide, by decide⟩ (Nat.le_of_ble_eq_true rfl) (g := (mkF m 52 #[.val (.long q0), .second, .val (.int p1), .val (.int p2), .val (.int p3), .val (.long q4), .second, .val (.ref b1), .unset, .unset, .unset, .unset, .unset, .unset, .unset] [(.int ((((q0.toUInt64 >>> ((32 : Int32) &&& 0x3f).toInt64.toUInt64).toInt64).toInt32).toInt8.toInt32)), (.int (4 : Int32)), (.ref b1)])) rfl rfl (hb hby at_52)
  refine own_st st16 ?_
  have Z_17 := Nat.le_trans Z_14 (Nat.le_of_eq W16.size.symm)
  have U16 : Arv Z h16 b1 k1 .byte (6 : Int32) [(.int ((q0.toInt32).toInt8.toInt32).toInt8.toInt32), (.int ((((q0.toUInt64 >>> ((8 : Int32) &&& 0x3f).toInt64.toUInt64).toInt64).toInt32).toInt8.toInt32).toInt8.toInt32), (.int ((((q0.toUInt64 >>> ((16 : Int32) &&& 0x3f).toInt64.toUInt64).toInt64).toInt32).toInt8.toInt32).toInt8.toInt32), (.int ((((q0.toUInt64 >>> ((24 : Int32) &&& 0x3f).toInt64.toUInt64).toInt64).toInt32).toInt8.toInt32).toInt8.toInt32), (.int ((((q0.toUInt64 >>> ((32 : Int32) &&& 0x3f).toInt64.toUInt64).toInt64).toInt32).toInt8.toInt32).toInt8.toInt32), (.int (0 : Int32))] (.int (0 : Int32)) := V16
  have N_18 := Fr.snoc X16 N_15 G_2
  show own_Go X16 (Q0 Z q0 p1 p2 p3 q4 h0 n0) 4 29 53 #[.val (.long q0), .second, .val (.int p1), .val (.int p2), .val (.int p3), .val (.long q4), .second, .val (.ref b1), .unset, .unset, .unset, .unset, .unset, .unset, .unset] []
  refine own_st (fun _ k => XS.aload X16.here hx rfl (hb hby at_53) rfl rfl k) ?_
  show own_Go X16 (Q0 Z q0 p1 p2 p3 q4 h0 n0) 4 29 55 #[.val (.long q0), .second, .val (.int p1), .val (.int p2), .val (.int p3), .val (.long q4), .second, .val (.ref b1), .unset, .unset, .unset, .unset, .unset, .unset, .unset] [(.ref b1)]
  refine own_st (fun _ k => XS.iconst X16.here hx rfl (hb hby at_55) k) ?_
  show own_Go X16 (Q0 Z q0 p1 p2 p3 q4 h0 n0) 4 29 56 #[.val (.long q0), .second, .val (.int p1), .val (.int p2), .val (.int p3), .val (.long q4), .second, .val (.ref b1), .unset, .unset, .unset, .unset, .unset, .unset, .unset] [(.int (5 : Int32)), (.ref b1)]
  refine own_st (fun _ k => XS.lloadN X16.here hx rfl (hb hby at_56) rfl k) ?_
  show own_Go X16 (Q0 Z q0 p1 p2 p3 q4 h0 n0) 4 29 57 #[.val (.long q0), .second, .val (.int p1), .val (.int p2), .val (.int p3), .val (.long q4), .second, .val (.ref b1), .unset, .unset, .unset, .unset, .unset, .unset, .unset] [(.long q0), (.int (5 : Int32)), (.ref b1)]
  refine own_st (fun _ k => XS.bipush X16.here hx rfl (hb hby at_57) k) ?_
  show own_Go X16 (Q0 Z q0 p1 p2 p3 q4 h0 n0) 4 29 59 #[.val (.long q0), .second, .val (.int p1), .val (.int p2), .val (.int p3), .val (.long q4), .second, .val (.ref b1), .unset, .unset, .unset, .unset, .unset, .unset, .unset] [(.int (40 : Int32)), (.long q0), (.int (5 : Int32)), (.ref b1)]
  refine own_st (fun _ k => XS.lushr X16.here hx rfl (hb hby at_59) rfl k) ?_
  show own_Go X16 (Q0 Z q0 p1 p2 p3 q4 h0 n0) 4 29 60 #[.val (.long q0), .second, .val (.int p1), .val (.int p2), .val (.int p3), .val (.long q4), .second, .val (.ref b1), .unset, .unset, .unset, .unset, .unset, .unset, .unset] [(.long ((q0.toUInt64 >>> ((40 : Int32) &&& 0x3f).toInt64.toUInt64).toInt64)), (.int (5 : Int32)), (.ref b1)]
  refine own_st (fun _ k => XS.l2i X16.here hx rfl (hb hby at_60) rfl k) ?_
  show own_Go X16 (Q0 Z q0 p1 p2 p3 q4 h0 n0) 4 29 61 #[.val (.long q0), .second, .val (.int p1), .val (.int p2), .val (.int p3), .val (.long q4), .second, .val (.ref b1), .unset, .unset, .unset, .unset, .unset, .unset, .unset] [(.int (((q0.toUInt64 >>> ((40 : Int32) &&& 0x3f).toInt64.toUInt64).toInt64).toInt32)), (.int (5 : Int32)), (.ref b1)]
  refine own_st (fun _ k => XS.i2b X16.here hx rfl (hb hby at_61) rfl k) ?_
  show own_Go X16 (Q0 Z q0 p1 p2 p3 q4 h0 n0) 4 29 62 #[.val (.long q0), .second, .val (.int p1), .val (.int p2), .val (.int p3), .val (.long q4), .second, .val (.ref b1), .unset, .unset, .unset, .unset, .unset, .unset, .unset] [(.int ((((q0.toUInt64 >>> ((40 : Int32) &&& 0x3f).toInt64.toUInt64).toInt64).toInt32).toInt8.toInt32)), (.int (5 : Int32)), (.ref b1)]
  obtain ⟨T19, h19, X19, e19, W19, V19, st19⟩ := own_stB X16 hx hZ e16 U16 (j := (5 : Int32)) ⟨by decide, by decide⟩ (Nat.le_of_ble_eq_true rfl) (g := (mkF m 62 #[.val (.long q0), .second, .val (.int p1), .val (.int p2), .val (.int p3), .val (.long q4), .second, .val (.ref b1), .unset, .unset, .unset, .unset, .unset, .unset, .unset] [(.int ((((q0.toUInt64 >>> ((40 : Int32) &&& 0x3f).toInt64.toUInt64).toInt64).toInt32).toInt8.toInt32)), (.int (5 : Int32)), (.ref b1)])) rfl rfl (hb hby at_62)
  refine own_st st19 ?_
  have Z_20 := Nat.le_trans Z_17 (Nat.le_of_eq W19.size.symm)
  have U19 : Arv Z h19 b1 k1 .byte (6 : Int32) [(.int ((q0.toInt32).toInt8.toInt32).toInt8.toInt32), (.int ((((q0.toUInt64 >>> ((8 : Int32) &&& 0x3f).toInt64.toUInt64).toInt64).toInt32).toInt8.toInt32).toInt8.toInt32), (.int ((((q0.toUInt64 >>> ((16 : Int32) &&& 0x3f).toInt64.toUInt64).toInt64).toInt32).toInt8.toInt32).toInt8.toInt32), (.int ((((q0.toUInt64 >>> ((24 : Int32) &&& 0x3f).toInt64.toUInt64).toInt64).toInt32).toInt8.toInt32).toInt8.toInt32), (.int ((((q0.toUInt64 >>> ((32 : Int32) &&& 0x3f).toInt64.toUInt64).toInt64).toInt32).toInt8.toInt32).toInt8.toInt32), (.int ((((q0.toUInt64 >>> ((40 : Int32) &&& 0x3f).toInt64.toUInt64).toInt64).toInt32).toInt8.toInt32).toInt8.toInt32)] (.int (0 : Int32)) := V19
  have N_21 := Fr.snoc X19 N_18 G_2
  show own_Go X19 (Q0 Z q0 p1 p2 p3 q4 h0 n0) 4 29 63 #[.val (.long q0), .second, .val (.int p1), .val (.int p2), .val (.int p3), .val (.long q4), .second, .val (.ref b1), .unset, .unset, .unset, .unset, .unset, .unset, .unset] []
  have VI : Arv Z h19 b1 k1 .byte (6 : Int32) [(.int (own_y0 q0)), (.int (own_ys (8 : Int32) q0)), (.int (own_ys (16 : Int32) q0)), (.int (own_ys (24 : Int32) q0)), (.int (own_ys (32 : Int32) q0)), (.int (own_ys (40 : Int32) q0))] (.int (0 : Int32)) := U19
  refine own_st (fun _ k => XS.iconst X19.here hx rfl (hb hby at_63) k) ?_
  show own_Go X19 (Q0 Z q0 p1 p2 p3 q4 h0 n0) 4 29 64 #[.val (.long q0), .second, .val (.int p1), .val (.int p2), .val (.int p3), .val (.long q4), .second, .val (.ref b1), .unset, .unset, .unset, .unset, .unset, .unset, .unset] [(.int (4 : Int32))]
  obtain ⟨T22, h22, k22, X22, e22, E22, A22, st22⟩ := newP X19 hx hZ (hw _ (List.mem_of_getElem? (i := 0) rfl)) e19 (g := (mkF m 64 #[.val (.long q0), .second, .val (.int p1), .val (.int p2), .val (.int p3), .val (.long q4), .second, .val (.ref b1), .unset, .unset, .unset, .unset, .unset, .unset, .unset] [(.int (4 : Int32))])) rfl (hb hby at_64) rfl (by decide) (cap := 4) (by decide) (by decide) (by decide) (by decide)
  obtain ⟨b22, g22⟩ : ∃ z, z = h19.size := ⟨_, rfl⟩
  rw [← g22] at A22 st22
  refine own_st st22 ?_
  have ne_23 := Nat.ne_of_lt (Nat.lt_of_lt_of_le VI.lt (Nat.le_of_eq g22.symm))
  have G_24 := Nat.le_trans Z_20 (Nat.le_of_eq g22.symm)
  have f_25 := VI.ext E22
  have Z_26 := Nat.le_trans Z_20 E22.1
  have V22 : Arv Z h22 b22 k22 .byte (4 : Int32) [(.int (0 : Int32)), (.int (0 : Int32)), (.int (0 : Int32)), (.int (0 : Int32))] (.int (0 : Int32)) := (Arv.new A22 (by decide)).pad (pad_rep [] (.int (0 : Int32)) 4)
  show own_Go X22 (Q0 Z q0 p1 p2 p3 q4 h0 n0) 4 29 66 #[.val (.long q0), .second, .val (.int p1), .val (.int p2), .val (.int p3), .val (.long q4), .second, .val (.ref b1), .unset, .unset, .unset, .unset, .unset, .unset, .unset] [(.ref b22)]
  refine own_st (fun _ k => XS.astore X22.here hx rfl (hb hby at_66) rfl rfl (l' := #[.val (.long q0), .second, .val (.int p1), .val (.int p2), .val (.int p3), .val (.long q4), .second, .val (.ref b1), .val (.ref b22), .unset, .unset, .unset, .unset, .unset, .unset]) rfl k) ?_
  show own_Go X22 (Q0 Z q0 p1 p2 p3 q4 h0 n0) 4 29 68 #[.val (.long q0), .second, .val (.int p1), .val (.int p2), .val (.int p3), .val (.long q4), .second, .val (.ref b1), .val (.ref b22), .unset, .unset, .unset, .unset, .unset, .unset] []
  refine own_st (fun _ k => XS.aload X22.here hx rfl (hb hby at_68) rfl rfl k) ?_
  show own_Go X22 (Q0 Z q0 p1 p2 p3 q4 h0 n0) 4 29 70 #[.val (.long q0), .second, .val (.int p1), .val (.int p2), .val (.int p3), .val (.long q4), .second, .val (.ref b1), .val (.ref b22), .unset, .unset, .unset, .unset, .unset, .unset] [(.ref b22)]
  refine own_st (fun _ k => XS.iconst X22.here hx rfl (hb hby at_70) k) ?_
  show own_Go X22 (Q0 Z q0 p1 p2 p3 q4 h0 n0) 4 29 71 #[.val (.long q0), .second, .val (.int p1), .val (.int p2), .val (.int p3), .val (.long q4), .second, .val (.ref b1), .val (.ref b22), .unset, .unset, .unset, .unset, .unset, .unset] [(.int (0 : Int32)), (.ref b22)]
  refine own_st (fun _ k => XS.lload X22.here hx rfl (hb hby at_71) rfl k) ?_
  show own_Go X22 (Q0 Z q0 p1 p2 p3 q4 h0 n0) 4 29 73 #[.val (.long q0), .second, .val (.int p1), .val (.int p2), .val (.int p3), .val (.long q4), .second, .val (.ref b1), .val (.ref b22), .unset, .unset, .unset, .unset, .unset, .unset] [(.long q4), (.int (0 : Int32)), (.ref b22)]
  refine own_st (fun _ k => XS.l2i X22.here hx rfl (hb hby at_73) rfl k) ?_
  show own_Go X22 (Q0 Z q0 p1 p2 p3 q4 h0 n0) 4 29 74 #[.val (.long q0), .second, .val (.int p1), .val (.int p2), .val (.int p3), .val (.long q4), .second, .val (.ref b1), .val (.ref b22), .unset, .unset, .unset, .unset, .unset, .unset] [(.int (q4.toInt32)), (.int (0 : Int32)), (.ref b22)]
  refine own_st (fun _ k => XS.i2b X22.here hx rfl (hb hby at_74) rfl k) ?_
  show own_Go X22 (Q0 Z q0 p1 p2 p3 q4 h0 n0) 4 29 75 #[.val (.long q0), .second, .val (.int p1), .val (.int p2), .val (.int p3), .val (.long q4), .second, .val (.ref b1), .val (.ref b22), .unset, .unset, .unset, .unset, .unset, .unset] [(.int ((q4.toInt32).toInt8.toInt32)), (.int (0 : Int32)), (.ref b22)]
  obtain ⟨T27, h27, X27, e27, W27, V27, st27⟩ := own_stB X22 hx hZ e22 V22 (j := (0 : Int32)) ⟨by decide, by decide⟩ (Nat.le_of_ble_eq_true rfl) (g := (mkF m 75 #[.val (.long q0), .second, .val (.int p1), .val (.int p2), .val (.int p3), .val (.long q4), .second, .val (.ref b1), .val (.ref b22), .unset, .unset, .unset, .unset, .unset, .unset] [(.int ((q4.toInt32).toInt8.toInt32)), (.int (0 : Int32)), (.ref b22)])) rfl rfl (hb hby at_75)
  refine own_st st27 ?_
  have f_28 := f_25.other W27 ne_23
  have Z_29 := Nat.le_trans Z_26 (Nat.le_of_eq W27.size.symm)
  have U27 : Arv Z h27 b22 k22 .byte (4 : Int32) [(.int ((q4.toInt32).toInt8.toInt32).toInt8.toInt32), (.int (0 : Int32)), (.int (0 : Int32)), (.int (0 : Int32))] (.int (0 : Int32)) := V27
  have N_30 := Fr.snoc X27 N_21 G_24
  show own_Go X27 (Q0 Z q0 p1 p2 p3 q4 h0 n0) 4 29 76 #[.val (.long q0), .second, .val (.int p1), .val (.int p2), .val (.int p3), .val (.long q4), .second, .val (.ref b1), .val (.ref b22), .unset, .unset, .unset, .unset, .unset, .unset] []
  refine own_st (fun _ k => XS.aload X27.here hx rfl (hb hby at_76) rfl rfl k) ?_
  show own_Go X27 (Q0 Z q0 p1 p2 p3 q4 h0 n0) 4 29 78 #[.val (.long q0), .second, .val (.int p1), .val (.int p2), .val (.int p3), .val (.long q4), .second, .val (.ref b1), .val (.ref b22), .unset, .unset, .unset, .unset, .unset, .unset] [(.ref b22)]
  refine own_st (fun _ k => XS.iconst X27.here hx rfl (hb hby at_78) k) ?_
  show own_Go X27 (Q0 Z q0 p1 p2 p3 q4 h0 n0) 4 29 79 #[.val (.long q0), .second, .val (.int p1), .val (.int p2), .val (.int p3), .val (.long q4), .second, .val (.ref b1), .val (.ref b22), .unset, .unset, .unset, .unset, .unset, .unset] [(.int (1 : Int32)), (.ref b22)]
  refine own_st (fun _ k => XS.lload X27.here hx rfl (hb hby at_79) rfl k) ?_
  show own_Go X27 (Q0 Z q0 p1 p2 p3 q4 h0 n0) 4 29 81 #[.val (.long q0), .second, .val (.int p1), .val (.int p2), .val (.int p3), .val (.long q4), .second, .val (.ref b1), .val (.ref b22), .unset, .unset, .unset, .unset, .unset, .unset] [(.long q4), (.int (1 : Int32)), (.ref b22)]
  refine own_st (fun _ k => XS.bipush X27.here hx rfl (hb hby at_81) k) ?_
  show own_Go X27 (Q0 Z q0 p1 p2 p3 q4 h0 n0) 4 29 83 #[.val (.long q0), .second, .val (.int p1), .val (.int p2), .val (.int p3), .val (.long q4), .second, .val (.ref b1), .val (.ref b22), .unset, .unset, .unset, .unset, .unset, .unset] [(.int (8 : Int32)), (.long q4), (.int (1 : Int32)), (.ref b22)]
  refine own_st (fun _ k => XS.lushr X27.here hx rfl (hb hby at_83) rfl k) ?_
  show own_Go X27 (Q0 Z q0 p1 p2 p3 q4 h0 n0) 4 29 84 #[.val (.long q0), .second, .val (.int p1), .val (.int p2), .val (.int p3), .val (.long q4), .second, .val (.ref b1), .val (.ref b22), .unset, .unset, .unset, .unset, .unset, .unset] [(.long ((q4.toUInt64 >>> ((8 : Int32) &&& 0x3f).toInt64.toUInt64).toInt64)), (.int (1 : Int32)), (.ref b22)]
  refine own_st (fun _ k => XS.l2i X27.here hx rfl (hb hby at_84) rfl k) ?_
  show own_Go X27 (Q0 Z q0 p1 p2 p3 q4 h0 n0) 4 29 85 #[.val (.long q0), .second, .val (.int p1), .val (.int p2), .val (.int p3), .val (.long q4), .second, .val (.ref b1), .val (.ref b22), .unset, .unset, .unset, .unset, .unset, .unset] [(.int (((q4.toUInt64 >>> ((8 : Int32) &&& 0x3f).toInt64.toUInt64).toInt64).toInt32)), (.int (1 : Int32)), (.ref b22)]
  refine own_st (fun _ k => XS.i2b X27.here hx rfl (hb hby at_85) rfl k) ?_
  show own_Go X27 (Q0 Z q0 p1 p2 p3 q4 h0 n0) 4 29 86 #[.val (.long q0), .second, .val (.int p1), .val (.int p2), .val (.int p3), .val (.long q4), .second, .val (.ref b1), .val (.ref b22), .unset, .unset, .unset, .unset, .unset, .unset] [(.int ((((q4.toUInt64 >>> ((8 : Int32) &&& 0x3f).toInt64.toUInt64).toInt64).toInt32).toInt8.toInt32)), (.int (1 : Int32)), (.ref b22)]
  obtain ⟨T31, h31, X31, e31, W31, V31, st31⟩ := own_stB X27 hx hZ e27 U27 (j := (1 : Int32)) ⟨by decide, by decide⟩ (Nat.le_of_ble_eq_true rfl) (g := (mkF m 86 #[.val (.long q0), .second, .val (.int p1), .val (.int p2), .val (.int p3), .val (.long q4), .second, .val (.ref b1), .val (.ref b22), .unset, .unset, .unset, .unset, .unset, .unset] [(.int ((((q4.toUInt64 >>> ((8 : Int32) &&& 0x3f).toInt64.toUInt64).toInt64).toInt32).toInt8.toInt32)), (.int (1 : Int32)), (.ref b22)])) rfl rfl (hb hby at_86)
  refine own_st st31 ?_
  have f_32 := f_28.other W31 ne_23
  have Z_33 := Nat.le_trans Z_29 (Nat.le_of_eq W31.size.symm)
  have U31 : Arv Z h31 b22 k22 .byte (4 : Int32) [(.int ((q4.toInt32).toInt8.toInt32).toInt8.toInt32), (.int ((((q4.toUInt64 >>> ((8 : Int32) &&& 0x3f).toInt64.toUInt64).toInt64).toInt32).toInt8.toInt32).toInt8.toInt32), (.int (0 : Int32)), (.int (0 : Int32))] (.int (0 : Int32)) := V31
  have N_34 := Fr.snoc X31 N_30 G_24
  show own_Go X31 (Q0 Z q0 p1 p2 p3 q4 h0 n0) 4 29 87 #[.val (.long q0), .second, .val (.int p1), .val (.int p2), .val (.int p3), .val (.long q4), .second, .val (.ref b1), .val (.ref b22), .unset, .unset, .unset, .unset, .unset, .unset] []
  refine own_st (fun _ k => XS.aload X31.here hx rfl (hb hby at_87) rfl rfl k) ?_
  show own_Go X31 (Q0 Z q0 p1 p2 p3 q4 h0 n0) 4 29 89 #[.val (.long q0), .second, .val (.int p1), .val (.int p2), .val (.int p3), .val (.long q4), .second, .val (.ref b1), .val (.ref b22), .unset, .unset, .unset, .unset, .unset, .unset] [(.ref b22)]
  refine own_st (fun _ k => XS.iconst X31.here hx rfl (hb hby at_89) k) ?_
  show own_Go X31 (Q0 Z q0 p1 p2 p3 q4 h0 n0) 4 29 90 #[.val (.long q0), .second, .val (.int p1), .val (.int p2), .val (.int p3), .val (.long q4), .second, .val (.ref b1), .val (.ref b22), .unset, .unset, .unset, .unset, .unset, .unset] [(.int (2 : Int32)), (.ref b22)]
  refine own_st (fun _ k => XS.lload X31.here hx rfl (hb hby at_90) rfl k) ?_
  show own_Go X31 (Q0 Z q0 p1 p2 p3 q4 h0 n0) 4 29 92 #[.val (.long q0), .second, .val (.int p1), .val (.int p2), .val (.int p3), .val (.long q4), .second, .val (.ref b1), .val (.ref b22), .unset, .unset, .unset, .unset, .unset, .unset] [(.long q4), (.int (2 : Int32)), (.ref b22)]
  refine own_st (fun _ k => XS.bipush X31.here hx rfl (hb hby at_92) k) ?_
  show own_Go X31 (Q0 Z q0 p1 p2 p3 q4 h0 n0) 4 29 94 #[.val (.long q0), .second, .val (.int p1), .val (.int p2), .val (.int p3), .val (.long q4), .second, .val (.ref b1), .val (.ref b22), .unset, .unset, .unset, .unset, .unset, .unset] [(.int (16 : Int32)), (.long q4), (.int (2 : Int32)), (.ref b22)]
  refine own_st (fun _ k => XS.lushr X31.here hx rfl (hb hby at_94) rfl k) ?_
  show own_Go X31 (Q0 Z q0 p1 p2 p3 q4 h0 n0) 4 29 95 #[.val (.long q0), .second, .val (.int p1), .val (.int p2), .val (.int p3), .val (.long q4), .second, .val (.ref b1), .val (.ref b22), .unset, .unset, .unset, .unset, .unset, .unset] [(.long ((q4.toUInt64 >>> ((16 : Int32) &&& 0x3f).toInt64.toUInt64).toInt64)), (.int (2 : Int32)), (.ref b22)]
  refine own_st (fun _ k => XS.l2i X31.here hx rfl (hb hby at_95) rfl k) ?_
  show own_Go X31 (Q0 Z q0 p1 p2 p3 q4 h0 n0) 4 29 96 #[.val (.long q0), .second, .val (.int p1), .val (.int p2), .val (.int p3), .val (.long q4), .second, .val (.ref b1), .val (.ref b22), .unset, .unset, .unset, .unset, .unset, .unset] [(.int (((q4.toUInt64 >>> ((16 : Int32) &&& 0x3f).toInt64.toUInt64).toInt64).toInt32)), (.int (2 : Int32)), (.ref b22)]
  refine own_st (fun _ k => XS.i2b X31.here hx rfl (hb hby at_96) rfl k) ?_
  show own_Go X31 (Q0 Z q0 p1 p2 p3 q4 h0 n0) 4 29 97 #[.val (.long q0), .second, .val (.int p1), .val (.int p2), .val (.int p3), .val (.long q4), .second, .val (.ref b1), .val (.ref b22), .unset, .unset, .unset, .unset, .unset, .unset] [(.int ((((q4.toUInt64 >>> ((16 : Int32) &&& 0x3f).toInt64.toUInt64).toInt64).toInt32).toInt8.toInt32)), (.int (2 : Int32)), (.ref b22)]
  obtain ⟨T35, h35, X35, e35, W35, V35, st35⟩ := own_stB X31 hx hZ e31 U31 (j := (2 : Int32)) ⟨by decide, by decide⟩ (Nat.le_of_ble_eq_true rfl) (g := (mkF m 97 #[.val (.long q0), .second, .val (.int p1), .val (.int p2), .val (.int p3), .val (.long q4), .second, .val (.ref b1), .val (.ref b22), .unset, .unset, .unset, .unset, .unset, .unset] [(.int ((((q4.toUInt64 >>> ((16 : Int32) &&& 0x3f).toInt64.toUInt64).toInt64).toInt32).toInt8.toInt32)), (.int (2 : Int32)), (.ref b22)])) rfl rfl (hb hby at_97)
  refine own_st st35 ?_
  have f_36 := f_32.other W35 ne_23
  have Z_37 := Nat.le_trans Z_33 (Nat.le_of_eq W35.size.symm)
  have U35 : Arv Z h35 b22 k22 .byte (4 : Int32) [(.int ((q4.toInt32).toInt8.toInt32).toInt8.toInt32), (.int ((((q4.toUInt64 >>> ((8 : Int32) &&& 0x3f).toInt64.toUInt64).toInt64).toInt32).toInt8.toInt32).toInt8.toInt32), (.int ((((q4.toUInt64 >>> ((16 : Int32) &&& 0x3f).toInt64.toUInt64).toInt64).toInt32).toInt8.toInt32).toInt8.toInt32), (.int (0 : Int32))] (.int (0 : Int32)) := V35
  have N_38 := Fr.snoc X35 N_34 G_24
  show own_Go X35 (Q0 Z q0 p1 p2 p3 q4 h0 n0) 4 29 98 #[.val (.long q0), .second, .val (.int p1), .val (.int p2), .val (.int p3), .val (.long q4), .second, .val (.ref b1), .val (.ref b22), .unset, .unset, .unset, .unset, .unset, .unset] []
  refine own_st (fun _ k => XS.aload X35.here hx rfl (hb hby at_98) rfl rfl k) ?_
  show own_Go X35 (Q0 Z q0 p1 p2 p3 q4 h0 n0) 4 29 100 #[.val (.long q0), .second, .val (.int p1), .val (.int p2), .val (.int p3), .val (.long q4), .second, .val (.ref b1), .val (.ref b22), .unset, .unset, .unset, .unset, .unset, .unset] [(.ref b22)]
  refine own_st (fun _ k => XS.iconst X35.here hx rfl (hb hby at_100) k) ?_
  show own_Go X35 (Q0 Z q0 p1 p2 p3 q4 h0 n0) 4 29 101 #[.val (.long q0), .second, .val (.int p1), .val (.int p2), .val (.int p3), .val (.long q4), .second, .val (.ref b1), .val (.ref b22), .unset, .unset, .unset, .unset, .unset, .unset] [(.int (3 : Int32)), (.ref b22)]
  refine own_st (fun _ k => XS.lload X35.here hx rfl (hb hby at_101) rfl k) ?_
  show own_Go X35 (Q0 Z q0 p1 p2 p3 q4 h0 n0) 4 29 103 #[.val (.long q0), .second, .val (.int p1), .val (.int p2), .val (.int p3), .val (.long q4), .second, .val (.ref b1), .val (.ref b22), .unset, .unset, .unset, .unset, .unset, .unset] [(.long q4), (.int (3 : Int32)), (.ref b22)]
  refine own_st (fun _ k => XS.bipush X35.here hx rfl (hb hby at_103) k) ?_
  show own_Go X35 (Q0 Z q0 p1 p2 p3 q4 h0 n0) 4 29 105 #[.val (.long q0), .second, .val (.int p1), .val (.int p2), .val (.int p3), .val (.long q4), .second, .val (.ref b1), .val (.ref b22), .unset, .unset, .unset, .unset, .unset, .unset] [(.int (24 : Int32)), (.long q4), (.int (3 : Int32)), (.ref b22)]
  refine own_st (fun _ k => XS.lushr X35.here hx rfl (hb hby at_105) rfl k) ?_
  show own_Go X35 (Q0 Z q0 p1 p2 p3 q4 h0 n0) 4 29 106 #[.val (.long q0), .second, .val (.int p1), .val (.int p2), .val (.int p3), .val (.long q4), .second, .val (.ref b1), .val (.ref b22), .unset, .unset, .unset, .unset, .unset, .unset] [(.long ((q4.toUInt64 >>> ((24 : Int32) &&& 0x3f).toInt64.toUInt64).toInt64)), (.int (3 : Int32)), (.ref b22)]
  refine own_st (fun _ k => XS.l2i X35.here hx rfl (hb hby at_106) rfl k) ?_
  show own_Go X35 (Q0 Z q0 p1 p2 p3 q4 h0 n0) 4 29 107 #[.val (.long q0), .second, .val (.int p1), .val (.int p2), .val (.int p3), .val (.long q4), .second, .val (.ref b1), .val (.ref b22), .unset, .unset, .unset, .unset, .unset, .unset] [(.int (((q4.toUInt64 >>> ((24 : Int32) &&& 0x3f).toInt64.toUInt64).toInt64).toInt32)), (.int (3 : Int32)), (.ref b22)]
  refine own_st (fun _ k => XS.i2b X35.here hx rfl (hb hby at_107) rfl k) ?_
  show own_Go X35 (Q0 Z q0 p1 p2 p3 q4 h0 n0) 4 29 108 #[.val (.long q0), .second, .val (.int p1), .val (.int p2), .val (.int p3), .val (.long q4), .second, .val (.ref b1), .val (.ref b22), .unset, .unset, .unset, .unset, .unset, .unset] [(.int ((((q4.toUInt64 >>> ((24 : Int32) &&& 0x3f).toInt64.toUInt64).toInt64).toInt32).toInt8.toInt32)), (.int (3 : Int32)), (.ref b22)]
  obtain ⟨T39, h39, X39, e39, W39, V39, st39⟩ := own_stB X35 hx hZ e35 U35 (j := (3 : Int32)) ⟨by decide, by decide⟩ (Nat.le_of_ble_eq_true rfl) (g := (mkF m 108 #[.val (.long q0), .second, .val (.int p1), .val (.int p2), .val (.int p3), .val (.long q4), .second, .val (.ref b1), .val (.ref b22), .unset, .unset, .unset, .unset, .unset, .unset] [(.int ((((q4.toUInt64 >>> ((24 : Int32) &&& 0x3f).toInt64.toUInt64).toInt64).toInt32).toInt8.toInt32)), (.int (3 : Int32)), (.ref b22)])) rfl rfl (hb hby at_108)
  refine own_st st39 ?_
  have f_40 := f_36.other W39 ne_23
  have Z_41 := Nat.le_trans Z_37 (Nat.le_of_eq W39.size.symm)
  have U39 : Arv Z h39 b22 k22 .byte (4 : Int32) [(.int ((q4.toInt32).toInt8.toInt32).toInt8.toInt32), (.int ((((q4.toUInt64 >>> ((8 : Int32) &&& 0x3f).toInt64.toUInt64).toInt64).toInt32).toInt8.toInt32).toInt8.toInt32), (.int ((((q4.toUInt64 >>> ((16 : Int32) &&& 0x3f).toInt64.toUInt64).toInt64).toInt32).toInt8.toInt32).toInt8.toInt32), (.int ((((q4.toUInt64 >>> ((24 : Int32) &&& 0x3f).toInt64.toUInt64).toInt64).toInt32).toInt8.toInt32).toInt8.toInt32)] (.int (0 : Int32)) := V39
  have N_42 := Fr.snoc X39 N_38 G_24
  show own_Go X39 (Q0 Z q0 p1 p2 p3 q4 h0 n0) 4 29 109 #[.val (.long q0), .second, .val (.int p1), .val (.int p2), .val (.int p3), .val (.long q4), .second, .val (.ref b1), .val (.ref b22), .unset, .unset, .unset, .unset, .unset, .unset] []
  refine own_st (fun _ k => XS.iloadN X39.here hx rfl (hb hby at_109) rfl k) ?_
  show own_Go X39 (Q0 Z q0 p1 p2 p3 q4 h0 n0) 4 29 110 #[.val (.long q0), .second, .val (.int p1), .val (.int p2), .val (.int p3), .val (.long q4), .second, .val (.ref b1), .val (.ref b22), .unset, .unset, .unset, .unset, .unset, .unset] [(.int p1)]
  refine own_st (fun t k => X39.ldcInt hx hown (mvT hZ (hw _ (List.mem_of_getElem? (i := 1) rfl))) (g := (mkF m 110 #[.val (.long q0), .second, .val (.int p1), .val (.int p2), .val (.int p3), .val (.long q4), .second, .val (.ref b1), .val (.ref b22), .unset, .unset, .unset, .unset, .unset, .unset] [(.int p1)])) rfl (hb hby at_110) t k) ?_
  show own_Go X39 (Q0 Z q0 p1 p2 p3 q4 h0 n0) 4 29 112 #[.val (.long q0), .second, .val (.int p1), .val (.int p2), .val (.int p3), .val (.long q4), .second, .val (.ref b1), .val (.ref b22), .unset, .unset, .unset, .unset, .unset, .unset] [(.int (2147483647 : Int32)), (.int p1)]
  refine own_st (fun _ k => XS.iand X39.here hx rfl (hb hby at_112) rfl k) ?_
  show own_Go X39 (Q0 Z q0 p1 p2 p3 q4 h0 n0) 4 29 113 #[.val (.long q0), .second, .val (.int p1), .val (.int p2), .val (.int p3), .val (.long q4), .second, .val (.ref b1), .val (.ref b22), .unset, .unset, .unset, .unset, .unset, .unset] [(.int (p1 &&& (2147483647 : Int32)))]
  refine own_st (fun _ k => XS.bipush X39.here hx rfl (hb hby at_113) k) ?_
  show own_Go X39 (Q0 Z q0 p1 p2 p3 q4 h0 n0) 4 29 115 #[.val (.long q0), .second, .val (.int p1), .val (.int p2), .val (.int p3), .val (.long q4), .second, .val (.ref b1), .val (.ref b22), .unset, .unset, .unset, .unset, .unset, .unset] [(.int (7 : Int32)), (.int (p1 &&& (2147483647 : Int32)))]
  refine own_st (fun _ k => iremM X39 hx rfl (hb hby at_115) rfl (by decide) k) ?_
  show own_Go X39 (Q0 Z q0 p1 p2 p3 q4 h0 n0) 4 29 116 #[.val (.long q0), .second, .val (.int p1), .val (.int p2), .val (.int p3), .val (.long q4), .second, .val (.ref b1), .val (.ref b22), .unset, .unset, .unset, .unset, .unset, .unset] [(.int ((p1 &&& (2147483647 : Int32)) % (7 : Int32)))]
  refine own_st (fun _ k => XS.istore X39.here hx rfl (hb hby at_116) rfl (l' := #[.val (.long q0), .second, .val (.int p1), .val (.int p2), .val (.int p3), .val (.long q4), .second, .val (.ref b1), .val (.ref b22), .val (.int ((p1 &&& (2147483647 : Int32)) % (7 : Int32))), .unset, .unset, .unset, .unset, .unset]) rfl k) ?_
  show own_Go X39 (Q0 Z q0 p1 p2 p3 q4 h0 n0) 4 29 118 #[.val (.long q0), .second, .val (.int p1), .val (.int p2), .val (.int p3), .val (.long q4), .second, .val (.ref b1), .val (.ref b22), .val (.int ((p1 &&& (2147483647 : Int32)) % (7 : Int32))), .unset, .unset, .unset, .unset, .unset] []
  generalize hfr : ((p1 &&& (2147483647 : Int32)) % (7 : Int32)) = fr
  show own_Go X39 (Q0 Z q0 p1 p2 p3 q4 h0 n0) 4 29 118 #[.val (.long q0), .second, .val (.int p1), .val (.int p2), .val (.int p3), .val (.long q4), .second, .val (.ref b1), .val (.ref b22), .val (.int fr), .unset, .unset, .unset, .unset, .unset] []
  refine own_st (fun _ k => XS.iload X39.here hx rfl (hb hby at_118) rfl k) ?_
  show own_Go X39 (Q0 Z q0 p1 p2 p3 q4 h0 n0) 4 29 120 #[.val (.long q0), .second, .val (.int p1), .val (.int p2), .val (.int p3), .val (.long q4), .second, .val (.ref b1), .val (.ref b22), .val (.int fr), .unset, .unset, .unset, .unset, .unset] [(.int fr)]
  refine own_st (fun _ k => XS.iloadN X39.here hx rfl (hb hby at_120) rfl k) ?_
  show own_Go X39 (Q0 Z q0 p1 p2 p3 q4 h0 n0) 4 29 121 #[.val (.long q0), .second, .val (.int p1), .val (.int p2), .val (.int p3), .val (.long q4), .second, .val (.ref b1), .val (.ref b22), .val (.int fr), .unset, .unset, .unset, .unset, .unset] [(.int p2), (.int fr)]
  refine own_st (fun t k => X39.ldcInt hx hown (mvT hZ (hw _ (List.mem_of_getElem? (i := 1) rfl))) (g := (mkF m 121 #[.val (.long q0), .second, .val (.int p1), .val (.int p2), .val (.int p3), .val (.long q4), .second, .val (.ref b1), .val (.ref b22), .val (.int fr), .unset, .unset, .unset, .unset, .unset] [(.int p2), (.int fr)])) rfl (hb hby at_121) t k) ?_
  show own_Go X39 (Q0 Z q0 p1 p2 p3 q4 h0 n0) 4 29 123 #[.val (.long q0), .second, .val (.int p1), .val (.int p2), .val (.int p3), .val (.long q4), .second, .val (.ref b1), .val (.ref b22), .val (.int fr), .unset, .unset, .unset, .unset, .unset] [(.int (2147483647 : Int32)), (.int p2), (.int fr)]
  refine own_st (fun _ k => XS.iand X39.here hx rfl (hb hby at_123) rfl k) ?_
  show own_Go X39 (Q0 Z q0 p1 p2 p3 q4 h0 n0) 4 29 124 #[.val (.long q0), .second, .val (.int p1), .val (.int p2), .val (.int p3), .val (.long q4), .second, .val (.ref b1), .val (.ref b22), .val (.int fr), .unset, .unset, .unset, .unset, .unset] [(.int (p2 &&& (2147483647 : Int32))), (.int fr)]
  refine own_st (fun _ k => XS.bipush X39.here hx rfl (hb hby at_124) k) ?_
  show own_Go X39 (Q0 Z q0 p1 p2 p3 q4 h0 n0) 4 29 126 #[.val (.long q0), .second, .val (.int p1), .val (.int p2), .val (.int p3), .val (.long q4), .second, .val (.ref b1), .val (.ref b22), .val (.int fr), .unset, .unset, .unset, .unset, .unset] [(.int (7 : Int32)), (.int (p2 &&& (2147483647 : Int32))), (.int fr)]
  refine own_st (fun _ k => XS.iload X39.here hx rfl (hb hby at_126) rfl k) ?_
  show own_Go X39 (Q0 Z q0 p1 p2 p3 q4 h0 n0) 4 29 128 #[.val (.long q0), .second, .val (.int p1), .val (.int p2), .val (.int p3), .val (.long q4), .second, .val (.ref b1), .val (.ref b22), .val (.int fr), .unset, .unset, .unset, .unset, .unset] [(.int fr), (.int (7 : Int32)), (.int (p2 &&& (2147483647 : Int32))), (.int fr)]
  refine own_st (fun _ k => XS.isub X39.here hx rfl (hb hby at_128) rfl k) ?_
  show own_Go X39 (Q0 Z q0 p1 p2 p3 q4 h0 n0) 4 29 129 #[.val (.long q0), .second, .val (.int p1), .val (.int p2), .val (.int p3), .val (.long q4), .second, .val (.ref b1), .val (.ref b22), .val (.int fr), .unset, .unset, .unset, .unset, .unset] [(.int ((7 : Int32) - fr)), (.int (p2 &&& (2147483647 : Int32))), (.int fr)]
  refine own_st (fun _ k => iremM X39 hx rfl (hb hby at_129) rfl (own_7nz (own_frB hfr)) k) ?_
  show own_Go X39 (Q0 Z q0 p1 p2 p3 q4 h0 n0) 4 29 130 #[.val (.long q0), .second, .val (.int p1), .val (.int p2), .val (.int p3), .val (.long q4), .second, .val (.ref b1), .val (.ref b22), .val (.int fr), .unset, .unset, .unset, .unset, .unset] [(.int ((p2 &&& (2147483647 : Int32)) % ((7 : Int32) - fr))), (.int fr)]
  refine own_st (fun _ k => XS.iadd X39.here hx rfl (hb hby at_130) rfl k) ?_
  show own_Go X39 (Q0 Z q0 p1 p2 p3 q4 h0 n0) 4 29 131 #[.val (.long q0), .second, .val (.int p1), .val (.int p2), .val (.int p3), .val (.long q4), .second, .val (.ref b1), .val (.ref b22), .val (.int fr), .unset, .unset, .unset, .unset, .unset] [(.int (fr + ((p2 &&& (2147483647 : Int32)) % ((7 : Int32) - fr))))]
  refine own_st (fun _ k => XS.istore X39.here hx rfl (hb hby at_131) rfl (l' := #[.val (.long q0), .second, .val (.int p1), .val (.int p2), .val (.int p3), .val (.long q4), .second, .val (.ref b1), .val (.ref b22), .val (.int fr), .val (.int (fr + ((p2 &&& (2147483647 : Int32)) % ((7 : Int32) - fr)))), .unset, .unset, .unset, .unset]) rfl k) ?_
  show own_Go X39 (Q0 Z q0 p1 p2 p3 q4 h0 n0) 4 29 133 #[.val (.long q0), .second, .val (.int p1), .val (.int p2), .val (.int p3), .val (.long q4), .second, .val (.ref b1), .val (.ref b22), .val (.int fr), .val (.int (fr + ((p2 &&& (2147483647 : Int32)) % ((7 : Int32) - fr)))), .unset, .unset, .unset, .unset] []
  generalize hto : (fr + ((p2 &&& (2147483647 : Int32)) % ((7 : Int32) - fr))) = to
  show own_Go X39 (Q0 Z q0 p1 p2 p3 q4 h0 n0) 4 29 133 #[.val (.long q0), .second, .val (.int p1), .val (.int p2), .val (.int p3), .val (.long q4), .second, .val (.ref b1), .val (.ref b22), .val (.int fr), .val (.int to), .unset, .unset, .unset, .unset] []
  have hB := own_toB (own_frB hfr) hto
  obtain ⟨T43, h43, X43, e43, E43, A43, D43, -, st43⟩ := newO X39 hx hZ hown (hw _ (List.mem_of_getElem? (i := 2) rfl)) (hw _ (List.mem_of_getElem? (i := 3) rfl)) (hw _ (List.mem_of_getElem? (i := 4) rfl)) e39 (g := (mkF m 133 #[.val (.long q0), .second, .val (.int p1), .val (.int p2), .val (.int p3), .val (.long q4), .second, .val (.ref b1), .val (.ref b22), .val (.int fr), .val (.int to), .unset, .unset, .unset, .unset] [])) rfl (hb hby at_133) (by decide) (by decide)
  obtain ⟨b43, g43⟩ : ∃ z, z = h39.size := ⟨_, rfl⟩
  rw [← g43] at A43 D43 st43
  refine own_st st43 ?_
  have ne_44 := Nat.ne_of_lt (Nat.lt_of_lt_of_le f_40.lt (Nat.le_of_eq g43.symm))
  have ne_45 := Nat.ne_of_lt (Nat.lt_of_lt_of_le U39.lt (Nat.le_of_eq g43.symm))
  have G_46 := Nat.le_trans Z_41 (Nat.le_of_eq g43.symm)
  have f_47 := f_40.ext E43
  have f_48 := U39.ext E43
  have Z_49 := Nat.le_trans Z_41 E43.1
  have F_bytes_43 : Fld Z h43 b43 "com/example/stopbit/stopbit/ByteVector" "bytes" "[B" .null := D43 (Or.inl (hw _ (List.mem_of_getElem? (i := 12) rfl))) (ty := (.array .byte)) (by decide)
  have F_start_43 : Fld Z h43 b43 "com/example/stopbit/stopbit/ByteVector" "start" "I" (.int (0 : Int32)) := D43 (Or.inl (hw _ (List.mem_of_getElem? (i := 19) rfl))) (ty := .int) (by decide)
  have F_length_43 : Fld Z h43 b43 "com/example/stopbit/stopbit/ByteVector" "length" "I" (.int (0 : Int32)) := D43 (Or.inl (hw _ (List.mem_of_getElem? (i := 21) rfl))) (ty := .int) (by decide)
  show own_Go X43 (Q0 Z q0 p1 p2 p3 q4 h0 n0) 4 29 136 #[.val (.long q0), .second, .val (.int p1), .val (.int p2), .val (.int p3), .val (.long q4), .second, .val (.ref b1), .val (.ref b22), .val (.int fr), .val (.int to), .unset, .unset, .unset, .unset] [(.ref b43)]
  refine own_st (fun _ k => XS.dup X43.here hx rfl (hb hby at_136) rfl rfl k) ?_
  show own_Go X43 (Q0 Z q0 p1 p2 p3 q4 h0 n0) 4 29 137 #[.val (.long q0), .second, .val (.int p1), .val (.int p2), .val (.int p3), .val (.long q4), .second, .val (.ref b1), .val (.ref b22), .val (.int fr), .val (.int to), .unset, .unset, .unset, .unset] [(.ref b43), (.ref b43)]
  refine own_callI (W := 1) X43 hx hZ hown (hw _ (List.mem_of_getElem? (i := 5) rfl)) (hw _ (List.mem_of_getElem? (i := 6) rfl)) (hw _ (List.mem_of_getElem? (i := 4) rfl)) (hw _ (List.mem_of_getElem? (i := 7) rfl)) rfl (by decide) (rm1 l Z a0 hw [] b43 h43 n0 Z_49 A43 G_46 F_length_43 F_bytes_43 F_start_43) (by decide) (by decide) (by rw [hml]; rfl) b43 [] [(.ref b43)] (lenOf pd_0_0 rfl) rfl rfl (Nat.le_of_ble_eq_true rfl) (hb hby at_137) e43 (by decide) (by decide) ?_
  rintro _ T50 L50 X50 ⟨b50, rfl, N50q, K50q, G50q, S50q, F50_length, F50_bytes, F50_start⟩
  have ne_51 := Nat.ne_of_lt (Nat.lt_of_lt_of_le f_47.lt S50q)
  have ne_52 := Nat.ne_of_lt (Nat.lt_of_lt_of_le f_48.lt S50q)
  have ne_53 := Nat.ne_of_lt (Nat.lt_of_lt_of_le A43.lt S50q)
  have N_54 := Fr.app N_42 N50q
  have f_55 := f_47.keep K50q (ninS ne_44 nin0)
  have f_56 := f_48.keep K50q (ninS ne_45 nin0)
  have f_57 := A43.keep K50q
  have Z_58 := Nat.le_trans Z_49 K50q.1
  show own_Go X50 (Q0 Z q0 p1 p2 p3 q4 h0 n0) 4 29 140 #[.val (.long q0), .second, .val (.int p1), .val (.int p2), .val (.int p3), .val (.long q4), .second, .val (.ref b1), .val (.ref b22), .val (.int fr), .val (.int to), .unset, .unset, .unset, .unset] [(.ref b43)]
  refine own_st (fun _ k => XS.astore X50.here hx rfl (hb hby at_140) rfl rfl (l' := #[.val (.long q0), .second, .val (.int p1), .val (.int p2), .val (.int p3), .val (.long q4), .second, .val (.ref b1), .val (.ref b22), .val (.int fr), .val (.int to), .val (.ref b43), .unset, .unset, .unset]) rfl k) ?_
  show own_Go X50 (Q0 Z q0 p1 p2 p3 q4 h0 n0) 4 29 142 #[.val (.long q0), .second, .val (.int p1), .val (.int p2), .val (.int p3), .val (.long q4), .second, .val (.ref b1), .val (.ref b22), .val (.int fr), .val (.int to), .val (.ref b43), .unset, .unset, .unset] []
  refine own_st (fun _ k => XS.iload X50.here hx rfl (hb hby at_142) rfl k) ?_
  show own_Go X50 (Q0 Z q0 p1 p2 p3 q4 h0 n0) 4 29 144 #[.val (.long q0), .second, .val (.int p1), .val (.int p2), .val (.int p3), .val (.long q4), .second, .val (.ref b1), .val (.ref b22), .val (.int fr), .val (.int to), .val (.ref b43), .unset, .unset, .unset] [(.int p3)]
  refine own_st (fun _ k => XS.iconst X50.here hx rfl (hb hby at_144) k) ?_
  show own_Go X50 (Q0 Z q0 p1 p2 p3 q4 h0 n0) 4 29 145 #[.val (.long q0), .second, .val (.int p1), .val (.int p2), .val (.int p3), .val (.long q4), .second, .val (.ref b1), .val (.ref b22), .val (.int fr), .val (.int to), .val (.ref b43), .unset, .unset, .unset] [(.int (3 : Int32)), (.int p3)]
  refine own_st (fun _ k => XS.iand X50.here hx rfl (hb hby at_145) rfl k) ?_
  show own_Go X50 (Q0 Z q0 p1 p2 p3 q4 h0 n0) 4 29 146 #[.val (.long q0), .second, .val (.int p1), .val (.int p2), .val (.int p3), .val (.long q4), .second, .val (.ref b1), .val (.ref b22), .val (.int fr), .val (.int to), .val (.ref b43), .unset, .unset, .unset] [(.int (p3 &&& (3 : Int32)))]
  refine own_st (fun _ k => XS.istore X50.here hx rfl (hb hby at_146) rfl (l' := #[.val (.long q0), .second, .val (.int p1), .val (.int p2), .val (.int p3), .val (.long q4), .second, .val (.ref b1), .val (.ref b22), .val (.int fr), .val (.int to), .val (.ref b43), .val (.int (p3 &&& (3 : Int32))), .unset, .unset]) rfl k) ?_
  show own_Go X50 (Q0 Z q0 p1 p2 p3 q4 h0 n0) 4 29 148 #[.val (.long q0), .second, .val (.int p1), .val (.int p2), .val (.int p3), .val (.long q4), .second, .val (.ref b1), .val (.ref b22), .val (.int fr), .val (.int to), .val (.ref b43), .val (.int (p3 &&& (3 : Int32))), .unset, .unset] []
  refine own_st (fun _ k => XS.iload X50.here hx rfl (hb hby at_148) rfl k) ?_
  show own_Go X50 (Q0 Z q0 p1 p2 p3 q4 h0 n0) 4 29 150 #[.val (.long q0), .second, .val (.int p1), .val (.int p2), .val (.int p3), .val (.long q4), .second, .val (.ref b1), .val (.ref b22), .val (.int fr), .val (.int to), .val (.ref b43), .val (.int (p3 &&& (3 : Int32))), .unset, .unset] [(.int (p3 &&& (3 : Int32)))]
  refine own_st (fun _ k => XS.iconst X50.here hx rfl (hb hby at_150) k) ?_
  show own_Go X50 (Q0 Z q0 p1 p2 p3 q4 h0 n0) 4 29 151 #[.val (.long q0), .second, .val (.int p1), .val (.int p2), .val (.int p3), .val (.long q4), .second, .val (.ref b1), .val (.ref b22), .val (.int fr), .val (.int to), .val (.ref b43), .val (.int (p3 &&& (3 : Int32))), .unset, .unset] [(.int (1 : Int32)), (.int (p3 &&& (3 : Int32)))]
  by_cases c151_59 : (p3 &&& (3 : Int32)) = (1 : Int32)
  · skip
    refine own_st (fun _ k => XS.icmpNo X50.here hx rfl (hb hby at_151) rfl (teq c151_59).2 k) ?_
    show own_Go X50 (Q0 Z q0 p1 p2 p3 q4 h0 n0) 4 29 154 #[.val (.long q0), .second, .val (.int p1), .val (.int p2), .val (.int p3), .val (.long q4), .second, .val (.ref b1), .val (.ref b22), .val (.int fr), .val (.int to), .val (.ref b43), .val (.int (p3 &&& (3 : Int32))), .unset, .unset] []
    refine own_st (fun _ k => XS.aload X50.here hx rfl (hb hby at_154) rfl rfl k) ?_
    show own_Go X50 (Q0 Z q0 p1 p2 p3 q4 h0 n0) 4 29 156 #[.val (.long q0), .second, .val (.int p1), .val (.int p2), .val (.int p3), .val (.long q4), .second, .val (.ref b1), .val (.ref b22), .val (.int fr), .val (.int to), .val (.ref b43), .val (.int (p3 &&& (3 : Int32))), .unset, .unset] [(.ref b43)]
    refine own_st (fun _ k => XS.aload X50.here hx rfl (hb hby at_156) rfl rfl k) ?_
    show own_Go X50 (Q0 Z q0 p1 p2 p3 q4 h0 n0) 4 29 158 #[.val (.long q0), .second, .val (.int p1), .val (.int p2), .val (.int p3), .val (.long q4), .second, .val (.ref b1), .val (.ref b22), .val (.int fr), .val (.int to), .val (.ref b43), .val (.int (p3 &&& (3 : Int32))), .unset, .unset] [(.ref b1), (.ref b43)]
    refine own_st (fun _ k => XS.iconst X50.here hx rfl (hb hby at_158) k) ?_
    show own_Go X50 (Q0 Z q0 p1 p2 p3 q4 h0 n0) 4 29 159 #[.val (.long q0), .second, .val (.int p1), .val (.int p2), .val (.int p3), .val (.long q4), .second, .val (.ref b1), .val (.ref b22), .val (.int fr), .val (.int to), .val (.ref b43), .val (.int (p3 &&& (3 : Int32))), .unset, .unset] [(.int (0 : Int32)), (.ref b1), (.ref b43)]
    refine own_st (fun _ k => XS.bipush X50.here hx rfl (hb hby at_159) k) ?_
    show own_Go X50 (Q0 Z q0 p1 p2 p3 q4 h0 n0) 4 29 161 #[.val (.long q0), .second, .val (.int p1), .val (.int p2), .val (.int p3), .val (.long q4), .second, .val (.ref b1), .val (.ref b22), .val (.int fr), .val (.int to), .val (.ref b43), .val (.int (p3 &&& (3 : Int32))), .unset, .unset] [(.int (6 : Int32)), (.int (0 : Int32)), (.ref b1), (.ref b43)]
    refine own_callV (W := 0) X50 hx hZ hown (hw _ (List.mem_of_getElem? (i := 13) rfl)) (hw _ (List.mem_of_getElem? (i := 14) rfl)) (hw _ (List.mem_of_getElem? (i := 16) rfl)) (hw _ (List.mem_of_getElem? (i := 15) rfl)) (hw _ (List.mem_of_getElem? (i := 4) rfl)) (hw _ (List.mem_of_getElem? (i := 17) rfl)) (by decide) (rm3 l Z a0 hw [] b43 b1 (0 : Int32) (6 : Int32) (0 : Int32) (0 : Int32) b50 T50.heap n0 Z_58 f_57 G_46 F50_length F50_bytes F50_start (Ne.symm ne_51)) (by decide) (by decide) (by rw [hml]; rfl) b43 [(.ref b1), (.int (0 : Int32)), (.int (6 : Int32))] [] (lenOf pd_0_1 rfl) rfl rfl (Nat.le_of_ble_eq_true rfl) (hb hby at_161) (Eq.refl T50.heap) f_57 (by decide) (by decide) ?_
    rintro _ T60 L60 X60 ⟨rfl, N60q, K60q, F60_length, F60_bytes, F60_start⟩
    have N_61 := Fr.app N_54 N60q
    have f_62 := f_55.keep K60q (ninS ne_44 nin0)
    have f_63 := f_56.keep K60q (ninS ne_45 nin0)
    have f_64 := f_57.keep K60q
    have Z_65 := Nat.le_trans Z_58 K60q.1
    show own_Go X60 (Q0 Z q0 p1 p2 p3 q4 h0 n0) 4 29 164 #[.val (.long q0), .second, .val (.int p1), .val (.int p2), .val (.int p3), .val (.long q4), .second, .val (.ref b1), .val (.ref b22), .val (.int fr), .val (.int to), .val (.ref b43), .val (.int (p3 &&& (3 : Int32))), .unset, .unset] []
    refine own_st (fun _ k => XS.goto X60.here hx rfl (pc0 := 164) (pc' := 182) rfl (hb hby at_164) (by decide) (by decide) k) ?_
    show own_Go X60 (Q0 Z q0 p1 p2 p3 q4 h0 n0) 4 29 182 #[.val (.long q0), .second, .val (.int p1), .val (.int p2), .val (.int p3), .val (.long q4), .second, .val (.ref b1), .val (.ref b22), .val (.int fr), .val (.int to), .val (.ref b43), .val (.int (p3 &&& (3 : Int32))), .unset, .unset] []
    refine own_st (fun _ k => XS.aload X60.here hx rfl (hb hby at_182) rfl rfl k) ?_
    show own_Go X60 (Q0 Z q0 p1 p2 p3 q4 h0 n0) 4 29 184 #[.val (.long q0), .second, .val (.int p1), .val (.int p2), .val (.int p3), .val (.long q4), .second, .val (.ref b1), .val (.ref b22), .val (.int fr), .val (.int to), .val (.ref b43), .val (.int (p3 &&& (3 : Int32))), .unset, .unset] [(.ref b43)]
    refine own_st (fun _ k => XS.aload X60.here hx rfl (hb hby at_184) rfl rfl k) ?_
    show own_Go X60 (Q0 Z q0 p1 p2 p3 q4 h0 n0) 4 29 186 #[.val (.long q0), .second, .val (.int p1), .val (.int p2), .val (.int p3), .val (.long q4), .second, .val (.ref b1), .val (.ref b22), .val (.int fr), .val (.int to), .val (.ref b43), .val (.int (p3 &&& (3 : Int32))), .unset, .unset] [(.ref b1), (.ref b43)]
    refine own_st (fun _ k => XS.iload X60.here hx rfl (hb hby at_186) rfl k) ?_
    show own_Go X60 (Q0 Z q0 p1 p2 p3 q4 h0 n0) 4 29 188 #[.val (.long q0), .second, .val (.int p1), .val (.int p2), .val (.int p3), .val (.long q4), .second, .val (.ref b1), .val (.ref b22), .val (.int fr), .val (.int to), .val (.ref b43), .val (.int (p3 &&& (3 : Int32))), .unset, .unset] [(.int fr), (.ref b1), (.ref b43)]
    refine own_st (fun _ k => XS.iload X60.here hx rfl (hb hby at_188) rfl k) ?_
    show own_Go X60 (Q0 Z q0 p1 p2 p3 q4 h0 n0) 4 29 190 #[.val (.long q0), .second, .val (.int p1), .val (.int p2), .val (.int p3), .val (.long q4), .second, .val (.ref b1), .val (.ref b22), .val (.int fr), .val (.int to), .val (.ref b43), .val (.int (p3 &&& (3 : Int32))), .unset, .unset] [(.int to), (.int fr), (.ref b1), (.ref b43)]
    refine own_callV (W := 0) X60 hx hZ hown (hw _ (List.mem_of_getElem? (i := 13) rfl)) (hw _ (List.mem_of_getElem? (i := 14) rfl)) (hw _ (List.mem_of_getElem? (i := 16) rfl)) (hw _ (List.mem_of_getElem? (i := 15) rfl)) (hw _ (List.mem_of_getElem? (i := 4) rfl)) (hw _ (List.mem_of_getElem? (i := 17) rfl)) (by decide) (rm13 l Z a0 hw [] b43 b1 fr to ((6 : Int32) - (0 : Int32)) (0 : Int32) T60.heap n0 Z_65 f_64 G_46 F60_length F60_bytes F60_start) (by decide) (by decide) (by rw [hml]; rfl) b43 [(.ref b1), (.int fr), (.int to)] [] (lenOf pd_0_1 rfl) rfl rfl (Nat.le_of_ble_eq_true rfl) (hb hby at_190) (Eq.refl T60.heap) f_64 (by decide) (by decide) ?_
    rintro _ T66 L66 X66 ⟨rfl, N66q, K66q, F66_length, F66_bytes, F66_start⟩
    have N_67 := Fr.app N_61 N66q
    have f_68 := f_62.keep K66q (ninS ne_44 nin0)
    have f_69 := f_63.keep K66q (ninS ne_45 nin0)
    have f_70 := f_64.keep K66q
    have Z_71 := Nat.le_trans Z_65 K66q.1
    show own_Go X66 (Q0 Z q0 p1 p2 p3 q4 h0 n0) 4 29 193 #[.val (.long q0), .second, .val (.int p1), .val (.int p2), .val (.int p3), .val (.long q4), .second, .val (.ref b1), .val (.ref b22), .val (.int fr), .val (.int to), .val (.ref b43), .val (.int (p3 &&& (3 : Int32))), .unset, .unset] []
    refine own_st (fun _ k => XS.iload X66.here hx rfl (hb hby at_193) rfl k) ?_
    show own_Go X66 (Q0 Z q0 p1 p2 p3 q4 h0 n0) 4 29 195 #[.val (.long q0), .second, .val (.int p1), .val (.int p2), .val (.int p3), .val (.long q4), .second, .val (.ref b1), .val (.ref b22), .val (.int fr), .val (.int to), .val (.ref b43), .val (.int (p3 &&& (3 : Int32))), .unset, .unset] [(.int to)]
    refine own_st (fun _ k => XS.iload X66.here hx rfl (hb hby at_195) rfl k) ?_
    show own_Go X66 (Q0 Z q0 p1 p2 p3 q4 h0 n0) 4 29 197 #[.val (.long q0), .second, .val (.int p1), .val (.int p2), .val (.int p3), .val (.long q4), .second, .val (.ref b1), .val (.ref b22), .val (.int fr), .val (.int to), .val (.ref b43), .val (.int (p3 &&& (3 : Int32))), .unset, .unset] [(.int fr), (.int to)]
    refine own_st (fun _ k => XS.isub X66.here hx rfl (hb hby at_197) rfl k) ?_
    show own_Go X66 (Q0 Z q0 p1 p2 p3 q4 h0 n0) 4 29 198 #[.val (.long q0), .second, .val (.int p1), .val (.int p2), .val (.int p3), .val (.long q4), .second, .val (.ref b1), .val (.ref b22), .val (.int fr), .val (.int to), .val (.ref b43), .val (.int (p3 &&& (3 : Int32))), .unset, .unset] [(.int (to - fr))]
    refine own_st (fun _ k => XS.istore X66.here hx rfl (hb hby at_198) rfl (l' := #[.val (.long q0), .second, .val (.int p1), .val (.int p2), .val (.int p3), .val (.long q4), .second, .val (.ref b1), .val (.ref b22), .val (.int fr), .val (.int to), .val (.ref b43), .val (.int (p3 &&& (3 : Int32))), .val (.int (to - fr)), .unset]) rfl k) ?_
    show own_Go X66 (Q0 Z q0 p1 p2 p3 q4 h0 n0) 4 29 200 #[.val (.long q0), .second, .val (.int p1), .val (.int p2), .val (.int p3), .val (.long q4), .second, .val (.ref b1), .val (.ref b22), .val (.int fr), .val (.int to), .val (.ref b43), .val (.int (p3 &&& (3 : Int32))), .val (.int (to - fr)), .unset] []
    refine own_st (fun _ k => XS.aload X66.here hx rfl (hb hby at_200) rfl rfl k) ?_
    show own_Go X66 (Q0 Z q0 p1 p2 p3 q4 h0 n0) 4 29 202 #[.val (.long q0), .second, .val (.int p1), .val (.int p2), .val (.int p3), .val (.long q4), .second, .val (.ref b1), .val (.ref b22), .val (.int fr), .val (.int to), .val (.ref b43), .val (.int (p3 &&& (3 : Int32))), .val (.int (to - fr)), .unset] [(.ref b43)]
    refine own_callV (W := 0) X66 hx hZ hown (hw _ (List.mem_of_getElem? (i := 22) rfl)) (hw _ (List.mem_of_getElem? (i := 23) rfl)) (hw _ (List.mem_of_getElem? (i := 25) rfl)) (hw _ (List.mem_of_getElem? (i := 24) rfl)) (hw _ (List.mem_of_getElem? (i := 4) rfl)) (hw _ (List.mem_of_getElem? (i := 26) rfl)) (by decide) (rm4 l Z a0 hw [] b43 (to - fr) T66.heap n0 Z_71 F66_length) (by decide) (by decide) (by rw [hml]; rfl) b43 [] [] (lenOf pd_0_2 rfl) rfl rfl (Nat.le_of_ble_eq_true rfl) (hb hby at_202) (Eq.refl T66.heap) f_70 (by decide) (by decide) ?_
    rintro _ T72 L72 X72 ⟨rfl, N72q, e72⟩
    have N_73 := Fr.app N_67 N72q
    show own_Go X72 (Q0 Z q0 p1 p2 p3 q4 h0 n0) 4 29 205 #[.val (.long q0), .second, .val (.int p1), .val (.int p2), .val (.int p3), .val (.long q4), .second, .val (.ref b1), .val (.ref b22), .val (.int fr), .val (.int to), .val (.ref b43), .val (.int (p3 &&& (3 : Int32))), .val (.int (to - fr)), .unset] [(.int (to - fr))]
    refine own_st (fun _ k => XS.iload X72.here hx rfl (hb hby at_205) rfl k) ?_
    show own_Go X72 (Q0 Z q0 p1 p2 p3 q4 h0 n0) 4 29 207 #[.val (.long q0), .second, .val (.int p1), .val (.int p2), .val (.int p3), .val (.long q4), .second, .val (.ref b1), .val (.ref b22), .val (.int fr), .val (.int to), .val (.ref b43), .val (.int (p3 &&& (3 : Int32))), .val (.int (to - fr)), .unset] [(.int (to - fr)), (.int (to - fr))]
    have c207_74 : (to - fr) = (to - fr) := rfl
    refine own_st (fun _ k => XS.icmpNo X72.here hx rfl (hb hby at_207) rfl (teq c207_74).2 k) ?_
    show own_Go X72 (Q0 Z q0 p1 p2 p3 q4 h0 n0) 4 29 210 #[.val (.long q0), .second, .val (.int p1), .val (.int p2), .val (.int p3), .val (.long q4), .second, .val (.ref b1), .val (.ref b22), .val (.int fr), .val (.int to), .val (.ref b43), .val (.int (p3 &&& (3 : Int32))), .val (.int (to - fr)), .unset] []
    refine own_st (fun _ k => XS.iconst X72.here hx rfl (hb hby at_210) k) ?_
    show own_Go X72 (Q0 Z q0 p1 p2 p3 q4 h0 n0) 4 29 211 #[.val (.long q0), .second, .val (.int p1), .val (.int p2), .val (.int p3), .val (.long q4), .second, .val (.ref b1), .val (.ref b22), .val (.int fr), .val (.int to), .val (.ref b43), .val (.int (p3 &&& (3 : Int32))), .val (.int (to - fr)), .unset] [(.int (1 : Int32))]
    refine own_st (fun _ k => XS.goto X72.here hx rfl (pc0 := 211) (pc' := 215) rfl (hb hby at_211) (by decide) (by decide) k) ?_
    show own_Go X72 (Q0 Z q0 p1 p2 p3 q4 h0 n0) 4 29 215 #[.val (.long q0), .second, .val (.int p1), .val (.int p2), .val (.int p3), .val (.long q4), .second, .val (.ref b1), .val (.ref b22), .val (.int fr), .val (.int to), .val (.ref b43), .val (.int (p3 &&& (3 : Int32))), .val (.int (to - fr)), .unset] [(.int (1 : Int32))]
    refine own_st (fun _ k => XS.istore X72.here hx rfl (hb hby at_215) rfl (l' := #[.val (.long q0), .second, .val (.int p1), .val (.int p2), .val (.int p3), .val (.long q4), .second, .val (.ref b1), .val (.ref b22), .val (.int fr), .val (.int to), .val (.ref b43), .val (.int (p3 &&& (3 : Int32))), .val (.int (to - fr)), .val (.int (1 : Int32))]) rfl k) ?_
    show own_Go X72 (Q0 Z q0 p1 p2 p3 q4 h0 n0) 4 29 217 #[.val (.long q0), .second, .val (.int p1), .val (.int p2), .val (.int p3), .val (.long q4), .second, .val (.ref b1), .val (.ref b22), .val (.int fr), .val (.int to), .val (.ref b43), .val (.int (p3 &&& (3 : Int32))), .val (.int (to - fr)), .val (.int (1 : Int32))] []
    refine own_st (fun _ k => XS.iload X72.here hx rfl (hb hby at_217) rfl k) ?_
    show own_Go X72 (Q0 Z q0 p1 p2 p3 q4 h0 n0) 4 29 219 #[.val (.long q0), .second, .val (.int p1), .val (.int p2), .val (.int p3), .val (.long q4), .second, .val (.ref b1), .val (.ref b22), .val (.int fr), .val (.int to), .val (.ref b43), .val (.int (p3 &&& (3 : Int32))), .val (.int (to - fr)), .val (.int (1 : Int32))] [(.int (1 : Int32))]
    have c219_75 : ¬ ((1 : Int32) = (0 : Int32)) := (by decide)
    refine own_st (fun _ k => XS.ifNo X72.here hx rfl (hb hby at_219) rfl ((if0 _ _).trans (feq c219_75).1) k) ?_
    show own_Go X72 (Q0 Z q0 p1 p2 p3 q4 h0 n0) 4 29 222 #[.val (.long q0), .second, .val (.int p1), .val (.int p2), .val (.int p3), .val (.long q4), .second, .val (.ref b1), .val (.ref b22), .val (.int fr), .val (.int to), .val (.ref b43), .val (.int (p3 &&& (3 : Int32))), .val (.int (to - fr)), .val (.int (1 : Int32))] []
    refine own_st (fun _ k => XS.aload X72.here hx rfl (hb hby at_222) rfl rfl k) ?_
    show own_Go X72 (Q0 Z q0 p1 p2 p3 q4 h0 n0) 4 29 224 #[.val (.long q0), .second, .val (.int p1), .val (.int p2), .val (.int p3), .val (.long q4), .second, .val (.ref b1), .val (.ref b22), .val (.int fr), .val (.int to), .val (.ref b43), .val (.int (p3 &&& (3 : Int32))), .val (.int (to - fr)), .val (.int (1 : Int32))] [(.ref b43)]
    refine own_st (fun _ k => XS.aload X72.here hx rfl (hb hby at_224) rfl rfl k) ?_
    show own_Go X72 (Q0 Z q0 p1 p2 p3 q4 h0 n0) 4 29 226 #[.val (.long q0), .second, .val (.int p1), .val (.int p2), .val (.int p3), .val (.long q4), .second, .val (.ref b1), .val (.ref b22), .val (.int fr), .val (.int to), .val (.ref b43), .val (.int (p3 &&& (3 : Int32))), .val (.int (to - fr)), .val (.int (1 : Int32))] [(.ref b1), (.ref b43)]
    refine own_st (fun _ k => XS.iload X72.here hx rfl (hb hby at_226) rfl k) ?_
    show own_Go X72 (Q0 Z q0 p1 p2 p3 q4 h0 n0) 4 29 228 #[.val (.long q0), .second, .val (.int p1), .val (.int p2), .val (.int p3), .val (.long q4), .second, .val (.ref b1), .val (.ref b22), .val (.int fr), .val (.int to), .val (.ref b43), .val (.int (p3 &&& (3 : Int32))), .val (.int (to - fr)), .val (.int (1 : Int32))] [(.int fr), (.ref b1), (.ref b43)]
    refine own_st (fun _ k => XS.iload X72.here hx rfl (hb hby at_228) rfl k) ?_
    show own_Go X72 (Q0 Z q0 p1 p2 p3 q4 h0 n0) 4 29 230 #[.val (.long q0), .second, .val (.int p1), .val (.int p2), .val (.int p3), .val (.long q4), .second, .val (.ref b1), .val (.ref b22), .val (.int fr), .val (.int to), .val (.ref b43), .val (.int (p3 &&& (3 : Int32))), .val (.int (to - fr)), .val (.int (1 : Int32))] [(.int (to - fr)), (.int fr), (.ref b1), (.ref b43)]
    refine own_st (fun _ k => XS.iconst X72.here hx rfl (hb hby at_230) k) ?_
    show own_Go X72 (Q0 Z q0 p1 p2 p3 q4 h0 n0) 4 29 231 #[.val (.long q0), .second, .val (.int p1), .val (.int p2), .val (.int p3), .val (.long q4), .second, .val (.ref b1), .val (.ref b22), .val (.int fr), .val (.int to), .val (.ref b43), .val (.int (p3 &&& (3 : Int32))), .val (.int (to - fr)), .val (.int (1 : Int32))] [(.int (0 : Int32)), (.int (to - fr)), (.int fr), (.ref b1), (.ref b43)]
    refine own_callS (W := 0) X72 hx hZ hown (hw _ (List.mem_of_getElem? (i := 27) rfl)) (hw _ (List.mem_of_getElem? (i := 28) rfl)) (hw _ (List.mem_of_getElem? (i := 29) rfl)) (hw _ (List.mem_of_getElem? (i := 30) rfl)) (by decide) (rm5 l Z a0 hw [] b43 b1 fr (to - fr) (0 : Int32) k1 (own_y0 q0) (own_ys (8 : Int32) q0) (own_ys (16 : Int32) q0) (own_ys (24 : Int32) q0) (own_ys (32 : Int32) q0) (own_ys (40 : Int32) q0) T66.heap n0 Z_71 f_70 F66_length F66_bytes F66_start f_68 hB (by decide) ⟨own_b8 _, own_b8 _, own_b8 _, own_b8 _, own_b8 _, own_b8 _⟩) (by decide) (by decide) (by rw [hml]; rfl) [(.ref b43), (.ref b1), (.int fr), (.int (to - fr)), (.int (0 : Int32))] [] (lenOf pd_0_3 rfl) rfl rfl (Nat.le_of_ble_eq_true rfl) (hb hby at_231) e72 (by decide) (by decide) ?_
    rintro _ T76 L76 X76 ⟨rfl, N76q, e76⟩
    have N_77 := Fr.app N_73 N76q
    show own_Go X76 (Q0 Z q0 p1 p2 p3 q4 h0 n0) 4 29 234 #[.val (.long q0), .second, .val (.int p1), .val (.int p2), .val (.int p3), .val (.long q4), .second, .val (.ref b1), .val (.ref b22), .val (.int fr), .val (.int to), .val (.ref b43), .val (.int (p3 &&& (3 : Int32))), .val (.int (to - fr)), .val (.int (1 : Int32))] [(.int (1 : Int32))]
    have c234_78 : ¬ ((1 : Int32) = (0 : Int32)) := (by decide)
    refine own_st (fun _ k => XS.ifNo X76.here hx rfl (hb hby at_234) rfl ((if0 _ _).trans (feq c234_78).1) k) ?_
    show own_Go X76 (Q0 Z q0 p1 p2 p3 q4 h0 n0) 4 29 237 #[.val (.long q0), .second, .val (.int p1), .val (.int p2), .val (.int p3), .val (.long q4), .second, .val (.ref b1), .val (.ref b22), .val (.int fr), .val (.int to), .val (.ref b43), .val (.int (p3 &&& (3 : Int32))), .val (.int (to - fr)), .val (.int (1 : Int32))] []
    refine own_st (fun _ k => XS.iconst X76.here hx rfl (hb hby at_237) k) ?_
    show own_Go X76 (Q0 Z q0 p1 p2 p3 q4 h0 n0) 4 29 238 #[.val (.long q0), .second, .val (.int p1), .val (.int p2), .val (.int p3), .val (.long q4), .second, .val (.ref b1), .val (.ref b22), .val (.int fr), .val (.int to), .val (.ref b43), .val (.int (p3 &&& (3 : Int32))), .val (.int (to - fr)), .val (.int (1 : Int32))] [(.int (1 : Int32))]
    refine own_st (fun _ k => XS.goto X76.here hx rfl (pc0 := 238) (pc' := 242) rfl (hb hby at_238) (by decide) (by decide) k) ?_
    show own_Go X76 (Q0 Z q0 p1 p2 p3 q4 h0 n0) 4 29 242 #[.val (.long q0), .second, .val (.int p1), .val (.int p2), .val (.int p3), .val (.long q4), .second, .val (.ref b1), .val (.ref b22), .val (.int fr), .val (.int to), .val (.ref b43), .val (.int (p3 &&& (3 : Int32))), .val (.int (to - fr)), .val (.int (1 : Int32))] [(.int (1 : Int32))]
    refine own_st (fun _ k => XS.istore X76.here hx rfl (hb hby at_242) rfl (l' := #[.val (.long q0), .second, .val (.int p1), .val (.int p2), .val (.int p3), .val (.long q4), .second, .val (.ref b1), .val (.ref b22), .val (.int fr), .val (.int to), .val (.ref b43), .val (.int (p3 &&& (3 : Int32))), .val (.int (to - fr)), .val (.int (1 : Int32))]) rfl k) ?_
    show own_Go X76 (Q0 Z q0 p1 p2 p3 q4 h0 n0) 4 29 244 #[.val (.long q0), .second, .val (.int p1), .val (.int p2), .val (.int p3), .val (.long q4), .second, .val (.ref b1), .val (.ref b22), .val (.int fr), .val (.int to), .val (.ref b43), .val (.int (p3 &&& (3 : Int32))), .val (.int (to - fr)), .val (.int (1 : Int32))] []
    refine own_st (fun _ k => XS.iload X76.here hx rfl (hb hby at_244) rfl k) ?_
    show own_Go X76 (Q0 Z q0 p1 p2 p3 q4 h0 n0) 4 29 246 #[.val (.long q0), .second, .val (.int p1), .val (.int p2), .val (.int p3), .val (.long q4), .second, .val (.ref b1), .val (.ref b22), .val (.int fr), .val (.int to), .val (.ref b43), .val (.int (p3 &&& (3 : Int32))), .val (.int (to - fr)), .val (.int (1 : Int32))] [(.int (1 : Int32))]
    have c246_79 : ¬ ((1 : Int32) = (0 : Int32)) := (by decide)
    refine own_st (fun _ k => XS.ifNo X76.here hx rfl (hb hby at_246) rfl ((if0 _ _).trans (feq c246_79).1) k) ?_
    show own_Go X76 (Q0 Z q0 p1 p2 p3 q4 h0 n0) 4 29 249 #[.val (.long q0), .second, .val (.int p1), .val (.int p2), .val (.int p3), .val (.long q4), .second, .val (.ref b1), .val (.ref b22), .val (.int fr), .val (.int to), .val (.ref b43), .val (.int (p3 &&& (3 : Int32))), .val (.int (to - fr)), .val (.int (1 : Int32))] []
    refine own_st (fun _ k => XS.aload X76.here hx rfl (hb hby at_249) rfl rfl k) ?_
    show own_Go X76 (Q0 Z q0 p1 p2 p3 q4 h0 n0) 4 29 251 #[.val (.long q0), .second, .val (.int p1), .val (.int p2), .val (.int p3), .val (.long q4), .second, .val (.ref b1), .val (.ref b22), .val (.int fr), .val (.int to), .val (.ref b43), .val (.int (p3 &&& (3 : Int32))), .val (.int (to - fr)), .val (.int (1 : Int32))] [(.ref b43)]
    refine own_st (fun _ k => XS.aload X76.here hx rfl (hb hby at_251) rfl rfl k) ?_
    show own_Go X76 (Q0 Z q0 p1 p2 p3 q4 h0 n0) 4 29 253 #[.val (.long q0), .second, .val (.int p1), .val (.int p2), .val (.int p3), .val (.long q4), .second, .val (.ref b1), .val (.ref b22), .val (.int fr), .val (.int to), .val (.ref b43), .val (.int (p3 &&& (3 : Int32))), .val (.int (to - fr)), .val (.int (1 : Int32))] [(.ref b1), (.ref b43)]
    refine own_st (fun _ k => XS.iload X76.here hx rfl (hb hby at_253) rfl k) ?_
    show own_Go X76 (Q0 Z q0 p1 p2 p3 q4 h0 n0) 4 29 255 #[.val (.long q0), .second, .val (.int p1), .val (.int p2), .val (.int p3), .val (.long q4), .second, .val (.ref b1), .val (.ref b22), .val (.int fr), .val (.int to), .val (.ref b43), .val (.int (p3 &&& (3 : Int32))), .val (.int (to - fr)), .val (.int (1 : Int32))] [(.int fr), (.ref b1), (.ref b43)]
    refine own_st (fun _ k => XS.iload X76.here hx rfl (hb hby at_255) rfl k) ?_
    show own_Go X76 (Q0 Z q0 p1 p2 p3 q4 h0 n0) 4 29 257 #[.val (.long q0), .second, .val (.int p1), .val (.int p2), .val (.int p3), .val (.long q4), .second, .val (.ref b1), .val (.ref b22), .val (.int fr), .val (.int to), .val (.ref b43), .val (.int (p3 &&& (3 : Int32))), .val (.int (to - fr)), .val (.int (1 : Int32))] [(.int (to - fr)), (.int fr), (.ref b1), (.ref b43)]
    refine own_st (fun _ k => XS.iconst X76.here hx rfl (hb hby at_257) k) ?_
    show own_Go X76 (Q0 Z q0 p1 p2 p3 q4 h0 n0) 4 29 258 #[.val (.long q0), .second, .val (.int p1), .val (.int p2), .val (.int p3), .val (.long q4), .second, .val (.ref b1), .val (.ref b22), .val (.int fr), .val (.int to), .val (.ref b43), .val (.int (p3 &&& (3 : Int32))), .val (.int (to - fr)), .val (.int (1 : Int32))] [(.int (1 : Int32)), (.int (to - fr)), (.int fr), (.ref b1), (.ref b43)]
    refine own_callS (W := 0) X76 hx hZ hown (hw _ (List.mem_of_getElem? (i := 27) rfl)) (hw _ (List.mem_of_getElem? (i := 28) rfl)) (hw _ (List.mem_of_getElem? (i := 29) rfl)) (hw _ (List.mem_of_getElem? (i := 30) rfl)) (by decide) (rm5 l Z a0 hw [] b43 b1 fr (to - fr) (1 : Int32) k1 (own_y0 q0) (own_ys (8 : Int32) q0) (own_ys (16 : Int32) q0) (own_ys (24 : Int32) q0) (own_ys (32 : Int32) q0) (own_ys (40 : Int32) q0) T66.heap n0 Z_71 f_70 F66_length F66_bytes F66_start f_68 hB (by decide) ⟨own_b8 _, own_b8 _, own_b8 _, own_b8 _, own_b8 _, own_b8 _⟩) (by decide) (by decide) (by rw [hml]; rfl) [(.ref b43), (.ref b1), (.int fr), (.int (to - fr)), (.int (1 : Int32))] [] (lenOf pd_0_3 rfl) rfl rfl (Nat.le_of_ble_eq_true rfl) (hb hby at_258) e76 (by decide) (by decide) ?_
    rintro _ T80 L80 X80 ⟨rfl, N80q, e80⟩
    have N_81 := Fr.app N_77 N80q
    show own_Go X80 (Q0 Z q0 p1 p2 p3 q4 h0 n0) 4 29 261 #[.val (.long q0), .second, .val (.int p1), .val (.int p2), .val (.int p3), .val (.long q4), .second, .val (.ref b1), .val (.ref b22), .val (.int fr), .val (.int to), .val (.ref b43), .val (.int (p3 &&& (3 : Int32))), .val (.int (to - fr)), .val (.int (1 : Int32))] [(.int (1 : Int32))]
    have c261_82 : ¬ ((1 : Int32) = (0 : Int32)) := (by decide)
    refine own_st (fun _ k => XS.ifNo X80.here hx rfl (hb hby at_261) rfl ((if0 _ _).trans (feq c261_82).1) k) ?_
    show own_Go X80 (Q0 Z q0 p1 p2 p3 q4 h0 n0) 4 29 264 #[.val (.long q0), .second, .val (.int p1), .val (.int p2), .val (.int p3), .val (.long q4), .second, .val (.ref b1), .val (.ref b22), .val (.int fr), .val (.int to), .val (.ref b43), .val (.int (p3 &&& (3 : Int32))), .val (.int (to - fr)), .val (.int (1 : Int32))] []
    refine own_st (fun _ k => XS.iconst X80.here hx rfl (hb hby at_264) k) ?_
    show own_Go X80 (Q0 Z q0 p1 p2 p3 q4 h0 n0) 4 29 265 #[.val (.long q0), .second, .val (.int p1), .val (.int p2), .val (.int p3), .val (.long q4), .second, .val (.ref b1), .val (.ref b22), .val (.int fr), .val (.int to), .val (.ref b43), .val (.int (p3 &&& (3 : Int32))), .val (.int (to - fr)), .val (.int (1 : Int32))] [(.int (1 : Int32))]
    refine own_st (fun _ k => XS.goto X80.here hx rfl (pc0 := 265) (pc' := 269) rfl (hb hby at_265) (by decide) (by decide) k) ?_
    show own_Go X80 (Q0 Z q0 p1 p2 p3 q4 h0 n0) 4 29 269 #[.val (.long q0), .second, .val (.int p1), .val (.int p2), .val (.int p3), .val (.long q4), .second, .val (.ref b1), .val (.ref b22), .val (.int fr), .val (.int to), .val (.ref b43), .val (.int (p3 &&& (3 : Int32))), .val (.int (to - fr)), .val (.int (1 : Int32))] [(.int (1 : Int32))]
    refine own_st (fun _ k => XS.istore X80.here hx rfl (hb hby at_269) rfl (l' := #[.val (.long q0), .second, .val (.int p1), .val (.int p2), .val (.int p3), .val (.long q4), .second, .val (.ref b1), .val (.ref b22), .val (.int fr), .val (.int to), .val (.ref b43), .val (.int (p3 &&& (3 : Int32))), .val (.int (to - fr)), .val (.int (1 : Int32))]) rfl k) ?_
    show own_Go X80 (Q0 Z q0 p1 p2 p3 q4 h0 n0) 4 29 271 #[.val (.long q0), .second, .val (.int p1), .val (.int p2), .val (.int p3), .val (.long q4), .second, .val (.ref b1), .val (.ref b22), .val (.int fr), .val (.int to), .val (.ref b43), .val (.int (p3 &&& (3 : Int32))), .val (.int (to - fr)), .val (.int (1 : Int32))] []
    refine own_st (fun _ k => XS.iload X80.here hx rfl (hb hby at_271) rfl k) ?_
    show own_Go X80 (Q0 Z q0 p1 p2 p3 q4 h0 n0) 4 29 273 #[.val (.long q0), .second, .val (.int p1), .val (.int p2), .val (.int p3), .val (.long q4), .second, .val (.ref b1), .val (.ref b22), .val (.int fr), .val (.int to), .val (.ref b43), .val (.int (p3 &&& (3 : Int32))), .val (.int (to - fr)), .val (.int (1 : Int32))] [(.int (1 : Int32))]
    have c273_83 : ¬ ((1 : Int32) = (0 : Int32)) := (by decide)
    refine own_st (fun _ k => XS.ifNo X80.here hx rfl (hb hby at_273) rfl ((if0 _ _).trans (feq c273_83).1) k) ?_
    show own_Go X80 (Q0 Z q0 p1 p2 p3 q4 h0 n0) 4 29 276 #[.val (.long q0), .second, .val (.int p1), .val (.int p2), .val (.int p3), .val (.long q4), .second, .val (.ref b1), .val (.ref b22), .val (.int fr), .val (.int to), .val (.ref b43), .val (.int (p3 &&& (3 : Int32))), .val (.int (to - fr)), .val (.int (1 : Int32))] []
    refine own_st (fun _ k => XS.aload X80.here hx rfl (hb hby at_276) rfl rfl k) ?_
    show own_Go X80 (Q0 Z q0 p1 p2 p3 q4 h0 n0) 4 29 278 #[.val (.long q0), .second, .val (.int p1), .val (.int p2), .val (.int p3), .val (.long q4), .second, .val (.ref b1), .val (.ref b22), .val (.int fr), .val (.int to), .val (.ref b43), .val (.int (p3 &&& (3 : Int32))), .val (.int (to - fr)), .val (.int (1 : Int32))] [(.ref b43)]
    refine own_st (fun _ k => XS.aload X80.here hx rfl (hb hby at_278) rfl rfl k) ?_
    show own_Go X80 (Q0 Z q0 p1 p2 p3 q4 h0 n0) 4 29 280 #[.val (.long q0), .second, .val (.int p1), .val (.int p2), .val (.int p3), .val (.long q4), .second, .val (.ref b1), .val (.ref b22), .val (.int fr), .val (.int to), .val (.ref b43), .val (.int (p3 &&& (3 : Int32))), .val (.int (to - fr)), .val (.int (1 : Int32))] [(.ref b1), (.ref b43)]
    refine own_st (fun _ k => XS.iload X80.here hx rfl (hb hby at_280) rfl k) ?_
    show own_Go X80 (Q0 Z q0 p1 p2 p3 q4 h0 n0) 4 29 282 #[.val (.long q0), .second, .val (.int p1), .val (.int p2), .val (.int p3), .val (.long q4), .second, .val (.ref b1), .val (.ref b22), .val (.int fr), .val (.int to), .val (.ref b43), .val (.int (p3 &&& (3 : Int32))), .val (.int (to - fr)), .val (.int (1 : Int32))] [(.int fr), (.ref b1), (.ref b43)]
    refine own_st (fun _ k => XS.iload X80.here hx rfl (hb hby at_282) rfl k) ?_
    show own_Go X80 (Q0 Z q0 p1 p2 p3 q4 h0 n0) 4 29 284 #[.val (.long q0), .second, .val (.int p1), .val (.int p2), .val (.int p3), .val (.long q4), .second, .val (.ref b1), .val (.ref b22), .val (.int fr), .val (.int to), .val (.ref b43), .val (.int (p3 &&& (3 : Int32))), .val (.int (to - fr)), .val (.int (1 : Int32))] [(.int (to - fr)), (.int fr), (.ref b1), (.ref b43)]
    refine own_st (fun _ k => XS.iconst X80.here hx rfl (hb hby at_284) k) ?_
    show own_Go X80 (Q0 Z q0 p1 p2 p3 q4 h0 n0) 4 29 285 #[.val (.long q0), .second, .val (.int p1), .val (.int p2), .val (.int p3), .val (.long q4), .second, .val (.ref b1), .val (.ref b22), .val (.int fr), .val (.int to), .val (.ref b43), .val (.int (p3 &&& (3 : Int32))), .val (.int (to - fr)), .val (.int (1 : Int32))] [(.int (2 : Int32)), (.int (to - fr)), (.int fr), (.ref b1), (.ref b43)]
    refine own_callS (W := 0) X80 hx hZ hown (hw _ (List.mem_of_getElem? (i := 27) rfl)) (hw _ (List.mem_of_getElem? (i := 28) rfl)) (hw _ (List.mem_of_getElem? (i := 29) rfl)) (hw _ (List.mem_of_getElem? (i := 30) rfl)) (by decide) (rm5 l Z a0 hw [] b43 b1 fr (to - fr) (2 : Int32) k1 (own_y0 q0) (own_ys (8 : Int32) q0) (own_ys (16 : Int32) q0) (own_ys (24 : Int32) q0) (own_ys (32 : Int32) q0) (own_ys (40 : Int32) q0) T66.heap n0 Z_71 f_70 F66_length F66_bytes F66_start f_68 hB (by decide) ⟨own_b8 _, own_b8 _, own_b8 _, own_b8 _, own_b8 _, own_b8 _⟩) (by decide) (by decide) (by rw [hml]; rfl) [(.ref b43), (.ref b1), (.int fr), (.int (to - fr)), (.int (2 : Int32))] [] (lenOf pd_0_3 rfl) rfl rfl (Nat.le_of_ble_eq_true rfl) (hb hby at_285) e80 (by decide) (by decide) ?_
    rintro _ T84 L84 X84 ⟨rfl, N84q, e84⟩
    have N_85 := Fr.app N_81 N84q
    show own_Go X84 (Q0 Z q0 p1 p2 p3 q4 h0 n0) 4 29 288 #[.val (.long q0), .second, .val (.int p1), .val (.int p2), .val (.int p3), .val (.long q4), .second, .val (.ref b1), .val (.ref b22), .val (.int fr), .val (.int to), .val (.ref b43), .val (.int (p3 &&& (3 : Int32))), .val (.int (to - fr)), .val (.int (1 : Int32))] [(.int (1 : Int32))]
    have c288_86 : ¬ ((1 : Int32) = (0 : Int32)) := (by decide)
    refine own_st (fun _ k => XS.ifNo X84.here hx rfl (hb hby at_288) rfl ((if0 _ _).trans (feq c288_86).1) k) ?_
    show own_Go X84 (Q0 Z q0 p1 p2 p3 q4 h0 n0) 4 29 291 #[.val (.long q0), .second, .val (.int p1), .val (.int p2), .val (.int p3), .val (.long q4), .second, .val (.ref b1), .val (.ref b22), .val (.int fr), .val (.int to), .val (.ref b43), .val (.int (p3 &&& (3 : Int32))), .val (.int (to - fr)), .val (.int (1 : Int32))] []
    refine own_st (fun _ k => XS.iconst X84.here hx rfl (hb hby at_291) k) ?_
    show own_Go X84 (Q0 Z q0 p1 p2 p3 q4 h0 n0) 4 29 292 #[.val (.long q0), .second, .val (.int p1), .val (.int p2), .val (.int p3), .val (.long q4), .second, .val (.ref b1), .val (.ref b22), .val (.int fr), .val (.int to), .val (.ref b43), .val (.int (p3 &&& (3 : Int32))), .val (.int (to - fr)), .val (.int (1 : Int32))] [(.int (1 : Int32))]
    refine own_st (fun _ k => XS.goto X84.here hx rfl (pc0 := 292) (pc' := 296) rfl (hb hby at_292) (by decide) (by decide) k) ?_
    show own_Go X84 (Q0 Z q0 p1 p2 p3 q4 h0 n0) 4 29 296 #[.val (.long q0), .second, .val (.int p1), .val (.int p2), .val (.int p3), .val (.long q4), .second, .val (.ref b1), .val (.ref b22), .val (.int fr), .val (.int to), .val (.ref b43), .val (.int (p3 &&& (3 : Int32))), .val (.int (to - fr)), .val (.int (1 : Int32))] [(.int (1 : Int32))]
    refine own_st (fun _ k => XS.istore X84.here hx rfl (hb hby at_296) rfl (l' := #[.val (.long q0), .second, .val (.int p1), .val (.int p2), .val (.int p3), .val (.long q4), .second, .val (.ref b1), .val (.ref b22), .val (.int fr), .val (.int to), .val (.ref b43), .val (.int (p3 &&& (3 : Int32))), .val (.int (to - fr)), .val (.int (1 : Int32))]) rfl k) ?_
    show own_Go X84 (Q0 Z q0 p1 p2 p3 q4 h0 n0) 4 29 298 #[.val (.long q0), .second, .val (.int p1), .val (.int p2), .val (.int p3), .val (.long q4), .second, .val (.ref b1), .val (.ref b22), .val (.int fr), .val (.int to), .val (.ref b43), .val (.int (p3 &&& (3 : Int32))), .val (.int (to - fr)), .val (.int (1 : Int32))] []
    refine own_st (fun _ k => XS.iload X84.here hx rfl (hb hby at_298) rfl k) ?_
    show own_Go X84 (Q0 Z q0 p1 p2 p3 q4 h0 n0) 4 29 300 #[.val (.long q0), .second, .val (.int p1), .val (.int p2), .val (.int p3), .val (.long q4), .second, .val (.ref b1), .val (.ref b22), .val (.int fr), .val (.int to), .val (.ref b43), .val (.int (p3 &&& (3 : Int32))), .val (.int (to - fr)), .val (.int (1 : Int32))] [(.int (1 : Int32))]
    have c300_87 : ¬ ((1 : Int32) = (0 : Int32)) := (by decide)
    refine own_st (fun _ k => XS.ifNo X84.here hx rfl (hb hby at_300) rfl ((if0 _ _).trans (feq c300_87).1) k) ?_
    show own_Go X84 (Q0 Z q0 p1 p2 p3 q4 h0 n0) 4 29 303 #[.val (.long q0), .second, .val (.int p1), .val (.int p2), .val (.int p3), .val (.long q4), .second, .val (.ref b1), .val (.ref b22), .val (.int fr), .val (.int to), .val (.ref b43), .val (.int (p3 &&& (3 : Int32))), .val (.int (to - fr)), .val (.int (1 : Int32))] []
    refine own_st (fun _ k => XS.aload X84.here hx rfl (hb hby at_303) rfl rfl k) ?_
    show own_Go X84 (Q0 Z q0 p1 p2 p3 q4 h0 n0) 4 29 305 #[.val (.long q0), .second, .val (.int p1), .val (.int p2), .val (.int p3), .val (.long q4), .second, .val (.ref b1), .val (.ref b22), .val (.int fr), .val (.int to), .val (.ref b43), .val (.int (p3 &&& (3 : Int32))), .val (.int (to - fr)), .val (.int (1 : Int32))] [(.ref b43)]
    refine own_st (fun _ k => XS.aload X84.here hx rfl (hb hby at_305) rfl rfl k) ?_
    show own_Go X84 (Q0 Z q0 p1 p2 p3 q4 h0 n0) 4 29 307 #[.val (.long q0), .second, .val (.int p1), .val (.int p2), .val (.int p3), .val (.long q4), .second, .val (.ref b1), .val (.ref b22), .val (.int fr), .val (.int to), .val (.ref b43), .val (.int (p3 &&& (3 : Int32))), .val (.int (to - fr)), .val (.int (1 : Int32))] [(.ref b1), (.ref b43)]
    refine own_st (fun _ k => XS.iload X84.here hx rfl (hb hby at_307) rfl k) ?_
    show own_Go X84 (Q0 Z q0 p1 p2 p3 q4 h0 n0) 4 29 309 #[.val (.long q0), .second, .val (.int p1), .val (.int p2), .val (.int p3), .val (.long q4), .second, .val (.ref b1), .val (.ref b22), .val (.int fr), .val (.int to), .val (.ref b43), .val (.int (p3 &&& (3 : Int32))), .val (.int (to - fr)), .val (.int (1 : Int32))] [(.int fr), (.ref b1), (.ref b43)]
    refine own_st (fun _ k => XS.iload X84.here hx rfl (hb hby at_309) rfl k) ?_
    show own_Go X84 (Q0 Z q0 p1 p2 p3 q4 h0 n0) 4 29 311 #[.val (.long q0), .second, .val (.int p1), .val (.int p2), .val (.int p3), .val (.long q4), .second, .val (.ref b1), .val (.ref b22), .val (.int fr), .val (.int to), .val (.ref b43), .val (.int (p3 &&& (3 : Int32))), .val (.int (to - fr)), .val (.int (1 : Int32))] [(.int (to - fr)), (.int fr), (.ref b1), (.ref b43)]
    refine own_st (fun _ k => XS.iconst X84.here hx rfl (hb hby at_311) k) ?_
    show own_Go X84 (Q0 Z q0 p1 p2 p3 q4 h0 n0) 4 29 312 #[.val (.long q0), .second, .val (.int p1), .val (.int p2), .val (.int p3), .val (.long q4), .second, .val (.ref b1), .val (.ref b22), .val (.int fr), .val (.int to), .val (.ref b43), .val (.int (p3 &&& (3 : Int32))), .val (.int (to - fr)), .val (.int (1 : Int32))] [(.int (3 : Int32)), (.int (to - fr)), (.int fr), (.ref b1), (.ref b43)]
    refine own_callS (W := 0) X84 hx hZ hown (hw _ (List.mem_of_getElem? (i := 27) rfl)) (hw _ (List.mem_of_getElem? (i := 28) rfl)) (hw _ (List.mem_of_getElem? (i := 29) rfl)) (hw _ (List.mem_of_getElem? (i := 30) rfl)) (by decide) (rm5 l Z a0 hw [] b43 b1 fr (to - fr) (3 : Int32) k1 (own_y0 q0) (own_ys (8 : Int32) q0) (own_ys (16 : Int32) q0) (own_ys (24 : Int32) q0) (own_ys (32 : Int32) q0) (own_ys (40 : Int32) q0) T66.heap n0 Z_71 f_70 F66_length F66_bytes F66_start f_68 hB (by decide) ⟨own_b8 _, own_b8 _, own_b8 _, own_b8 _, own_b8 _, own_b8 _⟩) (by decide) (by decide) (by rw [hml]; rfl) [(.ref b43), (.ref b1), (.int fr), (.int (to - fr)), (.int (3 : Int32))] [] (lenOf pd_0_3 rfl) rfl rfl (Nat.le_of_ble_eq_true rfl) (hb hby at_312) e84 (by decide) (by decide) ?_
    rintro _ T88 L88 X88 ⟨rfl, N88q, e88⟩
    have N_89 := Fr.app N_85 N88q
    show own_Go X88 (Q0 Z q0 p1 p2 p3 q4 h0 n0) 4 29 315 #[.val (.long q0), .second, .val (.int p1), .val (.int p2), .val (.int p3), .val (.long q4), .second, .val (.ref b1), .val (.ref b22), .val (.int fr), .val (.int to), .val (.ref b43), .val (.int (p3 &&& (3 : Int32))), .val (.int (to - fr)), .val (.int (1 : Int32))] [(.int (1 : Int32))]
    have c315_90 : ¬ ((1 : Int32) = (0 : Int32)) := (by decide)
    refine own_st (fun _ k => XS.ifNo X88.here hx rfl (hb hby at_315) rfl ((if0 _ _).trans (feq c315_90).1) k) ?_
    show own_Go X88 (Q0 Z q0 p1 p2 p3 q4 h0 n0) 4 29 318 #[.val (.long q0), .second, .val (.int p1), .val (.int p2), .val (.int p3), .val (.long q4), .second, .val (.ref b1), .val (.ref b22), .val (.int fr), .val (.int to), .val (.ref b43), .val (.int (p3 &&& (3 : Int32))), .val (.int (to - fr)), .val (.int (1 : Int32))] []
    refine own_st (fun _ k => XS.iconst X88.here hx rfl (hb hby at_318) k) ?_
    show own_Go X88 (Q0 Z q0 p1 p2 p3 q4 h0 n0) 4 29 319 #[.val (.long q0), .second, .val (.int p1), .val (.int p2), .val (.int p3), .val (.long q4), .second, .val (.ref b1), .val (.ref b22), .val (.int fr), .val (.int to), .val (.ref b43), .val (.int (p3 &&& (3 : Int32))), .val (.int (to - fr)), .val (.int (1 : Int32))] [(.int (1 : Int32))]
    refine own_st (fun _ k => XS.goto X88.here hx rfl (pc0 := 319) (pc' := 323) rfl (hb hby at_319) (by decide) (by decide) k) ?_
    show own_Go X88 (Q0 Z q0 p1 p2 p3 q4 h0 n0) 4 29 323 #[.val (.long q0), .second, .val (.int p1), .val (.int p2), .val (.int p3), .val (.long q4), .second, .val (.ref b1), .val (.ref b22), .val (.int fr), .val (.int to), .val (.ref b43), .val (.int (p3 &&& (3 : Int32))), .val (.int (to - fr)), .val (.int (1 : Int32))] [(.int (1 : Int32))]
    refine own_st (fun _ k => XS.istore X88.here hx rfl (hb hby at_323) rfl (l' := #[.val (.long q0), .second, .val (.int p1), .val (.int p2), .val (.int p3), .val (.long q4), .second, .val (.ref b1), .val (.ref b22), .val (.int fr), .val (.int to), .val (.ref b43), .val (.int (p3 &&& (3 : Int32))), .val (.int (to - fr)), .val (.int (1 : Int32))]) rfl k) ?_
    show own_Go X88 (Q0 Z q0 p1 p2 p3 q4 h0 n0) 4 29 325 #[.val (.long q0), .second, .val (.int p1), .val (.int p2), .val (.int p3), .val (.long q4), .second, .val (.ref b1), .val (.ref b22), .val (.int fr), .val (.int to), .val (.ref b43), .val (.int (p3 &&& (3 : Int32))), .val (.int (to - fr)), .val (.int (1 : Int32))] []
    refine own_st (fun _ k => XS.iload X88.here hx rfl (hb hby at_325) rfl k) ?_
    show own_Go X88 (Q0 Z q0 p1 p2 p3 q4 h0 n0) 4 29 327 #[.val (.long q0), .second, .val (.int p1), .val (.int p2), .val (.int p3), .val (.long q4), .second, .val (.ref b1), .val (.ref b22), .val (.int fr), .val (.int to), .val (.ref b43), .val (.int (p3 &&& (3 : Int32))), .val (.int (to - fr)), .val (.int (1 : Int32))] [(.int (1 : Int32))]
    have c327_91 : ¬ ((1 : Int32) = (0 : Int32)) := (by decide)
    refine own_st (fun _ k => XS.ifNo X88.here hx rfl (hb hby at_327) rfl ((if0 _ _).trans (feq c327_91).1) k) ?_
    show own_Go X88 (Q0 Z q0 p1 p2 p3 q4 h0 n0) 4 29 330 #[.val (.long q0), .second, .val (.int p1), .val (.int p2), .val (.int p3), .val (.long q4), .second, .val (.ref b1), .val (.ref b22), .val (.int fr), .val (.int to), .val (.ref b43), .val (.int (p3 &&& (3 : Int32))), .val (.int (to - fr)), .val (.int (1 : Int32))] []
    refine own_st (fun _ k => XS.aload X88.here hx rfl (hb hby at_330) rfl rfl k) ?_
    show own_Go X88 (Q0 Z q0 p1 p2 p3 q4 h0 n0) 4 29 332 #[.val (.long q0), .second, .val (.int p1), .val (.int p2), .val (.int p3), .val (.long q4), .second, .val (.ref b1), .val (.ref b22), .val (.int fr), .val (.int to), .val (.ref b43), .val (.int (p3 &&& (3 : Int32))), .val (.int (to - fr)), .val (.int (1 : Int32))] [(.ref b43)]
    refine own_st (fun _ k => XS.aload X88.here hx rfl (hb hby at_332) rfl rfl k) ?_
    show own_Go X88 (Q0 Z q0 p1 p2 p3 q4 h0 n0) 4 29 334 #[.val (.long q0), .second, .val (.int p1), .val (.int p2), .val (.int p3), .val (.long q4), .second, .val (.ref b1), .val (.ref b22), .val (.int fr), .val (.int to), .val (.ref b43), .val (.int (p3 &&& (3 : Int32))), .val (.int (to - fr)), .val (.int (1 : Int32))] [(.ref b1), (.ref b43)]
    refine own_st (fun _ k => XS.iload X88.here hx rfl (hb hby at_334) rfl k) ?_
    show own_Go X88 (Q0 Z q0 p1 p2 p3 q4 h0 n0) 4 29 336 #[.val (.long q0), .second, .val (.int p1), .val (.int p2), .val (.int p3), .val (.long q4), .second, .val (.ref b1), .val (.ref b22), .val (.int fr), .val (.int to), .val (.ref b43), .val (.int (p3 &&& (3 : Int32))), .val (.int (to - fr)), .val (.int (1 : Int32))] [(.int fr), (.ref b1), (.ref b43)]
    refine own_st (fun _ k => XS.iload X88.here hx rfl (hb hby at_336) rfl k) ?_
    show own_Go X88 (Q0 Z q0 p1 p2 p3 q4 h0 n0) 4 29 338 #[.val (.long q0), .second, .val (.int p1), .val (.int p2), .val (.int p3), .val (.long q4), .second, .val (.ref b1), .val (.ref b22), .val (.int fr), .val (.int to), .val (.ref b43), .val (.int (p3 &&& (3 : Int32))), .val (.int (to - fr)), .val (.int (1 : Int32))] [(.int (to - fr)), (.int fr), (.ref b1), (.ref b43)]
    refine own_st (fun _ k => XS.iconst X88.here hx rfl (hb hby at_338) k) ?_
    show own_Go X88 (Q0 Z q0 p1 p2 p3 q4 h0 n0) 4 29 339 #[.val (.long q0), .second, .val (.int p1), .val (.int p2), .val (.int p3), .val (.long q4), .second, .val (.ref b1), .val (.ref b22), .val (.int fr), .val (.int to), .val (.ref b43), .val (.int (p3 &&& (3 : Int32))), .val (.int (to - fr)), .val (.int (1 : Int32))] [(.int (4 : Int32)), (.int (to - fr)), (.int fr), (.ref b1), (.ref b43)]
    refine own_callS (W := 0) X88 hx hZ hown (hw _ (List.mem_of_getElem? (i := 27) rfl)) (hw _ (List.mem_of_getElem? (i := 28) rfl)) (hw _ (List.mem_of_getElem? (i := 29) rfl)) (hw _ (List.mem_of_getElem? (i := 30) rfl)) (by decide) (rm5 l Z a0 hw [] b43 b1 fr (to - fr) (4 : Int32) k1 (own_y0 q0) (own_ys (8 : Int32) q0) (own_ys (16 : Int32) q0) (own_ys (24 : Int32) q0) (own_ys (32 : Int32) q0) (own_ys (40 : Int32) q0) T66.heap n0 Z_71 f_70 F66_length F66_bytes F66_start f_68 hB (by decide) ⟨own_b8 _, own_b8 _, own_b8 _, own_b8 _, own_b8 _, own_b8 _⟩) (by decide) (by decide) (by rw [hml]; rfl) [(.ref b43), (.ref b1), (.int fr), (.int (to - fr)), (.int (4 : Int32))] [] (lenOf pd_0_3 rfl) rfl rfl (Nat.le_of_ble_eq_true rfl) (hb hby at_339) e88 (by decide) (by decide) ?_
    rintro _ T92 L92 X92 ⟨rfl, N92q, e92⟩
    have N_93 := Fr.app N_89 N92q
    show own_Go X92 (Q0 Z q0 p1 p2 p3 q4 h0 n0) 4 29 342 #[.val (.long q0), .second, .val (.int p1), .val (.int p2), .val (.int p3), .val (.long q4), .second, .val (.ref b1), .val (.ref b22), .val (.int fr), .val (.int to), .val (.ref b43), .val (.int (p3 &&& (3 : Int32))), .val (.int (to - fr)), .val (.int (1 : Int32))] [(.int (1 : Int32))]
    have c342_94 : ¬ ((1 : Int32) = (0 : Int32)) := (by decide)
    refine own_st (fun _ k => XS.ifNo X92.here hx rfl (hb hby at_342) rfl ((if0 _ _).trans (feq c342_94).1) k) ?_
    show own_Go X92 (Q0 Z q0 p1 p2 p3 q4 h0 n0) 4 29 345 #[.val (.long q0), .second, .val (.int p1), .val (.int p2), .val (.int p3), .val (.long q4), .second, .val (.ref b1), .val (.ref b22), .val (.int fr), .val (.int to), .val (.ref b43), .val (.int (p3 &&& (3 : Int32))), .val (.int (to - fr)), .val (.int (1 : Int32))] []
    refine own_st (fun _ k => XS.iconst X92.here hx rfl (hb hby at_345) k) ?_
    show own_Go X92 (Q0 Z q0 p1 p2 p3 q4 h0 n0) 4 29 346 #[.val (.long q0), .second, .val (.int p1), .val (.int p2), .val (.int p3), .val (.long q4), .second, .val (.ref b1), .val (.ref b22), .val (.int fr), .val (.int to), .val (.ref b43), .val (.int (p3 &&& (3 : Int32))), .val (.int (to - fr)), .val (.int (1 : Int32))] [(.int (1 : Int32))]
    refine own_st (fun _ k => XS.goto X92.here hx rfl (pc0 := 346) (pc' := 350) rfl (hb hby at_346) (by decide) (by decide) k) ?_
    show own_Go X92 (Q0 Z q0 p1 p2 p3 q4 h0 n0) 4 29 350 #[.val (.long q0), .second, .val (.int p1), .val (.int p2), .val (.int p3), .val (.long q4), .second, .val (.ref b1), .val (.ref b22), .val (.int fr), .val (.int to), .val (.ref b43), .val (.int (p3 &&& (3 : Int32))), .val (.int (to - fr)), .val (.int (1 : Int32))] [(.int (1 : Int32))]
    refine own_st (fun _ k => XS.istore X92.here hx rfl (hb hby at_350) rfl (l' := #[.val (.long q0), .second, .val (.int p1), .val (.int p2), .val (.int p3), .val (.long q4), .second, .val (.ref b1), .val (.ref b22), .val (.int fr), .val (.int to), .val (.ref b43), .val (.int (p3 &&& (3 : Int32))), .val (.int (to - fr)), .val (.int (1 : Int32))]) rfl k) ?_
    show own_Go X92 (Q0 Z q0 p1 p2 p3 q4 h0 n0) 4 29 352 #[.val (.long q0), .second, .val (.int p1), .val (.int p2), .val (.int p3), .val (.long q4), .second, .val (.ref b1), .val (.ref b22), .val (.int fr), .val (.int to), .val (.ref b43), .val (.int (p3 &&& (3 : Int32))), .val (.int (to - fr)), .val (.int (1 : Int32))] []
    refine own_st (fun _ k => XS.iload X92.here hx rfl (hb hby at_352) rfl k) ?_
    show own_Go X92 (Q0 Z q0 p1 p2 p3 q4 h0 n0) 4 29 354 #[.val (.long q0), .second, .val (.int p1), .val (.int p2), .val (.int p3), .val (.long q4), .second, .val (.ref b1), .val (.ref b22), .val (.int fr), .val (.int to), .val (.ref b43), .val (.int (p3 &&& (3 : Int32))), .val (.int (to - fr)), .val (.int (1 : Int32))] [(.int (1 : Int32))]
    have c354_95 : ¬ ((1 : Int32) = (0 : Int32)) := (by decide)
    refine own_st (fun _ k => XS.ifNo X92.here hx rfl (hb hby at_354) rfl ((if0 _ _).trans (feq c354_95).1) k) ?_
    show own_Go X92 (Q0 Z q0 p1 p2 p3 q4 h0 n0) 4 29 357 #[.val (.long q0), .second, .val (.int p1), .val (.int p2), .val (.int p3), .val (.long q4), .second, .val (.ref b1), .val (.ref b22), .val (.int fr), .val (.int to), .val (.ref b43), .val (.int (p3 &&& (3 : Int32))), .val (.int (to - fr)), .val (.int (1 : Int32))] []
    refine own_st (fun _ k => XS.aload X92.here hx rfl (hb hby at_357) rfl rfl k) ?_
    show own_Go X92 (Q0 Z q0 p1 p2 p3 q4 h0 n0) 4 29 359 #[.val (.long q0), .second, .val (.int p1), .val (.int p2), .val (.int p3), .val (.long q4), .second, .val (.ref b1), .val (.ref b22), .val (.int fr), .val (.int to), .val (.ref b43), .val (.int (p3 &&& (3 : Int32))), .val (.int (to - fr)), .val (.int (1 : Int32))] [(.ref b43)]
    refine own_st (fun _ k => XS.aload X92.here hx rfl (hb hby at_359) rfl rfl k) ?_
    show own_Go X92 (Q0 Z q0 p1 p2 p3 q4 h0 n0) 4 29 361 #[.val (.long q0), .second, .val (.int p1), .val (.int p2), .val (.int p3), .val (.long q4), .second, .val (.ref b1), .val (.ref b22), .val (.int fr), .val (.int to), .val (.ref b43), .val (.int (p3 &&& (3 : Int32))), .val (.int (to - fr)), .val (.int (1 : Int32))] [(.ref b1), (.ref b43)]
    refine own_st (fun _ k => XS.iload X92.here hx rfl (hb hby at_361) rfl k) ?_
    show own_Go X92 (Q0 Z q0 p1 p2 p3 q4 h0 n0) 4 29 363 #[.val (.long q0), .second, .val (.int p1), .val (.int p2), .val (.int p3), .val (.long q4), .second, .val (.ref b1), .val (.ref b22), .val (.int fr), .val (.int to), .val (.ref b43), .val (.int (p3 &&& (3 : Int32))), .val (.int (to - fr)), .val (.int (1 : Int32))] [(.int fr), (.ref b1), (.ref b43)]
    refine own_st (fun _ k => XS.iload X92.here hx rfl (hb hby at_363) rfl k) ?_
    show own_Go X92 (Q0 Z q0 p1 p2 p3 q4 h0 n0) 4 29 365 #[.val (.long q0), .second, .val (.int p1), .val (.int p2), .val (.int p3), .val (.long q4), .second, .val (.ref b1), .val (.ref b22), .val (.int fr), .val (.int to), .val (.ref b43), .val (.int (p3 &&& (3 : Int32))), .val (.int (to - fr)), .val (.int (1 : Int32))] [(.int (to - fr)), (.int fr), (.ref b1), (.ref b43)]
    refine own_st (fun _ k => XS.iconst X92.here hx rfl (hb hby at_365) k) ?_
    show own_Go X92 (Q0 Z q0 p1 p2 p3 q4 h0 n0) 4 29 366 #[.val (.long q0), .second, .val (.int p1), .val (.int p2), .val (.int p3), .val (.long q4), .second, .val (.ref b1), .val (.ref b22), .val (.int fr), .val (.int to), .val (.ref b43), .val (.int (p3 &&& (3 : Int32))), .val (.int (to - fr)), .val (.int (1 : Int32))] [(.int (5 : Int32)), (.int (to - fr)), (.int fr), (.ref b1), (.ref b43)]
    refine own_callS (W := 0) X92 hx hZ hown (hw _ (List.mem_of_getElem? (i := 27) rfl)) (hw _ (List.mem_of_getElem? (i := 28) rfl)) (hw _ (List.mem_of_getElem? (i := 29) rfl)) (hw _ (List.mem_of_getElem? (i := 30) rfl)) (by decide) (rm5 l Z a0 hw [] b43 b1 fr (to - fr) (5 : Int32) k1 (own_y0 q0) (own_ys (8 : Int32) q0) (own_ys (16 : Int32) q0) (own_ys (24 : Int32) q0) (own_ys (32 : Int32) q0) (own_ys (40 : Int32) q0) T66.heap n0 Z_71 f_70 F66_length F66_bytes F66_start f_68 hB (by decide) ⟨own_b8 _, own_b8 _, own_b8 _, own_b8 _, own_b8 _, own_b8 _⟩) (by decide) (by decide) (by rw [hml]; rfl) [(.ref b43), (.ref b1), (.int fr), (.int (to - fr)), (.int (5 : Int32))] [] (lenOf pd_0_3 rfl) rfl rfl (Nat.le_of_ble_eq_true rfl) (hb hby at_366) e92 (by decide) (by decide) ?_
    rintro _ T96 L96 X96 ⟨rfl, N96q, e96⟩
    have N_97 := Fr.app N_93 N96q
    show own_Go X96 (Q0 Z q0 p1 p2 p3 q4 h0 n0) 4 29 369 #[.val (.long q0), .second, .val (.int p1), .val (.int p2), .val (.int p3), .val (.long q4), .second, .val (.ref b1), .val (.ref b22), .val (.int fr), .val (.int to), .val (.ref b43), .val (.int (p3 &&& (3 : Int32))), .val (.int (to - fr)), .val (.int (1 : Int32))] [(.int (1 : Int32))]
    have c369_98 : ¬ ((1 : Int32) = (0 : Int32)) := (by decide)
    refine own_st (fun _ k => XS.ifNo X96.here hx rfl (hb hby at_369) rfl ((if0 _ _).trans (feq c369_98).1) k) ?_
    show own_Go X96 (Q0 Z q0 p1 p2 p3 q4 h0 n0) 4 29 372 #[.val (.long q0), .second, .val (.int p1), .val (.int p2), .val (.int p3), .val (.long q4), .second, .val (.ref b1), .val (.ref b22), .val (.int fr), .val (.int to), .val (.ref b43), .val (.int (p3 &&& (3 : Int32))), .val (.int (to - fr)), .val (.int (1 : Int32))] []
    refine own_st (fun _ k => XS.iconst X96.here hx rfl (hb hby at_372) k) ?_
    show own_Go X96 (Q0 Z q0 p1 p2 p3 q4 h0 n0) 4 29 373 #[.val (.long q0), .second, .val (.int p1), .val (.int p2), .val (.int p3), .val (.long q4), .second, .val (.ref b1), .val (.ref b22), .val (.int fr), .val (.int to), .val (.ref b43), .val (.int (p3 &&& (3 : Int32))), .val (.int (to - fr)), .val (.int (1 : Int32))] [(.int (1 : Int32))]
    refine own_st (fun _ k => XS.goto X96.here hx rfl (pc0 := 373) (pc' := 377) rfl (hb hby at_373) (by decide) (by decide) k) ?_
    show own_Go X96 (Q0 Z q0 p1 p2 p3 q4 h0 n0) 4 29 377 #[.val (.long q0), .second, .val (.int p1), .val (.int p2), .val (.int p3), .val (.long q4), .second, .val (.ref b1), .val (.ref b22), .val (.int fr), .val (.int to), .val (.ref b43), .val (.int (p3 &&& (3 : Int32))), .val (.int (to - fr)), .val (.int (1 : Int32))] [(.int (1 : Int32))]
    refine own_st (fun _ k => XS.istore X96.here hx rfl (hb hby at_377) rfl (l' := #[.val (.long q0), .second, .val (.int p1), .val (.int p2), .val (.int p3), .val (.long q4), .second, .val (.ref b1), .val (.ref b22), .val (.int fr), .val (.int to), .val (.ref b43), .val (.int (p3 &&& (3 : Int32))), .val (.int (to - fr)), .val (.int (1 : Int32))]) rfl k) ?_
    show own_Go X96 (Q0 Z q0 p1 p2 p3 q4 h0 n0) 4 29 379 #[.val (.long q0), .second, .val (.int p1), .val (.int p2), .val (.int p3), .val (.long q4), .second, .val (.ref b1), .val (.ref b22), .val (.int fr), .val (.int to), .val (.ref b43), .val (.int (p3 &&& (3 : Int32))), .val (.int (to - fr)), .val (.int (1 : Int32))] []
    refine own_st (fun _ k => XS.iload X96.here hx rfl (hb hby at_379) rfl k) ?_
    show own_Go X96 (Q0 Z q0 p1 p2 p3 q4 h0 n0) 4 29 381 #[.val (.long q0), .second, .val (.int p1), .val (.int p2), .val (.int p3), .val (.long q4), .second, .val (.ref b1), .val (.ref b22), .val (.int fr), .val (.int to), .val (.ref b43), .val (.int (p3 &&& (3 : Int32))), .val (.int (to - fr)), .val (.int (1 : Int32))] [(.int (1 : Int32))]
    refine own_retN X96 hx Bd.returns (by simp) hlk e96 (hb hby at_381) (by decide) (by decide) ?_
    exact ⟨rfl, N_97⟩
  · skip
    refine own_st (fun _ k => XS.icmpYes X50.here hx rfl (pc0 := 151) (pc' := 167) rfl (hb hby at_151) rfl (feq c151_59).2 (by decide) (by decide) k) ?_
    show own_Go X50 (Q0 Z q0 p1 p2 p3 q4 h0 n0) 4 29 167 #[.val (.long q0), .second, .val (.int p1), .val (.int p2), .val (.int p3), .val (.long q4), .second, .val (.ref b1), .val (.ref b22), .val (.int fr), .val (.int to), .val (.ref b43), .val (.int (p3 &&& (3 : Int32))), .unset, .unset] []
    refine own_st (fun _ k => XS.iload X50.here hx rfl (hb hby at_167) rfl k) ?_
    show own_Go X50 (Q0 Z q0 p1 p2 p3 q4 h0 n0) 4 29 169 #[.val (.long q0), .second, .val (.int p1), .val (.int p2), .val (.int p3), .val (.long q4), .second, .val (.ref b1), .val (.ref b22), .val (.int fr), .val (.int to), .val (.ref b43), .val (.int (p3 &&& (3 : Int32))), .unset, .unset] [(.int (p3 &&& (3 : Int32)))]
    refine own_st (fun _ k => XS.iconst X50.here hx rfl (hb hby at_169) k) ?_
    show own_Go X50 (Q0 Z q0 p1 p2 p3 q4 h0 n0) 4 29 170 #[.val (.long q0), .second, .val (.int p1), .val (.int p2), .val (.int p3), .val (.long q4), .second, .val (.ref b1), .val (.ref b22), .val (.int fr), .val (.int to), .val (.ref b43), .val (.int (p3 &&& (3 : Int32))), .unset, .unset] [(.int (2 : Int32)), (.int (p3 &&& (3 : Int32)))]
    by_cases c170_99 : (p3 &&& (3 : Int32)) = (2 : Int32)
    · skip
      refine own_st (fun _ k => XS.icmpNo X50.here hx rfl (hb hby at_170) rfl (teq c170_99).2 k) ?_
      show own_Go X50 (Q0 Z q0 p1 p2 p3 q4 h0 n0) 4 29 173 #[.val (.long q0), .second, .val (.int p1), .val (.int p2), .val (.int p3), .val (.long q4), .second, .val (.ref b1), .val (.ref b22), .val (.int fr), .val (.int to), .val (.ref b43), .val (.int (p3 &&& (3 : Int32))), .unset, .unset] []
      refine own_st (fun _ k => XS.aload X50.here hx rfl (hb hby at_173) rfl rfl k) ?_
      show own_Go X50 (Q0 Z q0 p1 p2 p3 q4 h0 n0) 4 29 175 #[.val (.long q0), .second, .val (.int p1), .val (.int p2), .val (.int p3), .val (.long q4), .second, .val (.ref b1), .val (.ref b22), .val (.int fr), .val (.int to), .val (.ref b43), .val (.int (p3 &&& (3 : Int32))), .unset, .unset] [(.ref b43)]
      refine own_st (fun _ k => XS.aload X50.here hx rfl (hb hby at_175) rfl rfl k) ?_
      show own_Go X50 (Q0 Z q0 p1 p2 p3 q4 h0 n0) 4 29 177 #[.val (.long q0), .second, .val (.int p1), .val (.int p2), .val (.int p3), .val (.long q4), .second, .val (.ref b1), .val (.ref b22), .val (.int fr), .val (.int to), .val (.ref b43), .val (.int (p3 &&& (3 : Int32))), .unset, .unset] [(.ref b22), (.ref b43)]
      refine own_st (fun _ k => XS.iconst X50.here hx rfl (hb hby at_177) k) ?_
      show own_Go X50 (Q0 Z q0 p1 p2 p3 q4 h0 n0) 4 29 178 #[.val (.long q0), .second, .val (.int p1), .val (.int p2), .val (.int p3), .val (.long q4), .second, .val (.ref b1), .val (.ref b22), .val (.int fr), .val (.int to), .val (.ref b43), .val (.int (p3 &&& (3 : Int32))), .unset, .unset] [(.int (1 : Int32)), (.ref b22), (.ref b43)]
      refine own_st (fun _ k => XS.iconst X50.here hx rfl (hb hby at_178) k) ?_
      show own_Go X50 (Q0 Z q0 p1 p2 p3 q4 h0 n0) 4 29 179 #[.val (.long q0), .second, .val (.int p1), .val (.int p2), .val (.int p3), .val (.long q4), .second, .val (.ref b1), .val (.ref b22), .val (.int fr), .val (.int to), .val (.ref b43), .val (.int (p3 &&& (3 : Int32))), .unset, .unset] [(.int (3 : Int32)), (.int (1 : Int32)), (.ref b22), (.ref b43)]
      refine own_callV (W := 0) X50 hx hZ hown (hw _ (List.mem_of_getElem? (i := 13) rfl)) (hw _ (List.mem_of_getElem? (i := 14) rfl)) (hw _ (List.mem_of_getElem? (i := 16) rfl)) (hw _ (List.mem_of_getElem? (i := 15) rfl)) (hw _ (List.mem_of_getElem? (i := 4) rfl)) (hw _ (List.mem_of_getElem? (i := 17) rfl)) (by decide) (rm3 l Z a0 hw [] b43 b22 (1 : Int32) (3 : Int32) (0 : Int32) (0 : Int32) b50 T50.heap n0 Z_58 f_57 G_46 F50_length F50_bytes F50_start (Ne.symm ne_52)) (by decide) (by decide) (by rw [hml]; rfl) b43 [(.ref b22), (.int (1 : Int32)), (.int (3 : Int32))] [] (lenOf pd_0_1 rfl) rfl rfl (Nat.le_of_ble_eq_true rfl) (hb hby at_179) (Eq.refl T50.heap) f_57 (by decide) (by decide) ?_
      rintro _ T100 L100 X100 ⟨rfl, N100q, K100q, F100_length, F100_bytes, F100_start⟩
      have N_101 := Fr.app N_54 N100q
      have f_102 := f_55.keep K100q (ninS ne_44 nin0)
      have f_103 := f_56.keep K100q (ninS ne_45 nin0)
      have f_104 := f_57.keep K100q
      have Z_105 := Nat.le_trans Z_58 K100q.1
      show own_Go X100 (Q0 Z q0 p1 p2 p3 q4 h0 n0) 4 29 182 #[.val (.long q0), .second, .val (.int p1), .val (.int p2), .val (.int p3), .val (.long q4), .second, .val (.ref b1), .val (.ref b22), .val (.int fr), .val (.int to), .val (.ref b43), .val (.int (p3 &&& (3 : Int32))), .unset, .unset] []
      refine own_st (fun _ k => XS.aload X100.here hx rfl (hb hby at_182) rfl rfl k) ?_
      show own_Go X100 (Q0 Z q0 p1 p2 p3 q4 h0 n0) 4 29 184 #[.val (.long q0), .second, .val (.int p1), .val (.int p2), .val (.int p3), .val (.long q4), .second, .val (.ref b1), .val (.ref b22), .val (.int fr), .val (.int to), .val (.ref b43), .val (.int (p3 &&& (3 : Int32))), .unset, .unset] [(.ref b43)]
      refine own_st (fun _ k => XS.aload X100.here hx rfl (hb hby at_184) rfl rfl k) ?_
      show own_Go X100 (Q0 Z q0 p1 p2 p3 q4 h0 n0) 4 29 186 #[.val (.long q0), .second, .val (.int p1), .val (.int p2), .val (.int p3), .val (.long q4), .second, .val (.ref b1), .val (.ref b22), .val (.int fr), .val (.int to), .val (.ref b43), .val (.int (p3 &&& (3 : Int32))), .unset, .unset] [(.ref b1), (.ref b43)]
      refine own_st (fun _ k => XS.iload X100.here hx rfl (hb hby at_186) rfl k) ?_
      show own_Go X100 (Q0 Z q0 p1 p2 p3 q4 h0 n0) 4 29 188 #[.val (.long q0), .second, .val (.int p1), .val (.int p2), .val (.int p3), .val (.long q4), .second, .val (.ref b1), .val (.ref b22), .val (.int fr), .val (.int to), .val (.ref b43), .val (.int (p3 &&& (3 : Int32))), .unset, .unset] [(.int fr), (.ref b1), (.ref b43)]
      refine own_st (fun _ k => XS.iload X100.here hx rfl (hb hby at_188) rfl k) ?_
      show own_Go X100 (Q0 Z q0 p1 p2 p3 q4 h0 n0) 4 29 190 #[.val (.long q0), .second, .val (.int p1), .val (.int p2), .val (.int p3), .val (.long q4), .second, .val (.ref b1), .val (.ref b22), .val (.int fr), .val (.int to), .val (.ref b43), .val (.int (p3 &&& (3 : Int32))), .unset, .unset] [(.int to), (.int fr), (.ref b1), (.ref b43)]
      refine own_callV (W := 0) X100 hx hZ hown (hw _ (List.mem_of_getElem? (i := 13) rfl)) (hw _ (List.mem_of_getElem? (i := 14) rfl)) (hw _ (List.mem_of_getElem? (i := 16) rfl)) (hw _ (List.mem_of_getElem? (i := 15) rfl)) (hw _ (List.mem_of_getElem? (i := 4) rfl)) (hw _ (List.mem_of_getElem? (i := 17) rfl)) (by decide) (rm3 l Z a0 hw [] b43 b1 fr to ((3 : Int32) - (1 : Int32)) (1 : Int32) b22 T100.heap n0 Z_105 f_104 G_46 F100_length F100_bytes F100_start (Ne.symm ne_23)) (by decide) (by decide) (by rw [hml]; rfl) b43 [(.ref b1), (.int fr), (.int to)] [] (lenOf pd_0_1 rfl) rfl rfl (Nat.le_of_ble_eq_true rfl) (hb hby at_190) (Eq.refl T100.heap) f_104 (by decide) (by decide) ?_
      rintro _ T106 L106 X106 ⟨rfl, N106q, K106q, F106_length, F106_bytes, F106_start⟩
      have N_107 := Fr.app N_101 N106q
      have f_108 := f_102.keep K106q (ninS ne_44 nin0)
      have f_109 := f_103.keep K106q (ninS ne_45 nin0)
      have f_110 := f_104.keep K106q
      have Z_111 := Nat.le_trans Z_105 K106q.1
      show own_Go X106 (Q0 Z q0 p1 p2 p3 q4 h0 n0) 4 29 193 #[.val (.long q0), .second, .val (.int p1), .val (.int p2), .val (.int p3), .val (.long q4), .second, .val (.ref b1), .val (.ref b22), .val (.int fr), .val (.int to), .val (.ref b43), .val (.int (p3 &&& (3 : Int32))), .unset, .unset] []
      refine own_st (fun _ k => XS.iload X106.here hx rfl (hb hby at_193) rfl k) ?_
      show own_Go X106 (Q0 Z q0 p1 p2 p3 q4 h0 n0) 4 29 195 #[.val (.long q0), .second, .val (.int p1), .val (.int p2), .val (.int p3), .val (.long q4), .second, .val (.ref b1), .val (.ref b22), .val (.int fr), .val (.int to), .val (.ref b43), .val (.int (p3 &&& (3 : Int32))), .unset, .unset] [(.int to)]
      refine own_st (fun _ k => XS.iload X106.here hx rfl (hb hby at_195) rfl k) ?_
      show own_Go X106 (Q0 Z q0 p1 p2 p3 q4 h0 n0) 4 29 197 #[.val (.long q0), .second, .val (.int p1), .val (.int p2), .val (.int p3), .val (.long q4), .second, .val (.ref b1), .val (.ref b22), .val (.int fr), .val (.int to), .val (.ref b43), .val (.int (p3 &&& (3 : Int32))), .unset, .unset] [(.int fr), (.int to)]
      refine own_st (fun _ k => XS.isub X106.here hx rfl (hb hby at_197) rfl k) ?_
      show own_Go X106 (Q0 Z q0 p1 p2 p3 q4 h0 n0) 4 29 198 #[.val (.long q0), .second, .val (.int p1), .val (.int p2), .val (.int p3), .val (.long q4), .second, .val (.ref b1), .val (.ref b22), .val (.int fr), .val (.int to), .val (.ref b43), .val (.int (p3 &&& (3 : Int32))), .unset, .unset] [(.int (to - fr))]
      refine own_st (fun _ k => XS.istore X106.here hx rfl (hb hby at_198) rfl (l' := #[.val (.long q0), .second, .val (.int p1), .val (.int p2), .val (.int p3), .val (.long q4), .second, .val (.ref b1), .val (.ref b22), .val (.int fr), .val (.int to), .val (.ref b43), .val (.int (p3 &&& (3 : Int32))), .val (.int (to - fr)), .unset]) rfl k) ?_
      show own_Go X106 (Q0 Z q0 p1 p2 p3 q4 h0 n0) 4 29 200 #[.val (.long q0), .second, .val (.int p1), .val (.int p2), .val (.int p3), .val (.long q4), .second, .val (.ref b1), .val (.ref b22), .val (.int fr), .val (.int to), .val (.ref b43), .val (.int (p3 &&& (3 : Int32))), .val (.int (to - fr)), .unset] []
      refine own_st (fun _ k => XS.aload X106.here hx rfl (hb hby at_200) rfl rfl k) ?_
      show own_Go X106 (Q0 Z q0 p1 p2 p3 q4 h0 n0) 4 29 202 #[.val (.long q0), .second, .val (.int p1), .val (.int p2), .val (.int p3), .val (.long q4), .second, .val (.ref b1), .val (.ref b22), .val (.int fr), .val (.int to), .val (.ref b43), .val (.int (p3 &&& (3 : Int32))), .val (.int (to - fr)), .unset] [(.ref b43)]
      refine own_callV (W := 0) X106 hx hZ hown (hw _ (List.mem_of_getElem? (i := 22) rfl)) (hw _ (List.mem_of_getElem? (i := 23) rfl)) (hw _ (List.mem_of_getElem? (i := 25) rfl)) (hw _ (List.mem_of_getElem? (i := 24) rfl)) (hw _ (List.mem_of_getElem? (i := 4) rfl)) (hw _ (List.mem_of_getElem? (i := 26) rfl)) (by decide) (rm4 l Z a0 hw [] b43 (to - fr) T106.heap n0 Z_111 F106_length) (by decide) (by decide) (by rw [hml]; rfl) b43 [] [] (lenOf pd_0_2 rfl) rfl rfl (Nat.le_of_ble_eq_true rfl) (hb hby at_202) (Eq.refl T106.heap) f_110 (by decide) (by decide) ?_
      rintro _ T112 L112 X112 ⟨rfl, N112q, e112⟩
      have N_113 := Fr.app N_107 N112q
      show own_Go X112 (Q0 Z q0 p1 p2 p3 q4 h0 n0) 4 29 205 #[.val (.long q0), .second, .val (.int p1), .val (.int p2), .val (.int p3), .val (.long q4), .second, .val (.ref b1), .val (.ref b22), .val (.int fr), .val (.int to), .val (.ref b43), .val (.int (p3 &&& (3 : Int32))), .val (.int (to - fr)), .unset] [(.int (to - fr))]
      refine own_st (fun _ k => XS.iload X112.here hx rfl (hb hby at_205) rfl k) ?_
      show own_Go X112 (Q0 Z q0 p1 p2 p3 q4 h0 n0) 4 29 207 #[.val (.long q0), .second, .val (.int p1), .val (.int p2), .val (.int p3), .val (.long q4), .second, .val (.ref b1), .val (.ref b22), .val (.int fr), .val (.int to), .val (.ref b43), .val (.int (p3 &&& (3 : Int32))), .val (.int (to - fr)), .unset] [(.int (to - fr)), (.int (to - fr))]
      have c207_114 : (to - fr) = (to - fr) := rfl
      refine own_st (fun _ k => XS.icmpNo X112.here hx rfl (hb hby at_207) rfl (teq c207_114).2 k) ?_
      show own_Go X112 (Q0 Z q0 p1 p2 p3 q4 h0 n0) 4 29 210 #[.val (.long q0), .second, .val (.int p1), .val (.int p2), .val (.int p3), .val (.long q4), .second, .val (.ref b1), .val (.ref b22), .val (.int fr), .val (.int to), .val (.ref b43), .val (.int (p3 &&& (3 : Int32))), .val (.int (to - fr)), .unset] []
      refine own_st (fun _ k => XS.iconst X112.here hx rfl (hb hby at_210) k) ?_
      show own_Go X112 (Q0 Z q0 p1 p2 p3 q4 h0 n0) 4 29 211 #[.val (.long q0), .second, .val (.int p1), .val (.int p2), .val (.int p3), .val (.long q4), .second, .val (.ref b1), .val (.ref b22), .val (.int fr), .val (.int to), .val (.ref b43), .val (.int (p3 &&& (3 : Int32))), .val (.int (to - fr)), .unset] [(.int (1 : Int32))]
      refine own_st (fun _ k => XS.goto X112.here hx rfl (pc0 := 211) (pc' := 215) rfl (hb hby at_211) (by decide) (by decide) k) ?_
      show own_Go X112 (Q0 Z q0 p1 p2 p3 q4 h0 n0) 4 29 215 #[.val (.long q0), .second, .val (.int p1), .val (.int p2), .val (.int p3), .val (.long q4), .second, .val (.ref b1), .val (.ref b22), .val (.int fr), .val (.int to), .val (.ref b43), .val (.int (p3 &&& (3 : Int32))), .val (.int (to - fr)), .unset] [(.int (1 : Int32))]
      refine own_st (fun _ k => XS.istore X112.here hx rfl (hb hby at_215) rfl (l' := #[.val (.long q0), .second, .val (.int p1), .val (.int p2), .val (.int p3), .val (.long q4), .second, .val (.ref b1), .val (.ref b22), .val (.int fr), .val (.int to), .val (.ref b43), .val (.int (p3 &&& (3 : Int32))), .val (.int (to - fr)), .val (.int (1 : Int32))]) rfl k) ?_
      show own_Go X112 (Q0 Z q0 p1 p2 p3 q4 h0 n0) 4 29 217 #[.val (.long q0), .second, .val (.int p1), .val (.int p2), .val (.int p3), .val (.long q4), .second, .val (.ref b1), .val (.ref b22), .val (.int fr), .val (.int to), .val (.ref b43), .val (.int (p3 &&& (3 : Int32))), .val (.int (to - fr)), .val (.int (1 : Int32))] []
      refine own_st (fun _ k => XS.iload X112.here hx rfl (hb hby at_217) rfl k) ?_
      show own_Go X112 (Q0 Z q0 p1 p2 p3 q4 h0 n0) 4 29 219 #[.val (.long q0), .second, .val (.int p1), .val (.int p2), .val (.int p3), .val (.long q4), .second, .val (.ref b1), .val (.ref b22), .val (.int fr), .val (.int to), .val (.ref b43), .val (.int (p3 &&& (3 : Int32))), .val (.int (to - fr)), .val (.int (1 : Int32))] [(.int (1 : Int32))]
      have c219_115 : ¬ ((1 : Int32) = (0 : Int32)) := (by decide)
      refine own_st (fun _ k => XS.ifNo X112.here hx rfl (hb hby at_219) rfl ((if0 _ _).trans (feq c219_115).1) k) ?_
      show own_Go X112 (Q0 Z q0 p1 p2 p3 q4 h0 n0) 4 29 222 #[.val (.long q0), .second, .val (.int p1), .val (.int p2), .val (.int p3), .val (.long q4), .second, .val (.ref b1), .val (.ref b22), .val (.int fr), .val (.int to), .val (.ref b43), .val (.int (p3 &&& (3 : Int32))), .val (.int (to - fr)), .val (.int (1 : Int32))] []
      refine own_st (fun _ k => XS.aload X112.here hx rfl (hb hby at_222) rfl rfl k) ?_
      show own_Go X112 (Q0 Z q0 p1 p2 p3 q4 h0 n0) 4 29 224 #[.val (.long q0), .second, .val (.int p1), .val (.int p2), .val (.int p3), .val (.long q4), .second, .val (.ref b1), .val (.ref b22), .val (.int fr), .val (.int to), .val (.ref b43), .val (.int (p3 &&& (3 : Int32))), .val (.int (to - fr)), .val (.int (1 : Int32))] [(.ref b43)]
      refine own_st (fun _ k => XS.aload X112.here hx rfl (hb hby at_224) rfl rfl k) ?_
      show own_Go X112 (Q0 Z q0 p1 p2 p3 q4 h0 n0) 4 29 226 #[.val (.long q0), .second, .val (.int p1), .val (.int p2), .val (.int p3), .val (.long q4), .second, .val (.ref b1), .val (.ref b22), .val (.int fr), .val (.int to), .val (.ref b43), .val (.int (p3 &&& (3 : Int32))), .val (.int (to - fr)), .val (.int (1 : Int32))] [(.ref b1), (.ref b43)]
      refine own_st (fun _ k => XS.iload X112.here hx rfl (hb hby at_226) rfl k) ?_
      show own_Go X112 (Q0 Z q0 p1 p2 p3 q4 h0 n0) 4 29 228 #[.val (.long q0), .second, .val (.int p1), .val (.int p2), .val (.int p3), .val (.long q4), .second, .val (.ref b1), .val (.ref b22), .val (.int fr), .val (.int to), .val (.ref b43), .val (.int (p3 &&& (3 : Int32))), .val (.int (to - fr)), .val (.int (1 : Int32))] [(.int fr), (.ref b1), (.ref b43)]
      refine own_st (fun _ k => XS.iload X112.here hx rfl (hb hby at_228) rfl k) ?_
      show own_Go X112 (Q0 Z q0 p1 p2 p3 q4 h0 n0) 4 29 230 #[.val (.long q0), .second, .val (.int p1), .val (.int p2), .val (.int p3), .val (.long q4), .second, .val (.ref b1), .val (.ref b22), .val (.int fr), .val (.int to), .val (.ref b43), .val (.int (p3 &&& (3 : Int32))), .val (.int (to - fr)), .val (.int (1 : Int32))] [(.int (to - fr)), (.int fr), (.ref b1), (.ref b43)]
      refine own_st (fun _ k => XS.iconst X112.here hx rfl (hb hby at_230) k) ?_
      show own_Go X112 (Q0 Z q0 p1 p2 p3 q4 h0 n0) 4 29 231 #[.val (.long q0), .second, .val (.int p1), .val (.int p2), .val (.int p3), .val (.long q4), .second, .val (.ref b1), .val (.ref b22), .val (.int fr), .val (.int to), .val (.ref b43), .val (.int (p3 &&& (3 : Int32))), .val (.int (to - fr)), .val (.int (1 : Int32))] [(.int (0 : Int32)), (.int (to - fr)), (.int fr), (.ref b1), (.ref b43)]
      refine own_callS (W := 0) X112 hx hZ hown (hw _ (List.mem_of_getElem? (i := 27) rfl)) (hw _ (List.mem_of_getElem? (i := 28) rfl)) (hw _ (List.mem_of_getElem? (i := 29) rfl)) (hw _ (List.mem_of_getElem? (i := 30) rfl)) (by decide) (rm5 l Z a0 hw [] b43 b1 fr (to - fr) (0 : Int32) k1 (own_y0 q0) (own_ys (8 : Int32) q0) (own_ys (16 : Int32) q0) (own_ys (24 : Int32) q0) (own_ys (32 : Int32) q0) (own_ys (40 : Int32) q0) T106.heap n0 Z_111 f_110 F106_length F106_bytes F106_start f_108 hB (by decide) ⟨own_b8 _, own_b8 _, own_b8 _, own_b8 _, own_b8 _, own_b8 _⟩) (by decide) (by decide) (by rw [hml]; rfl) [(.ref b43), (.ref b1), (.int fr), (.int (to - fr)), (.int (0 : Int32))] [] (lenOf pd_0_3 rfl) rfl rfl (Nat.le_of_ble_eq_true rfl) (hb hby at_231) e112 (by decide) (by decide) ?_
      rintro _ T116 L116 X116 ⟨rfl, N116q, e116⟩
      have N_117 := Fr.app N_113 N116q
      show own_Go X116 (Q0 Z q0 p1 p2 p3 q4 h0 n0) 4 29 234 #[.val (.long q0), .second, .val (.int p1), .val (.int p2), .val (.int p3), .val (.long q4), .second, .val (.ref b1), .val (.ref b22), .val (.int fr), .val (.int to), .val (.ref b43), .val (.int (p3 &&& (3 : Int32))), .val (.int (to - fr)), .val (.int (1 : Int32))] [(.int (1 : Int32))]
      have c234_118 : ¬ ((1 : Int32) = (0 : Int32)) := (by decide)
      refine own_st (fun _ k => XS.ifNo X116.here hx rfl (hb hby at_234) rfl ((if0 _ _).trans (feq c234_118).1) k) ?_
      show own_Go X116 (Q0 Z q0 p1 p2 p3 q4 h0 n0) 4 29 237 #[.val (.long q0), .second, .val (.int p1), .val (.int p2), .val (.int p3), .val (.long q4), .second, .val (.ref b1), .val (.ref b22), .val (.int fr), .val (.int to), .val (.ref b43), .val (.int (p3 &&& (3 : Int32))), .val (.int (to - fr)), .val (.int (1 : Int32))] []
      refine own_st (fun _ k => XS.iconst X116.here hx rfl (hb hby at_237) k) ?_
      show own_Go X116 (Q0 Z q0 p1 p2 p3 q4 h0 n0) 4 29 238 #[.val (.long q0), .second, .val (.int p1), .val (.int p2), .val (.int p3), .val (.long q4), .second, .val (.ref b1), .val (.ref b22), .val (.int fr), .val (.int to), .val (.ref b43), .val (.int (p3 &&& (3 : Int32))), .val (.int (to - fr)), .val (.int (1 : Int32))] [(.int (1 : Int32))]
      refine own_st (fun _ k => XS.goto X116.here hx rfl (pc0 := 238) (pc' := 242) rfl (hb hby at_238) (by decide) (by decide) k) ?_
      show own_Go X116 (Q0 Z q0 p1 p2 p3 q4 h0 n0) 4 29 242 #[.val (.long q0), .second, .val (.int p1), .val (.int p2), .val (.int p3), .val (.long q4), .second, .val (.ref b1), .val (.ref b22), .val (.int fr), .val (.int to), .val (.ref b43), .val (.int (p3 &&& (3 : Int32))), .val (.int (to - fr)), .val (.int (1 : Int32))] [(.int (1 : Int32))]
      refine own_st (fun _ k => XS.istore X116.here hx rfl (hb hby at_242) rfl (l' := #[.val (.long q0), .second, .val (.int p1), .val (.int p2), .val (.int p3), .val (.long q4), .second, .val (.ref b1), .val (.ref b22), .val (.int fr), .val (.int to), .val (.ref b43), .val (.int (p3 &&& (3 : Int32))), .val (.int (to - fr)), .val (.int (1 : Int32))]) rfl k) ?_
      show own_Go X116 (Q0 Z q0 p1 p2 p3 q4 h0 n0) 4 29 244 #[.val (.long q0), .second, .val (.int p1), .val (.int p2), .val (.int p3), .val (.long q4), .second, .val (.ref b1), .val (.ref b22), .val (.int fr), .val (.int to), .val (.ref b43), .val (.int (p3 &&& (3 : Int32))), .val (.int (to - fr)), .val (.int (1 : Int32))] []
      refine own_st (fun _ k => XS.iload X116.here hx rfl (hb hby at_244) rfl k) ?_
      show own_Go X116 (Q0 Z q0 p1 p2 p3 q4 h0 n0) 4 29 246 #[.val (.long q0), .second, .val (.int p1), .val (.int p2), .val (.int p3), .val (.long q4), .second, .val (.ref b1), .val (.ref b22), .val (.int fr), .val (.int to), .val (.ref b43), .val (.int (p3 &&& (3 : Int32))), .val (.int (to - fr)), .val (.int (1 : Int32))] [(.int (1 : Int32))]
      have c246_119 : ¬ ((1 : Int32) = (0 : Int32)) := (by decide)
      refine own_st (fun _ k => XS.ifNo X116.here hx rfl (hb hby at_246) rfl ((if0 _ _).trans (feq c246_119).1) k) ?_
      show own_Go X116 (Q0 Z q0 p1 p2 p3 q4 h0 n0) 4 29 249 #[.val (.long q0), .second, .val (.int p1), .val (.int p2), .val (.int p3), .val (.long q4), .second, .val (.ref b1), .val (.ref b22), .val (.int fr), .val (.int to), .val (.ref b43), .val (.int (p3 &&& (3 : Int32))), .val (.int (to - fr)), .val (.int (1 : Int32))] []
      refine own_st (fun _ k => XS.aload X116.here hx rfl (hb hby at_249) rfl rfl k) ?_
      show own_Go X116 (Q0 Z q0 p1 p2 p3 q4 h0 n0) 4 29 251 #[.val (.long q0), .second, .val (.int p1), .val (.int p2), .val (.int p3), .val (.long q4), .second, .val (.ref b1), .val (.ref b22), .val (.int fr), .val (.int to), .val (.ref b43), .val (.int (p3 &&& (3 : Int32))), .val (.int (to - fr)), .val (.int (1 : Int32))] [(.ref b43)]
      refine own_st (fun _ k => XS.aload X116.here hx rfl (hb hby at_251) rfl rfl k) ?_
      show own_Go X116 (Q0 Z q0 p1 p2 p3 q4 h0 n0) 4 29 253 #[.val (.long q0), .second, .val (.int p1), .val (.int p2), .val (.int p3), .val (.long q4), .second, .val (.ref b1), .val (.ref b22), .val (.int fr), .val (.int to), .val (.ref b43), .val (.int (p3 &&& (3 : Int32))), .val (.int (to - fr)), .val (.int (1 : Int32))] [(.ref b1), (.ref b43)]
      refine own_st (fun _ k => XS.iload X116.here hx rfl (hb hby at_253) rfl k) ?_
      show own_Go X116 (Q0 Z q0 p1 p2 p3 q4 h0 n0) 4 29 255 #[.val (.long q0), .second, .val (.int p1), .val (.int p2), .val (.int p3), .val (.long q4), .second, .val (.ref b1), .val (.ref b22), .val (.int fr), .val (.int to), .val (.ref b43), .val (.int (p3 &&& (3 : Int32))), .val (.int (to - fr)), .val (.int (1 : Int32))] [(.int fr), (.ref b1), (.ref b43)]
      refine own_st (fun _ k => XS.iload X116.here hx rfl (hb hby at_255) rfl k) ?_
      show own_Go X116 (Q0 Z q0 p1 p2 p3 q4 h0 n0) 4 29 257 #[.val (.long q0), .second, .val (.int p1), .val (.int p2), .val (.int p3), .val (.long q4), .second, .val (.ref b1), .val (.ref b22), .val (.int fr), .val (.int to), .val (.ref b43), .val (.int (p3 &&& (3 : Int32))), .val (.int (to - fr)), .val (.int (1 : Int32))] [(.int (to - fr)), (.int fr), (.ref b1), (.ref b43)]
      refine own_st (fun _ k => XS.iconst X116.here hx rfl (hb hby at_257) k) ?_
      show own_Go X116 (Q0 Z q0 p1 p2 p3 q4 h0 n0) 4 29 258 #[.val (.long q0), .second, .val (.int p1), .val (.int p2), .val (.int p3), .val (.long q4), .second, .val (.ref b1), .val (.ref b22), .val (.int fr), .val (.int to), .val (.ref b43), .val (.int (p3 &&& (3 : Int32))), .val (.int (to - fr)), .val (.int (1 : Int32))] [(.int (1 : Int32)), (.int (to - fr)), (.int fr), (.ref b1), (.ref b43)]
      refine own_callS (W := 0) X116 hx hZ hown (hw _ (List.mem_of_getElem? (i := 27) rfl)) (hw _ (List.mem_of_getElem? (i := 28) rfl)) (hw _ (List.mem_of_getElem? (i := 29) rfl)) (hw _ (List.mem_of_getElem? (i := 30) rfl)) (by decide) (rm5 l Z a0 hw [] b43 b1 fr (to - fr) (1 : Int32) k1 (own_y0 q0) (own_ys (8 : Int32) q0) (own_ys (16 : Int32) q0) (own_ys (24 : Int32) q0) (own_ys (32 : Int32) q0) (own_ys (40 : Int32) q0) T106.heap n0 Z_111 f_110 F106_length F106_bytes F106_start f_108 hB (by decide) ⟨own_b8 _, own_b8 _, own_b8 _, own_b8 _, own_b8 _, own_b8 _⟩) (by decide) (by decide) (by rw [hml]; rfl) [(.ref b43), (.ref b1), (.int fr), (.int (to - fr)), (.int (1 : Int32))] [] (lenOf pd_0_3 rfl) rfl rfl (Nat.le_of_ble_eq_true rfl) (hb hby at_258) e116 (by decide) (by decide) ?_
      rintro _ T120 L120 X120 ⟨rfl, N120q, e120⟩
      have N_121 := Fr.app N_117 N120q
      show own_Go X120 (Q0 Z q0 p1 p2 p3 q4 h0 n0) 4 29 261 #[.val (.long q0), .second, .val (.int p1), .val (.int p2), .val (.int p3), .val (.long q4), .second, .val (.ref b1), .val (.ref b22), .val (.int fr), .val (.int to), .val (.ref b43), .val (.int (p3 &&& (3 : Int32))), .val (.int (to - fr)), .val (.int (1 : Int32))] [(.int (1 : Int32))]
      have c261_122 : ¬ ((1 : Int32) = (0 : Int32)) := (by decide)
      refine own_st (fun _ k => XS.ifNo X120.here hx rfl (hb hby at_261) rfl ((if0 _ _).trans (feq c261_122).1) k) ?_
      show own_Go X120 (Q0 Z q0 p1 p2 p3 q4 h0 n0) 4 29 264 #[.val (.long q0), .second, .val (.int p1), .val (.int p2), .val (.int p3), .val (.long q4), .second, .val (.ref b1), .val (.ref b22), .val (.int fr), .val (.int to), .val (.ref b43), .val (.int (p3 &&& (3 : Int32))), .val (.int (to - fr)), .val (.int (1 : Int32))] []
      refine own_st (fun _ k => XS.iconst X120.here hx rfl (hb hby at_264) k) ?_
      show own_Go X120 (Q0 Z q0 p1 p2 p3 q4 h0 n0) 4 29 265 #[.val (.long q0), .second, .val (.int p1), .val (.int p2), .val (.int p3), .val (.long q4), .second, .val (.ref b1), .val (.ref b22), .val (.int fr), .val (.int to), .val (.ref b43), .val (.int (p3 &&& (3 : Int32))), .val (.int (to - fr)), .val (.int (1 : Int32))] [(.int (1 : Int32))]
      refine own_st (fun _ k => XS.goto X120.here hx rfl (pc0 := 265) (pc' := 269) rfl (hb hby at_265) (by decide) (by decide) k) ?_
      show own_Go X120 (Q0 Z q0 p1 p2 p3 q4 h0 n0) 4 29 269 #[.val (.long q0), .second, .val (.int p1), .val (.int p2), .val (.int p3), .val (.long q4), .second, .val (.ref b1), .val (.ref b22), .val (.int fr), .val (.int to), .val (.ref b43), .val (.int (p3 &&& (3 : Int32))), .val (.int (to - fr)), .val (.int (1 : Int32))] [(.int (1 : Int32))]
      refine own_st (fun _ k => XS.istore X120.here hx rfl (hb hby at_269) rfl (l' := #[.val (.long q0), .second, .val (.int p1), .val (.int p2), .val (.int p3), .val (.long q4), .second, .val (.ref b1), .val (.ref b22), .val (.int fr), .val (.int to), .val (.ref b43), .val (.int (p3 &&& (3 : Int32))), .val (.int (to - fr)), .val (.int (1 : Int32))]) rfl k) ?_
      show own_Go X120 (Q0 Z q0 p1 p2 p3 q4 h0 n0) 4 29 271 #[.val (.long q0), .second, .val (.int p1), .val (.int p2), .val (.int p3), .val (.long q4), .second, .val (.ref b1), .val (.ref b22), .val (.int fr), .val (.int to), .val (.ref b43), .val (.int (p3 &&& (3 : Int32))), .val (.int (to - fr)), .val (.int (1 : Int32))] []
      refine own_st (fun _ k => XS.iload X120.here hx rfl (hb hby at_271) rfl k) ?_
      show own_Go X120 (Q0 Z q0 p1 p2 p3 q4 h0 n0) 4 29 273 #[.val (.long q0), .second, .val (.int p1), .val (.int p2), .val (.int p3), .val (.long q4), .second, .val (.ref b1), .val (.ref b22), .val (.int fr), .val (.int to), .val (.ref b43), .val (.int (p3 &&& (3 : Int32))), .val (.int (to - fr)), .val (.int (1 : Int32))] [(.int (1 : Int32))]
      have c273_123 : ¬ ((1 : Int32) = (0 : Int32)) := (by decide)
      refine own_st (fun _ k => XS.ifNo X120.here hx rfl (hb hby at_273) rfl ((if0 _ _).trans (feq c273_123).1) k) ?_
      show own_Go X120 (Q0 Z q0 p1 p2 p3 q4 h0 n0) 4 29 276 #[.val (.long q0), .second, .val (.int p1), .val (.int p2), .val (.int p3), .val (.long q4), .second, .val (.ref b1), .val (.ref b22), .val (.int fr), .val (.int to), .val (.ref b43), .val (.int (p3 &&& (3 : Int32))), .val (.int (to - fr)), .val (.int (1 : Int32))] []
      refine own_st (fun _ k => XS.aload X120.here hx rfl (hb hby at_276) rfl rfl k) ?_
      show own_Go X120 (Q0 Z q0 p1 p2 p3 q4 h0 n0) 4 29 278 #[.val (.long q0), .second, .val (.int p1), .val (.int p2), .val (.int p3), .val (.long q4), .second, .val (.ref b1), .val (.ref b22), .val (.int fr), .val (.int to), .val (.ref b43), .val (.int (p3 &&& (3 : Int32))), .val (.int (to - fr)), .val (.int (1 : Int32))] [(.ref b43)]
      refine own_st (fun _ k => XS.aload X120.here hx rfl (hb hby at_278) rfl rfl k) ?_
      show own_Go X120 (Q0 Z q0 p1 p2 p3 q4 h0 n0) 4 29 280 #[.val (.long q0), .second, .val (.int p1), .val (.int p2), .val (.int p3), .val (.long q4), .second, .val (.ref b1), .val (.ref b22), .val (.int fr), .val (.int to), .val (.ref b43), .val (.int (p3 &&& (3 : Int32))), .val (.int (to - fr)), .val (.int (1 : Int32))] [(.ref b1), (.ref b43)]
      refine own_st (fun _ k => XS.iload X120.here hx rfl (hb hby at_280) rfl k) ?_
      show own_Go X120 (Q0 Z q0 p1 p2 p3 q4 h0 n0) 4 29 282 #[.val (.long q0), .second, .val (.int p1), .val (.int p2), .val (.int p3), .val (.long q4), .second, .val (.ref b1), .val (.ref b22), .val (.int fr), .val (.int to), .val (.ref b43), .val (.int (p3 &&& (3 : Int32))), .val (.int (to - fr)), .val (.int (1 : Int32))] [(.int fr), (.ref b1), (.ref b43)]
      refine own_st (fun _ k => XS.iload X120.here hx rfl (hb hby at_282) rfl k) ?_
      show own_Go X120 (Q0 Z q0 p1 p2 p3 q4 h0 n0) 4 29 284 #[.val (.long q0), .second, .val (.int p1), .val (.int p2), .val (.int p3), .val (.long q4), .second, .val (.ref b1), .val (.ref b22), .val (.int fr), .val (.int to), .val (.ref b43), .val (.int (p3 &&& (3 : Int32))), .val (.int (to - fr)), .val (.int (1 : Int32))] [(.int (to - fr)), (.int fr), (.ref b1), (.ref b43)]
      refine own_st (fun _ k => XS.iconst X120.here hx rfl (hb hby at_284) k) ?_
      show own_Go X120 (Q0 Z q0 p1 p2 p3 q4 h0 n0) 4 29 285 #[.val (.long q0), .second, .val (.int p1), .val (.int p2), .val (.int p3), .val (.long q4), .second, .val (.ref b1), .val (.ref b22), .val (.int fr), .val (.int to), .val (.ref b43), .val (.int (p3 &&& (3 : Int32))), .val (.int (to - fr)), .val (.int (1 : Int32))] [(.int (2 : Int32)), (.int (to - fr)), (.int fr), (.ref b1), (.ref b43)]
      refine own_callS (W := 0) X120 hx hZ hown (hw _ (List.mem_of_getElem? (i := 27) rfl)) (hw _ (List.mem_of_getElem? (i := 28) rfl)) (hw _ (List.mem_of_getElem? (i := 29) rfl)) (hw _ (List.mem_of_getElem? (i := 30) rfl)) (by decide) (rm5 l Z a0 hw [] b43 b1 fr (to - fr) (2 : Int32) k1 (own_y0 q0) (own_ys (8 : Int32) q0) (own_ys (16 : Int32) q0) (own_ys (24 : Int32) q0) (own_ys (32 : Int32) q0) (own_ys (40 : Int32) q0) T106.heap n0 Z_111 f_110 F106_length F106_bytes F106_start f_108 hB (by decide) ⟨own_b8 _, own_b8 _, own_b8 _, own_b8 _, own_b8 _, own_b8 _⟩) (by decide) (by decide) (by rw [hml]; rfl) [(.ref b43), (.ref b1), (.int fr), (.int (to - fr)), (.int (2 : Int32))] [] (lenOf pd_0_3 rfl) rfl rfl (Nat.le_of_ble_eq_true rfl) (hb hby at_285) e120 (by decide) (by decide) ?_
      rintro _ T124 L124 X124 ⟨rfl, N124q, e124⟩
      have N_125 := Fr.app N_121 N124q
      show own_Go X124 (Q0 Z q0 p1 p2 p3 q4 h0 n0) 4 29 288 #[.val (.long q0), .second, .val (.int p1), .val (.int p2), .val (.int p3), .val (.long q4), .second, .val (.ref b1), .val (.ref b22), .val (.int fr), .val (.int to), .val (.ref b43), .val (.int (p3 &&& (3 : Int32))), .val (.int (to - fr)), .val (.int (1 : Int32))] [(.int (1 : Int32))]
      have c288_126 : ¬ ((1 : Int32) = (0 : Int32)) := (by decide)
      refine own_st (fun _ k => XS.ifNo X124.here hx rfl (hb hby at_288) rfl ((if0 _ _).trans (feq c288_126).1) k) ?_
      show own_Go X124 (Q0 Z q0 p1 p2 p3 q4 h0 n0) 4 29 291 #[.val (.long q0), .second, .val (.int p1), .val (.int p2), .val (.int p3), .val (.long q4), .second, .val (.ref b1), .val (.ref b22), .val (.int fr), .val (.int to), .val (.ref b43), .val (.int (p3 &&& (3 : Int32))), .val (.int (to - fr)), .val (.int (1 : Int32))] []
      refine own_st (fun _ k => XS.iconst X124.here hx rfl (hb hby at_291) k) ?_
      show own_Go X124 (Q0 Z q0 p1 p2 p3 q4 h0 n0) 4 29 292 #[.val (.long q0), .second, .val (.int p1), .val (.int p2), .val (.int p3), .val (.long q4), .second, .val (.ref b1), .val (.ref b22), .val (.int fr), .val (.int to), .val (.ref b43), .val (.int (p3 &&& (3 : Int32))), .val (.int (to - fr)), .val (.int (1 : Int32))] [(.int (1 : Int32))]
      refine own_st (fun _ k => XS.goto X124.here hx rfl (pc0 := 292) (pc' := 296) rfl (hb hby at_292) (by decide) (by decide) k) ?_
      show own_Go X124 (Q0 Z q0 p1 p2 p3 q4 h0 n0) 4 29 296 #[.val (.long q0), .second, .val (.int p1), .val (.int p2), .val (.int p3), .val (.long q4), .second, .val (.ref b1), .val (.ref b22), .val (.int fr), .val (.int to), .val (.ref b43), .val (.int (p3 &&& (3 : Int32))), .val (.int (to - fr)), .val (.int (1 : Int32))] [(.int (1 : Int32))]
      refine own_st (fun _ k => XS.istore X124.here hx rfl (hb hby at_296) rfl (l' := #[.val (.long q0), .second, .val (.int p1), .val (.int p2), .val (.int p3), .val (.long q4), .second, .val (.ref b1), .val (.ref b22), .val (.int fr), .val (.int to), .val (.ref b43), .val (.int (p3 &&& (3 : Int32))), .val (.int (to - fr)), .val (.int (1 : Int32))]) rfl k) ?_
      show own_Go X124 (Q0 Z q0 p1 p2 p3 q4 h0 n0) 4 29 298 #[.val (.long q0), .second, .val (.int p1), .val (.int p2), .val (.int p3), .val (.long q4), .second, .val (.ref b1), .val (.ref b22), .val (.int fr), .val (.int to), .val (.ref b43), .val (.int (p3 &&& (3 : Int32))), .val (.int (to - fr)), .val (.int (1 : Int32))] []
      refine own_st (fun _ k => XS.iload X124.here hx rfl (hb hby at_298) rfl k) ?_
      show own_Go X124 (Q0 Z q0 p1 p2 p3 q4 h0 n0) 4 29 300 #[.val (.long q0), .second, .val (.int p1), .val (.int p2), .val (.int p3), .val (.long q4), .second, .val (.ref b1), .val (.ref b22), .val (.int fr), .val (.int to), .val (.ref b43), .val (.int (p3 &&& (3 : Int32))), .val (.int (to - fr)), .val (.int (1 : Int32))] [(.int (1 : Int32))]
      have c300_127 : ¬ ((1 : Int32) = (0 : Int32)) := (by decide)
      refine own_st (fun _ k => XS.ifNo X124.here hx rfl (hb hby at_300) rfl ((if0 _ _).trans (feq c300_127).1) k) ?_
      show own_Go X124 (Q0 Z q0 p1 p2 p3 q4 h0 n0) 4 29 303 #[.val (.long q0), .second, .val (.int p1), .val (.int p2), .val (.int p3), .val (.long q4), .second, .val (.ref b1), .val (.ref b22), .val (.int fr), .val (.int to), .val (.ref b43), .val (.int (p3 &&& (3 : Int32))), .val (.int (to - fr)), .val (.int (1 : Int32))] []
      refine own_st (fun _ k => XS.aload X124.here hx rfl (hb hby at_303) rfl rfl k) ?_
      show own_Go X124 (Q0 Z q0 p1 p2 p3 q4 h0 n0) 4 29 305 #[.val (.long q0), .second, .val (.int p1), .val (.int p2), .val (.int p3), .val (.long q4), .second, .val (.ref b1), .val (.ref b22), .val (.int fr), .val (.int to), .val (.ref b43), .val (.int (p3 &&& (3 : Int32))), .val (.int (to - fr)), .val (.int (1 : Int32))] [(.ref b43)]
      refine own_st (fun _ k => XS.aload X124.here hx rfl (hb hby at_305) rfl rfl k) ?_
      show own_Go X124 (Q0 Z q0 p1 p2 p3 q4 h0 n0) 4 29 307 #[.val (.long q0), .second, .val (.int p1), .val (.int p2), .val (.int p3), .val (.long q4), .second, .val (.ref b1), .val (.ref b22), .val (.int fr), .val (.int to), .val (.ref b43), .val (.int (p3 &&& (3 : Int32))), .val (.int (to - fr)), .val (.int (1 : Int32))] [(.ref b1), (.ref b43)]
      refine own_st (fun _ k => XS.iload X124.here hx rfl (hb hby at_307) rfl k) ?_
      show own_Go X124 (Q0 Z q0 p1 p2 p3 q4 h0 n0) 4 29 309 #[.val (.long q0), .second, .val (.int p1), .val (.int p2), .val (.int p3), .val (.long q4), .second, .val (.ref b1), .val (.ref b22), .val (.int fr), .val (.int to), .val (.ref b43), .val (.int (p3 &&& (3 : Int32))), .val (.int (to - fr)), .val (.int (1 : Int32))] [(.int fr), (.ref b1), (.ref b43)]
      refine own_st (fun _ k => XS.iload X124.here hx rfl (hb hby at_309) rfl k) ?_
      show own_Go X124 (Q0 Z q0 p1 p2 p3 q4 h0 n0) 4 29 311 #[.val (.long q0), .second, .val (.int p1), .val (.int p2), .val (.int p3), .val (.long q4), .second, .val (.ref b1), .val (.ref b22), .val (.int fr), .val (.int to), .val (.ref b43), .val (.int (p3 &&& (3 : Int32))), .val (.int (to - fr)), .val (.int (1 : Int32))] [(.int (to - fr)), (.int fr), (.ref b1), (.ref b43)]
      refine own_st (fun _ k => XS.iconst X124.here hx rfl (hb hby at_311) k) ?_
      show own_Go X124 (Q0 Z q0 p1 p2 p3 q4 h0 n0) 4 29 312 #[.val (.long q0), .second, .val (.int p1), .val (.int p2), .val (.int p3), .val (.long q4), .second, .val (.ref b1), .val (.ref b22), .val (.int fr), .val (.int to), .val (.ref b43), .val (.int (p3 &&& (3 : Int32))), .val (.int (to - fr)), .val (.int (1 : Int32))] [(.int (3 : Int32)), (.int (to - fr)), (.int fr), (.ref b1), (.ref b43)]
      refine own_callS (W := 0) X124 hx hZ hown (hw _ (List.mem_of_getElem? (i := 27) rfl)) (hw _ (List.mem_of_getElem? (i := 28) rfl)) (hw _ (List.mem_of_getElem? (i := 29) rfl)) (hw _ (List.mem_of_getElem? (i := 30) rfl)) (by decide) (rm5 l Z a0 hw [] b43 b1 fr (to - fr) (3 : Int32) k1 (own_y0 q0) (own_ys (8 : Int32) q0) (own_ys (16 : Int32) q0) (own_ys (24 : Int32) q0) (own_ys (32 : Int32) q0) (own_ys (40 : Int32) q0) T106.heap n0 Z_111 f_110 F106_length F106_bytes F106_start f_108 hB (by decide) ⟨own_b8 _, own_b8 _, own_b8 _, own_b8 _, own_b8 _, own_b8 _⟩) (by decide) (by decide) (by rw [hml]; rfl) [(.ref b43), (.ref b1), (.int fr), (.int (to - fr)), (.int (3 : Int32))] [] (lenOf pd_0_3 rfl) rfl rfl (Nat.le_of_ble_eq_true rfl) (hb hby at_312) e124 (by decide) (by decide) ?_
      rintro _ T128 L128 X128 ⟨rfl, N128q, e128⟩
      have N_129 := Fr.app N_125 N128q
      show own_Go X128 (Q0 Z q0 p1 p2 p3 q4 h0 n0) 4 29 315 #[.val (.long q0), .second, .val (.int p1), .val (.int p2), .val (.int p3), .val (.long q4), .second, .val (.ref b1), .val (.ref b22), .val (.int fr), .val (.int to), .val (.ref b43), .val (.int (p3 &&& (3 : Int32))), .val (.int (to - fr)), .val (.int (1 : Int32))] [(.int (1 : Int32))]
      have c315_130 : ¬ ((1 : Int32) = (0 : Int32)) := (by decide)
      refine own_st (fun _ k => XS.ifNo X128.here hx rfl (hb hby at_315) rfl ((if0 _ _).trans (feq c315_130).1) k) ?_
      show own_Go X128 (Q0 Z q0 p1 p2 p3 q4 h0 n0) 4 29 318 #[.val (.long q0), .second, .val (.int p1), .val (.int p2), .val (.int p3), .val (.long q4), .second, .val (.ref b1), .val (.ref b22), .val (.int fr), .val (.int to), .val (.ref b43), .val (.int (p3 &&& (3 : Int32))), .val (.int (to - fr)), .val (.int (1 : Int32))] []
      refine own_st (fun _ k => XS.iconst X128.here hx rfl (hb hby at_318) k) ?_
      show own_Go X128 (Q0 Z q0 p1 p2 p3 q4 h0 n0) 4 29 319 #[.val (.long q0), .second, .val (.int p1), .val (.int p2), .val (.int p3), .val (.long q4), .second, .val (.ref b1), .val (.ref b22), .val (.int fr), .val (.int to), .val (.ref b43), .val (.int (p3 &&& (3 : Int32))), .val (.int (to - fr)), .val (.int (1 : Int32))] [(.int (1 : Int32))]
      refine own_st (fun _ k => XS.goto X128.here hx rfl (pc0 := 319) (pc' := 323) rfl (hb hby at_319) (by decide) (by decide) k) ?_
      show own_Go X128 (Q0 Z q0 p1 p2 p3 q4 h0 n0) 4 29 323 #[.val (.long q0), .second, .val (.int p1), .val (.int p2), .val (.int p3), .val (.long q4), .second, .val (.ref b1), .val (.ref b22), .val (.int fr), .val (.int to), .val (.ref b43), .val (.int (p3 &&& (3 : Int32))), .val (.int (to - fr)), .val (.int (1 : Int32))] [(.int (1 : Int32))]
      refine own_st (fun _ k => XS.istore X128.here hx rfl (hb hby at_323) rfl (l' := #[.val (.long q0), .second, .val (.int p1), .val (.int p2), .val (.int p3), .val (.long q4), .second, .val (.ref b1), .val (.ref b22), .val (.int fr), .val (.int to), .val (.ref b43), .val (.int (p3 &&& (3 : Int32))), .val (.int (to - fr)), .val (.int (1 : Int32))]) rfl k) ?_
      show own_Go X128 (Q0 Z q0 p1 p2 p3 q4 h0 n0) 4 29 325 #[.val (.long q0), .second, .val (.int p1), .val (.int p2), .val (.int p3), .val (.long q4), .second, .val (.ref b1), .val (.ref b22), .val (.int fr), .val (.int to), .val (.ref b43), .val (.int (p3 &&& (3 : Int32))), .val (.int (to - fr)), .val (.int (1 : Int32))] []
      refine own_st (fun _ k => XS.iload X128.here hx rfl (hb hby at_325) rfl k) ?_
      show own_Go X128 (Q0 Z q0 p1 p2 p3 q4 h0 n0) 4 29 327 #[.val (.long q0), .second, .val (.int p1), .val (.int p2), .val (.int p3), .val (.long q4), .second, .val (.ref b1), .val (.ref b22), .val (.int fr), .val (.int to), .val (.ref b43), .val (.int (p3 &&& (3 : Int32))), .val (.int (to - fr)), .val (.int (1 : Int32))] [(.int (1 : Int32))]
      have c327_131 : ¬ ((1 : Int32) = (0 : Int32)) := (by decide)
      refine own_st (fun _ k => XS.ifNo X128.here hx rfl (hb hby at_327) rfl ((if0 _ _).trans (feq c327_131).1) k) ?_
      show own_Go X128 (Q0 Z q0 p1 p2 p3 q4 h0 n0) 4 29 330 #[.val (.long q0), .second, .val (.int p1), .val (.int p2), .val (.int p3), .val (.long q4), .second, .val (.ref b1), .val (.ref b22), .val (.int fr), .val (.int to), .val (.ref b43), .val (.int (p3 &&& (3 : Int32))), .val (.int (to - fr)), .val (.int (1 : Int32))] []
      refine own_st (fun _ k => XS.aload X128.here hx rfl (hb hby at_330) rfl rfl k) ?_
      show own_Go X128 (Q0 Z q0 p1 p2 p3 q4 h0 n0) 4 29 332 #[.val (.long q0), .second, .val (.int p1), .val (.int p2), .val (.int p3), .val (.long q4), .second, .val (.ref b1), .val (.ref b22), .val (.int fr), .val (.int to), .val (.ref b43), .val (.int (p3 &&& (3 : Int32))), .val (.int (to - fr)), .val (.int (1 : Int32))] [(.ref b43)]
      refine own_st (fun _ k => XS.aload X128.here hx rfl (hb hby at_332) rfl rfl k) ?_
      show own_Go X128 (Q0 Z q0 p1 p2 p3 q4 h0 n0) 4 29 334 #[.val (.long q0), .second, .val (.int p1), .val (.int p2), .val (.int p3), .val (.long q4), .second, .val (.ref b1), .val (.ref b22), .val (.int fr), .val (.int to), .val (.ref b43), .val (.int (p3 &&& (3 : Int32))), .val (.int (to - fr)), .val (.int (1 : Int32))] [(.ref b1), (.ref b43)]
      refine own_st (fun _ k => XS.iload X128.here hx rfl (hb hby at_334) rfl k) ?_
      show own_Go X128 (Q0 Z q0 p1 p2 p3 q4 h0 n0) 4 29 336 #[.val (.long q0), .second, .val (.int p1), .val (.int p2), .val (.int p3), .val (.long q4), .second, .val (.ref b1), .val (.ref b22), .val (.int fr), .val (.int to), .val (.ref b43), .val (.int (p3 &&& (3 : Int32))), .val (.int (to - fr)), .val (.int (1 : Int32))] [(.int fr), (.ref b1), (.ref b43)]
      refine own_st (fun _ k => XS.iload X128.here hx rfl (hb hby at_336) rfl k) ?_
      show own_Go X128 (Q0 Z q0 p1 p2 p3 q4 h0 n0) 4 29 338 #[.val (.long q0), .second, .val (.int p1), .val (.int p2), .val (.int p3), .val (.long q4), .second, .val (.ref b1), .val (.ref b22), .val (.int fr), .val (.int to), .val (.ref b43), .val (.int (p3 &&& (3 : Int32))), .val (.int (to - fr)), .val (.int (1 : Int32))] [(.int (to - fr)), (.int fr), (.ref b1), (.ref b43)]
      refine own_st (fun _ k => XS.iconst X128.here hx rfl (hb hby at_338) k) ?_
      show own_Go X128 (Q0 Z q0 p1 p2 p3 q4 h0 n0) 4 29 339 #[.val (.long q0), .second, .val (.int p1), .val (.int p2), .val (.int p3), .val (.long q4), .second, .val (.ref b1), .val (.ref b22), .val (.int fr), .val (.int to), .val (.ref b43), .val (.int (p3 &&& (3 : Int32))), .val (.int (to - fr)), .val (.int (1 : Int32))] [(.int (4 : Int32)), (.int (to - fr)), (.int fr), (.ref b1), (.ref b43)]
      refine own_callS (W := 0) X128 hx hZ hown (hw _ (List.mem_of_getElem? (i := 27) rfl)) (hw _ (List.mem_of_getElem? (i := 28) rfl)) (hw _ (List.mem_of_getElem? (i := 29) rfl)) (hw _ (List.mem_of_getElem? (i := 30) rfl)) (by decide) (rm5 l Z a0 hw [] b43 b1 fr (to - fr) (4 : Int32) k1 (own_y0 q0) (own_ys (8 : Int32) q0) (own_ys (16 : Int32) q0) (own_ys (24 : Int32) q0) (own_ys (32 : Int32) q0) (own_ys (40 : Int32) q0) T106.heap n0 Z_111 f_110 F106_length F106_bytes F106_start f_108 hB (by decide) ⟨own_b8 _, own_b8 _, own_b8 _, own_b8 _, own_b8 _, own_b8 _⟩) (by decide) (by decide) (by rw [hml]; rfl) [(.ref b43), (.ref b1), (.int fr), (.int (to - fr)), (.int (4 : Int32))] [] (lenOf pd_0_3 rfl) rfl rfl (Nat.le_of_ble_eq_true rfl) (hb hby at_339) e128 (by decide) (by decide) ?_
      rintro _ T132 L132 X132 ⟨rfl, N132q, e132⟩
      have N_133 := Fr.app N_129 N132q
      show own_Go X132 (Q0 Z q0 p1 p2 p3 q4 h0 n0) 4 29 342 #[.val (.long q0), .second, .val (.int p1), .val (.int p2), .val (.int p3), .val (.long q4), .second, .val (.ref b1), .val (.ref b22), .val (.int fr), .val (.int to), .val (.ref b43), .val (.int (p3 &&& (3 : Int32))), .val (.int (to - fr)), .val (.int (1 : Int32))] [(.int (1 : Int32))]
      have c342_134 : ¬ ((1 : Int32) = (0 : Int32)) := (by decide)
      refine own_st (fun _ k => XS.ifNo X132.here hx rfl (hb hby at_342) rfl ((if0 _ _).trans (feq c342_134).1) k) ?_
      show own_Go X132 (Q0 Z q0 p1 p2 p3 q4 h0 n0) 4 29 345 #[.val (.long q0), .second, .val (.int p1), .val (.int p2), .val (.int p3), .val (.long q4), .second, .val (.ref b1), .val (.ref b22), .val (.int fr), .val (.int to), .val (.ref b43), .val (.int (p3 &&& (3 : Int32))), .val (.int (to - fr)), .val (.int (1 : Int32))] []
      refine own_st (fun _ k => XS.iconst X132.here hx rfl (hb hby at_345) k) ?_
      show own_Go X132 (Q0 Z q0 p1 p2 p3 q4 h0 n0) 4 29 346 #[.val (.long q0), .second, .val (.int p1), .val (.int p2), .val (.int p3), .val (.long q4), .second, .val (.ref b1), .val (.ref b22), .val (.int fr), .val (.int to), .val (.ref b43), .val (.int (p3 &&& (3 : Int32))), .val (.int (to - fr)), .val (.int (1 : Int32))] [(.int (1 : Int32))]
      refine own_st (fun _ k => XS.goto X132.here hx rfl (pc0 := 346) (pc' := 350) rfl (hb hby at_346) (by decide) (by decide) k) ?_
      show own_Go X132 (Q0 Z q0 p1 p2 p3 q4 h0 n0) 4 29 350 #[.val (.long q0), .second, .val (.int p1), .val (.int p2), .val (.int p3), .val (.long q4), .second, .val (.ref b1), .val (.ref b22), .val (.int fr), .val (.int to), .val (.ref b43), .val (.int (p3 &&& (3 : Int32))), .val (.int (to - fr)), .val (.int (1 : Int32))] [(.int (1 : Int32))]
      refine own_st (fun _ k => XS.istore X132.here hx rfl (hb hby at_350) rfl (l' := #[.val (.long q0), .second, .val (.int p1), .val (.int p2), .val (.int p3), .val (.long q4), .second, .val (.ref b1), .val (.ref b22), .val (.int fr), .val (.int to), .val (.ref b43), .val (.int (p3 &&& (3 : Int32))), .val (.int (to - fr)), .val (.int (1 : Int32))]) rfl k) ?_
      show own_Go X132 (Q0 Z q0 p1 p2 p3 q4 h0 n0) 4 29 352 #[.val (.long q0), .second, .val (.int p1), .val (.int p2), .val (.int p3), .val (.long q4), .second, .val (.ref b1), .val (.ref b22), .val (.int fr), .val (.int to), .val (.ref b43), .val (.int (p3 &&& (3 : Int32))), .val (.int (to - fr)), .val (.int (1 : Int32))] []
      refine own_st (fun _ k => XS.iload X132.here hx rfl (hb hby at_352) rfl k) ?_
      show own_Go X132 (Q0 Z q0 p1 p2 p3 q4 h0 n0) 4 29 354 #[.val (.long q0), .second, .val (.int p1), .val (.int p2), .val (.int p3), .val (.long q4), .second, .val (.ref b1), .val (.ref b22), .val (.int fr), .val (.int to), .val (.ref b43), .val (.int (p3 &&& (3 : Int32))), .val (.int (to - fr)), .val (.int (1 : Int32))] [(.int (1 : Int32))]
      have c354_135 : ¬ ((1 : Int32) = (0 : Int32)) := (by decide)
      refine own_st (fun _ k => XS.ifNo X132.here hx rfl (hb hby at_354) rfl ((if0 _ _).trans (feq c354_135).1) k) ?_
      show own_Go X132 (Q0 Z q0 p1 p2 p3 q4 h0 n0) 4 29 357 #[.val (.long q0), .second, .val (.int p1), .val (.int p2), .val (.int p3), .val (.long q4), .second, .val (.ref b1), .val (.ref b22), .val (.int fr), .val (.int to), .val (.ref b43), .val (.int (p3 &&& (3 : Int32))), .val (.int (to - fr)), .val (.int (1 : Int32))] []
      refine own_st (fun _ k => XS.aload X132.here hx rfl (hb hby at_357) rfl rfl k) ?_
      show own_Go X132 (Q0 Z q0 p1 p2 p3 q4 h0 n0) 4 29 359 #[.val (.long q0), .second, .val (.int p1), .val (.int p2), .val (.int p3), .val (.long q4), .second, .val (.ref b1), .val (.ref b22), .val (.int fr), .val (.int to), .val (.ref b43), .val (.int (p3 &&& (3 : Int32))), .val (.int (to - fr)), .val (.int (1 : Int32))] [(.ref b43)]
      refine own_st (fun _ k => XS.aload X132.here hx rfl (hb hby at_359) rfl rfl k) ?_
      show own_Go X132 (Q0 Z q0 p1 p2 p3 q4 h0 n0) 4 29 361 #[.val (.long q0), .second, .val (.int p1), .val (.int p2), .val (.int p3), .val (.long q4), .second, .val (.ref b1), .val (.ref b22), .val (.int fr), .val (.int to), .val (.ref b43), .val (.int (p3 &&& (3 : Int32))), .val (.int (to - fr)), .val (.int (1 : Int32))] [(.ref b1), (.ref b43)]
      refine own_st (fun _ k => XS.iload X132.here hx rfl (hb hby at_361) rfl k) ?_
      show own_Go X132 (Q0 Z q0 p1 p2 p3 q4 h0 n0) 4 29 363 #[.val (.long q0), .second, .val (.int p1), .val (.int p2), .val (.int p3), .val (.long q4), .second, .val (.ref b1), .val (.ref b22), .val (.int fr), .val (.int to), .val (.ref b43), .val (.int (p3 &&& (3 : Int32))), .val (.int (to - fr)), .val (.int (1 : Int32))] [(.int fr), (.ref b1), (.ref b43)]
      refine own_st (fun _ k => XS.iload X132.here hx rfl (hb hby at_363) rfl k) ?_
      show own_Go X132 (Q0 Z q0 p1 p2 p3 q4 h0 n0) 4 29 365 #[.val (.long q0), .second, .val (.int p1), .val (.int p2), .val (.int p3), .val (.long q4), .second, .val (.ref b1), .val (.ref b22), .val (.int fr), .val (.int to), .val (.ref b43), .val (.int (p3 &&& (3 : Int32))), .val (.int (to - fr)), .val (.int (1 : Int32))] [(.int (to - fr)), (.int fr), (.ref b1), (.ref b43)]
      refine own_st (fun _ k => XS.iconst X132.here hx rfl (hb hby at_365) k) ?_
      show own_Go X132 (Q0 Z q0 p1 p2 p3 q4 h0 n0) 4 29 366 #[.val (.long q0), .second, .val (.int p1), .val (.int p2), .val (.int p3), .val (.long q4), .second, .val (.ref b1), .val (.ref b22), .val (.int fr), .val (.int to), .val (.ref b43), .val (.int (p3 &&& (3 : Int32))), .val (.int (to - fr)), .val (.int (1 : Int32))] [(.int (5 : Int32)), (.int (to - fr)), (.int fr), (.ref b1), (.ref b43)]
      refine own_callS (W := 0) X132 hx hZ hown (hw _ (List.mem_of_getElem? (i := 27) rfl)) (hw _ (List.mem_of_getElem? (i := 28) rfl)) (hw _ (List.mem_of_getElem? (i := 29) rfl)) (hw _ (List.mem_of_getElem? (i := 30) rfl)) (by decide) (rm5 l Z a0 hw [] b43 b1 fr (to - fr) (5 : Int32) k1 (own_y0 q0) (own_ys (8 : Int32) q0) (own_ys (16 : Int32) q0) (own_ys (24 : Int32) q0) (own_ys (32 : Int32) q0) (own_ys (40 : Int32) q0) T106.heap n0 Z_111 f_110 F106_length F106_bytes F106_start f_108 hB (by decide) ⟨own_b8 _, own_b8 _, own_b8 _, own_b8 _, own_b8 _, own_b8 _⟩) (by decide) (by decide) (by rw [hml]; rfl) [(.ref b43), (.ref b1), (.int fr), (.int (to - fr)), (.int (5 : Int32))] [] (lenOf pd_0_3 rfl) rfl rfl (Nat.le_of_ble_eq_true rfl) (hb hby at_366) e132 (by decide) (by decide) ?_
      rintro _ T136 L136 X136 ⟨rfl, N136q, e136⟩
      have N_137 := Fr.app N_133 N136q
      show own_Go X136 (Q0 Z q0 p1 p2 p3 q4 h0 n0) 4 29 369 #[.val (.long q0), .second, .val (.int p1), .val (.int p2), .val (.int p3), .val (.long q4), .second, .val (.ref b1), .val (.ref b22), .val (.int fr), .val (.int to), .val (.ref b43), .val (.int (p3 &&& (3 : Int32))), .val (.int (to - fr)), .val (.int (1 : Int32))] [(.int (1 : Int32))]
      have c369_138 : ¬ ((1 : Int32) = (0 : Int32)) := (by decide)
      refine own_st (fun _ k => XS.ifNo X136.here hx rfl (hb hby at_369) rfl ((if0 _ _).trans (feq c369_138).1) k) ?_
      show own_Go X136 (Q0 Z q0 p1 p2 p3 q4 h0 n0) 4 29 372 #[.val (.long q0), .second, .val (.int p1), .val (.int p2), .val (.int p3), .val (.long q4), .second, .val (.ref b1), .val (.ref b22), .val (.int fr), .val (.int to), .val (.ref b43), .val (.int (p3 &&& (3 : Int32))), .val (.int (to - fr)), .val (.int (1 : Int32))] []
      refine own_st (fun _ k => XS.iconst X136.here hx rfl (hb hby at_372) k) ?_
      show own_Go X136 (Q0 Z q0 p1 p2 p3 q4 h0 n0) 4 29 373 #[.val (.long q0), .second, .val (.int p1), .val (.int p2), .val (.int p3), .val (.long q4), .second, .val (.ref b1), .val (.ref b22), .val (.int fr), .val (.int to), .val (.ref b43), .val (.int (p3 &&& (3 : Int32))), .val (.int (to - fr)), .val (.int (1 : Int32))] [(.int (1 : Int32))]
      refine own_st (fun _ k => XS.goto X136.here hx rfl (pc0 := 373) (pc' := 377) rfl (hb hby at_373) (by decide) (by decide) k) ?_
      show own_Go X136 (Q0 Z q0 p1 p2 p3 q4 h0 n0) 4 29 377 #[.val (.long q0), .second, .val (.int p1), .val (.int p2), .val (.int p3), .val (.long q4), .second, .val (.ref b1), .val (.ref b22), .val (.int fr), .val (.int to), .val (.ref b43), .val (.int (p3 &&& (3 : Int32))), .val (.int (to - fr)), .val (.int (1 : Int32))] [(.int (1 : Int32))]
      refine own_st (fun _ k => XS.istore X136.here hx rfl (hb hby at_377) rfl (l' := #[.val (.long q0), .second, .val (.int p1), .val (.int p2), .val (.int p3), .val (.long q4), .second, .val (.ref b1), .val (.ref b22), .val (.int fr), .val (.int to), .val (.ref b43), .val (.int (p3 &&& (3 : Int32))), .val (.int (to - fr)), .val (.int (1 : Int32))]) rfl k) ?_
      show own_Go X136 (Q0 Z q0 p1 p2 p3 q4 h0 n0) 4 29 379 #[.val (.long q0), .second, .val (.int p1), .val (.int p2), .val (.int p3), .val (.long q4), .second, .val (.ref b1), .val (.ref b22), .val (.int fr), .val (.int to), .val (.ref b43), .val (.int (p3 &&& (3 : Int32))), .val (.int (to - fr)), .val (.int (1 : Int32))] []
      refine own_st (fun _ k => XS.iload X136.here hx rfl (hb hby at_379) rfl k) ?_
      show own_Go X136 (Q0 Z q0 p1 p2 p3 q4 h0 n0) 4 29 381 #[.val (.long q0), .second, .val (.int p1), .val (.int p2), .val (.int p3), .val (.long q4), .second, .val (.ref b1), .val (.ref b22), .val (.int fr), .val (.int to), .val (.ref b43), .val (.int (p3 &&& (3 : Int32))), .val (.int (to - fr)), .val (.int (1 : Int32))] [(.int (1 : Int32))]
      refine own_retN X136 hx Bd.returns (by simp) hlk e136 (hb hby at_381) (by decide) (by decide) ?_
      exact ⟨rfl, N_137⟩
    · skip
      refine own_st (fun _ k => XS.icmpYes X50.here hx rfl (pc0 := 170) (pc' := 182) rfl (hb hby at_170) rfl (feq c170_99).2 (by decide) (by decide) k) ?_
      show own_Go X50 (Q0 Z q0 p1 p2 p3 q4 h0 n0) 4 29 182 #[.val (.long q0), .second, .val (.int p1), .val (.int p2), .val (.int p3), .val (.long q4), .second, .val (.ref b1), .val (.ref b22), .val (.int fr), .val (.int to), .val (.ref b43), .val (.int (p3 &&& (3 : Int32))), .unset, .unset] []
      refine own_st (fun _ k => XS.aload X50.here hx rfl (hb hby at_182) rfl rfl k) ?_
      show own_Go X50 (Q0 Z q0 p1 p2 p3 q4 h0 n0) 4 29 184 #[.val (.long q0), .second, .val (.int p1), .val (.int p2), .val (.int p3), .val (.long q4), .second, .val (.ref b1), .val (.ref b22), .val (.int fr), .val (.int to), .val (.ref b43), .val (.int (p3 &&& (3 : Int32))), .unset, .unset] [(.ref b43)]
      refine own_st (fun _ k => XS.aload X50.here hx rfl (hb hby at_184) rfl rfl k) ?_
      show own_Go X50 (Q0 Z q0 p1 p2 p3 q4 h0 n0) 4 29 186 #[.val (.long q0), .second, .val (.int p1), .val (.int p2), .val (.int p3), .val (.long q4), .second, .val (.ref b1), .val (.ref b22), .val (.int fr), .val (.int to), .val (.ref b43), .val (.int (p3 &&& (3 : Int32))), .unset, .unset] [(.ref b1), (.ref b43)]
      refine own_st (fun _ k => XS.iload X50.here hx rfl (hb hby at_186) rfl k) ?_
      show own_Go X50 (Q0 Z q0 p1 p2 p3 q4 h0 n0) 4 29 188 #[.val (.long q0), .second, .val (.int p1), .val (.int p2), .val (.int p3), .val (.long q4), .second, .val (.ref b1), .val (.ref b22), .val (.int fr), .val (.int to), .val (.ref b43), .val (.int (p3 &&& (3 : Int32))), .unset, .unset] [(.int fr), (.ref b1), (.ref b43)]
      refine own_st (fun _ k => XS.iload X50.here hx rfl (hb hby at_188) rfl k) ?_
      show own_Go X50 (Q0 Z q0 p1 p2 p3 q4 h0 n0) 4 29 190 #[.val (.long q0), .second, .val (.int p1), .val (.int p2), .val (.int p3), .val (.long q4), .second, .val (.ref b1), .val (.ref b22), .val (.int fr), .val (.int to), .val (.ref b43), .val (.int (p3 &&& (3 : Int32))), .unset, .unset] [(.int to), (.int fr), (.ref b1), (.ref b43)]
      refine own_callV (W := 0) X50 hx hZ hown (hw _ (List.mem_of_getElem? (i := 13) rfl)) (hw _ (List.mem_of_getElem? (i := 14) rfl)) (hw _ (List.mem_of_getElem? (i := 16) rfl)) (hw _ (List.mem_of_getElem? (i := 15) rfl)) (hw _ (List.mem_of_getElem? (i := 4) rfl)) (hw _ (List.mem_of_getElem? (i := 17) rfl)) (by decide) (rm3 l Z a0 hw [] b43 b1 fr to (0 : Int32) (0 : Int32) b50 T50.heap n0 Z_58 f_57 G_46 F50_length F50_bytes F50_start (Ne.symm ne_51)) (by decide) (by decide) (by rw [hml]; rfl) b43 [(.ref b1), (.int fr), (.int to)] [] (lenOf pd_0_1 rfl) rfl rfl (Nat.le_of_ble_eq_true rfl) (hb hby at_190) (Eq.refl T50.heap) f_57 (by decide) (by decide) ?_
      rintro _ T139 L139 X139 ⟨rfl, N139q, K139q, F139_length, F139_bytes, F139_start⟩
      have N_140 := Fr.app N_54 N139q
      have f_141 := f_55.keep K139q (ninS ne_44 nin0)
      have f_142 := f_56.keep K139q (ninS ne_45 nin0)
      have f_143 := f_57.keep K139q
      have Z_144 := Nat.le_trans Z_58 K139q.1
      show own_Go X139 (Q0 Z q0 p1 p2 p3 q4 h0 n0) 4 29 193 #[.val (.long q0), .second, .val (.int p1), .val (.int p2), .val (.int p3), .val (.long q4), .second, .val (.ref b1), .val (.ref b22), .val (.int fr), .val (.int to), .val (.ref b43), .val (.int (p3 &&& (3 : Int32))), .unset, .unset] []
      refine own_st (fun _ k => XS.iload X139.here hx rfl (hb hby at_193) rfl k) ?_
      show own_Go X139 (Q0 Z q0 p1 p2 p3 q4 h0 n0) 4 29 195 #[.val (.long q0), .second, .val (.int p1), .val (.int p2), .val (.int p3), .val (.long q4), .second, .val (.ref b1), .val (.ref b22), .val (.int fr), .val (.int to), .val (.ref b43), .val (.int (p3 &&& (3 : Int32))), .unset, .unset] [(.int to)]
      refine own_st (fun _ k => XS.iload X139.here hx rfl (hb hby at_195) rfl k) ?_
      show own_Go X139 (Q0 Z q0 p1 p2 p3 q4 h0 n0) 4 29 197 #[.val (.long q0), .second, .val (.int p1), .val (.int p2), .val (.int p3), .val (.long q4), .second, .val (.ref b1), .val (.ref b22), .val (.int fr), .val (.int to), .val (.ref b43), .val (.int (p3 &&& (3 : Int32))), .unset, .unset] [(.int fr), (.int to)]
      refine own_st (fun _ k => XS.isub X139.here hx rfl (hb hby at_197) rfl k) ?_
      show own_Go X139 (Q0 Z q0 p1 p2 p3 q4 h0 n0) 4 29 198 #[.val (.long q0), .second, .val (.int p1), .val (.int p2), .val (.int p3), .val (.long q4), .second, .val (.ref b1), .val (.ref b22), .val (.int fr), .val (.int to), .val (.ref b43), .val (.int (p3 &&& (3 : Int32))), .unset, .unset] [(.int (to - fr))]
      refine own_st (fun _ k => XS.istore X139.here hx rfl (hb hby at_198) rfl (l' := #[.val (.long q0), .second, .val (.int p1), .val (.int p2), .val (.int p3), .val (.long q4), .second, .val (.ref b1), .val (.ref b22), .val (.int fr), .val (.int to), .val (.ref b43), .val (.int (p3 &&& (3 : Int32))), .val (.int (to - fr)), .unset]) rfl k) ?_
      show own_Go X139 (Q0 Z q0 p1 p2 p3 q4 h0 n0) 4 29 200 #[.val (.long q0), .second, .val (.int p1), .val (.int p2), .val (.int p3), .val (.long q4), .second, .val (.ref b1), .val (.ref b22), .val (.int fr), .val (.int to), .val (.ref b43), .val (.int (p3 &&& (3 : Int32))), .val (.int (to - fr)), .unset] []
      refine own_st (fun _ k => XS.aload X139.here hx rfl (hb hby at_200) rfl rfl k) ?_
      show own_Go X139 (Q0 Z q0 p1 p2 p3 q4 h0 n0) 4 29 202 #[.val (.long q0), .second, .val (.int p1), .val (.int p2), .val (.int p3), .val (.long q4), .second, .val (.ref b1), .val (.ref b22), .val (.int fr), .val (.int to), .val (.ref b43), .val (.int (p3 &&& (3 : Int32))), .val (.int (to - fr)), .unset] [(.ref b43)]
      refine own_callV (W := 0) X139 hx hZ hown (hw _ (List.mem_of_getElem? (i := 22) rfl)) (hw _ (List.mem_of_getElem? (i := 23) rfl)) (hw _ (List.mem_of_getElem? (i := 25) rfl)) (hw _ (List.mem_of_getElem? (i := 24) rfl)) (hw _ (List.mem_of_getElem? (i := 4) rfl)) (hw _ (List.mem_of_getElem? (i := 26) rfl)) (by decide) (rm4 l Z a0 hw [] b43 (to - fr) T139.heap n0 Z_144 F139_length) (by decide) (by decide) (by rw [hml]; rfl) b43 [] [] (lenOf pd_0_2 rfl) rfl rfl (Nat.le_of_ble_eq_true rfl) (hb hby at_202) (Eq.refl T139.heap) f_143 (by decide) (by decide) ?_
      rintro _ T145 L145 X145 ⟨rfl, N145q, e145⟩
      have N_146 := Fr.app N_140 N145q
      show own_Go X145 (Q0 Z q0 p1 p2 p3 q4 h0 n0) 4 29 205 #[.val (.long q0), .second, .val (.int p1), .val (.int p2), .val (.int p3), .val (.long q4), .second, .val (.ref b1), .val (.ref b22), .val (.int fr), .val (.int to), .val (.ref b43), .val (.int (p3 &&& (3 : Int32))), .val (.int (to - fr)), .unset] [(.int (to - fr))]
      refine own_st (fun _ k => XS.iload X145.here hx rfl (hb hby at_205) rfl k) ?_
      show own_Go X145 (Q0 Z q0 p1 p2 p3 q4 h0 n0) 4 29 207 #[.val (.long q0), .second, .val (.int p1), .val (.int p2), .val (.int p3), .val (.long q4), .second, .val (.ref b1), .val (.ref b22), .val (.int fr), .val (.int to), .val (.ref b43), .val (.int (p3 &&& (3 : Int32))), .val (.int (to - fr)), .unset] [(.int (to - fr)), (.int (to - fr))]
      have c207_147 : (to - fr) = (to - fr) := rfl
      refine own_st (fun _ k => XS.icmpNo X145.here hx rfl (hb hby at_207) rfl (teq c207_147).2 k) ?_
      show own_Go X145 (Q0 Z q0 p1 p2 p3 q4 h0 n0) 4 29 210 #[.val (.long q0), .second, .val (.int p1), .val (.int p2), .val (.int p3), .val (.long q4), .second, .val (.ref b1), .val (.ref b22), .val (.int fr), .val (.int to), .val (.ref b43), .val (.int (p3 &&& (3 : Int32))), .val (.int (to - fr)), .unset] []
      refine own_st (fun _ k => XS.iconst X145.here hx rfl (hb hby at_210) k) ?_
      show own_Go X145 (Q0 Z q0 p1 p2 p3 q4 h0 n0) 4 29 211 #[.val (.long q0), .second, .val (.int p1), .val (.int p2), .val (.int p3), .val (.long q4), .second, .val (.ref b1), .val (.ref b22), .val (.int fr), .val (.int to), .val (.ref b43), .val (.int (p3 &&& (3 : Int32))), .val (.int (to - fr)), .unset] [(.int (1 : Int32))]
      refine own_st (fun _ k => XS.goto X145.here hx rfl (pc0 := 211) (pc' := 215) rfl (hb hby at_211) (by decide) (by decide) k) ?_
      show own_Go X145 (Q0 Z q0 p1 p2 p3 q4 h0 n0) 4 29 215 #[.val (.long q0), .second, .val (.int p1), .val (.int p2), .val (.int p3), .val (.long q4), .second, .val (.ref b1), .val (.ref b22), .val (.int fr), .val (.int to), .val (.ref b43), .val (.int (p3 &&& (3 : Int32))), .val (.int (to - fr)), .unset] [(.int (1 : Int32))]
      refine own_st (fun _ k => XS.istore X145.here hx rfl (hb hby at_215) rfl (l' := #[.val (.long q0), .second, .val (.int p1), .val (.int p2), .val (.int p3), .val (.long q4), .second, .val (.ref b1), .val (.ref b22), .val (.int fr), .val (.int to), .val (.ref b43), .val (.int (p3 &&& (3 : Int32))), .val (.int (to - fr)), .val (.int (1 : Int32))]) rfl k) ?_
      show own_Go X145 (Q0 Z q0 p1 p2 p3 q4 h0 n0) 4 29 217 #[.val (.long q0), .second, .val (.int p1), .val (.int p2), .val (.int p3), .val (.long q4), .second, .val (.ref b1), .val (.ref b22), .val (.int fr), .val (.int to), .val (.ref b43), .val (.int (p3 &&& (3 : Int32))), .val (.int (to - fr)), .val (.int (1 : Int32))] []
      refine own_st (fun _ k => XS.iload X145.here hx rfl (hb hby at_217) rfl k) ?_
      show own_Go X145 (Q0 Z q0 p1 p2 p3 q4 h0 n0) 4 29 219 #[.val (.long q0), .second, .val (.int p1), .val (.int p2), .val (.int p3), .val (.long q4), .second, .val (.ref b1), .val (.ref b22), .val (.int fr), .val (.int to), .val (.ref b43), .val (.int (p3 &&& (3 : Int32))), .val (.int (to - fr)), .val (.int (1 : Int32))] [(.int (1 : Int32))]
      have c219_148 : ¬ ((1 : Int32) = (0 : Int32)) := (by decide)
      refine own_st (fun _ k => XS.ifNo X145.here hx rfl (hb hby at_219) rfl ((if0 _ _).trans (feq c219_148).1) k) ?_
      show own_Go X145 (Q0 Z q0 p1 p2 p3 q4 h0 n0) 4 29 222 #[.val (.long q0), .second, .val (.int p1), .val (.int p2), .val (.int p3), .val (.long q4), .second, .val (.ref b1), .val (.ref b22), .val (.int fr), .val (.int to), .val (.ref b43), .val (.int (p3 &&& (3 : Int32))), .val (.int (to - fr)), .val (.int (1 : Int32))] []
      refine own_st (fun _ k => XS.aload X145.here hx rfl (hb hby at_222) rfl rfl k) ?_
      show own_Go X145 (Q0 Z q0 p1 p2 p3 q4 h0 n0) 4 29 224 #[.val (.long q0), .second, .val (.int p1), .val (.int p2), .val (.int p3), .val (.long q4), .second, .val (.ref b1), .val (.ref b22), .val (.int fr), .val (.int to), .val (.ref b43), .val (.int (p3 &&& (3 : Int32))), .val (.int (to - fr)), .val (.int (1 : Int32))] [(.ref b43)]
      refine own_st (fun _ k => XS.aload X145.here hx rfl (hb hby at_224) rfl rfl k) ?_
      show own_Go X145 (Q0 Z q0 p1 p2 p3 q4 h0 n0) 4 29 226 #[.val (.long q0), .second, .val (.int p1), .val (.int p2), .val (.int p3), .val (.long q4), .second, .val (.ref b1), .val (.ref b22), .val (.int fr), .val (.int to), .val (.ref b43), .val (.int (p3 &&& (3 : Int32))), .val (.int (to - fr)), .val (.int (1 : Int32))] [(.ref b1), (.ref b43)]
      refine own_st (fun _ k => XS.iload X145.here hx rfl (hb hby at_226) rfl k) ?_
      show own_Go X145 (Q0 Z q0 p1 p2 p3 q4 h0 n0) 4 29 228 #[.val (.long q0), .second, .val (.int p1), .val (.int p2), .val (.int p3), .val (.long q4), .second, .val (.ref b1), .val (.ref b22), .val (.int fr), .val (.int to), .val (.ref b43), .val (.int (p3 &&& (3 : Int32))), .val (.int (to - fr)), .val (.int (1 : Int32))] [(.int fr), (.ref b1), (.ref b43)]
      refine own_st (fun _ k => XS.iload X145.here hx rfl (hb hby at_228) rfl k) ?_
      show own_Go X145 (Q0 Z q0 p1 p2 p3 q4 h0 n0) 4 29 230 #[.val (.long q0), .second, .val (.int p1), .val (.int p2), .val (.int p3), .val (.long q4), .second, .val (.ref b1), .val (.ref b22), .val (.int fr), .val (.int to), .val (.ref b43), .val (.int (p3 &&& (3 : Int32))), .val (.int (to - fr)), .val (.int (1 : Int32))] [(.int (to - fr)), (.int fr), (.ref b1), (.ref b43)]
      refine own_st (fun _ k => XS.iconst X145.here hx rfl (hb hby at_230) k) ?_
      show own_Go X145 (Q0 Z q0 p1 p2 p3 q4 h0 n0) 4 29 231 #[.val (.long q0), .second, .val (.int p1), .val (.int p2), .val (.int p3), .val (.long q4), .second, .val (.ref b1), .val (.ref b22), .val (.int fr), .val (.int to), .val (.ref b43), .val (.int (p3 &&& (3 : Int32))), .val (.int (to - fr)), .val (.int (1 : Int32))] [(.int (0 : Int32)), (.int (to - fr)), (.int fr), (.ref b1), (.ref b43)]
      refine own_callS (W := 0) X145 hx hZ hown (hw _ (List.mem_of_getElem? (i := 27) rfl)) (hw _ (List.mem_of_getElem? (i := 28) rfl)) (hw _ (List.mem_of_getElem? (i := 29) rfl)) (hw _ (List.mem_of_getElem? (i := 30) rfl)) (by decide) (rm5 l Z a0 hw [] b43 b1 fr (to - fr) (0 : Int32) k1 (own_y0 q0) (own_ys (8 : Int32) q0) (own_ys (16 : Int32) q0) (own_ys (24 : Int32) q0) (own_ys (32 : Int32) q0) (own_ys (40 : Int32) q0) T139.heap n0 Z_144 f_143 F139_length F139_bytes F139_start f_141 hB (by decide) ⟨own_b8 _, own_b8 _, own_b8 _, own_b8 _, own_b8 _, own_b8 _⟩) (by decide) (by decide) (by rw [hml]; rfl) [(.ref b43), (.ref b1), (.int fr), (.int (to - fr)), (.int (0 : Int32))] [] (lenOf pd_0_3 rfl) rfl rfl (Nat.le_of_ble_eq_true rfl) (hb hby at_231) e145 (by decide) (by decide) ?_
      rintro _ T149 L149 X149 ⟨rfl, N149q, e149⟩
      have N_150 := Fr.app N_146 N149q
      show own_Go X149 (Q0 Z q0 p1 p2 p3 q4 h0 n0) 4 29 234 #[.val (.long q0), .second, .val (.int p1), .val (.int p2), .val (.int p3), .val (.long q4), .second, .val (.ref b1), .val (.ref b22), .val (.int fr), .val (.int to), .val (.ref b43), .val (.int (p3 &&& (3 : Int32))), .val (.int (to - fr)), .val (.int (1 : Int32))] [(.int (1 : Int32))]
      have c234_151 : ¬ ((1 : Int32) = (0 : Int32)) := (by decide)
      refine own_st (fun _ k => XS.ifNo X149.here hx rfl (hb hby at_234) rfl ((if0 _ _).trans (feq c234_151).1) k) ?_
      show own_Go X149 (Q0 Z q0 p1 p2 p3 q4 h0 n0) 4 29 237 #[.val (.long q0), .second, .val (.int p1), .val (.int p2), .val (.int p3), .val (.long q4), .second, .val (.ref b1), .val (.ref b22), .val (.int fr), .val (.int to), .val (.ref b43), .val (.int (p3 &&& (3 : Int32))), .val (.int (to - fr)), .val (.int (1 : Int32))] []
      refine own_st (fun _ k => XS.iconst X149.here hx rfl (hb hby at_237) k) ?_
      show own_Go X149 (Q0 Z q0 p1 p2 p3 q4 h0 n0) 4 29 238 #[.val (.long q0), .second, .val (.int p1), .val (.int p2), .val (.int p3), .val (.long q4), .second, .val (.ref b1), .val (.ref b22), .val (.int fr), .val (.int to), .val (.ref b43), .val (.int (p3 &&& (3 : Int32))), .val (.int (to - fr)), .val (.int (1 : Int32))] [(.int (1 : Int32))]
      refine own_st (fun _ k => XS.goto X149.here hx rfl (pc0 := 238) (pc' := 242) rfl (hb hby at_238) (by decide) (by decide) k) ?_
      show own_Go X149 (Q0 Z q0 p1 p2 p3 q4 h0 n0) 4 29 242 #[.val (.long q0), .second, .val (.int p1), .val (.int p2), .val (.int p3), .val (.long q4), .second, .val (.ref b1), .val (.ref b22), .val (.int fr), .val (.int to), .val (.ref b43), .val (.int (p3 &&& (3 : Int32))), .val (.int (to - fr)), .val (.int (1 : Int32))] [(.int (1 : Int32))]
      refine own_st (fun _ k => XS.istore X149.here hx rfl (hb hby at_242) rfl (l' := #[.val (.long q0), .second, .val (.int p1), .val (.int p2), .val (.int p3), .val (.long q4), .second, .val (.ref b1), .val (.ref b22), .val (.int fr), .val (.int to), .val (.ref b43), .val (.int (p3 &&& (3 : Int32))), .val (.int (to - fr)), .val (.int (1 : Int32))]) rfl k) ?_
      show own_Go X149 (Q0 Z q0 p1 p2 p3 q4 h0 n0) 4 29 244 #[.val (.long q0), .second, .val (.int p1), .val (.int p2), .val (.int p3), .val (.long q4), .second, .val (.ref b1), .val (.ref b22), .val (.int fr), .val (.int to), .val (.ref b43), .val (.int (p3 &&& (3 : Int32))), .val (.int (to - fr)), .val (.int (1 : Int32))] []
      refine own_st (fun _ k => XS.iload X149.here hx rfl (hb hby at_244) rfl k) ?_
      show own_Go X149 (Q0 Z q0 p1 p2 p3 q4 h0 n0) 4 29 246 #[.val (.long q0), .second, .val (.int p1), .val (.int p2), .val (.int p3), .val (.long q4), .second, .val (.ref b1), .val (.ref b22), .val (.int fr), .val (.int to), .val (.ref b43), .val (.int (p3 &&& (3 : Int32))), .val (.int (to - fr)), .val (.int (1 : Int32))] [(.int (1 : Int32))]
      have c246_152 : ¬ ((1 : Int32) = (0 : Int32)) := (by decide)
      refine own_st (fun _ k => XS.ifNo X149.here hx rfl (hb hby at_246) rfl ((if0 _ _).trans (feq c246_152).1) k) ?_
      show own_Go X149 (Q0 Z q0 p1 p2 p3 q4 h0 n0) 4 29 249 #[.val (.long q0), .second, .val (.int p1), .val (.int p2), .val (.int p3), .val (.long q4), .second, .val (.ref b1), .val (.ref b22), .val (.int fr), .val (.int to), .val (.ref b43), .val (.int (p3 &&& (3 : Int32))), .val (.int (to - fr)), .val (.int (1 : Int32))] []
      refine own_st (fun _ k => XS.aload X149.here hx rfl (hb hby at_249) rfl rfl k) ?_
      show own_Go X149 (Q0 Z q0 p1 p2 p3 q4 h0 n0) 4 29 251 #[.val (.long q0), .second, .val (.int p1), .val (.int p2), .val (.int p3), .val (.long q4), .second, .val (.ref b1), .val (.ref b22), .val (.int fr), .val (.int to), .val (.ref b43), .val (.int (p3 &&& (3 : Int32))), .val (.int (to - fr)), .val (.int (1 : Int32))] [(.ref b43)]
      refine own_st (fun _ k => XS.aload X149.here hx rfl (hb hby at_251) rfl rfl k) ?_
      show own_Go X149 (Q0 Z q0 p1 p2 p3 q4 h0 n0) 4 29 253 #[.val (.long q0), .second, .val (.int p1), .val (.int p2), .val (.int p3), .val (.long q4), .second, .val (.ref b1), .val (.ref b22), .val (.int fr), .val (.int to), .val (.ref b43), .val (.int (p3 &&& (3 : Int32))), .val (.int (to - fr)), .val (.int (1 : Int32))] [(.ref b1), (.ref b43)]
      refine own_st (fun _ k => XS.iload X149.here hx rfl (hb hby at_253) rfl k) ?_
      show own_Go X149 (Q0 Z q0 p1 p2 p3 q4 h0 n0) 4 29 255 #[.val (.long q0), .second, .val (.int p1), .val (.int p2), .val (.int p3), .val (.long q4), .second, .val (.ref b1), .val (.ref b22), .val (.int fr), .val (.int to), .val (.ref b43), .val (.int (p3 &&& (3 : Int32))), .val (.int (to - fr)), .val (.int (1 : Int32))] [(.int fr), (.ref b1), (.ref b43)]
      refine own_st (fun _ k => XS.iload X149.here hx rfl (hb hby at_255) rfl k) ?_
      show own_Go X149 (Q0 Z q0 p1 p2 p3 q4 h0 n0) 4 29 257 #[.val (.long q0), .second, .val (.int p1), .val (.int p2), .val (.int p3), .val (.long q4), .second, .val (.ref b1), .val (.ref b22), .val (.int fr), .val (.int to), .val (.ref b43), .val (.int (p3 &&& (3 : Int32))), .val (.int (to - fr)), .val (.int (1 : Int32))] [(.int (to - fr)), (.int fr), (.ref b1), (.ref b43)]
      refine own_st (fun _ k => XS.iconst X149.here hx rfl (hb hby at_257) k) ?_
      show own_Go X149 (Q0 Z q0 p1 p2 p3 q4 h0 n0) 4 29 258 #[.val (.long q0), .second, .val (.int p1), .val (.int p2), .val (.int p3), .val (.long q4), .second, .val (.ref b1), .val (.ref b22), .val (.int fr), .val (.int to), .val (.ref b43), .val (.int (p3 &&& (3 : Int32))), .val (.int (to - fr)), .val (.int (1 : Int32))] [(.int (1 : Int32)), (.int (to - fr)), (.int fr), (.ref b1), (.ref b43)]
      refine own_callS (W := 0) X149 hx hZ hown (hw _ (List.mem_of_getElem? (i := 27) rfl)) (hw _ (List.mem_of_getElem? (i := 28) rfl)) (hw _ (List.mem_of_getElem? (i := 29) rfl)) (hw _ (List.mem_of_getElem? (i := 30) rfl)) (by decide) (rm5 l Z a0 hw [] b43 b1 fr (to - fr) (1 : Int32) k1 (own_y0 q0) (own_ys (8 : Int32) q0) (own_ys (16 : Int32) q0) (own_ys (24 : Int32) q0) (own_ys (32 : Int32) q0) (own_ys (40 : Int32) q0) T139.heap n0 Z_144 f_143 F139_length F139_bytes F139_start f_141 hB (by decide) ⟨own_b8 _, own_b8 _, own_b8 _, own_b8 _, own_b8 _, own_b8 _⟩) (by decide) (by decide) (by rw [hml]; rfl) [(.ref b43), (.ref b1), (.int fr), (.int (to - fr)), (.int (1 : Int32))] [] (lenOf pd_0_3 rfl) rfl rfl (Nat.le_of_ble_eq_true rfl) (hb hby at_258) e149 (by decide) (by decide) ?_
      rintro _ T153 L153 X153 ⟨rfl, N153q, e153⟩
      have N_154 := Fr.app N_150 N153q
      show own_Go X153 (Q0 Z q0 p1 p2 p3 q4 h0 n0) 4 29 261 #[.val (.long q0), .second, .val (.int p1), .val (.int p2), .val (.int p3), .val (.long q4), .second, .val (.ref b1), .val (.ref b22), .val (.int fr), .val (.int to), .val (.ref b43), .val (.int (p3 &&& (3 : Int32))), .val (.int (to - fr)), .val (.int (1 : Int32))] [(.int (1 : Int32))]
      have c261_155 : ¬ ((1 : Int32) = (0 : Int32)) := (by decide)
      refine own_st (fun _ k => XS.ifNo X153.here hx rfl (hb hby at_261) rfl ((if0 _ _).trans (feq c261_155).1) k) ?_
      show own_Go X153 (Q0 Z q0 p1 p2 p3 q4 h0 n0) 4 29 264 #[.val (.long q0), .second, .val (.int p1), .val (.int p2), .val (.int p3), .val (.long q4), .second, .val (.ref b1), .val (.ref b22), .val (.int fr), .val (.int to), .val (.ref b43), .val (.int (p3 &&& (3 : Int32))), .val (.int (to - fr)), .val (.int (1 : Int32))] []
      refine own_st (fun _ k => XS.iconst X153.here hx rfl (hb hby at_264) k) ?_
      show own_Go X153 (Q0 Z q0 p1 p2 p3 q4 h0 n0) 4 29 265 #[.val (.long q0), .second, .val (.int p1), .val (.int p2), .val (.int p3), .val (.long q4), .second, .val (.ref b1), .val (.ref b22), .val (.int fr), .val (.int to), .val (.ref b43), .val (.int (p3 &&& (3 : Int32))), .val (.int (to - fr)), .val (.int (1 : Int32))] [(.int (1 : Int32))]
      refine own_st (fun _ k => XS.goto X153.here hx rfl (pc0 := 265) (pc' := 269) rfl (hb hby at_265) (by decide) (by decide) k) ?_
      show own_Go X153 (Q0 Z q0 p1 p2 p3 q4 h0 n0) 4 29 269 #[.val (.long q0), .second, .val (.int p1), .val (.int p2), .val (.int p3), .val (.long q4), .second, .val (.ref b1), .val (.ref b22), .val (.int fr), .val (.int to), .val (.ref b43), .val (.int (p3 &&& (3 : Int32))), .val (.int (to - fr)), .val (.int (1 : Int32))] [(.int (1 : Int32))]
      refine own_st (fun _ k => XS.istore X153.here hx rfl (hb hby at_269) rfl (l' := #[.val (.long q0), .second, .val (.int p1), .val (.int p2), .val (.int p3), .val (.long q4), .second, .val (.ref b1), .val (.ref b22), .val (.int fr), .val (.int to), .val (.ref b43), .val (.int (p3 &&& (3 : Int32))), .val (.int (to - fr)), .val (.int (1 : Int32))]) rfl k) ?_
      show own_Go X153 (Q0 Z q0 p1 p2 p3 q4 h0 n0) 4 29 271 #[.val (.long q0), .second, .val (.int p1), .val (.int p2), .val (.int p3), .val (.long q4), .second, .val (.ref b1), .val (.ref b22), .val (.int fr), .val (.int to), .val (.ref b43), .val (.int (p3 &&& (3 : Int32))), .val (.int (to - fr)), .val (.int (1 : Int32))] []
      refine own_st (fun _ k => XS.iload X153.here hx rfl (hb hby at_271) rfl k) ?_
      show own_Go X153 (Q0 Z q0 p1 p2 p3 q4 h0 n0) 4 29 273 #[.val (.long q0), .second, .val (.int p1), .val (.int p2), .val (.int p3), .val (.long q4), .second, .val (.ref b1), .val (.ref b22), .val (.int fr), .val (.int to), .val (.ref b43), .val (.int (p3 &&& (3 : Int32))), .val (.int (to - fr)), .val (.int (1 : Int32))] [(.int (1 : Int32))]
      have c273_156 : ¬ ((1 : Int32) = (0 : Int32)) := (by decide)
      refine own_st (fun _ k => XS.ifNo X153.here hx rfl (hb hby at_273) rfl ((if0 _ _).trans (feq c273_156).1) k) ?_
      show own_Go X153 (Q0 Z q0 p1 p2 p3 q4 h0 n0) 4 29 276 #[.val (.long q0), .second, .val (.int p1), .val (.int p2), .val (.int p3), .val (.long q4), .second, .val (.ref b1), .val (.ref b22), .val (.int fr), .val (.int to), .val (.ref b43), .val (.int (p3 &&& (3 : Int32))), .val (.int (to - fr)), .val (.int (1 : Int32))] []
      refine own_st (fun _ k => XS.aload X153.here hx rfl (hb hby at_276) rfl rfl k) ?_
      show own_Go X153 (Q0 Z q0 p1 p2 p3 q4 h0 n0) 4 29 278 #[.val (.long q0), .second, .val (.int p1), .val (.int p2), .val (.int p3), .val (.long q4), .second, .val (.ref b1), .val (.ref b22), .val (.int fr), .val (.int to), .val (.ref b43), .val (.int (p3 &&& (3 : Int32))), .val (.int (to - fr)), .val (.int (1 : Int32))] [(.ref b43)]
      refine own_st (fun _ k => XS.aload X153.here hx rfl (hb hby at_278) rfl rfl k) ?_
      show own_Go X153 (Q0 Z q0 p1 p2 p3 q4 h0 n0) 4 29 280 #[.val (.long q0), .second, .val (.int p1), .val (.int p2), .val (.int p3), .val (.long q4), .second, .val (.ref b1), .val (.ref b22), .val (.int fr), .val (.int to), .val (.ref b43), .val (.int (p3 &&& (3 : Int32))), .val (.int (to - fr)), .val (.int (1 : Int32))] [(.ref b1), (.ref b43)]
      refine own_st (fun _ k => XS.iload X153.here hx rfl (hb hby at_280) rfl k) ?_
      show own_Go X153 (Q0 Z q0 p1 p2 p3 q4 h0 n0) 4 29 282 #[.val (.long q0), .second, .val (.int p1), .val (.int p2), .val (.int p3), .val (.long q4), .second, .val (.ref b1), .val (.ref b22), .val (.int fr), .val (.int to), .val (.ref b43), .val (.int (p3 &&& (3 : Int32))), .val (.int (to - fr)), .val (.int (1 : Int32))] [(.int fr), (.ref b1), (.ref b43)]
      refine own_st (fun _ k => XS.iload X153.here hx rfl (hb hby at_282) rfl k) ?_
      show own_Go X153 (Q0 Z q0 p1 p2 p3 q4 h0 n0) 4 29 284 #[.val (.long q0), .second, .val (.int p1), .val (.int p2), .val (.int p3), .val (.long q4), .second, .val (.ref b1), .val (.ref b22), .val (.int fr), .val (.int to), .val (.ref b43), .val (.int (p3 &&& (3 : Int32))), .val (.int (to - fr)), .val (.int (1 : Int32))] [(.int (to - fr)), (.int fr), (.ref b1), (.ref b43)]
      refine own_st (fun _ k => XS.iconst X153.here hx rfl (hb hby at_284) k) ?_
      show own_Go X153 (Q0 Z q0 p1 p2 p3 q4 h0 n0) 4 29 285 #[.val (.long q0), .second, .val (.int p1), .val (.int p2), .val (.int p3), .val (.long q4), .second, .val (.ref b1), .val (.ref b22), .val (.int fr), .val (.int to), .val (.ref b43), .val (.int (p3 &&& (3 : Int32))), .val (.int (to - fr)), .val (.int (1 : Int32))] [(.int (2 : Int32)), (.int (to - fr)), (.int fr), (.ref b1), (.ref b43)]
      refine own_callS (W := 0) X153 hx hZ hown (hw _ (List.mem_of_getElem? (i := 27) rfl)) (hw _ (List.mem_of_getElem? (i := 28) rfl)) (hw _ (List.mem_of_getElem? (i := 29) rfl)) (hw _ (List.mem_of_getElem? (i := 30) rfl)) (by decide) (rm5 l Z a0 hw [] b43 b1 fr (to - fr) (2 : Int32) k1 (own_y0 q0) (own_ys (8 : Int32) q0) (own_ys (16 : Int32) q0) (own_ys (24 : Int32) q0) (own_ys (32 : Int32) q0) (own_ys (40 : Int32) q0) T139.heap n0 Z_144 f_143 F139_length F139_bytes F139_start f_141 hB (by decide) ⟨own_b8 _, own_b8 _, own_b8 _, own_b8 _, own_b8 _, own_b8 _⟩) (by decide) (by decide) (by rw [hml]; rfl) [(.ref b43), (.ref b1), (.int fr), (.int (to - fr)), (.int (2 : Int32))] [] (lenOf pd_0_3 rfl) rfl rfl (Nat.le_of_ble_eq_true rfl) (hb hby at_285) e153 (by decide) (by decide) ?_
      rintro _ T157 L157 X157 ⟨rfl, N157q, e157⟩
      have N_158 := Fr.app N_154 N157q
      show own_Go X157 (Q0 Z q0 p1 p2 p3 q4 h0 n0) 4 29 288 #[.val (.long q0), .second, .val (.int p1), .val (.int p2), .val (.int p3), .val (.long q4), .second, .val (.ref b1), .val (.ref b22), .val (.int fr), .val (.int to), .val (.ref b43), .val (.int (p3 &&& (3 : Int32))), .val (.int (to - fr)), .val (.int (1 : Int32))] [(.int (1 : Int32))]
      have c288_159 : ¬ ((1 : Int32) = (0 : Int32)) := (by decide)
      refine own_st (fun _ k => XS.ifNo X157.here hx rfl (hb hby at_288) rfl ((if0 _ _).trans (feq c288_159).1) k) ?_
      show own_Go X157 (Q0 Z q0 p1 p2 p3 q4 h0 n0) 4 29 291 #[.val (.long q0), .second, .val (.int p1), .val (.int p2), .val (.int p3), .val (.long q4), .second, .val (.ref b1), .val (.ref b22), .val (.int fr), .val (.int to), .val (.ref b43), .val (.int (p3 &&& (3 : Int32))), .val (.int (to - fr)), .val (.int (1 : Int32))] []
      refine own_st (fun _ k => XS.iconst X157.here hx rfl (hb hby at_291) k) ?_
      show own_Go X157 (Q0 Z q0 p1 p2 p3 q4 h0 n0) 4 29 292 #[.val (.long q0), .second, .val (.int p1), .val (.int p2), .val (.int p3), .val (.long q4), .second, .val (.ref b1), .val (.ref b22), .val (.int fr), .val (.int to), .val (.ref b43), .val (.int (p3 &&& (3 : Int32))), .val (.int (to - fr)), .val (.int (1 : Int32))] [(.int (1 : Int32))]
      refine own_st (fun _ k => XS.goto X157.here hx rfl (pc0 := 292) (pc' := 296) rfl (hb hby at_292) (by decide) (by decide) k) ?_
      show own_Go X157 (Q0 Z q0 p1 p2 p3 q4 h0 n0) 4 29 296 #[.val (.long q0), .second, .val (.int p1), .val (.int p2), .val (.int p3), .val (.long q4), .second, .val (.ref b1), .val (.ref b22), .val (.int fr), .val (.int to), .val (.ref b43), .val (.int (p3 &&& (3 : Int32))), .val (.int (to - fr)), .val (.int (1 : Int32))] [(.int (1 : Int32))]
      refine own_st (fun _ k => XS.istore X157.here hx rfl (hb hby at_296) rfl (l' := #[.val (.long q0), .second, .val (.int p1), .val (.int p2), .val (.int p3), .val (.long q4), .second, .val (.ref b1), .val (.ref b22), .val (.int fr), .val (.int to), .val (.ref b43), .val (.int (p3 &&& (3 : Int32))), .val (.int (to - fr)), .val (.int (1 : Int32))]) rfl k) ?_
      show own_Go X157 (Q0 Z q0 p1 p2 p3 q4 h0 n0) 4 29 298 #[.val (.long q0), .second, .val (.int p1), .val (.int p2), .val (.int p3), .val (.long q4), .second, .val (.ref b1), .val (.ref b22), .val (.int fr), .val (.int to), .val (.ref b43), .val (.int (p3 &&& (3 : Int32))), .val (.int (to - fr)), .val (.int (1 : Int32))] []
      refine own_st (fun _ k => XS.iload X157.here hx rfl (hb hby at_298) rfl k) ?_
      show own_Go X157 (Q0 Z q0 p1 p2 p3 q4 h0 n0) 4 29 300 #[.val (.long q0), .second, .val (.int p1), .val (.int p2), .val (.int p3), .val (.long q4), .second, .val (.ref b1), .val (.ref b22), .val (.int fr), .val (.int to), .val (.ref b43), .val (.int (p3 &&& (3 : Int32))), .val (.int (to - fr)), .val (.int (1 : Int32))] [(.int (1 : Int32))]
      have c300_160 : ¬ ((1 : Int32) = (0 : Int32)) := (by decide)
      refine own_st (fun _ k => XS.ifNo X157.here hx rfl (hb hby at_300) rfl ((if0 _ _).trans (feq c300_160).1) k) ?_
      show own_Go X157 (Q0 Z q0 p1 p2 p3 q4 h0 n0) 4 29 303 #[.val (.long q0), .second, .val (.int p1), .val (.int p2), .val (.int p3), .val (.long q4), .second, .val (.ref b1), .val (.ref b22), .val (.int fr), .val (.int to), .val (.ref b43), .val (.int (p3 &&& (3 : Int32))), .val (.int (to - fr)), .val (.int (1 : Int32))] []
      refine own_st (fun _ k => XS.aload X157.here hx rfl (hb hby at_303) rfl rfl k) ?_
      show own_Go X157 (Q0 Z q0 p1 p2 p3 q4 h0 n0) 4 29 305 #[.val (.long q0), .second, .val (.int p1), .val (.int p2), .val (.int p3), .val (.long q4), .second, .val (.ref b1), .val (.ref b22), .val (.int fr), .val (.int to), .val (.ref b43), .val (.int (p3 &&& (3 : Int32))), .val (.int (to - fr)), .val (.int (1 : Int32))] [(.ref b43)]
      refine own_st (fun _ k => XS.aload X157.here hx rfl (hb hby at_305) rfl rfl k) ?_
      show own_Go X157 (Q0 Z q0 p1 p2 p3 q4 h0 n0) 4 29 307 #[.val (.long q0), .second, .val (.int p1), .val (.int p2), .val (.int p3), .val (.long q4), .second, .val (.ref b1), .val (.ref b22), .val (.int fr), .val (.int to), .val (.ref b43), .val (.int (p3 &&& (3 : Int32))), .val (.int (to - fr)), .val (.int (1 : Int32))] [(.ref b1), (.ref b43)]
      refine own_st (fun _ k => XS.iload X157.here hx rfl (hb hby at_307) rfl k) ?_
      show own_Go X157 (Q0 Z q0 p1 p2 p3 q4 h0 n0) 4 29 309 #[.val (.long q0), .second, .val (.int p1), .val (.int p2), .val (.int p3), .val (.long q4), .second, .val (.ref b1), .val (.ref b22), .val (.int fr), .val (.int to), .val (.ref b43), .val (.int (p3 &&& (3 : Int32))), .val (.int (to - fr)), .val (.int (1 : Int32))] [(.int fr), (.ref b1), (.ref b43)]
      refine own_st (fun _ k => XS.iload X157.here hx rfl (hb hby at_309) rfl k) ?_
      show own_Go X157 (Q0 Z q0 p1 p2 p3 q4 h0 n0) 4 29 311 #[.val (.long q0), .second, .val (.int p1), .val (.int p2), .val (.int p3), .val (.long q4), .second, .val (.ref b1), .val (.ref b22), .val (.int fr), .val (.int to), .val (.ref b43), .val (.int (p3 &&& (3 : Int32))), .val (.int (to - fr)), .val (.int (1 : Int32))] [(.int (to - fr)), (.int fr), (.ref b1), (.ref b43)]
      refine own_st (fun _ k => XS.iconst X157.here hx rfl (hb hby at_311) k) ?_
      show own_Go X157 (Q0 Z q0 p1 p2 p3 q4 h0 n0) 4 29 312 #[.val (.long q0), .second, .val (.int p1), .val (.int p2), .val (.int p3), .val (.long q4), .second, .val (.ref b1), .val (.ref b22), .val (.int fr), .val (.int to), .val (.ref b43), .val (.int (p3 &&& (3 : Int32))), .val (.int (to - fr)), .val (.int (1 : Int32))] [(.int (3 : Int32)), (.int (to - fr)), (.int fr), (.ref b1), (.ref b43)]
      refine own_callS (W := 0) X157 hx hZ hown (hw _ (List.mem_of_getElem? (i := 27) rfl)) (hw _ (List.mem_of_getElem? (i := 28) rfl)) (hw _ (List.mem_of_getElem? (i := 29) rfl)) (hw _ (List.mem_of_getElem? (i := 30) rfl)) (by decide) (rm5 l Z a0 hw [] b43 b1 fr (to - fr) (3 : Int32) k1 (own_y0 q0) (own_ys (8 : Int32) q0) (own_ys (16 : Int32) q0) (own_ys (24 : Int32) q0) (own_ys (32 : Int32) q0) (own_ys (40 : Int32) q0) T139.heap n0 Z_144 f_143 F139_length F139_bytes F139_start f_141 hB (by decide) ⟨own_b8 _, own_b8 _, own_b8 _, own_b8 _, own_b8 _, own_b8 _⟩) (by decide) (by decide) (by rw [hml]; rfl) [(.ref b43), (.ref b1), (.int fr), (.int (to - fr)), (.int (3 : Int32))] [] (lenOf pd_0_3 rfl) rfl rfl (Nat.le_of_ble_eq_true rfl) (hb hby at_312) e157 (by decide) (by decide) ?_
      rintro _ T161 L161 X161 ⟨rfl, N161q, e161⟩
      have N_162 := Fr.app N_158 N161q
      show own_Go X161 (Q0 Z q0 p1 p2 p3 q4 h0 n0) 4 29 315 #[.val (.long q0), .second, .val (.int p1), .val (.int p2), .val (.int p3), .val (.long q4), .second, .val (.ref b1), .val (.ref b22), .val (.int fr), .val (.int to), .val (.ref b43), .val (.int (p3 &&& (3 : Int32))), .val (.int (to - fr)), .val (.int (1 : Int32))] [(.int (1 : Int32))]
      have c315_163 : ¬ ((1 : Int32) = (0 : Int32)) := (by decide)
      refine own_st (fun _ k => XS.ifNo X161.here hx rfl (hb hby at_315) rfl ((if0 _ _).trans (feq c315_163).1) k) ?_
      show own_Go X161 (Q0 Z q0 p1 p2 p3 q4 h0 n0) 4 29 318 #[.val (.long q0), .second, .val (.int p1), .val (.int p2), .val (.int p3), .val (.long q4), .second, .val (.ref b1), .val (.ref b22), .val (.int fr), .val (.int to), .val (.ref b43), .val (.int (p3 &&& (3 : Int32))), .val (.int (to - fr)), .val (.int (1 : Int32))] []
      refine own_st (fun _ k => XS.iconst X161.here hx rfl (hb hby at_318) k) ?_
      show own_Go X161 (Q0 Z q0 p1 p2 p3 q4 h0 n0) 4 29 319 #[.val (.long q0), .second, .val (.int p1), .val (.int p2), .val (.int p3), .val (.long q4), .second, .val (.ref b1), .val (.ref b22), .val (.int fr), .val (.int to), .val (.ref b43), .val (.int (p3 &&& (3 : Int32))), .val (.int (to - fr)), .val (.int (1 : Int32))] [(.int (1 : Int32))]
      refine own_st (fun _ k => XS.goto X161.here hx rfl (pc0 := 319) (pc' := 323) rfl (hb hby at_319) (by decide) (by decide) k) ?_
      show own_Go X161 (Q0 Z q0 p1 p2 p3 q4 h0 n0) 4 29 323 #[.val (.long q0), .second, .val (.int p1), .val (.int p2), .val (.int p3), .val (.long q4), .second, .val (.ref b1), .val (.ref b22), .val (.int fr), .val (.int to), .val (.ref b43), .val (.int (p3 &&& (3 : Int32))), .val (.int (to - fr)), .val (.int (1 : Int32))] [(.int (1 : Int32))]
      refine own_st (fun _ k => XS.istore X161.here hx rfl (hb hby at_323) rfl (l' := #[.val (.long q0), .second, .val (.int p1), .val (.int p2), .val (.int p3), .val (.long q4), .second, .val (.ref b1), .val (.ref b22), .val (.int fr), .val (.int to), .val (.ref b43), .val (.int (p3 &&& (3 : Int32))), .val (.int (to - fr)), .val (.int (1 : Int32))]) rfl k) ?_
      show own_Go X161 (Q0 Z q0 p1 p2 p3 q4 h0 n0) 4 29 325 #[.val (.long q0), .second, .val (.int p1), .val (.int p2), .val (.int p3), .val (.long q4), .second, .val (.ref b1), .val (.ref b22), .val (.int fr), .val (.int to), .val (.ref b43), .val (.int (p3 &&& (3 : Int32))), .val (.int (to - fr)), .val (.int (1 : Int32))] []
      refine own_st (fun _ k => XS.iload X161.here hx rfl (hb hby at_325) rfl k) ?_
      show own_Go X161 (Q0 Z q0 p1 p2 p3 q4 h0 n0) 4 29 327 #[.val (.long q0), .second, .val (.int p1), .val (.int p2), .val (.int p3), .val (.long q4), .second, .val (.ref b1), .val (.ref b22), .val (.int fr), .val (.int to), .val (.ref b43), .val (.int (p3 &&& (3 : Int32))), .val (.int (to - fr)), .val (.int (1 : Int32))] [(.int (1 : Int32))]
      have c327_164 : ¬ ((1 : Int32) = (0 : Int32)) := (by decide)
      refine own_st (fun _ k => XS.ifNo X161.here hx rfl (hb hby at_327) rfl ((if0 _ _).trans (feq c327_164).1) k) ?_
      show own_Go X161 (Q0 Z q0 p1 p2 p3 q4 h0 n0) 4 29 330 #[.val (.long q0), .second, .val (.int p1), .val (.int p2), .val (.int p3), .val (.long q4), .second, .val (.ref b1), .val (.ref b22), .val (.int fr), .val (.int to), .val (.ref b43), .val (.int (p3 &&& (3 : Int32))), .val (.int (to - fr)), .val (.int (1 : Int32))] []
      refine own_st (fun _ k => XS.aload X161.here hx rfl (hb hby at_330) rfl rfl k) ?_
      show own_Go X161 (Q0 Z q0 p1 p2 p3 q4 h0 n0) 4 29 332 #[.val (.long q0), .second, .val (.int p1), .val (.int p2), .val (.int p3), .val (.long q4), .second, .val (.ref b1), .val (.ref b22), .val (.int fr), .val (.int to), .val (.ref b43), .val (.int (p3 &&& (3 : Int32))), .val (.int (to - fr)), .val (.int (1 : Int32))] [(.ref b43)]
      refine own_st (fun _ k => XS.aload X161.here hx rfl (hb hby at_332) rfl rfl k) ?_
      show own_Go X161 (Q0 Z q0 p1 p2 p3 q4 h0 n0) 4 29 334 #[.val (.long q0), .second, .val (.int p1), .val (.int p2), .val (.int p3), .val (.long q4), .second, .val (.ref b1), .val (.ref b22), .val (.int fr), .val (.int to), .val (.ref b43), .val (.int (p3 &&& (3 : Int32))), .val (.int (to - fr)), .val (.int (1 : Int32))] [(.ref b1), (.ref b43)]
      refine own_st (fun _ k => XS.iload X161.here hx rfl (hb hby at_334) rfl k) ?_
      show own_Go X161 (Q0 Z q0 p1 p2 p3 q4 h0 n0) 4 29 336 #[.val (.long q0), .second, .val (.int p1), .val (.int p2), .val (.int p3), .val (.long q4), .second, .val (.ref b1), .val (.ref b22), .val (.int fr), .val (.int to), .val (.ref b43), .val (.int (p3 &&& (3 : Int32))), .val (.int (to - fr)), .val (.int (1 : Int32))] [(.int fr), (.ref b1), (.ref b43)]
      refine own_st (fun _ k => XS.iload X161.here hx rfl (hb hby at_336) rfl k) ?_
      show own_Go X161 (Q0 Z q0 p1 p2 p3 q4 h0 n0) 4 29 338 #[.val (.long q0), .second, .val (.int p1), .val (.int p2), .val (.int p3), .val (.long q4), .second, .val (.ref b1), .val (.ref b22), .val (.int fr), .val (.int to), .val (.ref b43), .val (.int (p3 &&& (3 : Int32))), .val (.int (to - fr)), .val (.int (1 : Int32))] [(.int (to - fr)), (.int fr), (.ref b1), (.ref b43)]
      refine own_st (fun _ k => XS.iconst X161.here hx rfl (hb hby at_338) k) ?_
      show own_Go X161 (Q0 Z q0 p1 p2 p3 q4 h0 n0) 4 29 339 #[.val (.long q0), .second, .val (.int p1), .val (.int p2), .val (.int p3), .val (.long q4), .second, .val (.ref b1), .val (.ref b22), .val (.int fr), .val (.int to), .val (.ref b43), .val (.int (p3 &&& (3 : Int32))), .val (.int (to - fr)), .val (.int (1 : Int32))] [(.int (4 : Int32)), (.int (to - fr)), (.int fr), (.ref b1), (.ref b43)]
      refine own_callS (W := 0) X161 hx hZ hown (hw _ (List.mem_of_getElem? (i := 27) rfl)) (hw _ (List.mem_of_getElem? (i := 28) rfl)) (hw _ (List.mem_of_getElem? (i := 29) rfl)) (hw _ (List.mem_of_getElem? (i := 30) rfl)) (by decide) (rm5 l Z a0 hw [] b43 b1 fr (to - fr) (4 : Int32) k1 (own_y0 q0) (own_ys (8 : Int32) q0) (own_ys (16 : Int32) q0) (own_ys (24 : Int32) q0) (own_ys (32 : Int32) q0) (own_ys (40 : Int32) q0) T139.heap n0 Z_144 f_143 F139_length F139_bytes F139_start f_141 hB (by decide) ⟨own_b8 _, own_b8 _, own_b8 _, own_b8 _, own_b8 _, own_b8 _⟩) (by decide) (by decide) (by rw [hml]; rfl) [(.ref b43), (.ref b1), (.int fr), (.int (to - fr)), (.int (4 : Int32))] [] (lenOf pd_0_3 rfl) rfl rfl (Nat.le_of_ble_eq_true rfl) (hb hby at_339) e161 (by decide) (by decide) ?_
      rintro _ T165 L165 X165 ⟨rfl, N165q, e165⟩
      have N_166 := Fr.app N_162 N165q
      show own_Go X165 (Q0 Z q0 p1 p2 p3 q4 h0 n0) 4 29 342 #[.val (.long q0), .second, .val (.int p1), .val (.int p2), .val (.int p3), .val (.long q4), .second, .val (.ref b1), .val (.ref b22), .val (.int fr), .val (.int to), .val (.ref b43), .val (.int (p3 &&& (3 : Int32))), .val (.int (to - fr)), .val (.int (1 : Int32))] [(.int (1 : Int32))]
      have c342_167 : ¬ ((1 : Int32) = (0 : Int32)) := (by decide)
      refine own_st (fun _ k => XS.ifNo X165.here hx rfl (hb hby at_342) rfl ((if0 _ _).trans (feq c342_167).1) k) ?_
      show own_Go X165 (Q0 Z q0 p1 p2 p3 q4 h0 n0) 4 29 345 #[.val (.long q0), .second, .val (.int p1), .val (.int p2), .val (.int p3), .val (.long q4), .second, .val (.ref b1), .val (.ref b22), .val (.int fr), .val (.int to), .val (.ref b43), .val (.int (p3 &&& (3 : Int32))), .val (.int (to - fr)), .val (.int (1 : Int32))] []
      refine own_st (fun _ k => XS.iconst X165.here hx rfl (hb hby at_345) k) ?_
      show own_Go X165 (Q0 Z q0 p1 p2 p3 q4 h0 n0) 4 29 346 #[.val (.long q0), .second, .val (.int p1), .val (.int p2), .val (.int p3), .val (.long q4), .second, .val (.ref b1), .val (.ref b22), .val (.int fr), .val (.int to), .val (.ref b43), .val (.int (p3 &&& (3 : Int32))), .val (.int (to - fr)), .val (.int (1 : Int32))] [(.int (1 : Int32))]
      refine own_st (fun _ k => XS.goto X165.here hx rfl (pc0 := 346) (pc' := 350) rfl (hb hby at_346) (by decide) (by decide) k) ?_
      show own_Go X165 (Q0 Z q0 p1 p2 p3 q4 h0 n0) 4 29 350 #[.val (.long q0), .second, .val (.int p1), .val (.int p2), .val (.int p3), .val (.long q4), .second, .val (.ref b1), .val (.ref b22), .val (.int fr), .val (.int to), .val (.ref b43), .val (.int (p3 &&& (3 : Int32))), .val (.int (to - fr)), .val (.int (1 : Int32))] [(.int (1 : Int32))]
      refine own_st (fun _ k => XS.istore X165.here hx rfl (hb hby at_350) rfl (l' := #[.val (.long q0), .second, .val (.int p1), .val (.int p2), .val (.int p3), .val (.long q4), .second, .val (.ref b1), .val (.ref b22), .val (.int fr), .val (.int to), .val (.ref b43), .val (.int (p3 &&& (3 : Int32))), .val (.int (to - fr)), .val (.int (1 : Int32))]) rfl k) ?_
      show own_Go X165 (Q0 Z q0 p1 p2 p3 q4 h0 n0) 4 29 352 #[.val (.long q0), .second, .val (.int p1), .val (.int p2), .val (.int p3), .val (.long q4), .second, .val (.ref b1), .val (.ref b22), .val (.int fr), .val (.int to), .val (.ref b43), .val (.int (p3 &&& (3 : Int32))), .val (.int (to - fr)), .val (.int (1 : Int32))] []
      refine own_st (fun _ k => XS.iload X165.here hx rfl (hb hby at_352) rfl k) ?_
      show own_Go X165 (Q0 Z q0 p1 p2 p3 q4 h0 n0) 4 29 354 #[.val (.long q0), .second, .val (.int p1), .val (.int p2), .val (.int p3), .val (.long q4), .second, .val (.ref b1), .val (.ref b22), .val (.int fr), .val (.int to), .val (.ref b43), .val (.int (p3 &&& (3 : Int32))), .val (.int (to - fr)), .val (.int (1 : Int32))] [(.int (1 : Int32))]
      have c354_168 : ¬ ((1 : Int32) = (0 : Int32)) := (by decide)
      refine own_st (fun _ k => XS.ifNo X165.here hx rfl (hb hby at_354) rfl ((if0 _ _).trans (feq c354_168).1) k) ?_
      show own_Go X165 (Q0 Z q0 p1 p2 p3 q4 h0 n0) 4 29 357 #[.val (.long q0), .second, .val (.int p1), .val (.int p2), .val (.int p3), .val (.long q4), .second, .val (.ref b1), .val (.ref b22), .val (.int fr), .val (.int to), .val (.ref b43), .val (.int (p3 &&& (3 : Int32))), .val (.int (to - fr)), .val (.int (1 : Int32))] []
      refine own_st (fun _ k => XS.aload X165.here hx rfl (hb hby at_357) rfl rfl k) ?_
      show own_Go X165 (Q0 Z q0 p1 p2 p3 q4 h0 n0) 4 29 359 #[.val (.long q0), .second, .val (.int p1), .val (.int p2), .val (.int p3), .val (.long q4), .second, .val (.ref b1), .val (.ref b22), .val (.int fr), .val (.int to), .val (.ref b43), .val (.int (p3 &&& (3 : Int32))), .val (.int (to - fr)), .val (.int (1 : Int32))] [(.ref b43)]
      refine own_st (fun _ k => XS.aload X165.here hx rfl (hb hby at_359) rfl rfl k) ?_
      show own_Go X165 (Q0 Z q0 p1 p2 p3 q4 h0 n0) 4 29 361 #[.val (.long q0), .second, .val (.int p1), .val (.int p2), .val (.int p3), .val (.long q4), .second, .val (.ref b1), .val (.ref b22), .val (.int fr), .val (.int to), .val (.ref b43), .val (.int (p3 &&& (3 : Int32))), .val (.int (to - fr)), .val (.int (1 : Int32))] [(.ref b1), (.ref b43)]
      refine own_st (fun _ k => XS.iload X165.here hx rfl (hb hby at_361) rfl k) ?_
      show own_Go X165 (Q0 Z q0 p1 p2 p3 q4 h0 n0) 4 29 363 #[.val (.long q0), .second, .val (.int p1), .val (.int p2), .val (.int p3), .val (.long q4), .second, .val (.ref b1), .val (.ref b22), .val (.int fr), .val (.int to), .val (.ref b43), .val (.int (p3 &&& (3 : Int32))), .val (.int (to - fr)), .val (.int (1 : Int32))] [(.int fr), (.ref b1), (.ref b43)]
      refine own_st (fun _ k => XS.iload X165.here hx rfl (hb hby at_363) rfl k) ?_
      show own_Go X165 (Q0 Z q0 p1 p2 p3 q4 h0 n0) 4 29 365 #[.val (.long q0), .second, .val (.int p1), .val (.int p2), .val (.int p3), .val (.long q4), .second, .val (.ref b1), .val (.ref b22), .val (.int fr), .val (.int to), .val (.ref b43), .val (.int (p3 &&& (3 : Int32))), .val (.int (to - fr)), .val (.int (1 : Int32))] [(.int (to - fr)), (.int fr), (.ref b1), (.ref b43)]
      refine own_st (fun _ k => XS.iconst X165.here hx rfl (hb hby at_365) k) ?_
      show own_Go X165 (Q0 Z q0 p1 p2 p3 q4 h0 n0) 4 29 366 #[.val (.long q0), .second, .val (.int p1), .val (.int p2), .val (.int p3), .val (.long q4), .second, .val (.ref b1), .val (.ref b22), .val (.int fr), .val (.int to), .val (.ref b43), .val (.int (p3 &&& (3 : Int32))), .val (.int (to - fr)), .val (.int (1 : Int32))] [(.int (5 : Int32)), (.int (to - fr)), (.int fr), (.ref b1), (.ref b43)]
      refine own_callS (W := 0) X165 hx hZ hown (hw _ (List.mem_of_getElem? (i := 27) rfl)) (hw _ (List.mem_of_getElem? (i := 28) rfl)) (hw _ (List.mem_of_getElem? (i := 29) rfl)) (hw _ (List.mem_of_getElem? (i := 30) rfl)) (by decide) (rm5 l Z a0 hw [] b43 b1 fr (to - fr) (5 : Int32) k1 (own_y0 q0) (own_ys (8 : Int32) q0) (own_ys (16 : Int32) q0) (own_ys (24 : Int32) q0) (own_ys (32 : Int32) q0) (own_ys (40 : Int32) q0) T139.heap n0 Z_144 f_143 F139_length F139_bytes F139_start f_141 hB (by decide) ⟨own_b8 _, own_b8 _, own_b8 _, own_b8 _, own_b8 _, own_b8 _⟩) (by decide) (by decide) (by rw [hml]; rfl) [(.ref b43), (.ref b1), (.int fr), (.int (to - fr)), (.int (5 : Int32))] [] (lenOf pd_0_3 rfl) rfl rfl (Nat.le_of_ble_eq_true rfl) (hb hby at_366) e165 (by decide) (by decide) ?_
      rintro _ T169 L169 X169 ⟨rfl, N169q, e169⟩
      have N_170 := Fr.app N_166 N169q
      show own_Go X169 (Q0 Z q0 p1 p2 p3 q4 h0 n0) 4 29 369 #[.val (.long q0), .second, .val (.int p1), .val (.int p2), .val (.int p3), .val (.long q4), .second, .val (.ref b1), .val (.ref b22), .val (.int fr), .val (.int to), .val (.ref b43), .val (.int (p3 &&& (3 : Int32))), .val (.int (to - fr)), .val (.int (1 : Int32))] [(.int (1 : Int32))]
      have c369_171 : ¬ ((1 : Int32) = (0 : Int32)) := (by decide)
      refine own_st (fun _ k => XS.ifNo X169.here hx rfl (hb hby at_369) rfl ((if0 _ _).trans (feq c369_171).1) k) ?_
      show own_Go X169 (Q0 Z q0 p1 p2 p3 q4 h0 n0) 4 29 372 #[.val (.long q0), .second, .val (.int p1), .val (.int p2), .val (.int p3), .val (.long q4), .second, .val (.ref b1), .val (.ref b22), .val (.int fr), .val (.int to), .val (.ref b43), .val (.int (p3 &&& (3 : Int32))), .val (.int (to - fr)), .val (.int (1 : Int32))] []
      refine own_st (fun _ k => XS.iconst X169.here hx rfl (hb hby at_372) k) ?_
      show own_Go X169 (Q0 Z q0 p1 p2 p3 q4 h0 n0) 4 29 373 #[.val (.long q0), .second, .val (.int p1), .val (.int p2), .val (.int p3), .val (.long q4), .second, .val (.ref b1), .val (.ref b22), .val (.int fr), .val (.int to), .val (.ref b43), .val (.int (p3 &&& (3 : Int32))), .val (.int (to - fr)), .val (.int (1 : Int32))] [(.int (1 : Int32))]
      refine own_st (fun _ k => XS.goto X169.here hx rfl (pc0 := 373) (pc' := 377) rfl (hb hby at_373) (by decide) (by decide) k) ?_
      show own_Go X169 (Q0 Z q0 p1 p2 p3 q4 h0 n0) 4 29 377 #[.val (.long q0), .second, .val (.int p1), .val (.int p2), .val (.int p3), .val (.long q4), .second, .val (.ref b1), .val (.ref b22), .val (.int fr), .val (.int to), .val (.ref b43), .val (.int (p3 &&& (3 : Int32))), .val (.int (to - fr)), .val (.int (1 : Int32))] [(.int (1 : Int32))]
      refine own_st (fun _ k => XS.istore X169.here hx rfl (hb hby at_377) rfl (l' := #[.val (.long q0), .second, .val (.int p1), .val (.int p2), .val (.int p3), .val (.long q4), .second, .val (.ref b1), .val (.ref b22), .val (.int fr), .val (.int to), .val (.ref b43), .val (.int (p3 &&& (3 : Int32))), .val (.int (to - fr)), .val (.int (1 : Int32))]) rfl k) ?_
      show own_Go X169 (Q0 Z q0 p1 p2 p3 q4 h0 n0) 4 29 379 #[.val (.long q0), .second, .val (.int p1), .val (.int p2), .val (.int p3), .val (.long q4), .second, .val (.ref b1), .val (.ref b22), .val (.int fr), .val (.int to), .val (.ref b43), .val (.int (p3 &&& (3 : Int32))), .val (.int (to - fr)), .val (.int (1 : Int32))] []
      refine own_st (fun _ k => XS.iload X169.here hx rfl (hb hby at_379) rfl k) ?_
      show own_Go X169 (Q0 Z q0 p1 p2 p3 q4 h0 n0) 4 29 381 #[.val (.long q0), .second, .val (.int p1), .val (.int p2), .val (.int p3), .val (.long q4), .second, .val (.ref b1), .val (.ref b22), .val (.int fr), .val (.int to), .val (.ref b43), .val (.int (p3 &&& (3 : Int32))), .val (.int (to - fr)), .val (.int (1 : Int32))] [(.int (1 : Int32))]
      refine own_retN X169 hx Bd.returns (by simp) hlk e169 (hb hby at_381) (by decide) (by decide) ?_
      exact ⟨rfl, N_170⟩
set_option maxRecDepth 65536 in
set_option maxHeartbeats 40000000 in
theorem comes_1 {Post : Tables → Env → Array Value → State → Outcome → State → Prop} (hpost : ∀ tb e args s v u, (limb_1_1.after args s (.returned v) u = true ∧ limb_1_2.after args s (.returned v) u = true ∧ True) → FrameEnd s (.returned v) u (Jvm.fieldLocs frame_1_writes args s ++ Jvm.arrayLocs frame_1_arrays args s ++ Jvm.staticLocs frame_1_statics s) 16 128 → Post tb e args s (.returned v) u) :
    ArmFor flags0 classFile x code maxLocals ret World_1 tables_1 room_1 Calls_1 rest_1 Pre_1 Post := by
  intro l hfl _ _ p e ha hc hk s m args below hf hA hF happ hP
  obtain ⟨hcalls, hrest, hpre⟩ := hP
  obtain ⟨-, -, -, hnamed, -, -, -, hat⟩ := (Spec.applies_iff hf).mp happ
  obtain ⟨hg, hn⟩ := and_e (Cond.before_iff.mp (show (Jvm.Cond.and given_1 narrow_1).before args s = true from hpre))
  obtain ⟨g1, g2⟩ := and_e hg
  obtain ⟨g3, g4⟩ := and_e g2
  obtain ⟨g5, g6⟩ := and_e g4
  obtain ⟨g7, g8⟩ := and_e g6
  obtain ⟨g9, g10⟩ := and_e g8
  obtain ⟨w0, w1, w2, w3, w4, rfl⟩ : ∃ w0 w1 w2 w3 w4 : Value, args = #[w0, w1, w2, w3, w4] := by
    have hs : args.size = 5 := by simpa [Cond.value, given_1] using g1
    obtain ⟨L⟩ := args
    match L, hs with
    | [w0, w1, w2, w3, w4], _ => exact ⟨w0, w1, w2, w3, w4, rfl⟩
  have hw := fun d (hd : d ∈ tables_1) => atoms_spec (ws := Jvm.Cond.code x code maxLocals ret :: tables_1) hat d (List.mem_cons_of_mem _ hd)
  obtain ⟨i0, ei0⟩ := isL_v g3
  obtain rfl : w0 = (.long i0) := Option.some.inj ei0
  obtain ⟨i1, ei1⟩ := is_v g5
  obtain rfl : w1 = (.int i1) := Option.some.inj ei1
  obtain ⟨i2, ei2⟩ := is_v g7
  obtain rfl : w2 = (.int i2) := Option.some.inj ei2
  obtain ⟨i3, ei3⟩ := is_v g9
  obtain rfl : w3 = (.int i3) := Option.some.inj ei3
  obtain ⟨i4, ei4⟩ := isL_v g10
  obtain rfl : w4 = (.long i4) := Option.some.inj ei4
  obtain ⟨n, o, h1, h2, h3, _, L, rfl, ⟨rfl, N⟩, hq⟩ := rm0 l s _ hw tables_1 i0 i1 i2 i3 i4 s.heap s.heap.size (Nat.le_refl _) p e ha hc hk s m _ below hf ((Spec.applies_iff_loose hf).mp happ).1 ⟨rfl, State.Warmed39.refl s, rfl⟩ trivial
  refine ⟨n, _, h1, h2, h3, hpost _ _ _ _ _ _ ⟨Cond.after_iff.mpr rfl, Cond.after_iff.mpr (eq_i res_at (Term.int_eval (1)) rfl), trivial⟩ ⟨hq.1, hq.2.1, (hq.2.2.sift fun y hy => Or.inr (N y hy)).mono (by decide) (by decide)⟩⟩
theorem main_1_1 : Claimed_1_1 := comes_1 fun _ _ _ _ _ _ h hF => ⟨h.1, hF⟩
theorem main_1_2 : Claimed_1_2 := comes_1 fun _ _ _ _ _ _ h hF => ⟨h.2.1, hF⟩
end Jvm.Pilot.@@N@@
namespace Jvm.Pilot.@@N@@
open Jvm Jvm.ClassFile Sem Op Lib Jvm.Free Jvm.Stand Jvm.Pilot.@@N@@.Jvm.D
/-! MADE BY PROGRAM (witnessworld.py) out of the Statement's table words and the real class files: 11 classes; the members and pool entries that the words name. The judged class is class 1, her method 2. -/
namespace start1
open Jvm.ClassFile
def u (s : String) : CpInfo := .utf8 (stringToUtf16 s)
/-- a pool by its gaps: so many unusable entries, then the entry; so many at the end -/
def gap : Nat → List CpInfo → List CpInfo
  | 0, r => r
  | n + 1, r => .unusable :: gap n r
def poolList (es : List (Nat × CpInfo)) (last : Nat) : List CpInfo := es.foldr (fun e r => gap e.1 (e.2 :: r)) (gap last [])
def pool (es : List (Nat × CpInfo)) (last : Nat) : Array CpInfo := ⟨poolList es last⟩
def fileOf (pool : Array CpInfo) (this : Nat) (attrs : Array Attribute := #[]) (ms : Array MethodInfo := #[]) (fl : Nat := 33) (sup : Nat := 0) (ifs : Array Nat := #[]) (fds : Array FieldInfo := #[]) : ClassFile where
  minorVersion := 0
  majorVersion := 65
  constantPool := pool
  accessFlags := fl
  thisClass := this
  superClass := sup
  interfaces := ifs
  fields := fds
  methods := ms
  attributes := attrs
def plain (name : String) (sup : Option ClassId) : Class where
  name := name
  kind := .ordinary
  loader := none
  accessFlags := 33
  super := sup
  interfaces := #[]
  cf := none
  fields := #[]
  methods := #[]
  instanceTypes := #[]
  staticTypes := #[]
  resolved := #[]
  callSites := []
  init := .initialized
  statics := none
  mirror := none

def pool0 : Array CpInfo := pool [(5, u "<init>"), (0, u "()V"), (1, .class_ 10), (1, u "java/lang/Object")] 113

def k0c0 : Code := { maxStack := 0, maxLocals := 1, code := object_method_1_code, exceptionTable := #[], attributes := #[] }
def k0m0 : Method := { name := "<init>", desc := "()V", sig := { parameters := [], returnType := none }, accessFlags := 1, code := some k0c0 }
/-- java/lang/Object -/
def k0 : Class := { plain "java/lang/Object" none with
  accessFlags := 33
  interfaces := #[]
  cf := some (fileOf pool0 8 #[] #[{ accessFlags := 1, nameIndex := 5, descriptorIndex := 6, attributes := #[] }] 33 0 #[] #[])
  fields := #[]
  methods := #[k0m0]
  instanceTypes := #[]
  staticTypes := #[]
  resolved := Array.replicate 124 none
  statics := none }

def pool1 : Array CpInfo := pool [(2, .class_ 4), (0, .nameAndType 5 6), (0, u "java/lang/Object"), (0, u "<init>"), (0, u "()V"), (0, .methodref 8 9), (0, .class_ 10), (0, .nameAndType 11 12), (0, u "com/example/stopbit/stopbit/ByteVector"), (0, u "byteAt"), (0, u "(I)B"), (0, .integer 2147483647), (0, .methodref 8 3), (0, .methodref 8 16), (0, .nameAndType 17 18), (0, u "view"), (0, u "([BII)V"), (0, .methodref 8 20), (0, .nameAndType 21 22), (0, u "length"), (0, u "()I"), (0, .methodref 24 25), (0, .class_ 26), (0, .nameAndType 27 28), (0, u "com/example/stopbit/stopbit/ByteVectorViewPinLaw"), (0, u "at"), (0, u "(Lcom/example/stopbit/stopbit/ByteVector;[BIII)Z"), (3, u "law"), (0, u "(JIIIJ)Z")] 4

def k1m0 : Method := { name := "<init>", desc := "()V", sig := { parameters := [], returnType := none }, accessFlags := 1, code := none }
def k1c1 : Code := { maxStack := 4, maxLocals := 5, code := method_2_code, exceptionTable := #[], attributes := #[] }
def k1m1 : Method := { name := "at", desc := "(Lcom/example/stopbit/stopbit/ByteVector;[BIII)Z", sig := { parameters := [(.object "com/example/stopbit/stopbit/ByteVector"), (.array .byte), .int, .int, .int], returnType := some .boolean }, accessFlags := 10, code := some k1c1 }
def k1c2 : Code := { maxStack := 5, maxLocals := 15, code := code, exceptionTable := #[], attributes := #[] }
def k1m2 : Method := { name := "law", desc := "(JIIIJ)Z", sig := { parameters := [.long, .int, .int, .int, .long], returnType := some .boolean }, accessFlags := 9, code := some k1c2 }
/-- com/example/stopbit/stopbit/ByteVectorViewPinLaw -/
def k1 : Class := { plain "com/example/stopbit/stopbit/ByteVectorViewPinLaw" (some 0) with
  accessFlags := 49
  interfaces := #[]
  cf := some (fileOf pool1 24 #[] #[{ accessFlags := 1, nameIndex := 5, descriptorIndex := 6, attributes := #[] }, { accessFlags := 10, nameIndex := 27, descriptorIndex := 28, attributes := #[] }, { accessFlags := 9, nameIndex := 32, descriptorIndex := 33, attributes := #[] }] 49 2 #[] #[])
  fields := #[]
  methods := #[k1m0, k1m1, k1m2]
  instanceTypes := #[]
  staticTypes := #[]
  resolved := Array.replicate 38 none
  statics := none }

def pool2 : Array CpInfo := pool [(2, .class_ 4), (1, u "com/example/stopbit/stopbit/ByteVector"), (0, u "HEX"), (0, u "Ljava/util/HexFormat;"), (20, u "<init>"), (11, .methodref 40 41), (0, .class_ 42), (0, .nameAndType 27 43), (0, u "java/lang/Object"), (0, u "()V"), (0, .fieldref 2 45), (0, .nameAndType 46 47), (0, u "bytes"), (0, u "[B"), (5, .fieldref 2 54), (0, .nameAndType 55 56), (0, u "length"), (0, u "I"), (0, .fieldref 2 58), (0, .nameAndType 59 56), (0, u "start"), (5, u "(II)I"), (12, .methodref 79 80), (0, .class_ 81), (0, .nameAndType 82 65), (0, u "java/util/Objects"), (0, u "checkIndex"), (22, u "INITIAL_CAPACITY"), (6, u "view"), (0, u "([BII)V"), (2, u "()I"), (0, u "byteAt"), (0, u "(I)B")] 28

def k2c0 : Code := { maxStack := 2, maxLocals := 1, code := prog_2_method_3_code, exceptionTable := #[], attributes := #[] }
def k2m0 : Method := { name := "<init>", desc := "()V", sig := { parameters := [], returnType := none }, accessFlags := 0, code := some k2c0 }
def k2c1 : Code := { maxStack := 3, maxLocals := 4, code := prog_2_method_5_code, exceptionTable := #[], attributes := #[] }
def k2m1 : Method := { name := "view", desc := "([BII)V", sig := { parameters := [(.array .byte), .int, .int], returnType := none }, accessFlags := 0, code := some k2c1 }
def k2c2 : Code := { maxStack := 1, maxLocals := 1, code := prog_2_method_7_code, exceptionTable := #[], attributes := #[] }
def k2m2 : Method := { name := "length", desc := "()I", sig := { parameters := [], returnType := some .int }, accessFlags := 1, code := some k2c2 }
def k2c3 : Code := { maxStack := 3, maxLocals := 2, code := prog_2_method_8_code, exceptionTable := #[], attributes := #[] }
def k2m3 : Method := { name := "byteAt", desc := "(I)B", sig := { parameters := [.int], returnType := some .byte }, accessFlags := 1, code := some k2c3 }
/-- com/example/stopbit/stopbit/ByteVector -/
def k2 : Class := { plain "com/example/stopbit/stopbit/ByteVector" (some 0) with
  accessFlags := 49
  interfaces := #[]
  cf := some (fileOf pool2 2 #[] #[{ accessFlags := 0, nameIndex := 27, descriptorIndex := 43, attributes := #[] }, { accessFlags := 0, nameIndex := 112, descriptorIndex := 113, attributes := #[] }, { accessFlags := 1, nameIndex := 55, descriptorIndex := 116, attributes := #[] }, { accessFlags := 1, nameIndex := 117, descriptorIndex := 118, attributes := #[] }] 49 40 #[] #[{ accessFlags := 26, nameIndex := 105, descriptorIndex := 56, attributes := #[] }, { accessFlags := 26, nameIndex := 5, descriptorIndex := 6, attributes := #[] }, { accessFlags := 2, nameIndex := 46, descriptorIndex := 47, attributes := #[] }, { accessFlags := 2, nameIndex := 59, descriptorIndex := 56, attributes := #[] }, { accessFlags := 2, nameIndex := 55, descriptorIndex := 56, attributes := #[] }])
  fields := #[{ name := "INITIAL_CAPACITY", type := .int, accessFlags := 26, slot := 0, constantValue := 0 }, { name := "HEX", type := (.object "java/util/HexFormat"), accessFlags := 26, slot := 1, constantValue := 0 }, { name := "bytes", type := (.array .byte), accessFlags := 2, slot := 0, constantValue := 0 }, { name := "start", type := .int, accessFlags := 2, slot := 1, constantValue := 0 }, { name := "length", type := .int, accessFlags := 2, slot := 2, constantValue := 0 }]
  methods := #[k2m0, k2m1, k2m2, k2m3]
  instanceTypes := #[(.array .byte), .int, .int]
  staticTypes := #[.int, (.object "java/util/HexFormat")]
  resolved := Array.replicate 147 none
  statics := none }

def pool3 : Array CpInfo := pool [(2, .class_ 4), (1, u "java/lang/Object"), (0, u "<init>"), (0, u "()V"), (35, .class_ 44), (1, u "java/util/Objects"), (60, .methodref 106 107), (0, .class_ 108), (0, .nameAndType 109 110), (0, u "jdk/internal/util/Preconditions"), (0, u "checkIndex"), (0, u "(IILjava/util/function/BiFunction;)I"), (60, u "(II)I")] 12

def k3m0 : Method := { name := "<init>", desc := "()V", sig := { parameters := [], returnType := none }, accessFlags := 2, code := none }
def k3c1 : Code := { maxStack := 3, maxLocals := 2, code := jdk_31_method_17_code, exceptionTable := #[], attributes := #[] }
def k3m1 : Method := { name := "checkIndex", desc := "(II)I", sig := { parameters := [.int, .int], returnType := some .int }, accessFlags := 9, code := some k3c1 }
/-- java/util/Objects -/
def k3 : Class := { plain "java/util/Objects" (some 0) with
  accessFlags := 49
  interfaces := #[]
  cf := some (fileOf pool3 42 #[] #[{ accessFlags := 2, nameIndex := 5, descriptorIndex := 6, attributes := #[] }, { accessFlags := 9, nameIndex := 109, descriptorIndex := 171, attributes := #[] }] 49 2 #[] #[])
  fields := #[]
  methods := #[k3m0, k3m1]
  instanceTypes := #[]
  staticTypes := #[]
  resolved := Array.replicate 184 none
  statics := none }

def pool4 : Array CpInfo := pool [(2, .class_ 4), (1, u "java/lang/Object"), (0, u "<init>"), (0, u "()V"), (17, .class_ 26), (1, u "jdk/internal/util/Preconditions"), (6, u "checkIndex"), (21, .class_ 56), (0, u "jdk/internal/util/Preconditions$4"), (57, .class_ 115), (0, u "jdk/internal/util/Preconditions$1"), (7, u "SIOOBE_FORMATTER"), (0, u "Ljava/util/function/BiFunction;"), (0, .class_ 126), (0, u "jdk/internal/util/Preconditions$2"), (3, u "AIOOBE_FORMATTER"), (0, .class_ 132), (0, u "jdk/internal/util/Preconditions$3"), (3, u "IOOBE_FORMATTER"), (41, u "(IILjava/util/function/BiFunction;)I")] 15

def k4m0 : Method := { name := "<init>", desc := "()V", sig := { parameters := [], returnType := none }, accessFlags := 1, code := none }
def k4c1 : Code := { maxStack := 3, maxLocals := 3, code := jdk_41_method_11_code, exceptionTable := #[], attributes := #[] }
def k4m1 : Method := { name := "checkIndex", desc := "(IILjava/util/function/BiFunction;)I", sig := { parameters := [.int, .int, (.object "java/util/function/BiFunction")], returnType := some .int }, accessFlags := 9, code := some k4c1 }
/-- jdk/internal/util/Preconditions -/
def k4 : Class := { plain "jdk/internal/util/Preconditions" (some 0) with
  accessFlags := 33
  interfaces := #[]
  cf := some (fileOf pool4 24 #[.nestMembers #[55, 131, 125, 114]] #[{ accessFlags := 1, nameIndex := 5, descriptorIndex := 6, attributes := #[] }, { accessFlags := 9, nameIndex := 33, descriptorIndex := 178, attributes := #[] }] 33 2 #[] #[{ accessFlags := 25, nameIndex := 123, descriptorIndex := 124, attributes := #[] }, { accessFlags := 25, nameIndex := 130, descriptorIndex := 124, attributes := #[] }, { accessFlags := 25, nameIndex := 136, descriptorIndex := 124, attributes := #[] }])
  fields := #[{ name := "SIOOBE_FORMATTER", type := (.object "java/util/function/BiFunction"), accessFlags := 25, slot := 0, constantValue := 0 }, { name := "AIOOBE_FORMATTER", type := (.object "java/util/function/BiFunction"), accessFlags := 25, slot := 1, constantValue := 0 }, { name := "IOOBE_FORMATTER", type := (.object "java/util/function/BiFunction"), accessFlags := 25, slot := 2, constantValue := 0 }]
  methods := #[k4m0, k4m1]
  instanceTypes := #[]
  staticTypes := #[(.object "java/util/function/BiFunction"), (.object "java/util/function/BiFunction"), (.object "java/util/function/BiFunction")]
  resolved := Array.replicate 194 none
  statics := none }

def pool5 : Array CpInfo := pool [(1, u "java/lang/Cloneable"), (0, .class_ 1), (0, u "java/lang/Object"), (0, .class_ 3)] 3

/-- java/lang/Cloneable -/
def k5 : Class := { plain "java/lang/Cloneable" (some 0) with
  accessFlags := 1537
  interfaces := #[]
  cf := some (fileOf pool5 2 #[] #[] 1537 4 #[] #[])
  fields := #[]
  methods := #[]
  instanceTypes := #[]
  staticTypes := #[]
  resolved := Array.replicate 8 none
  statics := none }

def pool6 : Array CpInfo := pool [(1, u "java/io/Serializable"), (0, .class_ 1), (0, u "java/lang/Object"), (0, .class_ 3)] 3

/-- java/io/Serializable -/
def k6 : Class := { plain "java/io/Serializable" (some 0) with
  accessFlags := 1537
  interfaces := #[]
  cf := some (fileOf pool6 2 #[] #[] 1537 4 #[] #[])
  fields := #[]
  methods := #[]
  instanceTypes := #[]
  staticTypes := #[]
  resolved := Array.replicate 8 none
  statics := none }

/-- the primitive byte -/
def k7 : Class := { plain "byte" none with kind := .primitive 'B', accessFlags := 0x411 }
/-- [B -/
def k8 : Class := { plain "[B" (some 0) with kind := .array 7 .byte, interfaces := #[5, 6], accessFlags := 1041 }

/-- the primitive int -/
def k9 : Class := { plain "int" none with kind := .primitive 'I', accessFlags := 0x411 }
/-- [I -/
def k10 : Class := { plain "[I" (some 0) with kind := .array 9 .int, interfaces := #[5, 6], accessFlags := 1041 }

def heap : Heap := #[]
def classes : Array Class := #[k0, k1, k2, k3, k4, k5, k6, k7, k8, k9, k10]
def interned : List (Array UInt16 × Addr) := []
def slotsUsed : Nat := 0
def theMethod : MethodId := ⟨1, 2⟩
def args0 : Array Value := #[.long 5, .int 7, .int 9, .int 11, .long 13]
def aboutOver (below : List Frame) : State where
  vm := { classes := classes, interned := interned.toArray }
  heap := heap
  slotsUsed := slotsUsed
  threads := #[{ frames := .invoking theMethod args0 :: below }]
def below0 : List Frame := [.native { method := ⟨0, 0⟩, args := #[] }]
def about1 : State := aboutOver below0
def p0 : Program := .bare "" "" ""
def e0 : Env := launch0.env 0 0 0
theorem w_frames : about1.frames = Frame.invoking theMethod args0 :: below0 := rfl
set_option maxRecDepth 65536 in
theorem w_args : argsFit about1.vm theMethod args0 = true := by decide +kernel
set_option maxRecDepth 65536 in
theorem w_heap : heapFits about1 = true := by decide +kernel
set_option maxRecDepth 65536 in
theorem w_runnable : about1.curStatus? = some .runnable := by decide +kernel
set_option maxRecDepth 65536 in
theorem w_alone : about1.alone = true := by decide +kernel
set_option maxRecDepth 65536 in
theorem w_named : about1.methodNamed? x = some theMethod := by decide +kernel
set_option maxRecDepth 65536 in
theorem w_hears : about1.hears theMethod below0 = true := by decide +kernel
set_option maxRecDepth 65536 in
theorem w_ripe : about1.ripe theMethod args0 below0 = true := by decide +kernel
theorem w_running : about1.status = .running := rfl
set_option maxRecDepth 65536 in
theorem w_room : about1.hasRoom e0.platform room_1 = true :=
  launch0.hasRoom_least _ room_1 (by decide +kernel) (by decide +kernel) (by decide +kernel) (by decide +kernel) (by decide +kernel) (by decide +kernel)
theorem allAtoms_all (ts : List Jvm.Cond) (a : Array Jvm.Value) (st : Jvm.State) : (allAtoms ts).before a st = ts.all (fun c => c.before a st) := by
  induction ts with
  | nil => rfl
  | cons c t ih =>
    show (Jvm.Cond.and c (allAtoms t)).before a st = _
    rw [Jvm.Cond.before_and, ih, List.all_cons]
def words1 : List Jvm.Cond := Jvm.Cond.code x code maxLocals ret :: tables_1
/-- a 'code' word, met by the world's own term for the bytes: nothing is compared byte by byte -/
theorem code_word {y : MethodName} {bytes : ByteArray} {mx : Nat} {rt : Option FieldType} {a : Array Value} {s : State} {m : MethodId} {meth : Method} {c : Code} (h1 : s.methodNamed? y = some m) (h2 : s.vm.method? m = some meth) (h3 : meth.code = some c) (h4 : c.code = bytes)
    (h5 : (c.maxLocals == mx && c.exceptionTable.isEmpty && decide (c.maxStack ≤ mostOperands) && decide (meth.sig.returnType = rt) && !meth.locks && decide (parseMethodDescriptor y.desc = some meth.sig)) = true) : (Jvm.Cond.code y bytes mx rt).before a s = true := by
  simp only [Bool.and_eq_true, beq_iff_eq, Bool.not_eq_true', decide_eq_true_eq] at h5
  obtain ⟨⟨⟨⟨⟨g1, g2⟩, g3⟩, g4⟩, g5⟩, g6⟩ := h5
  simp [Cond.before, Cond.holds, Cond.value, h1, h2, h3, h4, g1, g2, g3, g4, g5, g6]
def isCode : Jvm.Cond → Bool
  | .code _ _ _ _ => true
  | _ => false
theorem all_split {L : List Jvm.Cond} {P : Jvm.Cond → Bool} (h1 : L.all (fun c => isCode c || P c) = true) (h2 : ∀ c ∈ L.filter isCode, P c = true) : L.all P = true := by
  refine List.all_eq_true.mpr fun c hc => ?_
  have h := List.all_eq_true.mp h1 c hc
  rcases Bool.eq_false_or_eq_true (isCode c) with hi | hi
  · exact h2 c (List.mem_filter.mpr ⟨hc, hi⟩)
  · simpa [hi] using h
set_option maxRecDepth 65536 in
theorem w_c0 : (Jvm.Cond.code x code maxLocals ret).before args0 about1 = true := code_word (m := ⟨1, 2⟩) (meth := k1m2) (c := k1c2) (by decide +kernel) rfl rfl rfl (by decide +kernel)
set_option maxRecDepth 65536 in
theorem w_c1 : (Jvm.Cond.code ({ cls := "com/example/stopbit/stopbit/ByteVector", name := "<init>", desc := "()V" } : Jvm.MethodName) prog_2_method_3_code (1 : Nat) (Option.none : Option Jvm.ClassFile.FieldType)).before args0 about1 = true := code_word (m := ⟨2, 0⟩) (meth := k2m0) (c := k2c0) (by decide +kernel) rfl rfl rfl (by decide +kernel)
set_option maxRecDepth 65536 in
theorem w_c2 : (Jvm.Cond.code ({ cls := "java/lang/Object", name := "<init>", desc := "()V" } : Jvm.MethodName) object_method_1_code (1 : Nat) (Option.none : Option Jvm.ClassFile.FieldType)).before args0 about1 = true := code_word (m := ⟨0, 0⟩) (meth := k0m0) (c := k0c0) (by decide +kernel) rfl rfl rfl (by decide +kernel)
set_option maxRecDepth 65536 in
theorem w_c3 : (Jvm.Cond.code ({ cls := "com/example/stopbit/stopbit/ByteVector", name := "view", desc := "([BII)V" } : Jvm.MethodName) prog_2_method_5_code (4 : Nat) (Option.none : Option Jvm.ClassFile.FieldType)).before args0 about1 = true := code_word (m := ⟨2, 1⟩) (meth := k2m1) (c := k2c1) (by decide +kernel) rfl rfl rfl (by decide +kernel)
set_option maxRecDepth 65536 in
theorem w_c4 : (Jvm.Cond.code ({ cls := "com/example/stopbit/stopbit/ByteVector", name := "length", desc := "()I" } : Jvm.MethodName) prog_2_method_7_code (1 : Nat) (Option.some Jvm.ClassFile.FieldType.int)).before args0 about1 = true := code_word (m := ⟨2, 2⟩) (meth := k2m2) (c := k2c2) (by decide +kernel) rfl rfl rfl (by decide +kernel)
set_option maxRecDepth 65536 in
theorem w_c5 : (Jvm.Cond.code ({ cls := "com/example/stopbit/stopbit/ByteVectorViewPinLaw", name := "at", desc := "(Lcom/example/stopbit/stopbit/ByteVector;[BIII)Z" } : Jvm.MethodName) method_2_code (5 : Nat) (Option.some Jvm.ClassFile.FieldType.boolean)).before args0 about1 = true := code_word (m := ⟨1, 1⟩) (meth := k1m1) (c := k1c1) (by decide +kernel) rfl rfl rfl (by decide +kernel)
set_option maxRecDepth 65536 in
theorem w_c6 : (Jvm.Cond.code ({ cls := "com/example/stopbit/stopbit/ByteVector", name := "byteAt", desc := "(I)B" } : Jvm.MethodName) prog_2_method_8_code (2 : Nat) (Option.some Jvm.ClassFile.FieldType.byte)).before args0 about1 = true := code_word (m := ⟨2, 3⟩) (meth := k2m3) (c := k2c3) (by decide +kernel) rfl rfl rfl (by decide +kernel)
set_option maxRecDepth 65536 in
theorem w_c7 : (Jvm.Cond.code ({ cls := "java/util/Objects", name := "checkIndex", desc := "(II)I" } : Jvm.MethodName) jdk_31_method_17_code (2 : Nat) (Option.some Jvm.ClassFile.FieldType.int)).before args0 about1 = true := code_word (m := ⟨3, 1⟩) (meth := k3m1) (c := k3c1) (by decide +kernel) rfl rfl rfl (by decide +kernel)
set_option maxRecDepth 65536 in
theorem w_c8 : (Jvm.Cond.code ({ cls := "jdk/internal/util/Preconditions", name := "checkIndex", desc := "(IILjava/util/function/BiFunction;)I" } : Jvm.MethodName) jdk_41_method_11_code (3 : Nat) (Option.some Jvm.ClassFile.FieldType.int)).before args0 about1 = true := code_word (m := ⟨4, 1⟩) (meth := k4m1) (c := k4c1) (by decide +kernel) rfl rfl rfl (by decide +kernel)
def codes1 : List Jvm.Cond := [Jvm.Cond.code x code maxLocals ret, Jvm.Cond.code ({ cls := "com/example/stopbit/stopbit/ByteVector", name := "<init>", desc := "()V" } : Jvm.MethodName) prog_2_method_3_code (1 : Nat) (Option.none : Option Jvm.ClassFile.FieldType), Jvm.Cond.code ({ cls := "java/lang/Object", name := "<init>", desc := "()V" } : Jvm.MethodName) object_method_1_code (1 : Nat) (Option.none : Option Jvm.ClassFile.FieldType), Jvm.Cond.code ({ cls := "com/example/stopbit/stopbit/ByteVector", name := "view", desc := "([BII)V" } : Jvm.MethodName) prog_2_method_5_code (4 : Nat) (Option.none : Option Jvm.ClassFile.FieldType), Jvm.Cond.code ({ cls := "com/example/stopbit/stopbit/ByteVector", name := "length", desc := "()I" } : Jvm.MethodName) prog_2_method_7_code (1 : Nat) (Option.some Jvm.ClassFile.FieldType.int), Jvm.Cond.code ({ cls := "com/example/stopbit/stopbit/ByteVectorViewPinLaw", name := "at", desc := "(Lcom/example/stopbit/stopbit/ByteVector;[BIII)Z" } : Jvm.MethodName) method_2_code (5 : Nat) (Option.some Jvm.ClassFile.FieldType.boolean), Jvm.Cond.code ({ cls := "com/example/stopbit/stopbit/ByteVector", name := "byteAt", desc := "(I)B" } : Jvm.MethodName) prog_2_method_8_code (2 : Nat) (Option.some Jvm.ClassFile.FieldType.byte), Jvm.Cond.code ({ cls := "java/util/Objects", name := "checkIndex", desc := "(II)I" } : Jvm.MethodName) jdk_31_method_17_code (2 : Nat) (Option.some Jvm.ClassFile.FieldType.int), Jvm.Cond.code ({ cls := "jdk/internal/util/Preconditions", name := "checkIndex", desc := "(IILjava/util/function/BiFunction;)I" } : Jvm.MethodName) jdk_41_method_11_code (3 : Nat) (Option.some Jvm.ClassFile.FieldType.int)]
set_option maxRecDepth 65536 in
theorem codes_eq : words1.filter isCode = codes1 := rfl
theorem w_codes : ∀ c ∈ words1.filter isCode, c.before args0 about1 = true := by
  rw [codes_eq]
  intro c hc
  simp only [codes1, List.mem_cons, List.not_mem_nil, or_false] at hc
  rcases hc with rfl | rfl | rfl | rfl | rfl | rfl | rfl | rfl | rfl
  · exact w_c0
  · exact w_c1
  · exact w_c2
  · exact w_c3
  · exact w_c4
  · exact w_c5
  · exact w_c6
  · exact w_c7
  · exact w_c8
set_option maxRecDepth 65536 in
theorem w_t1 : (words1.take 24).all (fun c => isCode c || c.before args0 about1) = true := by decide +kernel
set_option maxRecDepth 65536 in
theorem w_t2 : (words1.drop 24).all (fun c => isCode c || c.before args0 about1) = true := by decide +kernel
theorem w_tables : (allAtoms (Jvm.Cond.code x code maxLocals ret :: tables_1)).before args0 about1 = true := by
  rw [allAtoms_all]
  show words1.all (fun c => c.before args0 about1) = true
  refine all_split ?_ w_codes
  rw [← List.take_append_drop 24 words1, List.all_append, w_t1, w_t2]
  rfl
set_option maxRecDepth 65536 in
theorem w_case : (Jvm.Cond.and given_1 narrow_1).before args0 about1 = true := by decide +kernel
theorem w_applies : (headSpec (Jvm.Cond.code x code maxLocals ret :: tables_1) room_1).applies x e0.platform about1 = true :=
  (Spec.applies_iff w_frames).mpr ⟨w_running, w_runnable, w_alone, w_named, w_hears, w_ripe, w_room, w_tables⟩
theorem atStart : AtStart classFile x code maxLocals ret World_1 tables_1 room_1 Calls_1 rest_1 Pre_1 launch0 p0 e0 about1 theMethod args0 below0 :=
  ⟨lists_1, trivial, launch0.admits_env _ _ _, launch0.least_env, fairChoices_fair.cas, fairChoices_fair.clock, w_frames, w_args, w_heap, w_applies, trivial, trivial, w_case⟩
end start1
theorem witness_1 : WitnessClaimed_1 := ⟨start1.p0, start1.e0, start1.about1, start1.theMethod, start1.args0, start1.below0, start1.atStart⟩
end Jvm.Pilot.@@N@@
