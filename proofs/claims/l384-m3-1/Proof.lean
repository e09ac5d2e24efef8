import JvmDerived
import JvmDerived.Pilot.@@N@@Statement
import JvmDerived.Pilot.@@N@@Code
set_option linter.unusedVariables false
set_option linter.unusedSimpArgs false
namespace Jvm.Pilot.@@N@@
open Jvm Jvm.ClassFile Sem Op Lib Jvm.Free Jvm.Stand Jvm.LawKit Jvm.RoadKit Bundle Jvm.Pilot.@@N@@.Jvm.D
abbrev oU : Slot := .unset
abbrev oS : Slot := .second
abbrev oN : Slot := .val .null
abbrev oI (x : Int32) : Slot := .val (.int x)
abbrev oJ (x : Int64) : Slot := .val (.long x)
abbrev oR (a : Addr) : Slot := .val (.ref a)
section Own
variable {p : Program} {l : Launch} {e : Env} {R : Room} {s : State} {m : MethodId} {args : Array Value} {below : List Frame} {meth : Method} {c : Code} {T : State} {locs : List Loc} {cells slots : Nat} {Q : Option Value → Heap → List Loc → Prop} {kc ks : Nat} {Z : State} {a0 : Array Value} {h : Heap}
/-- from the state st the body comes to its end, and Q holds there -/
def own_Fin (p : Program) (e : Env) (below : List Frame) (s : State) (Q : Option Value → Heap → List Loc → Prop) (kc ks : Nat) (st : State) : Prop :=
  ∃ s₂ o, Steps p.tables e below st s₂ ∧ s₂.status = .running ∧ Ended s₂ below o ∧ ∃ v L, o = .returned v ∧ Q v s₂.heap L ∧ FrameEnd s o s₂ L kc ks
abbrev own_Go (X : Stand p l e R s m args below meth c T locs cells slots) (Q : Option Value → Heap → List Loc → Prop) (kc ks : Nat) (pc : Nat) (Ls : Array Slot) (S : List Value) : Prop := own_Fin p e below s Q kc ks (T.setTop (mkF m pc Ls S))
theorem own_st {a b : State} (hst : ∀ t, Steps p.tables e below b t → Steps p.tables e below a t) (k : own_Fin p e below s Q kc ks b) : own_Fin p e below s Q kc ks a := by
  obtain ⟨s₂, o, h1, r⟩ := k
  exact ⟨s₂, o, hst _ h1, r⟩
theorem own_cast {g g' : JFrame} (q : g = g') (k : own_Fin p e below s Q kc ks (T.setTop g')) : own_Fin p e below s Q kc ks (T.setTop g) := q ▸ k
theorem own_end (X : Stand p l e R s m args below meth c T locs cells slots) {v : Option Value} {a : State} (hv : meth.sig.returnType = none → v = none) (hlocks : meth.locks = false) (eT : T.heap = h)
    (hs : ∀ fs, (∀ (f : JFrame) (acts : List Action), f.method = m → f.locked = none → f.entered = [] → (doReturn e (T.setTop f) acts v).1 = T.setFrames fs) → Steps p.tables e below a (T.setFrames fs))
    (hc : cells ≤ kc) (hl : slots ≤ ks) (hq : Q v h locs) : own_Fin p e below s Q kc ks a := by
  obtain ⟨fs, hr, hrun, hended, hW, hsame⟩ := X.leave hv hlocks
  exact ⟨_, _, hs fs hr, hrun, hended, _, _, rfl, by show Q v T.heap locs; rw [eT]; exact hq, ⟨_, rfl⟩, hW, hsame.mono hc hl⟩
theorem own_retV (X : Stand p l e R s m args below meth c T locs cells slots) (hx : p.tables.exec = Jvm.exec) (hret : meth.sig.returnType = none) (hlocks : meth.locks = false) (eT : T.heap = h) {pc : Nat} {Ls : Array Slot} (hd : decode c.code pc = .ok (.return_, 1)) (hc : cells ≤ kc) (hl : slots ≤ ks) (hq : Q none h locs) :
    own_Fin p e below s Q kc ks (T.setTop (mkF m pc Ls [])) := own_end X (fun _ => rfl) hlocks eT (fun _ hr => X.returnOut hx hret hd hr) hc hl hq
theorem own_retN (X : Stand p l e R s m args below meth c T locs cells slots) (hx : p.tables.exec = Jvm.exec) {t : FieldType} (hret : meth.sig.returnType = some t) (ht : t = .boolean ∨ t = .byte ∨ t = .char ∨ t = .short) (hlocks : meth.locks = false) (eT : T.heap = h) {pc : Nat} {Ls : Array Slot} {z : Int32} {rest : List Value} (hd : decode c.code pc = .ok (.ireturn, 1)) (hc : cells ≤ kc) (hl : slots ≤ ks) (hq : Q (some (.int (nar t z))) h locs) :
    own_Fin p e below s Q kc ks (T.setTop (mkF m pc Ls (.int z :: rest))) := own_end X (fun h => by rw [hret] at h; cases h) hlocks eT (fun _ hr => retN X hx hret ht hd hr) hc hl hq
theorem own_retI (X : Stand p l e R s m args below meth c T locs cells slots) (hx : p.tables.exec = Jvm.exec) (hret : meth.sig.returnType = some .int) (hlocks : meth.locks = false) (eT : T.heap = h) {pc : Nat} {Ls : Array Slot} {z : Int32} {rest : List Value} (hd : decode c.code pc = .ok (.ireturn, 1)) (hc : cells ≤ kc) (hl : slots ≤ ks) (hq : Q (some (.int z)) h locs) :
    own_Fin p e below s Q kc ks (T.setTop (mkF m pc Ls (.int z :: rest))) := own_end X (fun h => by rw [hret] at h; cases h) hlocks eT (fun _ hr => retOut X hx hret rfl (Or.inl ⟨rfl, Or.inl rfl, _, rfl⟩) hd hr) hc hl hq
theorem own_retJ (X : Stand p l e R s m args below meth c T locs cells slots) (hx : p.tables.exec = Jvm.exec) (hret : meth.sig.returnType = some .long) (hlocks : meth.locks = false) (eT : T.heap = h) {pc : Nat} {Ls : Array Slot} {z : Int64} {rest : List Value} (hd : decode c.code pc = .ok (.lreturn, 1)) (hc : cells ≤ kc) (hl : slots ≤ ks) (hq : Q (some (.long z)) h locs) :
    own_Fin p e below s Q kc ks (T.setTop (mkF m pc Ls (.long z :: rest))) := own_end X (fun h => by rw [hret] at h; cases h) hlocks eT (fun _ hr => retOut X hx hret rfl (Or.inr (Or.inl ⟨rfl, rfl, _, rfl⟩)) hd hr) hc hl hq
theorem own_retA (X : Stand p l e R s m args below meth c T locs cells slots) (hx : p.tables.exec = Jvm.exec) {t : FieldType} (hret : meth.sig.returnType = some t) (ht : t.isReference = true) (hlocks : meth.locks = false) (eT : T.heap = h) {pc : Nat} {Ls : Array Slot} {a : Addr} {rest : List Value} (hd : decode c.code pc = .ok (.areturn, 1)) (hc : cells ≤ kc) (hl : slots ≤ ks) (hq : Q (some (.ref a)) h locs) :
    own_Fin p e below s Q kc ks (T.setTop (mkF m pc Ls (.ref a :: rest))) := own_end X (fun h => by rw [hret] at h; cases h) hlocks eT (fun _ hr => retOut X hx hret (by cases t <;> first | rfl | cases ht) (Or.inr (Or.inr (Or.inr (Or.inr ⟨rfl, ht, rfl⟩)))) hd hr) hc hl hq
theorem own_nar1 : nar .boolean 1 = 1 := by decide
theorem own_nar0 : nar .boolean 0 = 0 := by decide
theorem own_lrem {g : JFrame} {target : State} (X : Stand p l e R s m args below meth c T locs cells slots) (hx : p.tables.exec = Jvm.exec) (hg : g.method = m) {x y : Int64} {rest : List Value} (hd : decode c.code g.pc = .ok (.lrem, 1)) (hs : g.stack = .long y :: .long x :: rest) (hy : y ≠ 0)
    (hr : Steps p.tables e below (T.setTop { g with pc := g.pc + 1, stack := .long (x % y) :: rest }) target) : Steps p.tables e below (T.setTop g) target := by
  have q : x - x / y * y = x % y := lrem_mod x y
  exact XS.lrem X.here hx hg hd hs hy (by rw [q]; exact hr)
/-! the calls -/
variable {y z : MethodName} {bytes : ByteArray} {maxL : Nat} {ret : Option FieldType} {rm : Room} {W : Nat} {as' : Array Value} {Qc : Option Value → Heap → List Loc → Prop} {own C : String} {index : Nat}
theorem own_callS (X : Stand p l e R s m args below meth c T locs cells slots) (hx : p.tables.exec = Jvm.exec) (hZ : Z.Warmed39 s.vm) (hown : s.vm.findClass own = some m.cls)
    (wl : (Cond.methodLink own index y).before a0 Z = true) (ws : (Cond.static y).before a0 Z = true) (wz : (Cond.initialized y.cls).before a0 Z = true) (wc : (Cond.code y bytes maxL ret).before a0 Z = true)
    (hy : y.cls ≠ "java/lang/invoke/MethodHandle" ∧ y.cls ≠ "java/lang/invoke/VarHandle")
    (hM : MetFree l y (head1 [Cond.code y bytes maxL ret] rm) (fun a U => a = as' ∧ Z.Warmed39 U.vm ∧ U.heap = h) (fun _ _ _ _ _ => True) (fun _ U o U' => ∃ v L, o = .returned v ∧ Qc v U'.heap L ∧ FrameEnd U o U' L rm.cells rm.slots))
    (hf : rm.frames + 1 ≤ R.frames) (hl : W + (maxL + 11) + rm.locals ≤ R.locals) {pc : Nat} {Ls : Array Slot} {S : List Value} (hsize : Ls.size = c.maxLocals) (argsL rest : List Value)
    (hlen : ∀ sig, parseMethodDescriptor y.desc = some sig → argsL.length = sig.parameters.length) (hS : S = argsL.reverse ++ rest) (ha : argsL.toArray = as') (hW : (rest.map fun v => v.category).sum ≤ W)
    (hd : decode c.code pc = .ok (.invokestatic index, 3)) (eT : T.heap = h) (hcl : cells + rm.cells ≤ R.cells) (hsl : slots + rm.slots ≤ R.slots)
    (k : ∀ (v : Option Value) (T' : State) (L' : List Loc) (X' : Stand p l e R s m args below meth c T' (locs ++ L') (cells + rm.cells) (slots + rm.slots)), Qc v T'.heap L' → own_Fin p e below s Q kc ks (T'.setTop (mkF m (pc + 3) Ls (v.toList ++ rest)))) :
    own_Fin p e below s Q kc ks (T.setTop (mkF m pc Ls S)) := by
  subst hS
  obtain ⟨v, _, ⟨T', L1, k1, n1⟩, -, X', ⟨L', hQ, l1, y1, z1⟩, st⟩ := Jvm.LawKit.callS X hx (y := y) hown (mvT hZ wl) (mvT hZ ws) (mvT hZ wz) (mvT hZ wc) hy (backOf (W := W) hM hZ wc wz hf hl) (g := mkF m pc Ls (argsL.reverse ++ rest)) rfl hsize (argsL := argsL) (rest := rest) hlen rfl (by show 2 * 0 + _ ≤ _; omega) hd (fun _ _ => ⟨ha, eT, hcl, hsl⟩)
  dsimp only [Pt.U, Pt.locs, Pt.cells, Pt.slots] at X' l1 y1 z1 st hQ
  subst l1 y1 z1
  exact own_st (fun t => st t) (k v T' L' X' hQ)
theorem own_callI (X : Stand p l e R s m args below meth c T locs cells slots) (hx : p.tables.exec = Jvm.exec) (hZ : Z.Warmed39 s.vm) (hown : s.vm.findClass own = some m.cls)
    (wl : (Cond.methodLink own index y).before a0 Z = true) (ws : (Cond.instanceMethod y).before a0 Z = true) (wz : (Cond.initialized y.cls).before a0 Z = true) (wc : (Cond.code y bytes maxL none).before a0 Z = true)
    (hn : y.name = "<init>") (hy : y.cls ≠ "java/lang/invoke/MethodHandle" ∧ y.cls ≠ "java/lang/invoke/VarHandle")
    (hM : MetFree l y (head1 [Cond.code y bytes maxL none] rm) (fun a U => a = as' ∧ Z.Warmed39 U.vm ∧ U.heap = h) (fun _ _ _ _ _ => True) (fun _ U o U' => ∃ v L, o = .returned v ∧ Qc v U'.heap L ∧ FrameEnd U o U' L rm.cells rm.slots))
    (hf : rm.frames + 1 ≤ R.frames) (hl : W + (maxL + 11) + rm.locals ≤ R.locals) {pc : Nat} {Ls : Array Slot} {S : List Value} (hsize : Ls.size = c.maxLocals) (a : Addr) (argsL rest : List Value)
    (hlen : ∀ sig, parseMethodDescriptor y.desc = some sig → argsL.length = sig.parameters.length) (hS : S = argsL.reverse ++ .ref a :: rest) (ha : (Value.ref a :: argsL).toArray = as') (hW : (rest.map fun v => v.category).sum ≤ W)
    (hd : decode c.code pc = .ok (.invokespecial index, 3)) (eT : T.heap = h) (hcl : cells + rm.cells ≤ R.cells) (hsl : slots + rm.slots ≤ R.slots)
    (k : ∀ (v : Option Value) (T' : State) (L' : List Loc) (X' : Stand p l e R s m args below meth c T' (locs ++ L') (cells + rm.cells) (slots + rm.slots)), Qc v T'.heap L' → own_Fin p e below s Q kc ks (T'.setTop (mkF m (pc + 3) Ls (v.toList ++ rest)))) :
    own_Fin p e below s Q kc ks (T.setTop (mkF m pc Ls S)) := by
  subst hS
  obtain ⟨v, _, ⟨T', L1, k1, n1⟩, -, X', ⟨L', hQ, l1, y1, z1⟩, st⟩ := X.specialBack hx (y := y) hn hown (mvT hZ wl) (mvT hZ ws) (mvT hZ wc) hy (backOf (W := W) hM hZ wc wz hf hl) (g := mkF m pc Ls (argsL.reverse ++ .ref a :: rest)) rfl hsize (Steps.refl _) (a := a) (argsL := argsL) (rest := rest) hlen rfl (by show 2 * 0 + _ ≤ _; omega) hd (fun _ _ => ⟨ha, eT, hcl, hsl⟩)
  dsimp only [Pt.U, Pt.locs, Pt.cells, Pt.slots] at X' l1 y1 z1 st hQ
  subst l1 y1 z1
  exact own_st (fun t => st.trans) (k v T' L' X' hQ)
theorem own_callV (X : Stand p l e R s m args below meth c T locs cells slots) (hx : p.tables.exec = Jvm.exec) (hZ : Z.Warmed39 s.vm) (hown : s.vm.findClass own = some m.cls)
    (wl : (Cond.methodLink own index y).before a0 Z = true) (wd : (Cond.declares y).before a0 Z = true) (wsel : (Cond.selects C y y).before a0 Z = true) (ws : (Cond.instanceMethod y).before a0 Z = true) (wz : (Cond.initialized y.cls).before a0 Z = true) (wc : (Cond.code y bytes maxL ret).before a0 Z = true)
    (hy : y.cls ≠ "java/lang/invoke/MethodHandle" ∧ y.cls ≠ "java/lang/invoke/VarHandle")
    (hM : MetFree l y (head1 [Cond.code y bytes maxL ret] rm) (fun a U => a = as' ∧ Z.Warmed39 U.vm ∧ U.heap = h) (fun _ _ _ _ _ => True) (fun _ U o U' => ∃ v L, o = .returned v ∧ Qc v U'.heap L ∧ FrameEnd U o U' L rm.cells rm.slots))
    (hf : rm.frames + 1 ≤ R.frames) (hl : W + (maxL + 11) + rm.locals ≤ R.locals) {pc : Nat} {Ls : Array Slot} {S : List Value} (hsize : Ls.size = c.maxLocals) (a : Addr) (argsL rest : List Value)
    (hlen : ∀ sig, parseMethodDescriptor y.desc = some sig → argsL.length = sig.parameters.length) (hS : S = argsL.reverse ++ .ref a :: rest) (ha : (Value.ref a :: argsL).toArray = as') (hW : (rest.map fun v => v.category).sum ≤ W)
    (hd : decode c.code pc = .ok (.invokevirtual index, 3)) (eT : T.heap = h) (EA : Exa Z h a C) (hcl : cells + rm.cells ≤ R.cells) (hsl : slots + rm.slots ≤ R.slots)
    (k : ∀ (v : Option Value) (T' : State) (L' : List Loc) (X' : Stand p l e R s m args below meth c T' (locs ++ L') (cells + rm.cells) (slots + rm.slots)), Qc v T'.heap L' → own_Fin p e below s Q kc ks (T'.setTop (mkF m (pc + 3) Ls (v.toList ++ rest)))) :
    own_Fin p e below s Q kc ks (T.setTop (mkF m pc Ls S)) := by
  subst hS
  obtain ⟨cq, kq, q1, q2, q3⟩ := isOf hZ eT EA
  obtain ⟨v, _, ⟨T', L1, k1, n1⟩, -, X', ⟨L', hQ, l1, y1, z1⟩, st⟩ := X.virtualBack hx (y := y) (z := y) hown (mvT hZ wl) (mvT hZ wd) (notFace_of_selects (args := #[]) (mvT hZ wsel)) (mvT hZ wsel) (mvT hZ ws) hy (backOf (W := W) hM hZ wc wz hf hl) q1 q3 (g := mkF m pc Ls (argsL.reverse ++ .ref a :: rest)) rfl hsize (Steps.refl _) (argsL := argsL) (rest := rest) hlen rfl (by show 2 * 0 + _ ≤ _; omega) hd (fun _ _ => ⟨ha, eT, hcl, hsl⟩)
  dsimp only [Pt.U, Pt.locs, Pt.cells, Pt.slots] at X' l1 y1 z1 st hQ
  subst l1 y1 z1
  exact own_st (fun t => st.trans) (k v T' L' X' hQ)
/-! arrays -/
variable {a : Addr} {kA : ClassId} {n j x : Int32} {vs : List Value} {dv : Value}
theorem own_stI (X : Stand p l e R s m args below meth c T locs cells slots) (hx : p.tables.exec = Jvm.exec) (hZ : Z.Warmed39 s.vm) (eT : T.heap = h) (V : Arv Z h a kA .int n vs dv) (q : ¬ j < 0 ∧ j < n) (hi : j.toNatClampNeg < vs.length) {g : JFrame} (hg : g.method = m) {rest : List Value} (hs : g.stack = .int x :: .int j :: .ref a :: rest) (hd : decode c.code g.pc = .ok (.iastore, 1)) :
    ∃ T' h', Stand p l e R s m args below meth c T' (locs ++ [⟨a, j.toNatClampNeg⟩]) cells slots ∧ T'.heap = h' ∧ Wr h h' a j.toNatClampNeg (.int x) ∧ Arv Z h' a kA .int n (vs.set j.toNatClampNeg (.int x)) dv ∧ ∀ target, Steps p.tables e below (T'.setTop { g with pc := g.pc + 1, stack := rest }) target → Steps p.tables e below (T.setTop g) target := by
  obtain ⟨cl, Ar, q1, S1, N1, H1, G1⟩ := V
  obtain ⟨T', h', X', e', W', st⟩ := stI X hx hZ eT Ar (inb_of S1 q) hg hs hd
  exact ⟨T', h', X', e', W', Arv.set Ar q1 S1 N1 H1 G1 rfl W' _ rfl hi, st⟩
theorem own_stB (X : Stand p l e R s m args below meth c T locs cells slots) (hx : p.tables.exec = Jvm.exec) (hZ : Z.Warmed39 s.vm) (eT : T.heap = h) (V : Arv Z h a kA .byte n vs dv) (q : ¬ j < 0 ∧ j < n) (hi : j.toNatClampNeg < vs.length) {g : JFrame} (hg : g.method = m) {rest : List Value} (hs : g.stack = .int x :: .int j :: .ref a :: rest) (hd : decode c.code g.pc = .ok (.bastore, 1)) :
    ∃ T' h', Stand p l e R s m args below meth c T' (locs ++ [⟨a, j.toNatClampNeg⟩]) cells slots ∧ T'.heap = h' ∧ Wr h h' a j.toNatClampNeg (.int (nar .byte x)) ∧ Arv Z h' a kA .byte n (vs.set j.toNatClampNeg (.int x.toInt8.toInt32)) dv ∧ ∀ target, Steps p.tables e below (T'.setTop { g with pc := g.pc + 1, stack := rest }) target → Steps p.tables e below (T.setTop g) target := by
  obtain ⟨cl, Ar, q1, S1, N1, H1, G1⟩ := V
  obtain ⟨T', h', X', e', W', st⟩ := stB X hx hZ eT Ar (inb_of S1 q) hg hs hd
  exact ⟨T', h', X', e', W', Arv.set Ar q1 S1 N1 H1 G1 (fits_nar_byte x) W' _ rfl hi, st⟩
theorem own_stJ {x : Int64} (X : Stand p l e R s m args below meth c T locs cells slots) (hx : p.tables.exec = Jvm.exec) (hZ : Z.Warmed39 s.vm) (eT : T.heap = h) (V : Arv Z h a kA .long n vs dv) (q : ¬ j < 0 ∧ j < n) (hi : j.toNatClampNeg < vs.length) {g : JFrame} (hg : g.method = m) {rest : List Value} (hs : g.stack = .long x :: .int j :: .ref a :: rest) (hd : decode c.code g.pc = .ok (.lastore, 1)) :
    ∃ T' h', Stand p l e R s m args below meth c T' (locs ++ [⟨a, j.toNatClampNeg⟩]) cells slots ∧ T'.heap = h' ∧ Wr h h' a j.toNatClampNeg (.long x) ∧ Arv Z h' a kA .long n (vs.set j.toNatClampNeg (.long x)) dv ∧ ∀ target, Steps p.tables e below (T'.setTop { g with pc := g.pc + 1, stack := rest }) target → Steps p.tables e below (T.setTop g) target := by
  obtain ⟨cl, Ar, q1, S1, N1, H1, G1⟩ := V
  obtain ⟨T', h', X', e', W', st⟩ := stJ X hx hZ eT Ar (inb_of S1 q) hg hs hd
  exact ⟨T', h', X', e', W', Arv.set Ar q1 S1 N1 H1 G1 rfl W' _ rfl hi, st⟩
theorem own_ldI (X : Stand p l e R s m args below meth c T locs cells slots) (hx : p.tables.exec = Jvm.exec) (hZ : Z.Warmed39 s.vm) (eT : T.heap = h) (V : Arv Z h a kA .int n vs dv) (q : ¬ j < 0 ∧ j < n) {v : Value} (hv : vs.getD j.toNatClampNeg dv = v) {g : JFrame} (hg : g.method = m) {rest : List Value} (hs : g.stack = .int j :: .ref a :: rest) (hd : decode c.code g.pc = .ok (.iaload, 1)) :
    ∀ target, Steps p.tables e below (T.setTop { g with pc := g.pc + 1, stack := v :: rest }) target → Steps p.tables e below (T.setTop g) target := by
  obtain ⟨cl, Ar, q1, S1, N1, H1, G1⟩ := V
  exact X.iaload hx (by rw [eT]; exact Ar.1) (State.isArrayOf_alike hZ.alike Ar.2.1) Ar.2.2 (inb_of S1 q) (H1.at (inb_of S1 q) hv) hg hs hd
theorem own_ldB (X : Stand p l e R s m args below meth c T locs cells slots) (hx : p.tables.exec = Jvm.exec) (hZ : Z.Warmed39 s.vm) (eT : T.heap = h) (V : Arv Z h a kA .byte n vs dv) (q : ¬ j < 0 ∧ j < n) {v : Value} (hv : vs.getD j.toNatClampNeg dv = v) {g : JFrame} (hg : g.method = m) {rest : List Value} (hs : g.stack = .int j :: .ref a :: rest) (hd : decode c.code g.pc = .ok (.baload, 1)) :
    ∀ target, Steps p.tables e below (T.setTop { g with pc := g.pc + 1, stack := v :: rest }) target → Steps p.tables e below (T.setTop g) target := by
  obtain ⟨cl, Ar, q1, S1, N1, H1, G1⟩ := V
  exact X.baloadBytes hx (by rw [eT]; exact Ar.1) (State.isArrayOf_alike hZ.alike Ar.2.1) Ar.2.2 (inb_of S1 q) (H1.at (inb_of S1 q) hv) hg hs hd
theorem own_ldJ (X : Stand p l e R s m args below meth c T locs cells slots) (hx : p.tables.exec = Jvm.exec) (hZ : Z.Warmed39 s.vm) (eT : T.heap = h) (V : Arv Z h a kA .long n vs dv) (q : ¬ j < 0 ∧ j < n) {v : Value} (hv : vs.getD j.toNatClampNeg dv = v) {g : JFrame} (hg : g.method = m) {rest : List Value} (hs : g.stack = .int j :: .ref a :: rest) (hd : decode c.code g.pc = .ok (.laload, 1)) :
    ∀ target, Steps p.tables e below (T.setTop { g with pc := g.pc + 1, stack := v :: rest }) target → Steps p.tables e below (T.setTop g) target := by
  obtain ⟨cl, Ar, q1, S1, N1, H1, G1⟩ := V
  exact X.laload hx (by rw [eT]; exact Ar.1) (State.isArrayOf_alike hZ.alike Ar.2.1) Ar.2.2 (inb_of S1 q) (H1.at (inb_of S1 q) hv) hg hs hd
theorem own_len {ty : FieldType} (X : Stand p l e R s m args below meth c T locs cells slots) (hx : p.tables.exec = Jvm.exec) (hZ : Z.Warmed39 s.vm) (eT : T.heap = h) (V : Arv Z h a kA ty n vs dv) {g : JFrame} (hg : g.method = m) {rest : List Value} (hs : g.stack = .ref a :: rest) (hd : decode c.code g.pc = .ok (.arraylength, 1)) :
    ∀ target, Steps p.tables e below (T.setTop { g with pc := g.pc + 1, stack := .int n :: rest }) target → Steps p.tables e below (T.setTop g) target := by
  obtain ⟨cl, Ar, q1, S1, N1, H1, G1⟩ := V
  intro t k
  refine X.arraylength hx (by rw [eT]; exact Ar.1) (State.isArrayOf_alike hZ.alike Ar.2.1) hg hs hd t ?_
  rw [len_of S1 N1]; exact k
end Own

def own_y0 (q : Int64) : Int32 := ((q.toInt32).toInt8.toInt32).toInt8.toInt32
def own_ys (k : Int32) (q : Int64) : Int32 := ((((q.toUInt64 >>> (k &&& 0x3f).toInt64.toUInt64).toInt64).toInt32).toInt8.toInt32).toInt8.toInt32
def own_at6 (x0 x1 x2 x3 x4 x5 i : Int32) : Int32 := if i = 0 then x0 else if i = 1 then x1 else if i = 2 then x2 else if i = 3 then x3 else if i = 4 then x4 else x5
theorem own_cases6 {i : Int32} (h : ¬ i < 0 ∧ i < 6) : i = 0 ∨ i = 1 ∨ i = 2 ∨ i = 3 ∨ i = 4 ∨ i = 5 := by
  obtain ⟨h, h'⟩ := h
  rw [Int32.lt_iff_toInt_lt] at h h'
  have e0 : (0 : Int32).toInt = 0 := by decide
  have e1 : (1 : Int32).toInt = 1 := by decide
  have e2 : (2 : Int32).toInt = 2 := by decide
  have e3 : (3 : Int32).toInt = 3 := by decide
  have e4 : (4 : Int32).toInt = 4 := by decide
  have e5 : (5 : Int32).toInt = 5 := by decide
  have e6 : (6 : Int32).toInt = 6 := by decide
  simp only [← Int32.toInt_inj, e0, e1, e2, e3, e4, e5]
  omega
theorem own_getD6 {x0 x1 x2 x3 x4 x5 i : Int32} (h : ¬ i < 0 ∧ i < 6) : [Value.int x0, Value.int x1, Value.int x2, Value.int x3, Value.int x4, Value.int x5].getD i.toNatClampNeg (.int (0 : Int32)) = .int (own_at6 x0 x1 x2 x3 x4 x5 i) := by
  rcases own_cases6 h with rfl | rfl | rfl | rfl | rfl | rfl <;> rfl
theorem own_narc (x : Int32) : nar .char x.toUInt32.toUInt16.toUInt32.toInt32 = x.toUInt32.toUInt16.toUInt32.toInt32 := by
  show (x.toUInt32.toUInt16.toUInt32.toInt32).toUInt32.toUInt16.toUInt32.toInt32 = _
  simp only [UInt32.toUInt32_toInt32, UInt16.toUInt16_toUInt32]
def own_from (r : Int32) : Int32 := (r &&& (2147483647 : Int32)) % (7 : Int32)
def own_to (r f : Int32) : Int32 := f + ((((r.toUInt32 >>> ((8 : Int32) &&& 31).toUInt32).toInt32) &&& (2147483647 : Int32)) % ((7 : Int32) - f))
theorem own_msk (r : Int32) : 0 ≤ (r &&& (2147483647 : Int32)).toInt := by rw [c_mask r 2147483647 31 (by decide) (by decide)]; omega
theorem own_rem {r n : Int32} (hn : 0 < n.toInt) : 0 ≤ ((r &&& (2147483647 : Int32)) % n).toInt ∧ ((r &&& (2147483647 : Int32)) % n).toInt < n.toInt := by
  have h := (c_iremV (r &&& (2147483647 : Int32)) n).1 (own_msk r) hn
  exact ⟨h.1, h.2.1⟩
theorem own_fromB (r : Int32) : 0 ≤ (own_from r).toInt ∧ (own_from r).toInt ≤ 6 := by
  have h := own_rem (r := r) (n := 7) (by decide)
  have e : (7 : Int32).toInt = 7 := by decide
  unfold own_from
  omega
theorem own_7 {f : Int32} (h : 0 ≤ f.toInt ∧ f.toInt ≤ 6) : ((7 : Int32) - f).toInt = 7 - f.toInt := by
  have h1 := c_isub 7 f
  have e : (7 : Int32).toInt = 7 := by decide
  have h2 := rng32 ((7 : Int32) - f)
  omega
theorem own_7nz {f : Int32} (h : 0 ≤ f.toInt ∧ f.toInt ≤ 6) : ((7 : Int32) - f) ≠ 0 := fun q => by
  have h1 := own_7 h
  rw [q] at h1
  have e : (0 : Int32).toInt = 0 := by decide
  omega
theorem own_toB {r f : Int32} (h : 0 ≤ f.toInt ∧ f.toInt ≤ 6) : 0 ≤ f.toInt ∧ f.toInt ≤ (own_to r f).toInt ∧ (own_to r f).toInt ≤ 6 := by
  have h1 := own_7 h
  have h2 := own_rem (r := ((r.toUInt32 >>> ((8 : Int32) &&& 31).toUInt32).toInt32)) (n := (7 : Int32) - f) (by omega)
  unfold own_to
  have h3 := c_iadd f ((((r.toUInt32 >>> ((8 : Int32) &&& 31).toUInt32).toInt32) &&& (2147483647 : Int32)) % ((7 : Int32) - f))
  have h4 := rng32 (f + ((((r.toUInt32 >>> ((8 : Int32) &&& 31).toUInt32).toInt32) &&& (2147483647 : Int32)) % ((7 : Int32) - f)))
  omega
theorem own_seen {f t p kk : Int32} (hb : 0 ≤ f.toInt ∧ f.toInt ≤ t.toInt ∧ t.toInt ≤ 6) (hz : ¬ (t - f) = 0) (hk : (p &&& (2147483647 : Int32)) % (t - f) = kk) : (¬ kk < 0) ∧ kk < (t - f) ∧ (¬ (f + kk) < 0 ∧ (f + kk) < 6) := by
  subst hk
  have h1 := c_isub t f
  have h2 := rng32 (t - f)
  have e : (0 : Int32).toInt = 0 := by decide
  have e6 : (6 : Int32).toInt = 6 := by decide
  rw [← Int32.toInt_inj, e] at hz
  have h3 := own_rem (r := p) (n := t - f) (by omega)
  have h4 := c_iadd f ((p &&& (2147483647 : Int32)) % (t - f))
  have h5 := rng32 (f + ((p &&& (2147483647 : Int32)) % (t - f)))
  simp only [Int32.lt_iff_toInt_lt, e, e6]
  omega
theorem d11_0 : decode jdk_41_method_11_code 0 = .ok (.iload_n 0, 1) := by decide +kernel
theorem d11_1 : decode jdk_41_method_11_code 1 = .ok (.ifCond .lt 8, 3) := by decide +kernel
theorem d11_4 : decode jdk_41_method_11_code 4 = .ok (.iload_n 0, 1) := by decide +kernel
theorem d11_5 : decode jdk_41_method_11_code 5 = .ok (.iload_n 1, 1) := by decide +kernel
theorem d11_6 : decode jdk_41_method_11_code 6 = .ok (.if_icmp .lt 10, 3) := by decide +kernel
theorem d11_16 : decode jdk_41_method_11_code 16 = .ok (.iload_n 0, 1) := by decide +kernel
theorem d11_17 : decode jdk_41_method_11_code 17 = .ok (.ireturn, 1) := by decide +kernel
theorem pn_11 : plainName "jdk/internal/util/Preconditions" = true := by first | (simp [plainName, overriddenIn]; done) | decide +kernel
theorem ef_11 (m : MethodId) (p0 : Int32) (p1 : Int32) : entryFrame m #[(.int p0), (.int p1), .null] 3 = mkF m 0 #[.val (.int p0), .val (.int p1), .val .null] [] := by first | (simp [entryFrame, mkF, argsToLocals, Value.category]; done) | rfl
def Q11 (Z : State) (p0 : Int32) (p1 : Int32)  (h0 : Heap) (n0 : Nat) (v : Option Value) (h : Heap) (L : List Loc) : Prop := v = some (.int p0) ∧ Fr n0 L ∧ h = h0
set_option maxRecDepth 65536 in
set_option maxHeartbeats 40000000 in
theorem rm11 (l : Launch) (Z : State) (a0 : Array Value) (hw : ∀ d ∈ tables_1, d.before a0 Z = true) (ws : List Jvm.Cond) (p0 : Int32) (p1 : Int32)  (h0 : Heap) (n0 : Nat) (Z0 : n0 ≤ h0.size) (H0 : ¬ p0 < 0) (H1 : p0 < p1) :
    MetFree l (⟨"jdk/internal/util/Preconditions", "checkIndex", "(IILjava/util/function/BiFunction;)I"⟩ : MethodName) (head1 (Jvm.Cond.code (⟨"jdk/internal/util/Preconditions", "checkIndex", "(IILjava/util/function/BiFunction;)I"⟩ : MethodName) jdk_41_method_11_code 3 (some .int) :: ws) ({ frames := 0, cells := 0, slots := 0, locals := 0 } : Room)) (fun a U => a = #[(.int p0), (.int p1), .null] ∧ Z.Warmed39 U.vm ∧ U.heap = h0) (fun _ _ _ _ _ => True) (fun _ U o U' => ∃ v L, o = .returned v ∧ Q11 Z p0 p1 h0 n0 v U'.heap L ∧ FrameEnd U o U' L ({ frames := 0, cells := 0, slots := 0, locals := 0 } : Room).cells ({ frames := 0, cells := 0, slots := 0, locals := 0 } : Room).slots) := by
  refine MetFree.of_bodySF (plainFor_of_name pn_11) hisR ?_
  intro p e s m args below meth c s₁ Bd hml0 hP hK
  obtain ⟨rfl, hZ, hh⟩ := hP
  have hx := Bd.exec
  have hby := Bd.bytes
  have hml : c.maxLocals = 3 := hml0
  have hown : s.vm.findClass "jdk/internal/util/Preconditions" = some m.cls := findClass_of_methodNamed Bd.named
  have hnm := (name_of_methodNamed Bd.named Bd.method).1
  have hlk : meth.locks = false := Bd.notSynchronized
  have X0 : Stand p l e ({ frames := 0, cells := 0, slots := 0, locals := 0 } : Room) s m #[(.int p0), (.int p1), .null] below meth c s₁ [] 0 0 := Stand.of_body Bd
  have e0 : s₁.heap = h0 := by rw [← hh, Bd.state]; rfl
  have N0 := Fr.nil n0
  refine own_cast (Q := Q11 Z p0 p1 h0 n0) (kc := 0) (ks := 0) (ef_11 m p0 p1) ?_
  refine own_st (fun _ k => XS.iloadN X0.here hx rfl (hb hby d11_0) rfl k) ?_
  show own_Go X0 (Q11 Z p0 p1 h0 n0) 0 0 1 #[.val (.int p0), .val (.int p1), .val .null] [(.int p0)]
  have c1_1 : ¬ (p0 < (0 : Int32)) := H0
  refine own_st (fun _ k => XS.ifNo X0.here hx rfl (hb hby d11_1) rfl ((if0 _ _).trans (flt c1_1).1) k) ?_
  show own_Go X0 (Q11 Z p0 p1 h0 n0) 0 0 4 #[.val (.int p0), .val (.int p1), .val .null] []
  refine own_st (fun _ k => XS.iloadN X0.here hx rfl (hb hby d11_4) rfl k) ?_
  show own_Go X0 (Q11 Z p0 p1 h0 n0) 0 0 5 #[.val (.int p0), .val (.int p1), .val .null] [(.int p0)]
  refine own_st (fun _ k => XS.iloadN X0.here hx rfl (hb hby d11_5) rfl k) ?_
  show own_Go X0 (Q11 Z p0 p1 h0 n0) 0 0 6 #[.val (.int p0), .val (.int p1), .val .null] [(.int p1), (.int p0)]
  have c6_2 : p0 < p1 := H1
  refine own_st (fun _ k => XS.icmpYes X0.here hx rfl (pc0 := 6) (pc' := 16) rfl (hb hby d11_6) rfl (tlt c6_2).1 (by decide) (by decide) k) ?_
  show own_Go X0 (Q11 Z p0 p1 h0 n0) 0 0 16 #[.val (.int p0), .val (.int p1), .val .null] []
  refine own_st (fun _ k => XS.iloadN X0.here hx rfl (hb hby d11_16) rfl k) ?_
  show own_Go X0 (Q11 Z p0 p1 h0 n0) 0 0 17 #[.val (.int p0), .val (.int p1), .val .null] [(.int p0)]
  refine own_retI X0 hx Bd.returns hlk e0 (hb hby d11_17) (by decide) (by decide) ?_
  exact ⟨rfl, N0, rfl⟩
theorem d10_0 : decode jdk_31_method_17_code 0 = .ok (.iload_n 0, 1) := by decide +kernel
theorem d10_1 : decode jdk_31_method_17_code 1 = .ok (.iload_n 1, 1) := by decide +kernel
theorem d10_2 : decode jdk_31_method_17_code 2 = .ok (.aconst_null, 1) := by decide +kernel
theorem d10_3 : decode jdk_31_method_17_code 3 = .ok (.invokestatic 105, 3) := by decide +kernel
theorem d10_6 : decode jdk_31_method_17_code 6 = .ok (.ireturn, 1) := by decide +kernel
theorem pn_10 : plainName "java/util/Objects" = true := by first | (simp [plainName, overriddenIn]; done) | decide +kernel
theorem pd_10_0 : parseMethodDescriptor "(IILjava/util/function/BiFunction;)I" = some ⟨[.int, .int, (.object "java/util/function/BiFunction")], some .int⟩ := by decide +kernel
theorem ef_10 (m : MethodId) (p0 : Int32) (p1 : Int32) : entryFrame m #[(.int p0), (.int p1)] 2 = mkF m 0 #[.val (.int p0), .val (.int p1)] [] := by first | (simp [entryFrame, mkF, argsToLocals, Value.category]; done) | rfl
def Q10 (Z : State) (p0 : Int32) (p1 : Int32)  (h0 : Heap) (n0 : Nat) (v : Option Value) (h : Heap) (L : List Loc) : Prop := v = some (.int p0) ∧ Fr n0 L ∧ h = h0
set_option maxRecDepth 65536 in
set_option maxHeartbeats 40000000 in
theorem rm10 (l : Launch) (Z : State) (a0 : Array Value) (hw : ∀ d ∈ tables_1, d.before a0 Z = true) (ws : List Jvm.Cond) (p0 : Int32) (p1 : Int32)  (h0 : Heap) (n0 : Nat) (Z0 : n0 ≤ h0.size) (H0 : ¬ p0 < 0) (H1 : p0 < p1) :
    MetFree l (⟨"java/util/Objects", "checkIndex", "(II)I"⟩ : MethodName) (head1 (Jvm.Cond.code (⟨"java/util/Objects", "checkIndex", "(II)I"⟩ : MethodName) jdk_31_method_17_code 2 (some .int) :: ws) ({ frames := 1, cells := 0, slots := 0, locals := 14 } : Room)) (fun a U => a = #[(.int p0), (.int p1)] ∧ Z.Warmed39 U.vm ∧ U.heap = h0) (fun _ _ _ _ _ => True) (fun _ U o U' => ∃ v L, o = .returned v ∧ Q10 Z p0 p1 h0 n0 v U'.heap L ∧ FrameEnd U o U' L ({ frames := 1, cells := 0, slots := 0, locals := 14 } : Room).cells ({ frames := 1, cells := 0, slots := 0, locals := 14 } : Room).slots) := by
  refine MetFree.of_bodySF (plainFor_of_name pn_10) hisR ?_
  intro p e s m args below meth c s₁ Bd hml0 hP hK
  obtain ⟨rfl, hZ, hh⟩ := hP
  have hx := Bd.exec
  have hby := Bd.bytes
  have hml : c.maxLocals = 2 := hml0
  have hown : s.vm.findClass "java/util/Objects" = some m.cls := findClass_of_methodNamed Bd.named
  have hnm := (name_of_methodNamed Bd.named Bd.method).1
  have hlk : meth.locks = false := Bd.notSynchronized
  have X0 : Stand p l e ({ frames := 1, cells := 0, slots := 0, locals := 14 } : Room) s m #[(.int p0), (.int p1)] below meth c s₁ [] 0 0 := Stand.of_body Bd
  have e0 : s₁.heap = h0 := by rw [← hh, Bd.state]; rfl
  have N0 := Fr.nil n0
  refine own_cast (Q := Q10 Z p0 p1 h0 n0) (kc := 0) (ks := 0) (ef_10 m p0 p1) ?_
  refine own_st (fun _ k => XS.iloadN X0.here hx rfl (hb hby d10_0) rfl k) ?_
  show own_Go X0 (Q10 Z p0 p1 h0 n0) 0 0 1 #[.val (.int p0), .val (.int p1)] [(.int p0)]
  refine own_st (fun _ k => XS.iloadN X0.here hx rfl (hb hby d10_1) rfl k) ?_
  show own_Go X0 (Q10 Z p0 p1 h0 n0) 0 0 2 #[.val (.int p0), .val (.int p1)] [(.int p1), (.int p0)]
  refine own_st (fun _ k => XS.aconstNull X0.here hx rfl (hb hby d10_2) k) ?_
  show own_Go X0 (Q10 Z p0 p1 h0 n0) 0 0 3 #[.val (.int p0), .val (.int p1)] [.null, (.int p1), (.int p0)]
  refine own_callS (W := 0) X0 hx hZ hown (hw _ (List.mem_of_getElem? (i := 49) rfl)) (hw _ (List.mem_of_getElem? (i := 50) rfl)) (hw _ (List.mem_of_getElem? (i := 51) rfl)) (hw _ (List.mem_of_getElem? (i := 52) rfl)) (by decide) (rm11 l Z a0 hw [] p0 p1  h0 n0 Z0 H0 H1) (by decide) (by decide) (by rw [hml]; rfl) [(.int p0), (.int p1), .null] [] (lenOf pd_10_0 rfl) rfl rfl (Nat.le_of_ble_eq_true rfl) (hb hby d10_3) e0 (by decide) (by decide) ?_
  rintro _ T1 L1 X1 ⟨rfl, N1q, e1⟩
  have N_2 := Fr.app N0 N1q
  show own_Go X1 (Q10 Z p0 p1 h0 n0) 0 0 6 #[.val (.int p0), .val (.int p1)] [(.int p0)]
  refine own_retI X1 hx Bd.returns hlk e1 (hb hby d10_6) (by decide) (by decide) ?_
  exact ⟨rfl, N_2, rfl⟩
theorem d8_0 : decode prog_93_method_11_code 0 = .ok (.aload_n 0, 1) := by decide +kernel
theorem d8_1 : decode prog_93_method_11_code 1 = .ok (.getfield 25, 3) := by decide +kernel
theorem d8_4 : decode prog_93_method_11_code 4 = .ok (.ireturn, 1) := by decide +kernel
theorem pn_8 : plainName "com/example/stopbit/stopbit/Text" = true := by first | (simp [plainName, overriddenIn]; done) | decide +kernel
theorem ef_8 (m : MethodId) (r0 : Addr) : entryFrame m #[(.ref r0)] 1 = mkF m 0 #[.val (.ref r0)] [] := by first | (simp [entryFrame, mkF, argsToLocals, Value.category]; done) | rfl
def Q8 (Z : State) (r0 : Addr) (ln : Int32) (h0 : Heap) (n0 : Nat) (v : Option Value) (h : Heap) (L : List Loc) : Prop := v = some (.int ln) ∧ Fr n0 L ∧ h = h0
set_option maxRecDepth 65536 in
set_option maxHeartbeats 40000000 in
theorem rm8 (l : Launch) (Z : State) (a0 : Array Value) (hw : ∀ d ∈ tables_1, d.before a0 Z = true) (ws : List Jvm.Cond) (r0 : Addr) (ln : Int32) (h0 : Heap) (n0 : Nat) (Z0 : n0 ≤ h0.size) (P_length : Fld Z h0 r0 "com/example/stopbit/stopbit/Text" "length" "I" (.int ln)) :
    MetFree l (⟨"com/example/stopbit/stopbit/Text", "length", "()I"⟩ : MethodName) (head1 (Jvm.Cond.code (⟨"com/example/stopbit/stopbit/Text", "length", "()I"⟩ : MethodName) prog_93_method_11_code 1 (some .int) :: ws) ({ frames := 0, cells := 0, slots := 0, locals := 0 } : Room)) (fun a U => a = #[(.ref r0)] ∧ Z.Warmed39 U.vm ∧ U.heap = h0) (fun _ _ _ _ _ => True) (fun _ U o U' => ∃ v L, o = .returned v ∧ Q8 Z r0 ln h0 n0 v U'.heap L ∧ FrameEnd U o U' L ({ frames := 0, cells := 0, slots := 0, locals := 0 } : Room).cells ({ frames := 0, cells := 0, slots := 0, locals := 0 } : Room).slots) := by
  refine MetFree.of_bodySF (plainFor_of_name pn_8) hisR ?_
  intro p e s m args below meth c s₁ Bd hml0 hP hK
  obtain ⟨rfl, hZ, hh⟩ := hP
  have hx := Bd.exec
  have hby := Bd.bytes
  have hml : c.maxLocals = 1 := hml0
  have hown : s.vm.findClass "com/example/stopbit/stopbit/Text" = some m.cls := findClass_of_methodNamed Bd.named
  have hnm := (name_of_methodNamed Bd.named Bd.method).1
  have hlk : meth.locks = false := Bd.notSynchronized
  have X0 : Stand p l e ({ frames := 0, cells := 0, slots := 0, locals := 0 } : Room) s m #[(.ref r0)] below meth c s₁ [] 0 0 := Stand.of_body Bd
  have e0 : s₁.heap = h0 := by rw [← hh, Bd.state]; rfl
  have N0 := Fr.nil n0
  refine own_cast (Q := Q8 Z r0 ln h0 n0) (kc := 0) (ks := 0) (ef_8 m r0) ?_
  refine own_st (fun _ k => XS.aloadN X0.here hx rfl (hb hby d8_0) rfl rfl k) ?_
  show own_Go X0 (Q8 Z r0 ln h0 n0) 0 0 1 #[.val (.ref r0)] [(.ref r0)]
  obtain ⟨T1, X1, e1, st1⟩ := getF X0 hx hZ hown (host := "") (Or.inl (hw _ (List.mem_of_getElem? (i := 30) rfl))) Via.refl e0 P_length (g := (mkF m 1 #[.val (.ref r0)] [(.ref r0)])) rfl rfl (hb hby d8_1)
  refine own_st st1 ?_
  show own_Go X1 (Q8 Z r0 ln h0 n0) 0 0 4 #[.val (.ref r0)] [(.int ln)]
  refine own_retI X1 hx Bd.returns hlk e1 (hb hby d8_4) (by decide) (by decide) ?_
  exact ⟨rfl, N0, rfl⟩
theorem d9_0 : decode prog_93_method_12_code 0 = .ok (.iload_n 1, 1) := by decide +kernel
theorem d9_1 : decode prog_93_method_12_code 1 = .ok (.aload_n 0, 1) := by decide +kernel
theorem d9_2 : decode prog_93_method_12_code 2 = .ok (.getfield 25, 3) := by decide +kernel
theorem d9_5 : decode prog_93_method_12_code 5 = .ok (.invokestatic 96, 3) := by decide +kernel
theorem d9_8 : decode prog_93_method_12_code 8 = .ok (.pop, 1) := by decide +kernel
theorem d9_9 : decode prog_93_method_12_code 9 = .ok (.aload_n 0, 1) := by decide +kernel
theorem d9_10 : decode prog_93_method_12_code 10 = .ok (.getfield 66, 3) := by decide +kernel
theorem d9_13 : decode prog_93_method_12_code 13 = .ok (.ifnonnull 21, 3) := by decide +kernel
theorem d9_16 : decode prog_93_method_12_code 16 = .ok (.aload_n 0, 1) := by decide +kernel
theorem d9_17 : decode prog_93_method_12_code 17 = .ok (.getfield 9, 3) := by decide +kernel
theorem d9_20 : decode prog_93_method_12_code 20 = .ok (.aload_n 0, 1) := by decide +kernel
theorem d9_21 : decode prog_93_method_12_code 21 = .ok (.getfield 50, 3) := by decide +kernel
theorem d9_24 : decode prog_93_method_12_code 24 = .ok (.iload_n 1, 1) := by decide +kernel
theorem d9_25 : decode prog_93_method_12_code 25 = .ok (.iadd, 1) := by decide +kernel
theorem d9_26 : decode prog_93_method_12_code 26 = .ok (.baload, 1) := by decide +kernel
theorem d9_27 : decode prog_93_method_12_code 27 = .ok (.bipush 127, 2) := by decide +kernel
theorem d9_29 : decode prog_93_method_12_code 29 = .ok (.iand, 1) := by decide +kernel
theorem d9_30 : decode prog_93_method_12_code 30 = .ok (.i2c, 1) := by decide +kernel
theorem d9_31 : decode prog_93_method_12_code 31 = .ok (.goto 9, 3) := by decide +kernel
theorem d9_40 : decode prog_93_method_12_code 40 = .ok (.ireturn, 1) := by decide +kernel
theorem pn_9 : plainName "com/example/stopbit/stopbit/Text" = true := by first | (simp [plainName, overriddenIn]; done) | decide +kernel
theorem pd_9_0 : parseMethodDescriptor "(II)I" = some ⟨[.int, .int], some .int⟩ := by decide +kernel
theorem ef_9 (m : MethodId) (r0 : Addr) (p1 : Int32) : entryFrame m #[(.ref r0), (.int p1)] 2 = mkF m 0 #[.val (.ref r0), .val (.int p1)] [] := by first | (simp [entryFrame, mkF, argsToLocals, Value.category]; done) | rfl
def Q9 (Z : State) (r0 : Addr) (p1 : Int32) (ch : Addr) (sa ln nn : Int32) (kA : ClassId) (vs : List Value) (bb : Int32) (h0 : Heap) (n0 : Nat) (v : Option Value) (h : Heap) (L : List Loc) : Prop := v = some (.int ((bb &&& (127 : Int32)).toUInt32.toUInt16.toUInt32.toInt32)) ∧ Fr n0 L ∧ h = h0
set_option maxRecDepth 65536 in
set_option maxHeartbeats 40000000 in
theorem rm9 (l : Launch) (Z : State) (a0 : Array Value) (hw : ∀ d ∈ tables_1, d.before a0 Z = true) (ws : List Jvm.Cond) (r0 : Addr) (p1 : Int32) (ch : Addr) (sa ln nn : Int32) (kA : ClassId) (vs : List Value) (bb : Int32) (h0 : Heap) (n0 : Nat) (Z0 : n0 ≤ h0.size) (P_length : Fld Z h0 r0 "com/example/stopbit/stopbit/Text" "length" "I" (.int ln)) (P_decoded : Fld Z h0 r0 "com/example/stopbit/stopbit/Text" "decoded" "[C" .null) (P_characters : Fld Z h0 r0 "com/example/stopbit/stopbit/Text" "characters" "[B" (.ref ch)) (P_start : Fld Z h0 r0 "com/example/stopbit/stopbit/Text" "start" "I" (.int sa)) (PV : Arv Z h0 ch kA .byte nn vs (.int (0 : Int32))) (H0 : ¬ p1 < 0) (H1 : p1 < ln) (B : ¬ (sa + p1) < 0 ∧ (sa + p1) < nn) (hv : vs.getD (sa + p1).toNatClampNeg (.int (0 : Int32)) = .int bb) :
    MetFree l (⟨"com/example/stopbit/stopbit/Text", "charAt", "(I)C"⟩ : MethodName) (head1 (Jvm.Cond.code (⟨"com/example/stopbit/stopbit/Text", "charAt", "(I)C"⟩ : MethodName) prog_93_method_12_code 2 (some .char) :: ws) ({ frames := 2, cells := 0, slots := 0, locals := 27 } : Room)) (fun a U => a = #[(.ref r0), (.int p1)] ∧ Z.Warmed39 U.vm ∧ U.heap = h0) (fun _ _ _ _ _ => True) (fun _ U o U' => ∃ v L, o = .returned v ∧ Q9 Z r0 p1 ch sa ln nn kA vs bb h0 n0 v U'.heap L ∧ FrameEnd U o U' L ({ frames := 2, cells := 0, slots := 0, locals := 27 } : Room).cells ({ frames := 2, cells := 0, slots := 0, locals := 27 } : Room).slots) := by
  refine MetFree.of_bodySF (plainFor_of_name pn_9) hisR ?_
  intro p e s m args below meth c s₁ Bd hml0 hP hK
  obtain ⟨rfl, hZ, hh⟩ := hP
  have hx := Bd.exec
  have hby := Bd.bytes
  have hml : c.maxLocals = 2 := hml0
  have hown : s.vm.findClass "com/example/stopbit/stopbit/Text" = some m.cls := findClass_of_methodNamed Bd.named
  have hnm := (name_of_methodNamed Bd.named Bd.method).1
  have hlk : meth.locks = false := Bd.notSynchronized
  have X0 : Stand p l e ({ frames := 2, cells := 0, slots := 0, locals := 27 } : Room) s m #[(.ref r0), (.int p1)] below meth c s₁ [] 0 0 := Stand.of_body Bd
  have e0 : s₁.heap = h0 := by rw [← hh, Bd.state]; rfl
  have N0 := Fr.nil n0
  refine own_cast (Q := Q9 Z r0 p1 ch sa ln nn kA vs bb h0 n0) (kc := 0) (ks := 0) (ef_9 m r0 p1) ?_
  refine own_st (fun _ k => XS.iloadN X0.here hx rfl (hb hby d9_0) rfl k) ?_
  show own_Go X0 (Q9 Z r0 p1 ch sa ln nn kA vs bb h0 n0) 0 0 1 #[.val (.ref r0), .val (.int p1)] [(.int p1)]
  refine own_st (fun _ k => XS.aloadN X0.here hx rfl (hb hby d9_1) rfl rfl k) ?_
  show own_Go X0 (Q9 Z r0 p1 ch sa ln nn kA vs bb h0 n0) 0 0 2 #[.val (.ref r0), .val (.int p1)] [(.ref r0), (.int p1)]
  obtain ⟨T1, X1, e1, st1⟩ := getF X0 hx hZ hown (host := "") (Or.inl (hw _ (List.mem_of_getElem? (i := 30) rfl))) Via.refl e0 P_length (g := (mkF m 2 #[.val (.ref r0), .val (.int p1)] [(.ref r0), (.int p1)])) rfl rfl (hb hby d9_2)
  refine own_st st1 ?_
  show own_Go X1 (Q9 Z r0 p1 ch sa ln nn kA vs bb h0 n0) 0 0 5 #[.val (.ref r0), .val (.int p1)] [(.int ln), (.int p1)]
  refine own_callS (W := 0) X1 hx hZ hown (hw _ (List.mem_of_getElem? (i := 45) rfl)) (hw _ (List.mem_of_getElem? (i := 46) rfl)) (hw _ (List.mem_of_getElem? (i := 47) rfl)) (hw _ (List.mem_of_getElem? (i := 48) rfl)) (by decide) (rm10 l Z a0 hw [] p1 ln  h0 n0 Z0 H0 H1) (by decide) (by decide) (by rw [hml]; rfl) [(.int p1), (.int ln)] [] (lenOf pd_9_0 rfl) rfl rfl (Nat.le_of_ble_eq_true rfl) (hb hby d9_5) e1 (by decide) (by decide) ?_
  rintro _ T2 L2 X2 ⟨rfl, N2q, e2⟩
  have N_3 := Fr.app N0 N2q
  show own_Go X2 (Q9 Z r0 p1 ch sa ln nn kA vs bb h0 n0) 0 0 8 #[.val (.ref r0), .val (.int p1)] [(.int p1)]
  refine own_st (fun _ k => XS.pop X2.here hx rfl (hb hby d9_8) rfl rfl k) ?_
  show own_Go X2 (Q9 Z r0 p1 ch sa ln nn kA vs bb h0 n0) 0 0 9 #[.val (.ref r0), .val (.int p1)] []
  refine own_st (fun _ k => XS.aloadN X2.here hx rfl (hb hby d9_9) rfl rfl k) ?_
  show own_Go X2 (Q9 Z r0 p1 ch sa ln nn kA vs bb h0 n0) 0 0 10 #[.val (.ref r0), .val (.int p1)] [(.ref r0)]
  obtain ⟨T4, X4, e4, st4⟩ := getF X2 hx hZ hown (host := "") (Or.inl (hw _ (List.mem_of_getElem? (i := 53) rfl))) Via.refl e2 P_decoded (g := (mkF m 10 #[.val (.ref r0), .val (.int p1)] [(.ref r0)])) rfl rfl (hb hby d9_10)
  refine own_st st4 ?_
  show own_Go X4 (Q9 Z r0 p1 ch sa ln nn kA vs bb h0 n0) 0 0 13 #[.val (.ref r0), .val (.int p1)] [.null]
  refine own_st (fun _ k => XS.ifnonnullNo X4.here hx rfl (hb hby d9_13) rfl k) ?_
  show own_Go X4 (Q9 Z r0 p1 ch sa ln nn kA vs bb h0 n0) 0 0 16 #[.val (.ref r0), .val (.int p1)] []
  refine own_st (fun _ k => XS.aloadN X4.here hx rfl (hb hby d9_16) rfl rfl k) ?_
  show own_Go X4 (Q9 Z r0 p1 ch sa ln nn kA vs bb h0 n0) 0 0 17 #[.val (.ref r0), .val (.int p1)] [(.ref r0)]
  obtain ⟨T5, X5, e5, st5⟩ := getF X4 hx hZ hown (host := "") (Or.inl (hw _ (List.mem_of_getElem? (i := 21) rfl))) Via.refl e4 P_characters (g := (mkF m 17 #[.val (.ref r0), .val (.int p1)] [(.ref r0)])) rfl rfl (hb hby d9_17)
  refine own_st st5 ?_
  show own_Go X5 (Q9 Z r0 p1 ch sa ln nn kA vs bb h0 n0) 0 0 20 #[.val (.ref r0), .val (.int p1)] [(.ref ch)]
  refine own_st (fun _ k => XS.aloadN X5.here hx rfl (hb hby d9_20) rfl rfl k) ?_
  show own_Go X5 (Q9 Z r0 p1 ch sa ln nn kA vs bb h0 n0) 0 0 21 #[.val (.ref r0), .val (.int p1)] [(.ref r0), (.ref ch)]
  obtain ⟨T6, X6, e6, st6⟩ := getF X5 hx hZ hown (host := "") (Or.inl (hw _ (List.mem_of_getElem? (i := 28) rfl))) Via.refl e5 P_start (g := (mkF m 21 #[.val (.ref r0), .val (.int p1)] [(.ref r0), (.ref ch)])) rfl rfl (hb hby d9_21)
  refine own_st st6 ?_
  show own_Go X6 (Q9 Z r0 p1 ch sa ln nn kA vs bb h0 n0) 0 0 24 #[.val (.ref r0), .val (.int p1)] [(.int sa), (.ref ch)]
  refine own_st (fun _ k => XS.iloadN X6.here hx rfl (hb hby d9_24) rfl k) ?_
  show own_Go X6 (Q9 Z r0 p1 ch sa ln nn kA vs bb h0 n0) 0 0 25 #[.val (.ref r0), .val (.int p1)] [(.int p1), (.int sa), (.ref ch)]
  refine own_st (fun _ k => XS.iadd X6.here hx rfl (hb hby d9_25) rfl k) ?_
  show own_Go X6 (Q9 Z r0 p1 ch sa ln nn kA vs bb h0 n0) 0 0 26 #[.val (.ref r0), .val (.int p1)] [(.int (sa + p1)), (.ref ch)]
  refine own_st (fun _ k => own_ldB X6 hx hZ e6 PV (j := (sa + p1)) B (v := (.int bb)) hv (g := (mkF m 26 #[.val (.ref r0), .val (.int p1)] [(.int (sa + p1)), (.ref ch)])) rfl rfl (hb hby d9_26) _ k) ?_
  show own_Go X6 (Q9 Z r0 p1 ch sa ln nn kA vs bb h0 n0) 0 0 27 #[.val (.ref r0), .val (.int p1)] [(.int bb)]
  refine own_st (fun _ k => XS.bipush X6.here hx rfl (hb hby d9_27) k) ?_
  show own_Go X6 (Q9 Z r0 p1 ch sa ln nn kA vs bb h0 n0) 0 0 29 #[.val (.ref r0), .val (.int p1)] [(.int (127 : Int32)), (.int bb)]
  refine own_st (fun _ k => XS.iand X6.here hx rfl (hb hby d9_29) rfl k) ?_
  show own_Go X6 (Q9 Z r0 p1 ch sa ln nn kA vs bb h0 n0) 0 0 30 #[.val (.ref r0), .val (.int p1)] [(.int (bb &&& (127 : Int32)))]
  refine own_st (fun _ k => XS.i2c X6.here hx rfl (hb hby d9_30) rfl k) ?_
  show own_Go X6 (Q9 Z r0 p1 ch sa ln nn kA vs bb h0 n0) 0 0 31 #[.val (.ref r0), .val (.int p1)] [(.int ((bb &&& (127 : Int32)).toUInt32.toUInt16.toUInt32.toInt32))]
  refine own_st (fun _ k => XS.goto X6.here hx rfl (pc0 := 31) (pc' := 40) rfl (hb hby d9_31) (by decide) (by decide) k) ?_
  show own_Go X6 (Q9 Z r0 p1 ch sa ln nn kA vs bb h0 n0) 0 0 40 #[.val (.ref r0), .val (.int p1)] [(.int ((bb &&& (127 : Int32)).toUInt32.toUInt16.toUInt32.toInt32))]
  refine own_retN X6 hx Bd.returns (by simp) hlk e6 (hb hby d9_40) (by decide) (by decide) ?_
  exact ⟨by rw [own_narc], N_3, rfl⟩
theorem d7_0 : decode method_5_code 0 = .ok (.iload_n 3, 1) := by decide +kernel
theorem d7_1 : decode method_5_code 1 = .ok (.iload_n 2, 1) := by decide +kernel
theorem d7_2 : decode method_5_code 2 = .ok (.isub, 1) := by decide +kernel
theorem d7_3 : decode method_5_code 3 = .ok (.istore 5, 2) := by decide +kernel
theorem d7_5 : decode method_5_code 5 = .ok (.aload_n 0, 1) := by decide +kernel
theorem d7_6 : decode method_5_code 6 = .ok (.invokevirtual 8, 3) := by decide +kernel
theorem d7_9 : decode method_5_code 9 = .ok (.iload 5, 2) := by decide +kernel
theorem d7_11 : decode method_5_code 11 = .ok (.if_icmp .eq 5, 3) := by decide +kernel
theorem d7_16 : decode method_5_code 16 = .ok (.iload 5, 2) := by decide +kernel
theorem d7_18 : decode method_5_code 18 = .ok (.ifCond .ne 5, 3) := by decide +kernel
theorem d7_21 : decode method_5_code 21 = .ok (.iconst 1, 1) := by decide +kernel
theorem d7_22 : decode method_5_code 22 = .ok (.ireturn, 1) := by decide +kernel
theorem d7_23 : decode method_5_code 23 = .ok (.iload 4, 2) := by decide +kernel
theorem d7_25 : decode method_5_code 25 = .ok (.ldc 7, 2) := by decide +kernel
theorem d7_27 : decode method_5_code 27 = .ok (.iand, 1) := by decide +kernel
theorem d7_28 : decode method_5_code 28 = .ok (.iload 5, 2) := by decide +kernel
theorem d7_30 : decode method_5_code 30 = .ok (.irem, 1) := by decide +kernel
theorem d7_31 : decode method_5_code 31 = .ok (.istore 6, 2) := by decide +kernel
theorem d7_33 : decode method_5_code 33 = .ok (.aload_n 0, 1) := by decide +kernel
theorem d7_34 : decode method_5_code 34 = .ok (.iload 6, 2) := by decide +kernel
theorem d7_36 : decode method_5_code 36 = .ok (.invokevirtual 14, 3) := by decide +kernel
theorem d7_39 : decode method_5_code 39 = .ok (.aload_n 1, 1) := by decide +kernel
theorem d7_40 : decode method_5_code 40 = .ok (.iload_n 2, 1) := by decide +kernel
theorem d7_41 : decode method_5_code 41 = .ok (.iload 6, 2) := by decide +kernel
theorem d7_43 : decode method_5_code 43 = .ok (.iadd, 1) := by decide +kernel
theorem d7_44 : decode method_5_code 44 = .ok (.baload, 1) := by decide +kernel
theorem d7_45 : decode method_5_code 45 = .ok (.bipush 127, 2) := by decide +kernel
theorem d7_47 : decode method_5_code 47 = .ok (.iand, 1) := by decide +kernel
theorem d7_48 : decode method_5_code 48 = .ok (.i2c, 1) := by decide +kernel
theorem d7_49 : decode method_5_code 49 = .ok (.if_icmp .ne 7, 3) := by decide +kernel
theorem d7_52 : decode method_5_code 52 = .ok (.iconst 1, 1) := by decide +kernel
theorem d7_53 : decode method_5_code 53 = .ok (.goto 4, 3) := by decide +kernel
theorem d7_57 : decode method_5_code 57 = .ok (.ireturn, 1) := by decide +kernel
theorem pn_7 : plainName "com/example/stopbit/stopbit/TextViewPinLaw" = true := by first | (simp [plainName, overriddenIn]; done) | decide +kernel
theorem pd_7_0 : parseMethodDescriptor "()I" = some ⟨[], some .int⟩ := by decide +kernel
theorem pd_7_1 : parseMethodDescriptor "(I)C" = some ⟨[.int], some .char⟩ := by decide +kernel
theorem ef_7 (m : MethodId) (r0 : Addr) (r1 : Addr) (p2 : Int32) (p3 : Int32) (p4 : Int32) : entryFrame m #[(.ref r0), (.ref r1), (.int p2), (.int p3), (.int p4)] 7 = mkF m 0 #[.val (.ref r0), .val (.ref r1), .val (.int p2), .val (.int p3), .val (.int p4), .unset, .unset] [] := by first | (simp [entryFrame, mkF, argsToLocals, Value.category]; done) | rfl
def Q7 (Z : State) (r0 : Addr) (r1 : Addr) (p2 : Int32) (p3 : Int32) (p4 : Int32) (kA : ClassId) (x0 x1 x2 x3 x4 x5 : Int32) (h0 : Heap) (n0 : Nat) (v : Option Value) (h : Heap) (L : List Loc) : Prop := v = some (.int 1) ∧ Fr n0 L ∧ h = h0
set_option maxRecDepth 65536 in
set_option maxHeartbeats 40000000 in
theorem rm7 (l : Launch) (Z : State) (a0 : Array Value) (hw : ∀ d ∈ tables_1, d.before a0 Z = true) (ws : List Jvm.Cond) (r0 : Addr) (r1 : Addr) (p2 : Int32) (p3 : Int32) (p4 : Int32) (kA : ClassId) (x0 x1 x2 x3 x4 x5 : Int32) (h0 : Heap) (n0 : Nat) (Z0 : n0 ≤ h0.size) (PE : Exa Z h0 r0 "com/example/stopbit/stopbit/Text") (P_length : Fld Z h0 r0 "com/example/stopbit/stopbit/Text" "length" "I" (.int (p3 - p2))) (P_decoded : Fld Z h0 r0 "com/example/stopbit/stopbit/Text" "decoded" "[C" .null) (P_characters : Fld Z h0 r0 "com/example/stopbit/stopbit/Text" "characters" "[B" (.ref r1)) (P_start : Fld Z h0 r0 "com/example/stopbit/stopbit/Text" "start" "I" (.int p2)) (PV : Arv Z h0 r1 kA .byte (6 : Int32) [(.int x0), (.int x1), (.int x2), (.int x3), (.int x4), (.int x5)] (.int (0 : Int32))) (HB : 0 ≤ p2.toInt ∧ p2.toInt ≤ p3.toInt ∧ p3.toInt ≤ 6) :
    MetFree l (⟨"com/example/stopbit/stopbit/TextViewPinLaw", "seen", "(Lcom/example/stopbit/stopbit/Text;[BIII)Z"⟩ : MethodName) (head1 (Jvm.Cond.code (⟨"com/example/stopbit/stopbit/TextViewPinLaw", "seen", "(Lcom/example/stopbit/stopbit/Text;[BIII)Z"⟩ : MethodName) method_5_code 7 (some .boolean) :: ws) ({ frames := 3, cells := 0, slots := 0, locals := 40 } : Room)) (fun a U => a = #[(.ref r0), (.ref r1), (.int p2), (.int p3), (.int p4)] ∧ Z.Warmed39 U.vm ∧ U.heap = h0) (fun _ _ _ _ _ => True) (fun _ U o U' => ∃ v L, o = .returned v ∧ Q7 Z r0 r1 p2 p3 p4 kA x0 x1 x2 x3 x4 x5 h0 n0 v U'.heap L ∧ FrameEnd U o U' L ({ frames := 3, cells := 0, slots := 0, locals := 40 } : Room).cells ({ frames := 3, cells := 0, slots := 0, locals := 40 } : Room).slots) := by
  refine MetFree.of_bodySF (plainFor_of_name pn_7) hisR ?_
  intro p e s m args below meth c s₁ Bd hml0 hP hK
  obtain ⟨rfl, hZ, hh⟩ := hP
  have hx := Bd.exec
  have hby := Bd.bytes
  have hml : c.maxLocals = 7 := hml0
  have hown : s.vm.findClass "com/example/stopbit/stopbit/TextViewPinLaw" = some m.cls := findClass_of_methodNamed Bd.named
  have hnm := (name_of_methodNamed Bd.named Bd.method).1
  have hlk : meth.locks = false := Bd.notSynchronized
  have X0 : Stand p l e ({ frames := 3, cells := 0, slots := 0, locals := 40 } : Room) s m #[(.ref r0), (.ref r1), (.int p2), (.int p3), (.int p4)] below meth c s₁ [] 0 0 := Stand.of_body Bd
  have e0 : s₁.heap = h0 := by rw [← hh, Bd.state]; rfl
  have N0 := Fr.nil n0
  refine own_cast (Q := Q7 Z r0 r1 p2 p3 p4 kA x0 x1 x2 x3 x4 x5 h0 n0) (kc := 0) (ks := 0) (ef_7 m r0 r1 p2 p3 p4) ?_
  refine own_st (fun _ k => XS.iloadN X0.here hx rfl (hb hby d7_0) rfl k) ?_
  show own_Go X0 (Q7 Z r0 r1 p2 p3 p4 kA x0 x1 x2 x3 x4 x5 h0 n0) 0 0 1 #[.val (.ref r0), .val (.ref r1), .val (.int p2), .val (.int p3), .val (.int p4), .unset, .unset] [(.int p3)]
  refine own_st (fun _ k => XS.iloadN X0.here hx rfl (hb hby d7_1) rfl k) ?_
  show own_Go X0 (Q7 Z r0 r1 p2 p3 p4 kA x0 x1 x2 x3 x4 x5 h0 n0) 0 0 2 #[.val (.ref r0), .val (.ref r1), .val (.int p2), .val (.int p3), .val (.int p4), .unset, .unset] [(.int p2), (.int p3)]
  refine own_st (fun _ k => XS.isub X0.here hx rfl (hb hby d7_2) rfl k) ?_
  show own_Go X0 (Q7 Z r0 r1 p2 p3 p4 kA x0 x1 x2 x3 x4 x5 h0 n0) 0 0 3 #[.val (.ref r0), .val (.ref r1), .val (.int p2), .val (.int p3), .val (.int p4), .unset, .unset] [(.int (p3 - p2))]
  refine own_st (fun _ k => XS.istore X0.here hx rfl (hb hby d7_3) rfl (l' := #[.val (.ref r0), .val (.ref r1), .val (.int p2), .val (.int p3), .val (.int p4), .val (.int (p3 - p2)), .unset]) rfl k) ?_
  show own_Go X0 (Q7 Z r0 r1 p2 p3 p4 kA x0 x1 x2 x3 x4 x5 h0 n0) 0 0 5 #[.val (.ref r0), .val (.ref r1), .val (.int p2), .val (.int p3), .val (.int p4), .val (.int (p3 - p2)), .unset] []
  refine own_st (fun _ k => XS.aloadN X0.here hx rfl (hb hby d7_5) rfl rfl k) ?_
  show own_Go X0 (Q7 Z r0 r1 p2 p3 p4 kA x0 x1 x2 x3 x4 x5 h0 n0) 0 0 6 #[.val (.ref r0), .val (.ref r1), .val (.int p2), .val (.int p3), .val (.int p4), .val (.int (p3 - p2)), .unset] [(.ref r0)]
  refine own_callV (W := 0) X0 hx hZ hown (hw _ (List.mem_of_getElem? (i := 35) rfl)) (hw _ (List.mem_of_getElem? (i := 36) rfl)) (hw _ (List.mem_of_getElem? (i := 38) rfl)) (hw _ (List.mem_of_getElem? (i := 37) rfl)) (hw _ (List.mem_of_getElem? (i := 14) rfl)) (hw _ (List.mem_of_getElem? (i := 39) rfl)) (by decide) (rm8 l Z a0 hw [] r0 (p3 - p2) h0 n0 Z0 P_length) (by decide) (by decide) (by rw [hml]; rfl) r0 [] [] (lenOf pd_7_0 rfl) rfl rfl (Nat.le_of_ble_eq_true rfl) (hb hby d7_6) e0 PE (by decide) (by decide) ?_
  rintro _ T1 L1 X1 ⟨rfl, N1q, e1⟩
  have N_2 := Fr.app N0 N1q
  show own_Go X1 (Q7 Z r0 r1 p2 p3 p4 kA x0 x1 x2 x3 x4 x5 h0 n0) 0 0 9 #[.val (.ref r0), .val (.ref r1), .val (.int p2), .val (.int p3), .val (.int p4), .val (.int (p3 - p2)), .unset] [(.int (p3 - p2))]
  refine own_st (fun _ k => XS.iload X1.here hx rfl (hb hby d7_9) rfl k) ?_
  show own_Go X1 (Q7 Z r0 r1 p2 p3 p4 kA x0 x1 x2 x3 x4 x5 h0 n0) 0 0 11 #[.val (.ref r0), .val (.ref r1), .val (.int p2), .val (.int p3), .val (.int p4), .val (.int (p3 - p2)), .unset] [(.int (p3 - p2)), (.int (p3 - p2))]
  have c11_3 : (p3 - p2) = (p3 - p2) := rfl
  refine own_st (fun _ k => XS.icmpYes X1.here hx rfl (pc0 := 11) (pc' := 16) rfl (hb hby d7_11) rfl (teq c11_3).1 (by decide) (by decide) k) ?_
  show own_Go X1 (Q7 Z r0 r1 p2 p3 p4 kA x0 x1 x2 x3 x4 x5 h0 n0) 0 0 16 #[.val (.ref r0), .val (.ref r1), .val (.int p2), .val (.int p3), .val (.int p4), .val (.int (p3 - p2)), .unset] []
  refine own_st (fun _ k => XS.iload X1.here hx rfl (hb hby d7_16) rfl k) ?_
  show own_Go X1 (Q7 Z r0 r1 p2 p3 p4 kA x0 x1 x2 x3 x4 x5 h0 n0) 0 0 18 #[.val (.ref r0), .val (.ref r1), .val (.int p2), .val (.int p3), .val (.int p4), .val (.int (p3 - p2)), .unset] [(.int (p3 - p2))]
  by_cases c18_4 : (p3 - p2) = (0 : Int32)
  · skip
    refine own_st (fun _ k => XS.ifNo X1.here hx rfl (hb hby d7_18) rfl ((if0 _ _).trans (teq c18_4).2) k) ?_
    show own_Go X1 (Q7 Z r0 r1 p2 p3 p4 kA x0 x1 x2 x3 x4 x5 h0 n0) 0 0 21 #[.val (.ref r0), .val (.ref r1), .val (.int p2), .val (.int p3), .val (.int p4), .val (.int (p3 - p2)), .unset] []
    refine own_st (fun _ k => XS.iconst X1.here hx rfl (hb hby d7_21) k) ?_
    show own_Go X1 (Q7 Z r0 r1 p2 p3 p4 kA x0 x1 x2 x3 x4 x5 h0 n0) 0 0 22 #[.val (.ref r0), .val (.ref r1), .val (.int p2), .val (.int p3), .val (.int p4), .val (.int (p3 - p2)), .unset] [(.int (1 : Int32))]
    refine own_retN X1 hx Bd.returns (by simp) hlk e1 (hb hby d7_22) (by decide) (by decide) ?_
    exact ⟨rfl, N_2, rfl⟩
  · skip
    refine own_st (fun _ k => XS.ifYes X1.here hx rfl (pc0 := 18) (pc' := 23) rfl (hb hby d7_18) rfl ((if0 _ _).trans (feq c18_4).2) (by decide) (by decide) k) ?_
    show own_Go X1 (Q7 Z r0 r1 p2 p3 p4 kA x0 x1 x2 x3 x4 x5 h0 n0) 0 0 23 #[.val (.ref r0), .val (.ref r1), .val (.int p2), .val (.int p3), .val (.int p4), .val (.int (p3 - p2)), .unset] []
    refine own_st (fun _ k => XS.iload X1.here hx rfl (hb hby d7_23) rfl k) ?_
    show own_Go X1 (Q7 Z r0 r1 p2 p3 p4 kA x0 x1 x2 x3 x4 x5 h0 n0) 0 0 25 #[.val (.ref r0), .val (.ref r1), .val (.int p2), .val (.int p3), .val (.int p4), .val (.int (p3 - p2)), .unset] [(.int p4)]
    refine own_st (fun t k => X1.ldcInt hx hown (mvT hZ (hw _ (List.mem_of_getElem? (i := 8) rfl))) (g := (mkF m 25 #[.val (.ref r0), .val (.ref r1), .val (.int p2), .val (.int p3), .val (.int p4), .val (.int (p3 - p2)), .unset] [(.int p4)])) rfl (hb hby d7_25) t k) ?_
    show own_Go X1 (Q7 Z r0 r1 p2 p3 p4 kA x0 x1 x2 x3 x4 x5 h0 n0) 0 0 27 #[.val (.ref r0), .val (.ref r1), .val (.int p2), .val (.int p3), .val (.int p4), .val (.int (p3 - p2)), .unset] [(.int (2147483647 : Int32)), (.int p4)]
    refine own_st (fun _ k => XS.iand X1.here hx rfl (hb hby d7_27) rfl k) ?_
    show own_Go X1 (Q7 Z r0 r1 p2 p3 p4 kA x0 x1 x2 x3 x4 x5 h0 n0) 0 0 28 #[.val (.ref r0), .val (.ref r1), .val (.int p2), .val (.int p3), .val (.int p4), .val (.int (p3 - p2)), .unset] [(.int (p4 &&& (2147483647 : Int32)))]
    refine own_st (fun _ k => XS.iload X1.here hx rfl (hb hby d7_28) rfl k) ?_
    show own_Go X1 (Q7 Z r0 r1 p2 p3 p4 kA x0 x1 x2 x3 x4 x5 h0 n0) 0 0 30 #[.val (.ref r0), .val (.ref r1), .val (.int p2), .val (.int p3), .val (.int p4), .val (.int (p3 - p2)), .unset] [(.int (p3 - p2)), (.int (p4 &&& (2147483647 : Int32)))]
    refine own_st (fun _ k => iremM X1 hx rfl (hb hby d7_30) rfl c18_4 k) ?_
    show own_Go X1 (Q7 Z r0 r1 p2 p3 p4 kA x0 x1 x2 x3 x4 x5 h0 n0) 0 0 31 #[.val (.ref r0), .val (.ref r1), .val (.int p2), .val (.int p3), .val (.int p4), .val (.int (p3 - p2)), .unset] [(.int ((p4 &&& (2147483647 : Int32)) % (p3 - p2)))]
    refine own_st (fun _ k => XS.istore X1.here hx rfl (hb hby d7_31) rfl (l' := #[.val (.ref r0), .val (.ref r1), .val (.int p2), .val (.int p3), .val (.int p4), .val (.int (p3 - p2)), .val (.int ((p4 &&& (2147483647 : Int32)) % (p3 - p2)))]) rfl k) ?_
    show own_Go X1 (Q7 Z r0 r1 p2 p3 p4 kA x0 x1 x2 x3 x4 x5 h0 n0) 0 0 33 #[.val (.ref r0), .val (.ref r1), .val (.int p2), .val (.int p3), .val (.int p4), .val (.int (p3 - p2)), .val (.int ((p4 &&& (2147483647 : Int32)) % (p3 - p2)))] []
    generalize hkk : ((p4 &&& (2147483647 : Int32)) % (p3 - p2)) = kk
    show own_Go X1 (Q7 Z r0 r1 p2 p3 p4 kA x0 x1 x2 x3 x4 x5 h0 n0) 0 0 33 #[.val (.ref r0), .val (.ref r1), .val (.int p2), .val (.int p3), .val (.int p4), .val (.int (p3 - p2)), .val (.int kk)] []
    have hS := own_seen HB c18_4 hkk
    refine own_st (fun _ k => XS.aloadN X1.here hx rfl (hb hby d7_33) rfl rfl k) ?_
    show own_Go X1 (Q7 Z r0 r1 p2 p3 p4 kA x0 x1 x2 x3 x4 x5 h0 n0) 0 0 34 #[.val (.ref r0), .val (.ref r1), .val (.int p2), .val (.int p3), .val (.int p4), .val (.int (p3 - p2)), .val (.int kk)] [(.ref r0)]
    refine own_st (fun _ k => XS.iload X1.here hx rfl (hb hby d7_34) rfl k) ?_
    show own_Go X1 (Q7 Z r0 r1 p2 p3 p4 kA x0 x1 x2 x3 x4 x5 h0 n0) 0 0 36 #[.val (.ref r0), .val (.ref r1), .val (.int p2), .val (.int p3), .val (.int p4), .val (.int (p3 - p2)), .val (.int kk)] [(.int kk), (.ref r0)]
    refine own_callV (W := 0) X1 hx hZ hown (hw _ (List.mem_of_getElem? (i := 40) rfl)) (hw _ (List.mem_of_getElem? (i := 41) rfl)) (hw _ (List.mem_of_getElem? (i := 43) rfl)) (hw _ (List.mem_of_getElem? (i := 42) rfl)) (hw _ (List.mem_of_getElem? (i := 14) rfl)) (hw _ (List.mem_of_getElem? (i := 44) rfl)) (by decide) (rm9 l Z a0 hw [] r0 kk r1 p2 (p3 - p2) (6 : Int32) kA [(.int x0), (.int x1), (.int x2), (.int x3), (.int x4), (.int x5)] (own_at6 x0 x1 x2 x3 x4 x5 (p2 + kk)) h0 n0 Z0 P_length P_decoded P_characters P_start PV hS.1 hS.2.1 hS.2.2 (own_getD6 hS.2.2)) (by decide) (by decide) (by rw [hml]; rfl) r0 [(.int kk)] [] (lenOf pd_7_1 rfl) rfl rfl (Nat.le_of_ble_eq_true rfl) (hb hby d7_36) e1 PE (by decide) (by decide) ?_
    rintro _ T5 L5 X5 ⟨rfl, N5q, e5⟩
    have N_6 := Fr.app N_2 N5q
    show own_Go X5 (Q7 Z r0 r1 p2 p3 p4 kA x0 x1 x2 x3 x4 x5 h0 n0) 0 0 39 #[.val (.ref r0), .val (.ref r1), .val (.int p2), .val (.int p3), .val (.int p4), .val (.int (p3 - p2)), .val (.int kk)] [(.int (((own_at6 x0 x1 x2 x3 x4 x5 (p2 + kk)) &&& (127 : Int32)).toUInt32.toUInt16.toUInt32.toInt32))]
    refine own_st (fun _ k => XS.aloadN X5.here hx rfl (hb hby d7_39) rfl rfl k) ?_
    show own_Go X5 (Q7 Z r0 r1 p2 p3 p4 kA x0 x1 x2 x3 x4 x5 h0 n0) 0 0 40 #[.val (.ref r0), .val (.ref r1), .val (.int p2), .val (.int p3), .val (.int p4), .val (.int (p3 - p2)), .val (.int kk)] [(.ref r1), (.int (((own_at6 x0 x1 x2 x3 x4 x5 (p2 + kk)) &&& (127 : Int32)).toUInt32.toUInt16.toUInt32.toInt32))]
    refine own_st (fun _ k => XS.iloadN X5.here hx rfl (hb hby d7_40) rfl k) ?_
    show own_Go X5 (Q7 Z r0 r1 p2 p3 p4 kA x0 x1 x2 x3 x4 x5 h0 n0) 0 0 41 #[.val (.ref r0), .val (.ref r1), .val (.int p2), .val (.int p3), .val (.int p4), .val (.int (p3 - p2)), .val (.int kk)] [(.int p2), (.ref r1), (.int (((own_at6 x0 x1 x2 x3 x4 x5 (p2 + kk)) &&& (127 : Int32)).toUInt32.toUInt16.toUInt32.toInt32))]
    refine own_st (fun _ k => XS.iload X5.here hx rfl (hb hby d7_41) rfl k) ?_
    show own_Go X5 (Q7 Z r0 r1 p2 p3 p4 kA x0 x1 x2 x3 x4 x5 h0 n0) 0 0 43 #[.val (.ref r0), .val (.ref r1), .val (.int p2), .val (.int p3), .val (.int p4), .val (.int (p3 - p2)), .val (.int kk)] [(.int kk), (.int p2), (.ref r1), (.int (((own_at6 x0 x1 x2 x3 x4 x5 (p2 + kk)) &&& (127 : Int32)).toUInt32.toUInt16.toUInt32.toInt32))]
    refine own_st (fun _ k => XS.iadd X5.here hx rfl (hb hby d7_43) rfl k) ?_
    show own_Go X5 (Q7 Z r0 r1 p2 p3 p4 kA x0 x1 x2 x3 x4 x5 h0 n0) 0 0 44 #[.val (.ref r0), .val (.ref r1), .val (.int p2), .val (.int p3), .val (.int p4), .val (.int (p3 - p2)), .val (.int kk)] [(.int (p2 + kk)), (.ref r1), (.int (((own_at6 x0 x1 x2 x3 x4 x5 (p2 + kk)) &&& (127 : Int32)).toUInt32.toUInt16.toUInt32.toInt32))]
    refine own_st (fun _ k => own_ldB X5 hx hZ e5 PV (j := (p2 + kk)) hS.2.2 (v := (.int (own_at6 x0 x1 x2 x3 x4 x5 (p2 + kk)))) (own_getD6 hS.2.2) (g := (mkF m 44 #[.val (.ref r0), .val (.ref r1), .val (.int p2), .val (.int p3), .val (.int p4), .val (.int (p3 - p2)), .val (.int kk)] [(.int (p2 + kk)), (.ref r1), (.int (((own_at6 x0 x1 x2 x3 x4 x5 (p2 + kk)) &&& (127 : Int32)).toUInt32.toUInt16.toUInt32.toInt32))])) rfl rfl (hb hby d7_44) _ k) ?_
    show own_Go X5 (Q7 Z r0 r1 p2 p3 p4 kA x0 x1 x2 x3 x4 x5 h0 n0) 0 0 45 #[.val (.ref r0), .val (.ref r1), .val (.int p2), .val (.int p3), .val (.int p4), .val (.int (p3 - p2)), .val (.int kk)] [(.int (own_at6 x0 x1 x2 x3 x4 x5 (p2 + kk))), (.int (((own_at6 x0 x1 x2 x3 x4 x5 (p2 + kk)) &&& (127 : Int32)).toUInt32.toUInt16.toUInt32.toInt32))]
    refine own_st (fun _ k => XS.bipush X5.here hx rfl (hb hby d7_45) k) ?_
    show own_Go X5 (Q7 Z r0 r1 p2 p3 p4 kA x0 x1 x2 x3 x4 x5 h0 n0) 0 0 47 #[.val (.ref r0), .val (.ref r1), .val (.int p2), .val (.int p3), .val (.int p4), .val (.int (p3 - p2)), .val (.int kk)] [(.int (127 : Int32)), (.int (own_at6 x0 x1 x2 x3 x4 x5 (p2 + kk))), (.int (((own_at6 x0 x1 x2 x3 x4 x5 (p2 + kk)) &&& (127 : Int32)).toUInt32.toUInt16.toUInt32.toInt32))]
    refine own_st (fun _ k => XS.iand X5.here hx rfl (hb hby d7_47) rfl k) ?_
    show own_Go X5 (Q7 Z r0 r1 p2 p3 p4 kA x0 x1 x2 x3 x4 x5 h0 n0) 0 0 48 #[.val (.ref r0), .val (.ref r1), .val (.int p2), .val (.int p3), .val (.int p4), .val (.int (p3 - p2)), .val (.int kk)] [(.int ((own_at6 x0 x1 x2 x3 x4 x5 (p2 + kk)) &&& (127 : Int32))), (.int (((own_at6 x0 x1 x2 x3 x4 x5 (p2 + kk)) &&& (127 : Int32)).toUInt32.toUInt16.toUInt32.toInt32))]
    refine own_st (fun _ k => XS.i2c X5.here hx rfl (hb hby d7_48) rfl k) ?_
    show own_Go X5 (Q7 Z r0 r1 p2 p3 p4 kA x0 x1 x2 x3 x4 x5 h0 n0) 0 0 49 #[.val (.ref r0), .val (.ref r1), .val (.int p2), .val (.int p3), .val (.int p4), .val (.int (p3 - p2)), .val (.int kk)] [(.int (((own_at6 x0 x1 x2 x3 x4 x5 (p2 + kk)) &&& (127 : Int32)).toUInt32.toUInt16.toUInt32.toInt32)), (.int (((own_at6 x0 x1 x2 x3 x4 x5 (p2 + kk)) &&& (127 : Int32)).toUInt32.toUInt16.toUInt32.toInt32))]
    have c49_7 : (((own_at6 x0 x1 x2 x3 x4 x5 (p2 + kk)) &&& (127 : Int32)).toUInt32.toUInt16.toUInt32.toInt32) = (((own_at6 x0 x1 x2 x3 x4 x5 (p2 + kk)) &&& (127 : Int32)).toUInt32.toUInt16.toUInt32.toInt32) := rfl
    refine own_st (fun _ k => XS.icmpNo X5.here hx rfl (hb hby d7_49) rfl (teq c49_7).2 k) ?_
    show own_Go X5 (Q7 Z r0 r1 p2 p3 p4 kA x0 x1 x2 x3 x4 x5 h0 n0) 0 0 52 #[.val (.ref r0), .val (.ref r1), .val (.int p2), .val (.int p3), .val (.int p4), .val (.int (p3 - p2)), .val (.int kk)] []
    refine own_st (fun _ k => XS.iconst X5.here hx rfl (hb hby d7_52) k) ?_
    show own_Go X5 (Q7 Z r0 r1 p2 p3 p4 kA x0 x1 x2 x3 x4 x5 h0 n0) 0 0 53 #[.val (.ref r0), .val (.ref r1), .val (.int p2), .val (.int p3), .val (.int p4), .val (.int (p3 - p2)), .val (.int kk)] [(.int (1 : Int32))]
    refine own_st (fun _ k => XS.goto X5.here hx rfl (pc0 := 53) (pc' := 57) rfl (hb hby d7_53) (by decide) (by decide) k) ?_
    show own_Go X5 (Q7 Z r0 r1 p2 p3 p4 kA x0 x1 x2 x3 x4 x5 h0 n0) 0 0 57 #[.val (.ref r0), .val (.ref r1), .val (.int p2), .val (.int p3), .val (.int p4), .val (.int (p3 - p2)), .val (.int kk)] [(.int (1 : Int32))]
    refine own_retN X5 hx Bd.returns (by simp) hlk e5 (hb hby d7_57) (by decide) (by decide) ?_
    exact ⟨rfl, N_6, rfl⟩
theorem d6_0 : decode prog_93_method_5_code 0 = .ok (.aload_n 0, 1) := by decide +kernel
theorem d6_1 : decode prog_93_method_5_code 1 = .ok (.getfield 9, 3) := by decide +kernel
theorem d6_4 : decode prog_93_method_5_code 4 = .ok (.aload_n 1, 1) := by decide +kernel
theorem d6_5 : decode prog_93_method_5_code 5 = .ok (.if_acmp .eq 8, 3) := by decide +kernel
theorem d6_8 : decode prog_93_method_5_code 8 = .ok (.aload_n 0, 1) := by decide +kernel
theorem d6_9 : decode prog_93_method_5_code 9 = .ok (.aload_n 1, 1) := by decide +kernel
theorem d6_10 : decode prog_93_method_5_code 10 = .ok (.putfield 9, 3) := by decide +kernel
theorem d6_13 : decode prog_93_method_5_code 13 = .ok (.aload_n 0, 1) := by decide +kernel
theorem d6_14 : decode prog_93_method_5_code 14 = .ok (.iload_n 2, 1) := by decide +kernel
theorem d6_15 : decode prog_93_method_5_code 15 = .ok (.putfield 50, 3) := by decide +kernel
theorem d6_18 : decode prog_93_method_5_code 18 = .ok (.aload_n 0, 1) := by decide +kernel
theorem d6_19 : decode prog_93_method_5_code 19 = .ok (.iload_n 3, 1) := by decide +kernel
theorem d6_20 : decode prog_93_method_5_code 20 = .ok (.iload_n 2, 1) := by decide +kernel
theorem d6_21 : decode prog_93_method_5_code 21 = .ok (.isub, 1) := by decide +kernel
theorem d6_22 : decode prog_93_method_5_code 22 = .ok (.putfield 25, 3) := by decide +kernel
theorem d6_25 : decode prog_93_method_5_code 25 = .ok (.return_, 1) := by decide +kernel
theorem pn_6 : plainName "com/example/stopbit/stopbit/Text" = true := by first | (simp [plainName, overriddenIn]; done) | decide +kernel
theorem ef_6 (m : MethodId) (r0 : Addr) (r1 : Addr) (p2 : Int32) (p3 : Int32) : entryFrame m #[(.ref r0), (.ref r1), (.int p2), (.int p3)] 4 = mkF m 0 #[.val (.ref r0), .val (.ref r1), .val (.int p2), .val (.int p3)] [] := by first | (simp [entryFrame, mkF, argsToLocals, Value.category]; done) | rfl
def Q6 (Z : State) (r0 : Addr) (r1 : Addr) (p2 : Int32) (p3 : Int32) (u1 u2 : Int32) (ch : Addr) (h0 : Heap) (n0 : Nat) (v : Option Value) (h : Heap) (L : List Loc) : Prop := v = none ∧ Fr n0 L ∧ Keep h0 h [r0] ∧ Fld Z h r0 "com/example/stopbit/stopbit/Text" "length" "I" (.int (p3 - p2)) ∧ Fld Z h r0 "com/example/stopbit/stopbit/Text" "decoded" "[C" .null ∧ Fld Z h r0 "com/example/stopbit/stopbit/Text" "characters" "[B" (.ref r1) ∧ Fld Z h r0 "com/example/stopbit/stopbit/Text" "start" "I" (.int p2)
set_option maxRecDepth 65536 in
set_option maxHeartbeats 40000000 in
theorem rm6 (l : Launch) (Z : State) (a0 : Array Value) (hw : ∀ d ∈ tables_1, d.before a0 Z = true) (ws : List Jvm.Cond) (r0 : Addr) (r1 : Addr) (p2 : Int32) (p3 : Int32) (u1 u2 : Int32) (ch : Addr) (h0 : Heap) (n0 : Nat) (Z0 : n0 ≤ h0.size) (PE : Exa Z h0 r0 "com/example/stopbit/stopbit/Text") (PG : n0 ≤ r0) (P_length : Fld Z h0 r0 "com/example/stopbit/stopbit/Text" "length" "I" (.int u1)) (P_decoded : Fld Z h0 r0 "com/example/stopbit/stopbit/Text" "decoded" "[C" .null) (P_characters : Fld Z h0 r0 "com/example/stopbit/stopbit/Text" "characters" "[B" (.ref ch)) (P_start : Fld Z h0 r0 "com/example/stopbit/stopbit/Text" "start" "I" (.int u2)) (PN : ch ≠ r1) :
    MetFree l (⟨"com/example/stopbit/stopbit/Text", "view", "([BII)V"⟩ : MethodName) (head1 (Jvm.Cond.code (⟨"com/example/stopbit/stopbit/Text", "view", "([BII)V"⟩ : MethodName) prog_93_method_5_code 4 none :: ws) ({ frames := 0, cells := 0, slots := 0, locals := 0 } : Room)) (fun a U => a = #[(.ref r0), (.ref r1), (.int p2), (.int p3)] ∧ Z.Warmed39 U.vm ∧ U.heap = h0) (fun _ _ _ _ _ => True) (fun _ U o U' => ∃ v L, o = .returned v ∧ Q6 Z r0 r1 p2 p3 u1 u2 ch h0 n0 v U'.heap L ∧ FrameEnd U o U' L ({ frames := 0, cells := 0, slots := 0, locals := 0 } : Room).cells ({ frames := 0, cells := 0, slots := 0, locals := 0 } : Room).slots) := by
  refine MetFree.of_bodySF (plainFor_of_name pn_6) hisR ?_
  intro p e s m args below meth c s₁ Bd hml0 hP hK
  obtain ⟨rfl, hZ, hh⟩ := hP
  have hx := Bd.exec
  have hby := Bd.bytes
  have hml : c.maxLocals = 4 := hml0
  have hown : s.vm.findClass "com/example/stopbit/stopbit/Text" = some m.cls := findClass_of_methodNamed Bd.named
  have hnm := (name_of_methodNamed Bd.named Bd.method).1
  have hlk : meth.locks = false := Bd.notSynchronized
  have X0 : Stand p l e ({ frames := 0, cells := 0, slots := 0, locals := 0 } : Room) s m #[(.ref r0), (.ref r1), (.int p2), (.int p3)] below meth c s₁ [] 0 0 := Stand.of_body Bd
  have e0 : s₁.heap = h0 := by rw [← hh, Bd.state]; rfl
  have N0 := Fr.nil n0
  refine own_cast (Q := Q6 Z r0 r1 p2 p3 u1 u2 ch h0 n0) (kc := 0) (ks := 0) (ef_6 m r0 r1 p2 p3) ?_
  have K_1 := Keep.refl h0 [r0]
  refine own_st (fun _ k => XS.aloadN X0.here hx rfl (hb hby d6_0) rfl rfl k) ?_
  show own_Go X0 (Q6 Z r0 r1 p2 p3 u1 u2 ch h0 n0) 0 0 1 #[.val (.ref r0), .val (.ref r1), .val (.int p2), .val (.int p3)] [(.ref r0)]
  obtain ⟨T2, X2, e2, st2⟩ := getF X0 hx hZ hown (host := "") (Or.inl (hw _ (List.mem_of_getElem? (i := 21) rfl))) Via.refl e0 P_characters (g := (mkF m 1 #[.val (.ref r0), .val (.ref r1), .val (.int p2), .val (.int p3)] [(.ref r0)])) rfl rfl (hb hby d6_1)
  refine own_st st2 ?_
  show own_Go X2 (Q6 Z r0 r1 p2 p3 u1 u2 ch h0 n0) 0 0 4 #[.val (.ref r0), .val (.ref r1), .val (.int p2), .val (.int p3)] [(.ref ch)]
  refine own_st (fun _ k => XS.aloadN X2.here hx rfl (hb hby d6_4) rfl rfl k) ?_
  show own_Go X2 (Q6 Z r0 r1 p2 p3 u1 u2 ch h0 n0) 0 0 5 #[.val (.ref r0), .val (.ref r1), .val (.int p2), .val (.int p3)] [(.ref r1), (.ref ch)]
  refine own_st (fun _ k => Jvm.RoadKit.acmp (g := (mkF m 5 #[.val (.ref r0), .val (.ref r1), .val (.int p2), .val (.int p3)] [(.ref r1), (.ref ch)])) X2 hx rfl rfl rfl (pc0 := 5) (pc' := 8) (same := false) rfl (hb hby d6_5) rfl (decide_eq_false fun q => PN (Value.ref.inj q)) (by decide) (by decide) k) ?_
  show own_Go X2 (Q6 Z r0 r1 p2 p3 u1 u2 ch h0 n0) 0 0 8 #[.val (.ref r0), .val (.ref r1), .val (.int p2), .val (.int p3)] []
  refine own_st (fun _ k => XS.aloadN X2.here hx rfl (hb hby d6_8) rfl rfl k) ?_
  show own_Go X2 (Q6 Z r0 r1 p2 p3 u1 u2 ch h0 n0) 0 0 9 #[.val (.ref r0), .val (.ref r1), .val (.int p2), .val (.int p3)] [(.ref r0)]
  refine own_st (fun _ k => XS.aloadN X2.here hx rfl (hb hby d6_9) rfl rfl k) ?_
  show own_Go X2 (Q6 Z r0 r1 p2 p3 u1 u2 ch h0 n0) 0 0 10 #[.val (.ref r0), .val (.ref r1), .val (.int p2), .val (.int p3)] [(.ref r1), (.ref r0)]
  obtain ⟨T3, h3, X3, e3, W3, st3⟩ := putF X2 hx hZ hown (host := "") (Or.inl (hw _ (List.mem_of_getElem? (i := 21) rfl))) Via.refl e2 P_characters PE (Or.inl (hw _ (List.mem_of_getElem? (i := 22) rfl))) (hw _ (List.mem_of_getElem? (i := 13) rfl)) (ty := (.array .byte)) (by decide) rfl rfl (g := (mkF m 10 #[.val (.ref r0), .val (.ref r1), .val (.int p2), .val (.int p3)] [(.ref r1), (.ref r0)])) rfl rfl (hb hby d6_10)
  refine own_st st3 ?_
  have f_4 := PE.wr W3
  have f_5 := P_length.other W3 (Or.inr (slot_ne (Or.inl (hw _ (List.mem_of_getElem? (i := 31) rfl))) (Or.inl (hw _ (List.mem_of_getElem? (i := 22) rfl))) (by decide) (t := .int) (t' := (.array .byte)) (by decide) (by decide)))
  have f_6 := P_decoded.other W3 (Or.inr (slot_ne (Or.inl (hw _ (List.mem_of_getElem? (i := 54) rfl))) (Or.inl (hw _ (List.mem_of_getElem? (i := 22) rfl))) (by decide) (t := (.array .char)) (t' := (.array .byte)) (by decide) (by decide)))
  have f_7 := P_start.other W3 (Or.inr (slot_ne (Or.inl (hw _ (List.mem_of_getElem? (i := 29) rfl))) (Or.inl (hw _ (List.mem_of_getElem? (i := 22) rfl))) (by decide) (t := .int) (t' := (.array .byte)) (by decide) (by decide)))
  have Z_8 := Nat.le_trans Z0 (Nat.le_of_eq W3.size.symm)
  have K_9 := K_1.wr W3 (Or.inl (List.mem_of_getElem? (i := 0) rfl))
  have f_10 := P_characters.same W3
  have N_11 := Fr.snoc X3 N0 PG
  show own_Go X3 (Q6 Z r0 r1 p2 p3 u1 u2 ch h0 n0) 0 0 13 #[.val (.ref r0), .val (.ref r1), .val (.int p2), .val (.int p3)] []
  refine own_st (fun _ k => XS.aloadN X3.here hx rfl (hb hby d6_13) rfl rfl k) ?_
  show own_Go X3 (Q6 Z r0 r1 p2 p3 u1 u2 ch h0 n0) 0 0 14 #[.val (.ref r0), .val (.ref r1), .val (.int p2), .val (.int p3)] [(.ref r0)]
  refine own_st (fun _ k => XS.iloadN X3.here hx rfl (hb hby d6_14) rfl k) ?_
  show own_Go X3 (Q6 Z r0 r1 p2 p3 u1 u2 ch h0 n0) 0 0 15 #[.val (.ref r0), .val (.ref r1), .val (.int p2), .val (.int p3)] [(.int p2), (.ref r0)]
  obtain ⟨T12, h12, X12, e12, W12, st12⟩ := putF X3 hx hZ hown (host := "") (Or.inl (hw _ (List.mem_of_getElem? (i := 28) rfl))) Via.refl e3 f_7 f_4 (Or.inl (hw _ (List.mem_of_getElem? (i := 29) rfl))) (hw _ (List.mem_of_getElem? (i := 13) rfl)) (ty := .int) (by decide) rfl rfl (g := (mkF m 15 #[.val (.ref r0), .val (.ref r1), .val (.int p2), .val (.int p3)] [(.int p2), (.ref r0)])) rfl rfl (hb hby d6_15)
  refine own_st st12 ?_
  have f_13 := f_4.wr W12
  have f_14 := f_5.other W12 (Or.inr (slot_ne (Or.inl (hw _ (List.mem_of_getElem? (i := 31) rfl))) (Or.inl (hw _ (List.mem_of_getElem? (i := 29) rfl))) (by decide) (t := .int) (t' := .int) (by decide) (by decide)))
  have f_15 := f_6.other W12 (Or.inr (slot_ne (Or.inl (hw _ (List.mem_of_getElem? (i := 54) rfl))) (Or.inl (hw _ (List.mem_of_getElem? (i := 29) rfl))) (by decide) (t := (.array .char)) (t' := .int) (by decide) (by decide)))
  have f_16 := f_10.other W12 (Or.inr (slot_ne (Or.inl (hw _ (List.mem_of_getElem? (i := 22) rfl))) (Or.inl (hw _ (List.mem_of_getElem? (i := 29) rfl))) (by decide) (t := (.array .byte)) (t' := .int) (by decide) (by decide)))
  have Z_17 := Nat.le_trans Z_8 (Nat.le_of_eq W12.size.symm)
  have K_18 := K_9.wr W12 (Or.inl (List.mem_of_getElem? (i := 0) rfl))
  have f_19 := f_7.same W12
  have N_20 := Fr.snoc X12 N_11 PG
  show own_Go X12 (Q6 Z r0 r1 p2 p3 u1 u2 ch h0 n0) 0 0 18 #[.val (.ref r0), .val (.ref r1), .val (.int p2), .val (.int p3)] []
  refine own_st (fun _ k => XS.aloadN X12.here hx rfl (hb hby d6_18) rfl rfl k) ?_
  show own_Go X12 (Q6 Z r0 r1 p2 p3 u1 u2 ch h0 n0) 0 0 19 #[.val (.ref r0), .val (.ref r1), .val (.int p2), .val (.int p3)] [(.ref r0)]
  refine own_st (fun _ k => XS.iloadN X12.here hx rfl (hb hby d6_19) rfl k) ?_
  show own_Go X12 (Q6 Z r0 r1 p2 p3 u1 u2 ch h0 n0) 0 0 20 #[.val (.ref r0), .val (.ref r1), .val (.int p2), .val (.int p3)] [(.int p3), (.ref r0)]
  refine own_st (fun _ k => XS.iloadN X12.here hx rfl (hb hby d6_20) rfl k) ?_
  show own_Go X12 (Q6 Z r0 r1 p2 p3 u1 u2 ch h0 n0) 0 0 21 #[.val (.ref r0), .val (.ref r1), .val (.int p2), .val (.int p3)] [(.int p2), (.int p3), (.ref r0)]
  refine own_st (fun _ k => XS.isub X12.here hx rfl (hb hby d6_21) rfl k) ?_
  show own_Go X12 (Q6 Z r0 r1 p2 p3 u1 u2 ch h0 n0) 0 0 22 #[.val (.ref r0), .val (.ref r1), .val (.int p2), .val (.int p3)] [(.int (p3 - p2)), (.ref r0)]
  obtain ⟨T21, h21, X21, e21, W21, st21⟩ := putF X12 hx hZ hown (host := "") (Or.inl (hw _ (List.mem_of_getElem? (i := 30) rfl))) Via.refl e12 f_14 f_13 (Or.inl (hw _ (List.mem_of_getElem? (i := 31) rfl))) (hw _ (List.mem_of_getElem? (i := 13) rfl)) (ty := .int) (by decide) rfl rfl (g := (mkF m 22 #[.val (.ref r0), .val (.ref r1), .val (.int p2), .val (.int p3)] [(.int (p3 - p2)), (.ref r0)])) rfl rfl (hb hby d6_22)
  refine own_st st21 ?_
  have f_22 := f_13.wr W21
  have f_23 := f_15.other W21 (Or.inr (slot_ne (Or.inl (hw _ (List.mem_of_getElem? (i := 54) rfl))) (Or.inl (hw _ (List.mem_of_getElem? (i := 31) rfl))) (by decide) (t := (.array .char)) (t' := .int) (by decide) (by decide)))
  have f_24 := f_16.other W21 (Or.inr (slot_ne (Or.inl (hw _ (List.mem_of_getElem? (i := 22) rfl))) (Or.inl (hw _ (List.mem_of_getElem? (i := 31) rfl))) (by decide) (t := (.array .byte)) (t' := .int) (by decide) (by decide)))
  have f_25 := f_19.other W21 (Or.inr (slot_ne (Or.inl (hw _ (List.mem_of_getElem? (i := 29) rfl))) (Or.inl (hw _ (List.mem_of_getElem? (i := 31) rfl))) (by decide) (t := .int) (t' := .int) (by decide) (by decide)))
  have Z_26 := Nat.le_trans Z_17 (Nat.le_of_eq W21.size.symm)
  have K_27 := K_18.wr W21 (Or.inl (List.mem_of_getElem? (i := 0) rfl))
  have f_28 := f_14.same W21
  have N_29 := Fr.snoc X21 N_20 PG
  show own_Go X21 (Q6 Z r0 r1 p2 p3 u1 u2 ch h0 n0) 0 0 25 #[.val (.ref r0), .val (.ref r1), .val (.int p2), .val (.int p3)] []
  refine own_retV X21 hx Bd.returns hlk e21 (hb hby d6_25) (by decide) (by decide) ?_
  exact ⟨rfl, N_29, K_27, f_28, f_23, f_24, f_25⟩
theorem d16_0 : decode prog_93_method_5_code 0 = .ok (.aload_n 0, 1) := by decide +kernel
theorem d16_1 : decode prog_93_method_5_code 1 = .ok (.getfield 9, 3) := by decide +kernel
theorem d16_4 : decode prog_93_method_5_code 4 = .ok (.aload_n 1, 1) := by decide +kernel
theorem d16_5 : decode prog_93_method_5_code 5 = .ok (.if_acmp .eq 8, 3) := by decide +kernel
theorem d16_13 : decode prog_93_method_5_code 13 = .ok (.aload_n 0, 1) := by decide +kernel
theorem d16_14 : decode prog_93_method_5_code 14 = .ok (.iload_n 2, 1) := by decide +kernel
theorem d16_15 : decode prog_93_method_5_code 15 = .ok (.putfield 50, 3) := by decide +kernel
theorem d16_18 : decode prog_93_method_5_code 18 = .ok (.aload_n 0, 1) := by decide +kernel
theorem d16_19 : decode prog_93_method_5_code 19 = .ok (.iload_n 3, 1) := by decide +kernel
theorem d16_20 : decode prog_93_method_5_code 20 = .ok (.iload_n 2, 1) := by decide +kernel
theorem d16_21 : decode prog_93_method_5_code 21 = .ok (.isub, 1) := by decide +kernel
theorem d16_22 : decode prog_93_method_5_code 22 = .ok (.putfield 25, 3) := by decide +kernel
theorem d16_25 : decode prog_93_method_5_code 25 = .ok (.return_, 1) := by decide +kernel
theorem pn_16 : plainName "com/example/stopbit/stopbit/Text" = true := by first | (simp [plainName, overriddenIn]; done) | decide +kernel
theorem ef_16 (m : MethodId) (r0 : Addr) (r1 : Addr) (p2 : Int32) (p3 : Int32) : entryFrame m #[(.ref r0), (.ref r1), (.int p2), (.int p3)] 4 = mkF m 0 #[.val (.ref r0), .val (.ref r1), .val (.int p2), .val (.int p3)] [] := by first | (simp [entryFrame, mkF, argsToLocals, Value.category]; done) | rfl
def Q16 (Z : State) (r0 : Addr) (r1 : Addr) (p2 : Int32) (p3 : Int32) (u1 u2 : Int32) (h0 : Heap) (n0 : Nat) (v : Option Value) (h : Heap) (L : List Loc) : Prop := v = none ∧ Fr n0 L ∧ Keep h0 h [r0] ∧ Fld Z h r0 "com/example/stopbit/stopbit/Text" "length" "I" (.int (p3 - p2)) ∧ Fld Z h r0 "com/example/stopbit/stopbit/Text" "decoded" "[C" .null ∧ Fld Z h r0 "com/example/stopbit/stopbit/Text" "characters" "[B" (.ref r1) ∧ Fld Z h r0 "com/example/stopbit/stopbit/Text" "start" "I" (.int p2)
set_option maxRecDepth 65536 in
set_option maxHeartbeats 40000000 in
theorem rm16 (l : Launch) (Z : State) (a0 : Array Value) (hw : ∀ d ∈ tables_1, d.before a0 Z = true) (ws : List Jvm.Cond) (r0 : Addr) (r1 : Addr) (p2 : Int32) (p3 : Int32) (u1 u2 : Int32) (h0 : Heap) (n0 : Nat) (Z0 : n0 ≤ h0.size) (PE : Exa Z h0 r0 "com/example/stopbit/stopbit/Text") (PG : n0 ≤ r0) (P_length : Fld Z h0 r0 "com/example/stopbit/stopbit/Text" "length" "I" (.int u1)) (P_decoded : Fld Z h0 r0 "com/example/stopbit/stopbit/Text" "decoded" "[C" .null) (P_characters : Fld Z h0 r0 "com/example/stopbit/stopbit/Text" "characters" "[B" (.ref r1)) (P_start : Fld Z h0 r0 "com/example/stopbit/stopbit/Text" "start" "I" (.int u2)) :
    MetFree l (⟨"com/example/stopbit/stopbit/Text", "view", "([BII)V"⟩ : MethodName) (head1 (Jvm.Cond.code (⟨"com/example/stopbit/stopbit/Text", "view", "([BII)V"⟩ : MethodName) prog_93_method_5_code 4 none :: ws) ({ frames := 0, cells := 0, slots := 0, locals := 0 } : Room)) (fun a U => a = #[(.ref r0), (.ref r1), (.int p2), (.int p3)] ∧ Z.Warmed39 U.vm ∧ U.heap = h0) (fun _ _ _ _ _ => True) (fun _ U o U' => ∃ v L, o = .returned v ∧ Q16 Z r0 r1 p2 p3 u1 u2 h0 n0 v U'.heap L ∧ FrameEnd U o U' L ({ frames := 0, cells := 0, slots := 0, locals := 0 } : Room).cells ({ frames := 0, cells := 0, slots := 0, locals := 0 } : Room).slots) := by
  refine MetFree.of_bodySF (plainFor_of_name pn_16) hisR ?_
  intro p e s m args below meth c s₁ Bd hml0 hP hK
  obtain ⟨rfl, hZ, hh⟩ := hP
  have hx := Bd.exec
  have hby := Bd.bytes
  have hml : c.maxLocals = 4 := hml0
  have hown : s.vm.findClass "com/example/stopbit/stopbit/Text" = some m.cls := findClass_of_methodNamed Bd.named
  have hnm := (name_of_methodNamed Bd.named Bd.method).1
  have hlk : meth.locks = false := Bd.notSynchronized
  have X0 : Stand p l e ({ frames := 0, cells := 0, slots := 0, locals := 0 } : Room) s m #[(.ref r0), (.ref r1), (.int p2), (.int p3)] below meth c s₁ [] 0 0 := Stand.of_body Bd
  have e0 : s₁.heap = h0 := by rw [← hh, Bd.state]; rfl
  have N0 := Fr.nil n0
  refine own_cast (Q := Q16 Z r0 r1 p2 p3 u1 u2 h0 n0) (kc := 0) (ks := 0) (ef_16 m r0 r1 p2 p3) ?_
  have K_1 := Keep.refl h0 [r0]
  refine own_st (fun _ k => XS.aloadN X0.here hx rfl (hb hby d16_0) rfl rfl k) ?_
  show own_Go X0 (Q16 Z r0 r1 p2 p3 u1 u2 h0 n0) 0 0 1 #[.val (.ref r0), .val (.ref r1), .val (.int p2), .val (.int p3)] [(.ref r0)]
  obtain ⟨T2, X2, e2, st2⟩ := getF X0 hx hZ hown (host := "") (Or.inl (hw _ (List.mem_of_getElem? (i := 21) rfl))) Via.refl e0 P_characters (g := (mkF m 1 #[.val (.ref r0), .val (.ref r1), .val (.int p2), .val (.int p3)] [(.ref r0)])) rfl rfl (hb hby d16_1)
  refine own_st st2 ?_
  show own_Go X2 (Q16 Z r0 r1 p2 p3 u1 u2 h0 n0) 0 0 4 #[.val (.ref r0), .val (.ref r1), .val (.int p2), .val (.int p3)] [(.ref r1)]
  refine own_st (fun _ k => XS.aloadN X2.here hx rfl (hb hby d16_4) rfl rfl k) ?_
  show own_Go X2 (Q16 Z r0 r1 p2 p3 u1 u2 h0 n0) 0 0 5 #[.val (.ref r0), .val (.ref r1), .val (.int p2), .val (.int p3)] [(.ref r1), (.ref r1)]
  refine own_st (fun _ k => Jvm.RoadKit.acmp (g := (mkF m 5 #[.val (.ref r0), .val (.ref r1), .val (.int p2), .val (.int p3)] [(.ref r1), (.ref r1)])) X2 hx rfl rfl rfl (pc0 := 5) (pc' := 13) (same := true) rfl (hb hby d16_5) rfl (decide_eq_true rfl) (by decide) (by decide) k) ?_
  show own_Go X2 (Q16 Z r0 r1 p2 p3 u1 u2 h0 n0) 0 0 13 #[.val (.ref r0), .val (.ref r1), .val (.int p2), .val (.int p3)] []
  refine own_st (fun _ k => XS.aloadN X2.here hx rfl (hb hby d16_13) rfl rfl k) ?_
  show own_Go X2 (Q16 Z r0 r1 p2 p3 u1 u2 h0 n0) 0 0 14 #[.val (.ref r0), .val (.ref r1), .val (.int p2), .val (.int p3)] [(.ref r0)]
  refine own_st (fun _ k => XS.iloadN X2.here hx rfl (hb hby d16_14) rfl k) ?_
  show own_Go X2 (Q16 Z r0 r1 p2 p3 u1 u2 h0 n0) 0 0 15 #[.val (.ref r0), .val (.ref r1), .val (.int p2), .val (.int p3)] [(.int p2), (.ref r0)]
  obtain ⟨T3, h3, X3, e3, W3, st3⟩ := putF X2 hx hZ hown (host := "") (Or.inl (hw _ (List.mem_of_getElem? (i := 28) rfl))) Via.refl e2 P_start PE (Or.inl (hw _ (List.mem_of_getElem? (i := 29) rfl))) (hw _ (List.mem_of_getElem? (i := 13) rfl)) (ty := .int) (by decide) rfl rfl (g := (mkF m 15 #[.val (.ref r0), .val (.ref r1), .val (.int p2), .val (.int p3)] [(.int p2), (.ref r0)])) rfl rfl (hb hby d16_15)
  refine own_st st3 ?_
  have f_4 := PE.wr W3
  have f_5 := P_length.other W3 (Or.inr (slot_ne (Or.inl (hw _ (List.mem_of_getElem? (i := 31) rfl))) (Or.inl (hw _ (List.mem_of_getElem? (i := 29) rfl))) (by decide) (t := .int) (t' := .int) (by decide) (by decide)))
  have f_6 := P_decoded.other W3 (Or.inr (slot_ne (Or.inl (hw _ (List.mem_of_getElem? (i := 54) rfl))) (Or.inl (hw _ (List.mem_of_getElem? (i := 29) rfl))) (by decide) (t := (.array .char)) (t' := .int) (by decide) (by decide)))
  have f_7 := P_characters.other W3 (Or.inr (slot_ne (Or.inl (hw _ (List.mem_of_getElem? (i := 22) rfl))) (Or.inl (hw _ (List.mem_of_getElem? (i := 29) rfl))) (by decide) (t := (.array .byte)) (t' := .int) (by decide) (by decide)))
  have Z_8 := Nat.le_trans Z0 (Nat.le_of_eq W3.size.symm)
  have K_9 := K_1.wr W3 (Or.inl (List.mem_of_getElem? (i := 0) rfl))
  have f_10 := P_start.same W3
  have N_11 := Fr.snoc X3 N0 PG
  show own_Go X3 (Q16 Z r0 r1 p2 p3 u1 u2 h0 n0) 0 0 18 #[.val (.ref r0), .val (.ref r1), .val (.int p2), .val (.int p3)] []
  refine own_st (fun _ k => XS.aloadN X3.here hx rfl (hb hby d16_18) rfl rfl k) ?_
  show own_Go X3 (Q16 Z r0 r1 p2 p3 u1 u2 h0 n0) 0 0 19 #[.val (.ref r0), .val (.ref r1), .val (.int p2), .val (.int p3)] [(.ref r0)]
  refine own_st (fun _ k => XS.iloadN X3.here hx rfl (hb hby d16_19) rfl k) ?_
  show own_Go X3 (Q16 Z r0 r1 p2 p3 u1 u2 h0 n0) 0 0 20 #[.val (.ref r0), .val (.ref r1), .val (.int p2), .val (.int p3)] [(.int p3), (.ref r0)]
  refine own_st (fun _ k => XS.iloadN X3.here hx rfl (hb hby d16_20) rfl k) ?_
  show own_Go X3 (Q16 Z r0 r1 p2 p3 u1 u2 h0 n0) 0 0 21 #[.val (.ref r0), .val (.ref r1), .val (.int p2), .val (.int p3)] [(.int p2), (.int p3), (.ref r0)]
  refine own_st (fun _ k => XS.isub X3.here hx rfl (hb hby d16_21) rfl k) ?_
  show own_Go X3 (Q16 Z r0 r1 p2 p3 u1 u2 h0 n0) 0 0 22 #[.val (.ref r0), .val (.ref r1), .val (.int p2), .val (.int p3)] [(.int (p3 - p2)), (.ref r0)]
  obtain ⟨T12, h12, X12, e12, W12, st12⟩ := putF X3 hx hZ hown (host := "") (Or.inl (hw _ (List.mem_of_getElem? (i := 30) rfl))) Via.refl e3 f_5 f_4 (Or.inl (hw _ (List.mem_of_getElem? (i := 31) rfl))) (hw _ (List.mem_of_getElem? (i := 13) rfl)) (ty := .int) (by decide) rfl rfl (g := (mkF m 22 #[.val (.ref r0), .val (.ref r1), .val (.int p2), .val (.int p3)] [(.int (p3 - p2)), (.ref r0)])) rfl rfl (hb hby d16_22)
  refine own_st st12 ?_
  have f_13 := f_4.wr W12
  have f_14 := f_6.other W12 (Or.inr (slot_ne (Or.inl (hw _ (List.mem_of_getElem? (i := 54) rfl))) (Or.inl (hw _ (List.mem_of_getElem? (i := 31) rfl))) (by decide) (t := (.array .char)) (t' := .int) (by decide) (by decide)))
  have f_15 := f_7.other W12 (Or.inr (slot_ne (Or.inl (hw _ (List.mem_of_getElem? (i := 22) rfl))) (Or.inl (hw _ (List.mem_of_getElem? (i := 31) rfl))) (by decide) (t := (.array .byte)) (t' := .int) (by decide) (by decide)))
  have f_16 := f_10.other W12 (Or.inr (slot_ne (Or.inl (hw _ (List.mem_of_getElem? (i := 29) rfl))) (Or.inl (hw _ (List.mem_of_getElem? (i := 31) rfl))) (by decide) (t := .int) (t' := .int) (by decide) (by decide)))
  have Z_17 := Nat.le_trans Z_8 (Nat.le_of_eq W12.size.symm)
  have K_18 := K_9.wr W12 (Or.inl (List.mem_of_getElem? (i := 0) rfl))
  have f_19 := f_5.same W12
  have N_20 := Fr.snoc X12 N_11 PG
  show own_Go X12 (Q16 Z r0 r1 p2 p3 u1 u2 h0 n0) 0 0 25 #[.val (.ref r0), .val (.ref r1), .val (.int p2), .val (.int p3)] []
  refine own_retV X12 hx Bd.returns hlk e12 (hb hby d16_25) (by decide) (by decide) ?_
  exact ⟨rfl, N_20, K_18, f_19, f_14, f_15, f_16⟩
theorem d4_0 : decode prog_93_method_1_code 0 = .ok (.aload_n 0, 1) := by decide +kernel
theorem d4_1 : decode prog_93_method_1_code 1 = .ok (.invokespecial 1, 3) := by decide +kernel
theorem d4_4 : decode prog_93_method_1_code 4 = .ok (.aload_n 0, 1) := by decide +kernel
theorem d4_5 : decode prog_93_method_1_code 5 = .ok (.bipush 16, 2) := by decide +kernel
theorem d4_7 : decode prog_93_method_1_code 7 = .ok (.newarray .byte, 2) := by decide +kernel
theorem d4_9 : decode prog_93_method_1_code 9 = .ok (.putfield 9, 3) := by decide +kernel
theorem d4_12 : decode prog_93_method_1_code 12 = .ok (.return_, 1) := by decide +kernel
theorem pn_4 : plainName "com/example/stopbit/stopbit/Text" = true := by first | (simp [plainName, overriddenIn]; done) | decide +kernel
theorem ef_4 (m : MethodId) (r0 : Addr) : entryFrame m #[(.ref r0)] 1 = mkF m 0 #[.val (.ref r0)] [] := by first | (simp [entryFrame, mkF, argsToLocals, Value.category]; done) | rfl
def Q4 (Z : State) (r0 : Addr)  (h0 : Heap) (n0 : Nat) (v : Option Value) (h : Heap) (L : List Loc) : Prop := ∃ b : Addr, v = none ∧ Fr n0 L ∧ Keep h0 h [r0] ∧ n0 ≤ b ∧ h0.size ≤ b ∧ Fld Z h r0 "com/example/stopbit/stopbit/Text" "length" "I" (.int (0 : Int32)) ∧ Fld Z h r0 "com/example/stopbit/stopbit/Text" "decoded" "[C" .null ∧ Fld Z h r0 "com/example/stopbit/stopbit/Text" "characters" "[B" (.ref b) ∧ Fld Z h r0 "com/example/stopbit/stopbit/Text" "start" "I" (.int (0 : Int32))
set_option maxRecDepth 65536 in
set_option maxHeartbeats 40000000 in
theorem rm4 (l : Launch) (Z : State) (a0 : Array Value) (hw : ∀ d ∈ tables_1, d.before a0 Z = true) (ws : List Jvm.Cond) (r0 : Addr)  (h0 : Heap) (n0 : Nat) (Z0 : n0 ≤ h0.size) (PE : Exa Z h0 r0 "com/example/stopbit/stopbit/Text") (PG : n0 ≤ r0) (P_length : Fld Z h0 r0 "com/example/stopbit/stopbit/Text" "length" "I" (.int (0 : Int32))) (P_decoded : Fld Z h0 r0 "com/example/stopbit/stopbit/Text" "decoded" "[C" .null) (P_characters : Fld Z h0 r0 "com/example/stopbit/stopbit/Text" "characters" "[B" .null) (P_start : Fld Z h0 r0 "com/example/stopbit/stopbit/Text" "start" "I" (.int (0 : Int32))) :
    MetFree l (⟨"com/example/stopbit/stopbit/Text", "<init>", "()V"⟩ : MethodName) (head1 (Jvm.Cond.code (⟨"com/example/stopbit/stopbit/Text", "<init>", "()V"⟩ : MethodName) prog_93_method_1_code 1 none :: ws) ({ frames := 1, cells := 1, slots := 16, locals := 12 } : Room)) (fun a U => a = #[(.ref r0)] ∧ Z.Warmed39 U.vm ∧ U.heap = h0) (fun _ _ _ _ _ => True) (fun _ U o U' => ∃ v L, o = .returned v ∧ Q4 Z r0 h0 n0 v U'.heap L ∧ FrameEnd U o U' L ({ frames := 1, cells := 1, slots := 16, locals := 12 } : Room).cells ({ frames := 1, cells := 1, slots := 16, locals := 12 } : Room).slots) := by
  refine MetFree.of_bodySF (plainFor_of_name pn_4) hisR ?_
  intro p e s m args below meth c s₁ Bd hml0 hP hK
  obtain ⟨rfl, hZ, hh⟩ := hP
  have hx := Bd.exec
  have hby := Bd.bytes
  have hml : c.maxLocals = 1 := hml0
  have hown : s.vm.findClass "com/example/stopbit/stopbit/Text" = some m.cls := findClass_of_methodNamed Bd.named
  have hnm := (name_of_methodNamed Bd.named Bd.method).1
  have hlk : meth.locks = false := Bd.notSynchronized
  have X0 : Stand p l e ({ frames := 1, cells := 1, slots := 16, locals := 12 } : Room) s m #[(.ref r0)] below meth c s₁ [] 0 0 := Stand.of_body Bd
  have e0 : s₁.heap = h0 := by rw [← hh, Bd.state]; rfl
  have N0 := Fr.nil n0
  refine own_cast (Q := Q4 Z r0 h0 n0) (kc := 1) (ks := 16) (ef_4 m r0) ?_
  have K_1 := Keep.refl h0 [r0]
  refine own_st (fun _ k => XS.aloadN X0.here hx rfl (hb hby d4_0) rfl rfl k) ?_
  show own_Go X0 (Q4 Z r0 h0 n0) 1 16 1 #[.val (.ref r0)] [(.ref r0)]
  obtain ⟨T2, X2, e2, st2⟩ := initO X0 hx hZ hown (hw _ (List.mem_of_getElem? (i := 18) rfl)) (hw _ (List.mem_of_getElem? (i := 19) rfl)) (hw _ (List.mem_of_getElem? (i := 20) rfl)) e0 (g := (mkF m 1 #[.val (.ref r0)] [(.ref r0)])) rfl (by rw [hml]; rfl) rfl (hb hby d4_1) (by decide) (W := 0) (by show 2 * 0 + _ ≤ _; exact Nat.le_of_eq rfl) (by decide)
  refine own_st st2 ?_
  show own_Go X2 (Q4 Z r0 h0 n0) 1 16 4 #[.val (.ref r0)] []
  refine own_st (fun _ k => XS.aloadN X2.here hx rfl (hb hby d4_4) rfl rfl k) ?_
  show own_Go X2 (Q4 Z r0 h0 n0) 1 16 5 #[.val (.ref r0)] [(.ref r0)]
  refine own_st (fun _ k => XS.bipush X2.here hx rfl (hb hby d4_5) k) ?_
  show own_Go X2 (Q4 Z r0 h0 n0) 1 16 7 #[.val (.ref r0)] [(.int (16 : Int32)), (.ref r0)]
  obtain ⟨T3, h3, k3, X3, e3, E3, A3, st3⟩ := newP X2 hx hZ (hw _ (List.mem_of_getElem? (i := 4) rfl)) e2 (g := (mkF m 7 #[.val (.ref r0)] [(.int (16 : Int32)), (.ref r0)])) rfl (hb hby d4_7) rfl (by decide) (cap := 16) (by decide) (by decide) (by decide) (by decide)
  obtain ⟨b3, g3⟩ : ∃ z, z = h0.size := ⟨_, rfl⟩
  rw [← g3] at A3 st3
  refine own_st st3 ?_
  have ne_4 := Nat.ne_of_lt (Nat.lt_of_lt_of_le PE.lt (Nat.le_of_eq g3.symm))
  have G_5 := Nat.le_trans Z0 (Nat.le_of_eq g3.symm)
  have S_6 := Nat.le_trans K_1.1 (Nat.le_of_eq g3.symm)
  have f_7 := PE.ext E3
  have f_8 := P_length.ext E3
  have f_9 := P_decoded.ext E3
  have f_10 := P_characters.ext E3
  have f_11 := P_start.ext E3
  have Z_12 := Nat.le_trans Z0 E3.1
  have K_13 := K_1.ext E3
  have V3 : Arv Z h3 b3 k3 .byte (16 : Int32) [(.int (0 : Int32)), (.int (0 : Int32)), (.int (0 : Int32)), (.int (0 : Int32)), (.int (0 : Int32)), (.int (0 : Int32)), (.int (0 : Int32)), (.int (0 : Int32)), (.int (0 : Int32)), (.int (0 : Int32)), (.int (0 : Int32)), (.int (0 : Int32)), (.int (0 : Int32)), (.int (0 : Int32)), (.int (0 : Int32)), (.int (0 : Int32))] (.int (0 : Int32)) := (Arv.new A3 (by decide)).pad (pad_rep [] (.int (0 : Int32)) 16)
  show own_Go X3 (Q4 Z r0 h0 n0) 1 16 9 #[.val (.ref r0)] [(.ref b3), (.ref r0)]
  obtain ⟨T14, h14, X14, e14, W14, st14⟩ := putF X3 hx hZ hown (host := "") (Or.inl (hw _ (List.mem_of_getElem? (i := 21) rfl))) Via.refl e3 f_10 f_7 (Or.inl (hw _ (List.mem_of_getElem? (i := 22) rfl))) (hw _ (List.mem_of_getElem? (i := 13) rfl)) (ty := (.array .byte)) (by decide) rfl rfl (g := (mkF m 9 #[.val (.ref r0)] [(.ref b3), (.ref r0)])) rfl rfl (hb hby d4_9)
  refine own_st st14 ?_
  have f_15 := f_7.wr W14
  have f_16 := f_8.other W14 (Or.inr (slot_ne (Or.inl (hw _ (List.mem_of_getElem? (i := 31) rfl))) (Or.inl (hw _ (List.mem_of_getElem? (i := 22) rfl))) (by decide) (t := .int) (t' := (.array .byte)) (by decide) (by decide)))
  have f_17 := f_9.other W14 (Or.inr (slot_ne (Or.inl (hw _ (List.mem_of_getElem? (i := 54) rfl))) (Or.inl (hw _ (List.mem_of_getElem? (i := 22) rfl))) (by decide) (t := (.array .char)) (t' := (.array .byte)) (by decide) (by decide)))
  have f_18 := f_11.other W14 (Or.inr (slot_ne (Or.inl (hw _ (List.mem_of_getElem? (i := 29) rfl))) (Or.inl (hw _ (List.mem_of_getElem? (i := 22) rfl))) (by decide) (t := .int) (t' := (.array .byte)) (by decide) (by decide)))
  have f_19 := V3.other W14 (Ne.symm ne_4)
  have Z_20 := Nat.le_trans Z_12 (Nat.le_of_eq W14.size.symm)
  have K_21 := K_13.wr W14 (Or.inl (List.mem_of_getElem? (i := 0) rfl))
  have f_22 := f_10.same W14
  have N_23 := Fr.snoc X14 N0 PG
  show own_Go X14 (Q4 Z r0 h0 n0) 1 16 12 #[.val (.ref r0)] []
  refine own_retV X14 hx Bd.returns hlk e14 (hb hby d4_12) (by decide) (by decide) ?_
  exact ⟨b3, rfl, N_23, K_21, G_5, S_6, f_16, f_17, f_22, f_18⟩
theorem d1_0 : decode method_2_code 0 = .ok (.bipush 6, 2) := by decide +kernel
theorem d1_2 : decode method_2_code 2 = .ok (.newarray .byte, 2) := by decide +kernel
theorem d1_4 : decode method_2_code 4 = .ok (.astore_n 2, 1) := by decide +kernel
theorem d1_5 : decode method_2_code 5 = .ok (.aload_n 2, 1) := by decide +kernel
theorem d1_6 : decode method_2_code 6 = .ok (.iconst 0, 1) := by decide +kernel
theorem d1_7 : decode method_2_code 7 = .ok (.lload_n 0, 1) := by decide +kernel
theorem d1_8 : decode method_2_code 8 = .ok (.l2i, 1) := by decide +kernel
theorem d1_9 : decode method_2_code 9 = .ok (.i2b, 1) := by decide +kernel
theorem d1_10 : decode method_2_code 10 = .ok (.bastore, 1) := by decide +kernel
theorem d1_11 : decode method_2_code 11 = .ok (.aload_n 2, 1) := by decide +kernel
theorem d1_12 : decode method_2_code 12 = .ok (.iconst 1, 1) := by decide +kernel
theorem d1_13 : decode method_2_code 13 = .ok (.lload_n 0, 1) := by decide +kernel
theorem d1_14 : decode method_2_code 14 = .ok (.bipush 8, 2) := by decide +kernel
theorem d1_16 : decode method_2_code 16 = .ok (.lushr, 1) := by decide +kernel
theorem d1_17 : decode method_2_code 17 = .ok (.l2i, 1) := by decide +kernel
theorem d1_18 : decode method_2_code 18 = .ok (.i2b, 1) := by decide +kernel
theorem d1_19 : decode method_2_code 19 = .ok (.bastore, 1) := by decide +kernel
theorem d1_20 : decode method_2_code 20 = .ok (.aload_n 2, 1) := by decide +kernel
theorem d1_21 : decode method_2_code 21 = .ok (.iconst 2, 1) := by decide +kernel
theorem d1_22 : decode method_2_code 22 = .ok (.lload_n 0, 1) := by decide +kernel
theorem d1_23 : decode method_2_code 23 = .ok (.bipush 16, 2) := by decide +kernel
theorem d1_25 : decode method_2_code 25 = .ok (.lushr, 1) := by decide +kernel
theorem d1_26 : decode method_2_code 26 = .ok (.l2i, 1) := by decide +kernel
theorem d1_27 : decode method_2_code 27 = .ok (.i2b, 1) := by decide +kernel
theorem d1_28 : decode method_2_code 28 = .ok (.bastore, 1) := by decide +kernel
theorem d1_29 : decode method_2_code 29 = .ok (.aload_n 2, 1) := by decide +kernel
theorem d1_30 : decode method_2_code 30 = .ok (.iconst 3, 1) := by decide +kernel
theorem d1_31 : decode method_2_code 31 = .ok (.lload_n 0, 1) := by decide +kernel
theorem d1_32 : decode method_2_code 32 = .ok (.bipush 24, 2) := by decide +kernel
theorem d1_34 : decode method_2_code 34 = .ok (.lushr, 1) := by decide +kernel
theorem d1_35 : decode method_2_code 35 = .ok (.l2i, 1) := by decide +kernel
theorem d1_36 : decode method_2_code 36 = .ok (.i2b, 1) := by decide +kernel
theorem d1_37 : decode method_2_code 37 = .ok (.bastore, 1) := by decide +kernel
theorem d1_38 : decode method_2_code 38 = .ok (.aload_n 2, 1) := by decide +kernel
theorem d1_39 : decode method_2_code 39 = .ok (.iconst 4, 1) := by decide +kernel
theorem d1_40 : decode method_2_code 40 = .ok (.lload_n 0, 1) := by decide +kernel
theorem d1_41 : decode method_2_code 41 = .ok (.bipush 32, 2) := by decide +kernel
theorem d1_43 : decode method_2_code 43 = .ok (.lushr, 1) := by decide +kernel
theorem d1_44 : decode method_2_code 44 = .ok (.l2i, 1) := by decide +kernel
theorem d1_45 : decode method_2_code 45 = .ok (.i2b, 1) := by decide +kernel
theorem d1_46 : decode method_2_code 46 = .ok (.bastore, 1) := by decide +kernel
theorem d1_47 : decode method_2_code 47 = .ok (.aload_n 2, 1) := by decide +kernel
theorem d1_48 : decode method_2_code 48 = .ok (.iconst 5, 1) := by decide +kernel
theorem d1_49 : decode method_2_code 49 = .ok (.lload_n 0, 1) := by decide +kernel
theorem d1_50 : decode method_2_code 50 = .ok (.bipush 40, 2) := by decide +kernel
theorem d1_52 : decode method_2_code 52 = .ok (.lushr, 1) := by decide +kernel
theorem d1_53 : decode method_2_code 53 = .ok (.l2i, 1) := by decide +kernel
theorem d1_54 : decode method_2_code 54 = .ok (.i2b, 1) := by decide +kernel
theorem d1_55 : decode method_2_code 55 = .ok (.bastore, 1) := by decide +kernel
theorem d1_56 : decode method_2_code 56 = .ok (.aload_n 2, 1) := by decide +kernel
theorem d1_57 : decode method_2_code 57 = .ok (.areturn, 1) := by decide +kernel
theorem pn_1 : plainName "com/example/stopbit/stopbit/TextViewPinLaw" = true := by first | (simp [plainName, overriddenIn]; done) | decide +kernel
theorem ef_1 (m : MethodId) (q0 : Int64) : entryFrame m #[(.long q0)] 3 = mkF m 0 #[.val (.long q0), .second, .unset] [] := by first | (simp [entryFrame, mkF, argsToLocals, Value.category]; done) | rfl
def Q1 (Z : State) (q0 : Int64)  (h0 : Heap) (n0 : Nat) (v : Option Value) (h : Heap) (L : List Loc) : Prop := ∃ (b : Addr) (kA : ClassId), v = some (.ref b) ∧ Fr n0 L ∧ Keep h0 h [] ∧ n0 ≤ b ∧ h0.size ≤ b ∧ Arv Z h b kA .byte (6 : Int32) [(.int (own_y0 q0)), (.int (own_ys (8 : Int32) q0)), (.int (own_ys (16 : Int32) q0)), (.int (own_ys (24 : Int32) q0)), (.int (own_ys (32 : Int32) q0)), (.int (own_ys (40 : Int32) q0))] (.int (0 : Int32))
set_option maxRecDepth 65536 in
set_option maxHeartbeats 40000000 in
theorem rm1 (l : Launch) (Z : State) (a0 : Array Value) (hw : ∀ d ∈ tables_1, d.before a0 Z = true) (ws : List Jvm.Cond) (q0 : Int64)  (h0 : Heap) (n0 : Nat) (Z0 : n0 ≤ h0.size)  :
    MetFree l (⟨"com/example/stopbit/stopbit/TextViewPinLaw", "bytesOf", "(J)[B"⟩ : MethodName) (head1 (Jvm.Cond.code (⟨"com/example/stopbit/stopbit/TextViewPinLaw", "bytesOf", "(J)[B"⟩ : MethodName) method_2_code 3 (some (.array .byte)) :: ws) ({ frames := 0, cells := 1, slots := 6, locals := 0 } : Room)) (fun a U => a = #[(.long q0)] ∧ Z.Warmed39 U.vm ∧ U.heap = h0) (fun _ _ _ _ _ => True) (fun _ U o U' => ∃ v L, o = .returned v ∧ Q1 Z q0 h0 n0 v U'.heap L ∧ FrameEnd U o U' L ({ frames := 0, cells := 1, slots := 6, locals := 0 } : Room).cells ({ frames := 0, cells := 1, slots := 6, locals := 0 } : Room).slots) := by
  refine MetFree.of_bodySF (plainFor_of_name pn_1) hisR ?_
  intro p e s m args below meth c s₁ Bd hml0 hP hK
  obtain ⟨rfl, hZ, hh⟩ := hP
  have hx := Bd.exec
  have hby := Bd.bytes
  have hml : c.maxLocals = 3 := hml0
  have hown : s.vm.findClass "com/example/stopbit/stopbit/TextViewPinLaw" = some m.cls := findClass_of_methodNamed Bd.named
  have hnm := (name_of_methodNamed Bd.named Bd.method).1
  have hlk : meth.locks = false := Bd.notSynchronized
  have X0 : Stand p l e ({ frames := 0, cells := 1, slots := 6, locals := 0 } : Room) s m #[(.long q0)] below meth c s₁ [] 0 0 := Stand.of_body Bd
  have e0 : s₁.heap = h0 := by rw [← hh, Bd.state]; rfl
  have N0 := Fr.nil n0
  refine own_cast (Q := Q1 Z q0 h0 n0) (kc := 1) (ks := 6) (ef_1 m q0) ?_
  have K_1 := Keep.refl h0 []
  refine own_st (fun _ k => XS.bipush X0.here hx rfl (hb hby d1_0) k) ?_
  show own_Go X0 (Q1 Z q0 h0 n0) 1 6 2 #[.val (.long q0), .second, .unset] [(.int (6 : Int32))]
  obtain ⟨T2, h2, k2, X2, e2, E2, A2, st2⟩ := newP X0 hx hZ (hw _ (List.mem_of_getElem? (i := 4) rfl)) e0 (g := (mkF m 2 #[.val (.long q0), .second, .unset] [(.int (6 : Int32))])) rfl (hb hby d1_2) rfl (by decide) (cap := 6) (by decide) (by decide) (by decide) (by decide)
  obtain ⟨b2, g2⟩ : ∃ z, z = h0.size := ⟨_, rfl⟩
  rw [← g2] at A2 st2
  refine own_st st2 ?_
  have G_3 := Nat.le_trans Z0 (Nat.le_of_eq g2.symm)
  have S_4 := Nat.le_trans K_1.1 (Nat.le_of_eq g2.symm)
  have Z_5 := Nat.le_trans Z0 E2.1
  have K_6 := K_1.ext E2
  have V2 : Arv Z h2 b2 k2 .byte (6 : Int32) [(.int (0 : Int32)), (.int (0 : Int32)), (.int (0 : Int32)), (.int (0 : Int32)), (.int (0 : Int32)), (.int (0 : Int32))] (.int (0 : Int32)) := (Arv.new A2 (by decide)).pad (pad_rep [] (.int (0 : Int32)) 6)
  show own_Go X2 (Q1 Z q0 h0 n0) 1 6 4 #[.val (.long q0), .second, .unset] [(.ref b2)]
  refine own_st (fun _ k => XS.astoreN X2.here hx rfl (hb hby d1_4) rfl rfl (l' := #[.val (.long q0), .second, .val (.ref b2)]) rfl k) ?_
  show own_Go X2 (Q1 Z q0 h0 n0) 1 6 5 #[.val (.long q0), .second, .val (.ref b2)] []
  refine own_st (fun _ k => XS.aloadN X2.here hx rfl (hb hby d1_5) rfl rfl k) ?_
  show own_Go X2 (Q1 Z q0 h0 n0) 1 6 6 #[.val (.long q0), .second, .val (.ref b2)] [(.ref b2)]
  refine own_st (fun _ k => XS.iconst X2.here hx rfl (hb hby d1_6) k) ?_
  show own_Go X2 (Q1 Z q0 h0 n0) 1 6 7 #[.val (.long q0), .second, .val (.ref b2)] [(.int (0 : Int32)), (.ref b2)]
  refine own_st (fun _ k => XS.lloadN X2.here hx rfl (hb hby d1_7) rfl k) ?_
  show own_Go X2 (Q1 Z q0 h0 n0) 1 6 8 #[.val (.long q0), .second, .val (.ref b2)] [(.long q0), (.int (0 : Int32)), (.ref b2)]
  refine own_st (fun _ k => XS.l2i X2.here hx rfl (hb hby d1_8) rfl k) ?_
  show own_Go X2 (Q1 Z q0 h0 n0) 1 6 9 #[.val (.long q0), .second, .val (.ref b2)] [(.int (q0.toInt32)), (.int (0 : Int32)), (.ref b2)]
  refine own_st (fun _ k => XS.i2b X2.here hx rfl (hb hby d1_9) rfl k) ?_
  show own_Go X2 (Q1 Z q0 h0 n0) 1 6 10 #[.val (.long q0), .second, .val (.ref b2)] [(.int ((q0.toInt32).toInt8.toInt32)), (.int (0 : Int32)), (.ref b2)]
  obtain ⟨T7, h7, X7, e7, W7, V7, st7⟩ := own_stB X2 hx hZ e2 V2 (j := (0 : Int32)) ⟨by decide, by decide⟩ (Nat.le_of_ble_eq_true rfl) (g := (mkF m 10 #[.val (.long q0), .second, .val (.ref b2)] [(.int ((q0.toInt32).toInt8.toInt32)), (.int (0 : Int32)), (.ref b2)])) rfl rfl (hb hby d1_10)
  refine own_st st7 ?_
  have Z_8 := Nat.le_trans Z_5 (Nat.le_of_eq W7.size.symm)
  have K_9 := K_6.wr W7 (Or.inr S_4)
  have U7 : Arv Z h7 b2 k2 .byte (6 : Int32) [(.int ((q0.toInt32).toInt8.toInt32).toInt8.toInt32), (.int (0 : Int32)), (.int (0 : Int32)), (.int (0 : Int32)), (.int (0 : Int32)), (.int (0 : Int32))] (.int (0 : Int32)) := V7
  have N_10 := Fr.snoc X7 N0 G_3
  show own_Go X7 (Q1 Z q0 h0 n0) 1 6 11 #[.val (.long q0), .second, .val (.ref b2)] []
  refine own_st (fun _ k => XS.aloadN X7.here hx rfl (hb hby d1_11) rfl rfl k) ?_
  show own_Go X7 (Q1 Z q0 h0 n0) 1 6 12 #[.val (.long q0), .second, .val (.ref b2)] [(.ref b2)]
  refine own_st (fun _ k => XS.iconst X7.here hx rfl (hb hby d1_12) k) ?_
  show own_Go X7 (Q1 Z q0 h0 n0) 1 6 13 #[.val (.long q0), .second, .val (.ref b2)] [(.int (1 : Int32)), (.ref b2)]
  refine own_st (fun _ k => XS.lloadN X7.here hx rfl (hb hby d1_13) rfl k) ?_
  show own_Go X7 (Q1 Z q0 h0 n0) 1 6 14 #[.val (.long q0), .second, .val (.ref b2)] [(.long q0), (.int (1 : Int32)), (.ref b2)]
  refine own_st (fun _ k => XS.bipush X7.here hx rfl (hb hby d1_14) k) ?_
  show own_Go X7 (Q1 Z q0 h0 n0) 1 6 16 #[.val (.long q0), .second, .val (.ref b2)] [(.int (8 : Int32)), (.long q0), (.int (1 : Int32)), (.ref b2)]
  refine own_st (fun _ k => XS.lushr X7.here hx rfl (hb hby d1_16) rfl k) ?_
  show own_Go X7 (Q1 Z q0 h0 n0) 1 6 17 #[.val (.long q0), .second, .val (.ref b2)] [(.long ((q0.toUInt64 >>> ((8 : Int32) &&& 0x3f).toInt64.toUInt64).toInt64)), (.int (1 : Int32)), (.ref b2)]
  refine own_st (fun _ k => XS.l2i X7.here hx rfl (hb hby d1_17) rfl k) ?_
  show own_Go X7 (Q1 Z q0 h0 n0) 1 6 18 #[.val (.long q0), .second, .val (.ref b2)] [(.int (((q0.toUInt64 >>> ((8 : Int32) &&& 0x3f).toInt64.toUInt64).toInt64).toInt32)), (.int (1 : Int32)), (.ref b2)]
  refine own_st (fun _ k => XS.i2b X7.here hx rfl (hb hby d1_18) rfl k) ?_
  show own_Go X7 (Q1 Z q0 h0 n0) 1 6 19 #[.val (.long q0), .second, .val (.ref b2)] [(.int ((((q0.toUInt64 >>> ((8 : Int32) &&& 0x3f).toInt64.toUInt64).toInt64).toInt32).toInt8.toInt32)), (.int (1 : Int32)), (.ref b2)]
  obtain ⟨T11, h11, X11, e11, W11, V11, st11⟩ := own_stB X7 hx hZ e7 U7 (j := (1 : Int32)) ⟨by decide, by decide⟩ (Nat.le_of_ble_eq_true rfl) (g := (mkF m 19 #[.val (.long q0), .second, .val (.ref b2)] [(.int ((((q0.toUInt64 >>> ((8 : Int32) &&& 0x3f).toInt64.toUInt64).toInt64).toInt32).toInt8.toInt32)), (.int (1 : Int32)), (.ref b2)])) rfl rfl (hb hby d1_19)
  refine own_st st11 ?_
  have Z_12 := Nat.le_trans Z_8 (Nat.le_of_eq W11.size.symm)
  have K_13 := K_9.wr W11 (Or.inr S_4)
  have U11 : Arv Z h11 b2 k2 .byte (6 : Int32) [(.int ((q0.toInt32).toInt8.toInt32).toInt8.toInt32), (.int ((((q0.toUInt64 >>> ((8 : Int32) &&& 0x3f).toInt64.toUInt64).toInt64).toInt32).toInt8.toInt32).toInt8.toInt32), (.int (0 : Int32)), (.int (0 : Int32)), (.int (0 : Int32)), (.int (0 : Int32))] (.int (0 : Int32)) := V11
  have N_14 := Fr.snoc X11 N_10 G_3
  show own_Go X11 (Q1 Z q0 h0 n0) 1 6 20 #[.val (.long q0), .second, .val (.ref b2)] []
  refine own_st (fun _ k => XS.aloadN X11.here hx rfl (hb hby d1_20) rfl rfl k) ?_
  show own_Go X11 (Q1 Z q0 h0 n0) 1 6 21 #[.val (.long q0), .second, .val (.ref b2)] [(.ref b2)]
  refine own_st (fun _ k => XS.iconst X11.here hx rfl (hb hby d1_21) k) ?_
  show own_Go X11 (Q1 Z q0 h0 n0) 1 6 22 #[.val (.long q0), .second, .val (.ref b2)] [(.int (2 : Int32)), (.ref b2)]
  refine own_st (fun _ k => XS.lloadN X11.here hx rfl (hb hby d1_22) rfl k) ?_
  show own_Go X11 (Q1 Z q0 h0 n0) 1 6 23 #[.val (.long q0), .second, .val (.ref b2)] [(.long q0), (.int (2 : Int32)), (.ref b2)]
  refine own_st (fun _ k => XS.bipush X11.here hx rfl (hb hby d1_23) k) ?_
  show own_Go X11 (Q1 Z q0 h0 n0) 1 6 25 #[.val (.long q0), .second, .val (.ref b2)] [(.int (16 : Int32)), (.long q0), (.int (2 : Int32)), (.ref b2)]
  refine own_st (fun _ k => XS.lushr X11.here hx rfl (hb hby d1_25) rfl k) ?_
  show own_Go X11 (Q1 Z q0 h0 n0) 1 6 26 #[.val (.long q0), .second, .val (.ref b2)] [(.long ((q0.toUInt64 >>> ((16 : Int32) &&& 0x3f).toInt64.toUInt64).toInt64)), (.int (2 : Int32)), (.ref b2)]
  refine own_st (fun _ k => XS.l2i X11.here hx rfl (hb hby d1_26) rfl k) ?_
  show own_Go X11 (Q1 Z q0 h0 n0) 1 6 27 #[.val (.long q0), .second, .val (.ref b2)] [(.int (((q0.toUInt64 >>> ((16 : Int32) &&& 0x3f).toInt64.toUInt64).toInt64).toInt32)), (.int (2 : Int32)), (.ref b2)]
  refine own_st (fun _ k => XS.i2b X11.here hx rfl (hb hby d1_27) rfl k) ?_
  show own_Go X11 (Q1 Z q0 h0 n0) 1 6 28 #[.val (.long q0), .second, .val (.ref b2)] [(.int ((((q0.toUInt64 >>> ((16 : Int32) &&& 0x3f).toInt64.toUInt64).toInt64).toInt32).toInt8.toInt32)), (.int (2 : Int32)), (.ref b2)]
  obtain ⟨T15, h15, X15, e15, W15, V15, st15⟩ := own_stB X11 hx hZ e11 U11 (j := (2 : Int32)) ⟨by decide, by decide⟩ (Nat.le_of_ble_eq_true rfl) (g := (mkF m 28 #[.val (.long q0), .second, .val (.ref b2)] [(.int ((((q0.toUInt64 >>> ((16 : Int32) &&& 0x3f).toInt64.toUInt64).toInt64).toInt32).toInt8.toInt32)), (.int (2 : Int32)), (.ref b2)])) rfl rfl (hb hby d1_28)
  refine own_st st15 ?_
  have Z_16 := Nat.le_trans Z_12 (Nat.le_of_eq W15.size.symm)
  have K_17 := K_13.wr W15 (Or.inr S_4)
  have U15 : Arv Z h15 b2 k2 .byte (6 : Int32) [(.int ((q0.toInt32).toInt8.toInt32).toInt8.toInt32), (.int ((((q0.toUInt64 >>> ((8 : Int32) &&& 0x3f).toInt64.toUInt64).toInt64).toInt32).toInt8.toInt32).toInt8.toInt32), (.int ((((q0.toUInt64 >>> ((16 : Int32) &&& 0x3f).toInt64.toUInt64).toInt64).toInt32).toInt8.toInt32).toInt8.toInt32), (.int (0 : Int32)), (.int (0 : Int32)), (.int (0 : Int32))] (.int (0 : Int32)) := V15
  have N_18 := Fr.snoc X15 N_14 G_3
  show own_Go X15 (Q1 Z q0 h0 n0) 1 6 29 #[.val (.long q0), .second, .val (.ref b2)] []
  refine own_st (fun _ k => XS.aloadN X15.here hx rfl (hb hby d1_29) rfl rfl k) ?_
  show own_Go X15 (Q1 Z q0 h0 n0) 1 6 30 #[.val (.long q0), .second, .val (.ref b2)] [(.ref b2)]
  refine own_st (fun _ k => XS.iconst X15.here hx rfl (hb hby d1_30) k) ?_
  show own_Go X15 (Q1 Z q0 h0 n0) 1 6 31 #[.val (.long q0), .second, .val (.ref b2)] [(.int (3 : Int32)), (.ref b2)]
  refine own_st (fun _ k => XS.lloadN X15.here hx rfl (hb hby d1_31) rfl k) ?_
  show own_Go X15 (Q1 Z q0 h0 n0) 1 6 32 #[.val (.long q0), .second, .val (.ref b2)] [(.long q0), (.int (3 : Int32)), (.ref b2)]
  refine own_st (fun _ k => XS.bipush X15.here hx rfl (hb hby d1_32) k) ?_
  show own_Go X15 (Q1 Z q0 h0 n0) 1 6 34 #[.val (.long q0), .second, .val (.ref b2)] [(.int (24 : Int32)), (.long q0), (.int (3 : Int32)), (.ref b2)]
  refine own_st (fun _ k => XS.lushr X15.here hx rfl (hb hby d1_34) rfl k) ?_
  show own_Go X15 (Q1 Z q0 h0 n0) 1 6 35 #[.val (.long q0), .second, .val (.ref b2)] [(.long ((q0.toUInt64 >>> ((24 : Int32) &&& 0x3f).toInt64.toUInt64).toInt64)), (.int (3 : Int32)), (.ref b2)]
  refine own_st (fun _ k => XS.l2i X15.here hx rfl (hb hby d1_35) rfl k) ?_
  show own_Go X15 (Q1 Z q0 h0 n0) 1 6 36 #[.val (.long q0), .second, .val (.ref b2)] [(.int (((q0.toUInt64 >>> ((24 : Int32) &&& 0x3f).toInt64.toUInt64).toInt64).toInt32)), (.int (3 : Int32)), (.ref b2)]
  refine own_st (fun _ k => XS.i2b X15.here hx rfl (hb hby d1_36) rfl k) ?_
  show own_Go X15 (Q1 Z q0 h0 n0) 1 6 37 #[.val (.long q0), .second, .val (.ref b2)] [(.int ((((q0.toUInt64 >>> ((24 : Int32) &&& 0x3f).toInt64.toUInt64).toInt64).toInt32).toInt8.toInt32)), (.int (3 : Int32)), (.ref b2)]
  obtain ⟨T19, h19, X19, e19, W19, V19, st19⟩ := own_stB X15 hx hZ e15 U15 (j := (3 : Int32)) ⟨by decide, by decide⟩ (Nat.le_of_ble_eq_true rfl) (g := (mkF m 37 #[.val (.long q0), .second, .val (.ref b2)] [(.int ((((q0.toUInt64 >>> ((24 : Int32) &&& 0x3f).toInt64.toUInt64).toInt64).toInt32).toInt8.toInt32)), (.int (3 : Int32)), (.ref b2)])) rfl rfl (hb hby d1_37)
  refine own_st st19 ?_
  have Z_20 := Nat.le_trans Z_16 (Nat.le_of_eq W19.size.symm)
  have K_21 := K_17.wr W19 (Or.inr S_4)
  have U19 : Arv Z h19 b2 k2 .byte (6 : Int32) [(.int ((q0.toInt32).toInt8.toInt32).toInt8.toInt32), (.int ((((q0.toUInt64 >>> ((8 : Int32) &&& 0x3f).toInt64.toUInt64).toInt64).toInt32).toInt8.toInt32).toInt8.toInt32), (.int ((((q0.toUInt64 >>> ((16 : Int32) &&& 0x3f).toInt64.toUInt64).toInt64).toInt32).toInt8.toInt32).toInt8.toInt32), (.int ((((q0.toUInt64 >>> ((24 : Int32) &&& 0x3f).toInt64.toUInt64).toInt64).toInt32).toInt8.toInt32).toInt8.toInt32), (.int (0 : Int32)), (.int (0 : Int32))] (.int (0 : Int32)) := V19
  have N_22 := Fr.snoc X19 N_18 G_3
  show own_Go X19 (Q1 Z q0 h0 n0) 1 6 38 #[.val (.long q0), .second, .val (.ref b2)] []
  refine own_st (fun _ k => XS.aloadN X19.here hx rfl (hb hby d1_38) rfl rfl k) ?_
  show own_Go X19 (Q1 Z q0 h0 n0) 1 6 39 #[.val (.long q0), .second, .val (.ref b2)] [(.ref b2)]
  refine own_st (fun _ k => XS.iconst X19.here hx rfl (hb hby d1_39) k) ?_
  show own_Go X19 (Q1 Z q0 h0 n0) 1 6 40 #[.val (.long q0), .second, .val (.ref b2)] [(.int (4 : Int32)), (.ref b2)]
  refine own_st (fun _ k => XS.lloadN X19.here hx rfl (hb hby d1_40) rfl k) ?_
  show own_Go X19 (Q1 Z q0 h0 n0) 1 6 41 #[.val (.long q0), .second, .val (.ref b2)] [(.long q0), (.int (4 : Int32)), (.ref b2)]
  refine own_st (fun _ k => XS.bipush X19.here hx rfl (hb hby d1_41) k) ?_
  show own_Go X19 (Q1 Z q0 h0 n0) 1 6 43 #[.val (.long q0), .second, .val (.ref b2)] [(.int (32 : Int32)), (.long q0), (.int (4 : Int32)), (.ref b2)]
  refine own_st (fun _ k => XS.lushr X19.here hx rfl (hb hby d1_43) rfl k) ?_
  show own_Go X19 (Q1 Z q0 h0 n0) 1 6 44 #[.val (.long q0), .second, .val (.ref b2)] [(.long ((q0.toUInt64 >>> ((32 : Int32) &&& 0x3f).toInt64.toUInt64).toInt64)), (.int (4 : Int32)), (.ref b2)]
  refine own_st (fun _ k => XS.l2i X19.here hx rfl (hb hby d1_44) rfl k) ?_
  show own_Go X19 (Q1 Z q0 h0 n0) 1 6 45 #[.val (.long q0), .second, .val (.ref b2)] [(.int (((q0.toUInt64 >>> ((32 : Int32) &&& 0x3f).toInt64.toUInt64).toInt64).toInt32)), (.int (4 : Int32)), (.ref b2)]
  refine own_st (fun _ k => XS.i2b X19.here hx rfl (hb hby d1_45) rfl k) ?_
  show own_Go X19 (Q1 Z q0 h0 n0) 1 6 46 #[.val (.long q0), .second, .val (.ref b2)] [(.int ((((q0.toUInt64 >>> ((32 : Int32) &&& 0x3f).toInt64.toUInt64).toInt64).toInt32).toInt8.toInt32)), (.int (4 : Int32)), (.ref b2)]
  obtain ⟨T23, h23, X23, e23, W23, V23, st23⟩ := own_stB X19 hx hZ e19 U19 (j := (4 : Int32)) ⟨by decide, by decide⟩ (Nat.le_of_ble_eq_true rfl) (g := (mkF m 46 #[.val (.long q0), .second, .val (.ref b2)] [(.int ((((q0.toUInt64 >>> ((32 : Int32) &&& 0x3f).toInt64.toUInt64).toInt64).toInt32).toInt8.toInt32)), (.int (4 : Int32)), (.ref b2)])) rfl rfl (hb hby d1_46)
  refine own_st st23 ?_
  have Z_24 := Nat.le_trans Z_20 (Nat.le_of_eq W23.size.symm)
  have K_25 := K_21.wr W23 (Or.inr S_4)
  have U23 : Arv Z h23 b2 k2 .byte (6 : Int32) [(.int ((q0.toInt32).toInt8.toInt32).toInt8.toInt32), (.int ((((q0.toUInt64 >>> ((8 : Int32) &&& 0x3f).toInt64.toUInt64).toInt64).toInt32).toInt8.toInt32).toInt8.toInt32), (.int ((((q0.toUInt64 >>> ((16 : Int32) &&& 0x3f).toInt64.toUInt64).toInt64).toInt32).toInt8.toInt32).toInt8.toInt32), (.int ((((q0.toUInt64 >>> ((24 : Int32) &&& 0x3f).toInt64.toUInt64).toInt64).toInt32).toInt8.toInt32).toInt8.toInt32), (.int ((((q0.toUInt64 >>> ((32 : Int32) &&& 0x3f).toInt64.toUInt64).toInt64).toInt32).toInt8.toInt32).toInt8.toInt32), (.int (0 : Int32))] (.int (0 : Int32)) := V23
  have N_26 := Fr.snoc X23 N_22 G_3
  show own_Go X23 (Q1 Z q0 h0 n0) 1 6 47 #[.val (.long q0), .second, .val (.ref b2)] []
  refine own_st (fun _ k => XS.aloadN X23.here hx rfl (hb hby d1_47) rfl rfl k) ?_
  show own_Go X23 (Q1 Z q0 h0 n0) 1 6 48 #[.val (.long q0), .second, .val (.ref b2)] [(.ref b2)]
  refine own_st (fun _ k => XS.iconst X23.here hx rfl (hb hby d1_48) k) ?_
  show own_Go X23 (Q1 Z q0 h0 n0) 1 6 49 #[.val (.long q0), .second, .val (.ref b2)] [(.int (5 : Int32)), (.ref b2)]
  refine own_st (fun _ k => XS.lloadN X23.here hx rfl (hb hby d1_49) rfl k) ?_
  show own_Go X23 (Q1 Z q0 h0 n0) 1 6 50 #[.val (.long q0), .second, .val (.ref b2)] [(.long q0), (.int (5 : Int32)), (.ref b2)]
  refine own_st (fun _ k => XS.bipush X23.here hx rfl (hb hby d1_50) k) ?_
  show own_Go X23 (Q1 Z q0 h0 n0) 1 6 52 #[.val (.long q0), .second, .val (.ref b2)] [(.int (40 : Int32)), (.long q0), (.int (5 : Int32)), (.ref b2)]
  refine own_st (fun _ k => XS.lushr X23.here hx rfl (hb hby d1_52) rfl k) ?_
  show own_Go X23 (Q1 Z q0 h0 n0) 1 6 53 #[.val (.long q0), .second, .val (.ref b2)] [(.long ((q0.toUInt64 >>> ((40 : Int32) &&& 0x3f).toInt64.toUInt64).toInt64)), (.int (5 : Int32)), (.ref b2)]
  refine own_st (fun _ k => XS.l2i X23.here hx rfl (hb hby d1_53) rfl k) ?_
  show own_Go X23 (Q1 Z q0 h0 n0) 1 6 54 #[.val (.long q0), .second, .val (.ref b2)] [(.int (((q0.toUInt64 >>> ((40 : Int32) &&& 0x3f).toInt64.toUInt64).toInt64).toInt32)), (.int (5 : Int32)), (.ref b2)]
  refine own_st (fun _ k => XS.i2b X23.here hx rfl (hb hby d1_54) rfl k) ?_
  show own_Go X23 (Q1 Z q0 h0 n0) 1 6 55 #[.val (.long q0), .second, .val (.ref b2)] [(.int ((((q0.toUInt64 >>> ((40 : Int32) &&& 0x3f).toInt64.toUInt64).toInt64).toInt32).toInt8.toInt32)), (.int (5 : Int32)), (.ref b2)]
  obtain ⟨T27, h27, X27, e27, W27, V27, st27⟩ := own_stB X23 hx hZ e23 U23 (j := (5 : Int32)) ⟨by decide, by decide⟩ (Nat.le_of_ble_eq_true rfl) (g := (mkF m 55 #[.val (.long q0), .second, .val (.ref b2)] [(.int ((((q0.toUInt64 >>> ((40 : Int32) &&& 0x3f).toInt64.toUInt64).toInt64).toInt32).toInt8.toInt32)), (.int (5 : Int32)), (.ref b2)])) rfl rfl (hb hby d1_55)
  refine own_st st27 ?_
  have Z_28 := Nat.le_trans Z_24 (Nat.le_of_eq W27.size.symm)
  have K_29 := K_25.wr W27 (Or.inr S_4)
  have U27 : Arv Z h27 b2 k2 .byte (6 : Int32) [(.int ((q0.toInt32).toInt8.toInt32).toInt8.toInt32), (.int ((((q0.toUInt64 >>> ((8 : Int32) &&& 0x3f).toInt64.toUInt64).toInt64).toInt32).toInt8.toInt32).toInt8.toInt32), (.int ((((q0.toUInt64 >>> ((16 : Int32) &&& 0x3f).toInt64.toUInt64).toInt64).toInt32).toInt8.toInt32).toInt8.toInt32), (.int ((((q0.toUInt64 >>> ((24 : Int32) &&& 0x3f).toInt64.toUInt64).toInt64).toInt32).toInt8.toInt32).toInt8.toInt32), (.int ((((q0.toUInt64 >>> ((32 : Int32) &&& 0x3f).toInt64.toUInt64).toInt64).toInt32).toInt8.toInt32).toInt8.toInt32), (.int ((((q0.toUInt64 >>> ((40 : Int32) &&& 0x3f).toInt64.toUInt64).toInt64).toInt32).toInt8.toInt32).toInt8.toInt32)] (.int (0 : Int32)) := V27
  have N_30 := Fr.snoc X27 N_26 G_3
  show own_Go X27 (Q1 Z q0 h0 n0) 1 6 56 #[.val (.long q0), .second, .val (.ref b2)] []
  refine own_st (fun _ k => XS.aloadN X27.here hx rfl (hb hby d1_56) rfl rfl k) ?_
  show own_Go X27 (Q1 Z q0 h0 n0) 1 6 57 #[.val (.long q0), .second, .val (.ref b2)] [(.ref b2)]
  refine own_retA X27 hx Bd.returns rfl hlk e27 (hb hby d1_57) (by decide) (by decide) ?_
  exact ⟨b2, k2, rfl, N_30, K_29, G_3, S_4, U27⟩
theorem d2_0 : decode method_3_code 0 = .ok (.iload_n 0, 1) := by decide +kernel
theorem d2_1 : decode method_3_code 1 = .ok (.ldc 7, 2) := by decide +kernel
theorem d2_3 : decode method_3_code 3 = .ok (.iand, 1) := by decide +kernel
theorem d2_4 : decode method_3_code 4 = .ok (.bipush 7, 2) := by decide +kernel
theorem d2_6 : decode method_3_code 6 = .ok (.irem, 1) := by decide +kernel
theorem d2_7 : decode method_3_code 7 = .ok (.ireturn, 1) := by decide +kernel
theorem pn_2 : plainName "com/example/stopbit/stopbit/TextViewPinLaw" = true := by first | (simp [plainName, overriddenIn]; done) | decide +kernel
theorem ef_2 (m : MethodId) (p0 : Int32) : entryFrame m #[(.int p0)] 1 = mkF m 0 #[.val (.int p0)] [] := by first | (simp [entryFrame, mkF, argsToLocals, Value.category]; done) | rfl
def Q2 (Z : State) (p0 : Int32)  (h0 : Heap) (n0 : Nat) (v : Option Value) (h : Heap) (L : List Loc) : Prop := v = some (.int (own_from p0)) ∧ Fr n0 L ∧ h = h0
set_option maxRecDepth 65536 in
set_option maxHeartbeats 40000000 in
theorem rm2 (l : Launch) (Z : State) (a0 : Array Value) (hw : ∀ d ∈ tables_1, d.before a0 Z = true) (ws : List Jvm.Cond) (p0 : Int32)  (h0 : Heap) (n0 : Nat) (Z0 : n0 ≤ h0.size)  :
    MetFree l (⟨"com/example/stopbit/stopbit/TextViewPinLaw", "fromOf", "(I)I"⟩ : MethodName) (head1 (Jvm.Cond.code (⟨"com/example/stopbit/stopbit/TextViewPinLaw", "fromOf", "(I)I"⟩ : MethodName) method_3_code 1 (some .int) :: ws) ({ frames := 0, cells := 0, slots := 0, locals := 0 } : Room)) (fun a U => a = #[(.int p0)] ∧ Z.Warmed39 U.vm ∧ U.heap = h0) (fun _ _ _ _ _ => True) (fun _ U o U' => ∃ v L, o = .returned v ∧ Q2 Z p0 h0 n0 v U'.heap L ∧ FrameEnd U o U' L ({ frames := 0, cells := 0, slots := 0, locals := 0 } : Room).cells ({ frames := 0, cells := 0, slots := 0, locals := 0 } : Room).slots) := by
  refine MetFree.of_bodySF (plainFor_of_name pn_2) hisR ?_
  intro p e s m args below meth c s₁ Bd hml0 hP hK
  obtain ⟨rfl, hZ, hh⟩ := hP
  have hx := Bd.exec
  have hby := Bd.bytes
  have hml : c.maxLocals = 1 := hml0
  have hown : s.vm.findClass "com/example/stopbit/stopbit/TextViewPinLaw" = some m.cls := findClass_of_methodNamed Bd.named
  have hnm := (name_of_methodNamed Bd.named Bd.method).1
  have hlk : meth.locks = false := Bd.notSynchronized
  have X0 : Stand p l e ({ frames := 0, cells := 0, slots := 0, locals := 0 } : Room) s m #[(.int p0)] below meth c s₁ [] 0 0 := Stand.of_body Bd
  have e0 : s₁.heap = h0 := by rw [← hh, Bd.state]; rfl
  have N0 := Fr.nil n0
  refine own_cast (Q := Q2 Z p0 h0 n0) (kc := 0) (ks := 0) (ef_2 m p0) ?_
  refine own_st (fun _ k => XS.iloadN X0.here hx rfl (hb hby d2_0) rfl k) ?_
  show own_Go X0 (Q2 Z p0 h0 n0) 0 0 1 #[.val (.int p0)] [(.int p0)]
  refine own_st (fun t k => X0.ldcInt hx hown (mvT hZ (hw _ (List.mem_of_getElem? (i := 8) rfl))) (g := (mkF m 1 #[.val (.int p0)] [(.int p0)])) rfl (hb hby d2_1) t k) ?_
  show own_Go X0 (Q2 Z p0 h0 n0) 0 0 3 #[.val (.int p0)] [(.int (2147483647 : Int32)), (.int p0)]
  refine own_st (fun _ k => XS.iand X0.here hx rfl (hb hby d2_3) rfl k) ?_
  show own_Go X0 (Q2 Z p0 h0 n0) 0 0 4 #[.val (.int p0)] [(.int (p0 &&& (2147483647 : Int32)))]
  refine own_st (fun _ k => XS.bipush X0.here hx rfl (hb hby d2_4) k) ?_
  show own_Go X0 (Q2 Z p0 h0 n0) 0 0 6 #[.val (.int p0)] [(.int (7 : Int32)), (.int (p0 &&& (2147483647 : Int32)))]
  refine own_st (fun _ k => iremM X0 hx rfl (hb hby d2_6) rfl (by decide) k) ?_
  show own_Go X0 (Q2 Z p0 h0 n0) 0 0 7 #[.val (.int p0)] [(.int ((p0 &&& (2147483647 : Int32)) % (7 : Int32)))]
  refine own_retI X0 hx Bd.returns hlk e0 (hb hby d2_7) (by decide) (by decide) ?_
  exact ⟨rfl, N0, rfl⟩
theorem d3_0 : decode method_4_code 0 = .ok (.iload_n 1, 1) := by decide +kernel
theorem d3_1 : decode method_4_code 1 = .ok (.iload_n 0, 1) := by decide +kernel
theorem d3_2 : decode method_4_code 2 = .ok (.bipush 8, 2) := by decide +kernel
theorem d3_4 : decode method_4_code 4 = .ok (.iushr, 1) := by decide +kernel
theorem d3_5 : decode method_4_code 5 = .ok (.ldc 7, 2) := by decide +kernel
theorem d3_7 : decode method_4_code 7 = .ok (.iand, 1) := by decide +kernel
theorem d3_8 : decode method_4_code 8 = .ok (.bipush 7, 2) := by decide +kernel
theorem d3_10 : decode method_4_code 10 = .ok (.iload_n 1, 1) := by decide +kernel
theorem d3_11 : decode method_4_code 11 = .ok (.isub, 1) := by decide +kernel
theorem d3_12 : decode method_4_code 12 = .ok (.irem, 1) := by decide +kernel
theorem d3_13 : decode method_4_code 13 = .ok (.iadd, 1) := by decide +kernel
theorem d3_14 : decode method_4_code 14 = .ok (.ireturn, 1) := by decide +kernel
theorem pn_3 : plainName "com/example/stopbit/stopbit/TextViewPinLaw" = true := by first | (simp [plainName, overriddenIn]; done) | decide +kernel
theorem ef_3 (m : MethodId) (p0 : Int32) (p1 : Int32) : entryFrame m #[(.int p0), (.int p1)] 2 = mkF m 0 #[.val (.int p0), .val (.int p1)] [] := by first | (simp [entryFrame, mkF, argsToLocals, Value.category]; done) | rfl
def Q3 (Z : State) (p0 : Int32) (p1 : Int32)  (h0 : Heap) (n0 : Nat) (v : Option Value) (h : Heap) (L : List Loc) : Prop := v = some (.int (own_to p0 p1)) ∧ Fr n0 L ∧ h = h0
set_option maxRecDepth 65536 in
set_option maxHeartbeats 40000000 in
theorem rm3 (l : Launch) (Z : State) (a0 : Array Value) (hw : ∀ d ∈ tables_1, d.before a0 Z = true) (ws : List Jvm.Cond) (p0 : Int32) (p1 : Int32)  (h0 : Heap) (n0 : Nat) (Z0 : n0 ≤ h0.size) (HF : 0 ≤ p1.toInt ∧ p1.toInt ≤ 6) :
    MetFree l (⟨"com/example/stopbit/stopbit/TextViewPinLaw", "toOf", "(II)I"⟩ : MethodName) (head1 (Jvm.Cond.code (⟨"com/example/stopbit/stopbit/TextViewPinLaw", "toOf", "(II)I"⟩ : MethodName) method_4_code 2 (some .int) :: ws) ({ frames := 0, cells := 0, slots := 0, locals := 0 } : Room)) (fun a U => a = #[(.int p0), (.int p1)] ∧ Z.Warmed39 U.vm ∧ U.heap = h0) (fun _ _ _ _ _ => True) (fun _ U o U' => ∃ v L, o = .returned v ∧ Q3 Z p0 p1 h0 n0 v U'.heap L ∧ FrameEnd U o U' L ({ frames := 0, cells := 0, slots := 0, locals := 0 } : Room).cells ({ frames := 0, cells := 0, slots := 0, locals := 0 } : Room).slots) := by
  refine MetFree.of_bodySF (plainFor_of_name pn_3) hisR ?_
  intro p e s m args below meth c s₁ Bd hml0 hP hK
  obtain ⟨rfl, hZ, hh⟩ := hP
  have hx := Bd.exec
  have hby := Bd.bytes
  have hml : c.maxLocals = 2 := hml0
  have hown : s.vm.findClass "com/example/stopbit/stopbit/TextViewPinLaw" = some m.cls := findClass_of_methodNamed Bd.named
  have hnm := (name_of_methodNamed Bd.named Bd.method).1
  have hlk : meth.locks = false := Bd.notSynchronized
  have X0 : Stand p l e ({ frames := 0, cells := 0, slots := 0, locals := 0 } : Room) s m #[(.int p0), (.int p1)] below meth c s₁ [] 0 0 := Stand.of_body Bd
  have e0 : s₁.heap = h0 := by rw [← hh, Bd.state]; rfl
  have N0 := Fr.nil n0
  refine own_cast (Q := Q3 Z p0 p1 h0 n0) (kc := 0) (ks := 0) (ef_3 m p0 p1) ?_
  refine own_st (fun _ k => XS.iloadN X0.here hx rfl (hb hby d3_0) rfl k) ?_
  show own_Go X0 (Q3 Z p0 p1 h0 n0) 0 0 1 #[.val (.int p0), .val (.int p1)] [(.int p1)]
  refine own_st (fun _ k => XS.iloadN X0.here hx rfl (hb hby d3_1) rfl k) ?_
  show own_Go X0 (Q3 Z p0 p1 h0 n0) 0 0 2 #[.val (.int p0), .val (.int p1)] [(.int p0), (.int p1)]
  refine own_st (fun _ k => XS.bipush X0.here hx rfl (hb hby d3_2) k) ?_
  show own_Go X0 (Q3 Z p0 p1 h0 n0) 0 0 4 #[.val (.int p0), .val (.int p1)] [(.int (8 : Int32)), (.int p0), (.int p1)]
  refine own_st (fun _ k => XS.iushr X0.here hx rfl (hb hby d3_4) rfl k) ?_
  show own_Go X0 (Q3 Z p0 p1 h0 n0) 0 0 5 #[.val (.int p0), .val (.int p1)] [(.int ((p0.toUInt32 >>> ((8 : Int32) &&& 31).toUInt32).toInt32)), (.int p1)]
  refine own_st (fun t k => X0.ldcInt hx hown (mvT hZ (hw _ (List.mem_of_getElem? (i := 8) rfl))) (g := (mkF m 5 #[.val (.int p0), .val (.int p1)] [(.int ((p0.toUInt32 >>> ((8 : Int32) &&& 31).toUInt32).toInt32)), (.int p1)])) rfl (hb hby d3_5) t k) ?_
  show own_Go X0 (Q3 Z p0 p1 h0 n0) 0 0 7 #[.val (.int p0), .val (.int p1)] [(.int (2147483647 : Int32)), (.int ((p0.toUInt32 >>> ((8 : Int32) &&& 31).toUInt32).toInt32)), (.int p1)]
  refine own_st (fun _ k => XS.iand X0.here hx rfl (hb hby d3_7) rfl k) ?_
  show own_Go X0 (Q3 Z p0 p1 h0 n0) 0 0 8 #[.val (.int p0), .val (.int p1)] [(.int (((p0.toUInt32 >>> ((8 : Int32) &&& 31).toUInt32).toInt32) &&& (2147483647 : Int32))), (.int p1)]
  refine own_st (fun _ k => XS.bipush X0.here hx rfl (hb hby d3_8) k) ?_
  show own_Go X0 (Q3 Z p0 p1 h0 n0) 0 0 10 #[.val (.int p0), .val (.int p1)] [(.int (7 : Int32)), (.int (((p0.toUInt32 >>> ((8 : Int32) &&& 31).toUInt32).toInt32) &&& (2147483647 : Int32))), (.int p1)]
  refine own_st (fun _ k => XS.iloadN X0.here hx rfl (hb hby d3_10) rfl k) ?_
  show own_Go X0 (Q3 Z p0 p1 h0 n0) 0 0 11 #[.val (.int p0), .val (.int p1)] [(.int p1), (.int (7 : Int32)), (.int (((p0.toUInt32 >>> ((8 : Int32) &&& 31).toUInt32).toInt32) &&& (2147483647 : Int32))), (.int p1)]
  refine own_st (fun _ k => XS.isub X0.here hx rfl (hb hby d3_11) rfl k) ?_
  show own_Go X0 (Q3 Z p0 p1 h0 n0) 0 0 12 #[.val (.int p0), .val (.int p1)] [(.int ((7 : Int32) - p1)), (.int (((p0.toUInt32 >>> ((8 : Int32) &&& 31).toUInt32).toInt32) &&& (2147483647 : Int32))), (.int p1)]
  refine own_st (fun _ k => iremM X0 hx rfl (hb hby d3_12) rfl (own_7nz HF) k) ?_
  show own_Go X0 (Q3 Z p0 p1 h0 n0) 0 0 13 #[.val (.int p0), .val (.int p1)] [(.int ((((p0.toUInt32 >>> ((8 : Int32) &&& 31).toUInt32).toInt32) &&& (2147483647 : Int32)) % ((7 : Int32) - p1))), (.int p1)]
  refine own_st (fun _ k => XS.iadd X0.here hx rfl (hb hby d3_13) rfl k) ?_
  show own_Go X0 (Q3 Z p0 p1 h0 n0) 0 0 14 #[.val (.int p0), .val (.int p1)] [(.int (p1 + ((((p0.toUInt32 >>> ((8 : Int32) &&& 31).toUInt32).toInt32) &&& (2147483647 : Int32)) % ((7 : Int32) - p1))))]
  refine own_retI X0 hx Bd.returns hlk e0 (hb hby d3_14) (by decide) (by decide) ?_
  exact ⟨rfl, N0, rfl⟩
theorem pn_0 : plainName "com/example/stopbit/stopbit/TextViewPinLaw" = true := by first | (simp [plainName, overriddenIn]; done) | decide +kernel
theorem pd_0_0 : parseMethodDescriptor "(J)[B" = some ⟨[.long], some (.array .byte)⟩ := by decide +kernel
theorem pd_0_1 : parseMethodDescriptor "(I)I" = some ⟨[.int], some .int⟩ := by decide +kernel
theorem pd_0_2 : parseMethodDescriptor "(II)I" = some ⟨[.int, .int], some .int⟩ := by decide +kernel
theorem pd_0_3 : parseMethodDescriptor "()V" = some ⟨[], none⟩ := by decide +kernel
theorem pd_0_4 : parseMethodDescriptor "([BII)V" = some ⟨[(.array .byte), .int, .int], none⟩ := by decide +kernel
theorem pd_0_5 : parseMethodDescriptor "(Lcom/example/stopbit/stopbit/Text;[BIII)Z" = some ⟨[(.object "com/example/stopbit/stopbit/Text"), (.array .byte), .int, .int, .int], some .boolean⟩ := by decide +kernel
theorem ef_0 (m : MethodId) (q0 : Int64) (q1 : Int64) (p2 : Int32) (p3 : Int32) (p4 : Int32) : entryFrame m #[(.long q0), (.long q1), (.int p2), (.int p3), (.int p4)] maxLocals = mkF m 0 #[.val (.long q0), .second, .val (.long q1), .second, .val (.int p2), .val (.int p3), .val (.int p4), .unset, .unset, .unset, .unset, .unset, .unset, .unset, .unset, .unset, .unset, .unset] [] := by first | (simp [entryFrame, mkF, argsToLocals, Value.category, maxLocals]; done) | rfl
def Q0 (Z : State) (q0 : Int64) (q1 : Int64) (p2 : Int32) (p3 : Int32) (p4 : Int32)  (h0 : Heap) (n0 : Nat) (v : Option Value) (h : Heap) (L : List Loc) : Prop := v = some (.int 1) ∧ Fr n0 L
set_option maxRecDepth 65536 in
set_option maxHeartbeats 40000000 in
theorem rm0 (l : Launch) (Z : State) (a0 : Array Value) (hw : ∀ d ∈ tables_1, d.before a0 Z = true) (ws : List Jvm.Cond) (q0 : Int64) (q1 : Int64) (p2 : Int32) (p3 : Int32) (p4 : Int32)  (h0 : Heap) (n0 : Nat) (Z0 : n0 ≤ h0.size)  :
    MetFree l x (head1 (Jvm.Cond.code x code maxLocals ret :: ws) room_1) (fun a U => a = #[(.long q0), (.long q1), (.int p2), (.int p3), (.int p4)] ∧ Z.Warmed39 U.vm ∧ U.heap = h0) (fun _ _ _ _ _ => True) (fun _ U o U' => ∃ v L, o = .returned v ∧ Q0 Z q0 q1 p2 p3 p4 h0 n0 v U'.heap L ∧ FrameEnd U o U' L 4 32) := by
  refine MetFree.of_bodySF (plainFor_of_name pn_0) hisR ?_
  intro p e s m args below meth c s₁ Bd hml0 hP hK
  obtain ⟨rfl, hZ, hh⟩ := hP
  have hx := Bd.exec
  have hby := Bd.bytes
  have hml : c.maxLocals = 18 := hml0
  have hown : s.vm.findClass "com/example/stopbit/stopbit/TextViewPinLaw" = some m.cls := findClass_of_methodNamed Bd.named
  have hnm := (name_of_methodNamed Bd.named Bd.method).1
  have hlk : meth.locks = false := Bd.notSynchronized
  have X0 : Stand p l e room_1 s m #[(.long q0), (.long q1), (.int p2), (.int p3), (.int p4)] below meth c s₁ [] 0 0 := Stand.of_body Bd
  have e0 : s₁.heap = h0 := by rw [← hh, Bd.state]; rfl
  have N0 := Fr.nil n0
  refine own_cast (Q := Q0 Z q0 q1 p2 p3 p4 h0 n0) (kc := 4) (ks := 32) (ef_0 m q0 q1 p2 p3 p4) ?_
  refine own_st (fun _ k => XS.lloadN X0.here hx rfl (hb hby at_0) rfl k) ?_
  show own_Go X0 (Q0 Z q0 q1 p2 p3 p4 h0 n0) 4 32 1 #[.val (.long q0), .second, .val (.long q1), .second, .val (.int p2), .val (.int p3), .val (.int p4), .unset, .unset, .unset, .unset, .unset, .unset, .unset, .unset, .unset, .unset, .unset] [(.long q0)]
  refine own_callS (W := 0) X0 hx hZ hown (hw _ (List.mem_of_getElem? (i := 0) rfl)) (hw _ (List.mem_of_getElem? (i := 1) rfl)) (hw _ (List.mem_of_getElem? (i := 2) rfl)) (hw _ (List.mem_of_getElem? (i := 3) rfl)) (by decide) (rm1 l Z a0 hw [] q0 h0 n0 Z0) (by decide) (by decide) (by rw [hml]; rfl) [(.long q0)] [] (lenOf pd_0_0 rfl) rfl rfl (Nat.le_of_ble_eq_true rfl) (hb hby at_1) e0 (by decide) (by decide) ?_
  rintro _ T1 L1 X1 ⟨b1, k1, rfl, N1q, K1q, G1q, S1q, V1q⟩
  have N_2 := Fr.app N0 N1q
  have Z_3 := Nat.le_trans Z0 K1q.1
  show own_Go X1 (Q0 Z q0 q1 p2 p3 p4 h0 n0) 4 32 4 #[.val (.long q0), .second, .val (.long q1), .second, .val (.int p2), .val (.int p3), .val (.int p4), .unset, .unset, .unset, .unset, .unset, .unset, .unset, .unset, .unset, .unset, .unset] [(.ref b1)]
  refine own_st (fun _ k => XS.astore X1.here hx rfl (hb hby at_4) rfl rfl (l' := #[.val (.long q0), .second, .val (.long q1), .second, .val (.int p2), .val (.int p3), .val (.int p4), .val (.ref b1), .unset, .unset, .unset, .unset, .unset, .unset, .unset, .unset, .unset, .unset]) rfl k) ?_
  show own_Go X1 (Q0 Z q0 q1 p2 p3 p4 h0 n0) 4 32 6 #[.val (.long q0), .second, .val (.long q1), .second, .val (.int p2), .val (.int p3), .val (.int p4), .val (.ref b1), .unset, .unset, .unset, .unset, .unset, .unset, .unset, .unset, .unset, .unset] []
  refine own_st (fun _ k => XS.lloadN X1.here hx rfl (hb hby at_6) rfl k) ?_
  show own_Go X1 (Q0 Z q0 q1 p2 p3 p4 h0 n0) 4 32 7 #[.val (.long q0), .second, .val (.long q1), .second, .val (.int p2), .val (.int p3), .val (.int p4), .val (.ref b1), .unset, .unset, .unset, .unset, .unset, .unset, .unset, .unset, .unset, .unset] [(.long q1)]
  refine own_callS (W := 0) X1 hx hZ hown (hw _ (List.mem_of_getElem? (i := 0) rfl)) (hw _ (List.mem_of_getElem? (i := 1) rfl)) (hw _ (List.mem_of_getElem? (i := 2) rfl)) (hw _ (List.mem_of_getElem? (i := 3) rfl)) (by decide) (rm1 l Z a0 hw [] q1 T1.heap n0 Z_3) (by decide) (by decide) (by rw [hml]; rfl) [(.long q1)] [] (lenOf pd_0_0 rfl) rfl rfl (Nat.le_of_ble_eq_true rfl) (hb hby at_7) (Eq.refl T1.heap) (by decide) (by decide) ?_
  rintro _ T4 L4 X4 ⟨b4, k4, rfl, N4q, K4q, G4q, S4q, V4q⟩
  have ne_5 := Nat.ne_of_lt (Nat.lt_of_lt_of_le V1q.lt S4q)
  have N_6 := Fr.app N_2 N4q
  have f_7 := V1q.keep K4q nin0
  have Z_8 := Nat.le_trans Z_3 K4q.1
  show own_Go X4 (Q0 Z q0 q1 p2 p3 p4 h0 n0) 4 32 10 #[.val (.long q0), .second, .val (.long q1), .second, .val (.int p2), .val (.int p3), .val (.int p4), .val (.ref b1), .unset, .unset, .unset, .unset, .unset, .unset, .unset, .unset, .unset, .unset] [(.ref b4)]
  refine own_st (fun _ k => XS.astore X4.here hx rfl (hb hby at_10) rfl rfl (l' := #[.val (.long q0), .second, .val (.long q1), .second, .val (.int p2), .val (.int p3), .val (.int p4), .val (.ref b1), .val (.ref b4), .unset, .unset, .unset, .unset, .unset, .unset, .unset, .unset, .unset]) rfl k) ?_
  show own_Go X4 (Q0 Z q0 q1 p2 p3 p4 h0 n0) 4 32 12 #[.val (.long q0), .second, .val (.long q1), .second, .val (.int p2), .val (.int p3), .val (.int p4), .val (.ref b1), .val (.ref b4), .unset, .unset, .unset, .unset, .unset, .unset, .unset, .unset, .unset] []
  refine own_st (fun _ k => XS.iload X4.here hx rfl (hb hby at_12) rfl k) ?_
  show own_Go X4 (Q0 Z q0 q1 p2 p3 p4 h0 n0) 4 32 14 #[.val (.long q0), .second, .val (.long q1), .second, .val (.int p2), .val (.int p3), .val (.int p4), .val (.ref b1), .val (.ref b4), .unset, .unset, .unset, .unset, .unset, .unset, .unset, .unset, .unset] [(.int p4)]
  refine own_st (fun _ k => XS.iconst X4.here hx rfl (hb hby at_14) k) ?_
  show own_Go X4 (Q0 Z q0 q1 p2 p3 p4 h0 n0) 4 32 15 #[.val (.long q0), .second, .val (.long q1), .second, .val (.int p2), .val (.int p3), .val (.int p4), .val (.ref b1), .val (.ref b4), .unset, .unset, .unset, .unset, .unset, .unset, .unset, .unset, .unset] [(.int (1 : Int32)), (.int p4)]
  refine own_st (fun _ k => XS.iand X4.here hx rfl (hb hby at_15) rfl k) ?_
  show own_Go X4 (Q0 Z q0 q1 p2 p3 p4 h0 n0) 4 32 16 #[.val (.long q0), .second, .val (.long q1), .second, .val (.int p2), .val (.int p3), .val (.int p4), .val (.ref b1), .val (.ref b4), .unset, .unset, .unset, .unset, .unset, .unset, .unset, .unset, .unset] [(.int (p4 &&& (1 : Int32)))]
  by_cases c16_9 : (p4 &&& (1 : Int32)) = (0 : Int32)
  · skip
    refine own_st (fun _ k => XS.ifYes X4.here hx rfl (pc0 := 16) (pc' := 23) rfl (hb hby at_16) rfl ((if0 _ _).trans (teq c16_9).1) (by decide) (by decide) k) ?_
    show own_Go X4 (Q0 Z q0 q1 p2 p3 p4 h0 n0) 4 32 23 #[.val (.long q0), .second, .val (.long q1), .second, .val (.int p2), .val (.int p3), .val (.int p4), .val (.ref b1), .val (.ref b4), .unset, .unset, .unset, .unset, .unset, .unset, .unset, .unset, .unset] []
    refine own_st (fun _ k => XS.iconst X4.here hx rfl (hb hby at_23) k) ?_
    show own_Go X4 (Q0 Z q0 q1 p2 p3 p4 h0 n0) 4 32 24 #[.val (.long q0), .second, .val (.long q1), .second, .val (.int p2), .val (.int p3), .val (.int p4), .val (.ref b1), .val (.ref b4), .unset, .unset, .unset, .unset, .unset, .unset, .unset, .unset, .unset] [(.int (0 : Int32))]
    refine own_st (fun _ k => XS.istore X4.here hx rfl (hb hby at_24) rfl (l' := #[.val (.long q0), .second, .val (.long q1), .second, .val (.int p2), .val (.int p3), .val (.int p4), .val (.ref b1), .val (.ref b4), .val (.int (0 : Int32)), .unset, .unset, .unset, .unset, .unset, .unset, .unset, .unset]) rfl k) ?_
    show own_Go X4 (Q0 Z q0 q1 p2 p3 p4 h0 n0) 4 32 26 #[.val (.long q0), .second, .val (.long q1), .second, .val (.int p2), .val (.int p3), .val (.int p4), .val (.ref b1), .val (.ref b4), .val (.int (0 : Int32)), .unset, .unset, .unset, .unset, .unset, .unset, .unset, .unset] []
    refine own_st (fun _ k => XS.iload X4.here hx rfl (hb hby at_26) rfl k) ?_
    show own_Go X4 (Q0 Z q0 q1 p2 p3 p4 h0 n0) 4 32 28 #[.val (.long q0), .second, .val (.long q1), .second, .val (.int p2), .val (.int p3), .val (.int p4), .val (.ref b1), .val (.ref b4), .val (.int (0 : Int32)), .unset, .unset, .unset, .unset, .unset, .unset, .unset, .unset] [(.int p2)]
    refine own_callS (W := 0) X4 hx hZ hown (hw _ (List.mem_of_getElem? (i := 5) rfl)) (hw _ (List.mem_of_getElem? (i := 6) rfl)) (hw _ (List.mem_of_getElem? (i := 2) rfl)) (hw _ (List.mem_of_getElem? (i := 7) rfl)) (by decide) (rm2 l Z a0 hw [] p2  T4.heap n0 Z_8 ) (by decide) (by decide) (by rw [hml]; rfl) [(.int p2)] [] (lenOf pd_0_1 rfl) rfl rfl (Nat.le_of_ble_eq_true rfl) (hb hby at_28) (Eq.refl T4.heap) (by decide) (by decide) ?_
    rintro _ T10 L10 X10 ⟨rfl, N10q, e10⟩
    have N_11 := Fr.app N_6 N10q
    show own_Go X10 (Q0 Z q0 q1 p2 p3 p4 h0 n0) 4 32 31 #[.val (.long q0), .second, .val (.long q1), .second, .val (.int p2), .val (.int p3), .val (.int p4), .val (.ref b1), .val (.ref b4), .val (.int (0 : Int32)), .unset, .unset, .unset, .unset, .unset, .unset, .unset, .unset] [(.int (own_from p2))]
    refine own_st (fun _ k => XS.istore X10.here hx rfl (hb hby at_31) rfl (l' := #[.val (.long q0), .second, .val (.long q1), .second, .val (.int p2), .val (.int p3), .val (.int p4), .val (.ref b1), .val (.ref b4), .val (.int (0 : Int32)), .val (.int (own_from p2)), .unset, .unset, .unset, .unset, .unset, .unset, .unset]) rfl k) ?_
    show own_Go X10 (Q0 Z q0 q1 p2 p3 p4 h0 n0) 4 32 33 #[.val (.long q0), .second, .val (.long q1), .second, .val (.int p2), .val (.int p3), .val (.int p4), .val (.ref b1), .val (.ref b4), .val (.int (0 : Int32)), .val (.int (own_from p2)), .unset, .unset, .unset, .unset, .unset, .unset, .unset] []
    refine own_st (fun _ k => XS.iload X10.here hx rfl (hb hby at_33) rfl k) ?_
    show own_Go X10 (Q0 Z q0 q1 p2 p3 p4 h0 n0) 4 32 35 #[.val (.long q0), .second, .val (.long q1), .second, .val (.int p2), .val (.int p3), .val (.int p4), .val (.ref b1), .val (.ref b4), .val (.int (0 : Int32)), .val (.int (own_from p2)), .unset, .unset, .unset, .unset, .unset, .unset, .unset] [(.int p2)]
    refine own_st (fun _ k => XS.iload X10.here hx rfl (hb hby at_35) rfl k) ?_
    show own_Go X10 (Q0 Z q0 q1 p2 p3 p4 h0 n0) 4 32 37 #[.val (.long q0), .second, .val (.long q1), .second, .val (.int p2), .val (.int p3), .val (.int p4), .val (.ref b1), .val (.ref b4), .val (.int (0 : Int32)), .val (.int (own_from p2)), .unset, .unset, .unset, .unset, .unset, .unset, .unset] [(.int (own_from p2)), (.int p2)]
    refine own_callS (W := 0) X10 hx hZ hown (hw _ (List.mem_of_getElem? (i := 9) rfl)) (hw _ (List.mem_of_getElem? (i := 10) rfl)) (hw _ (List.mem_of_getElem? (i := 2) rfl)) (hw _ (List.mem_of_getElem? (i := 11) rfl)) (by decide) (rm3 l Z a0 hw [] p2 (own_from p2)  T4.heap n0 Z_8 (own_fromB p2)) (by decide) (by decide) (by rw [hml]; rfl) [(.int p2), (.int (own_from p2))] [] (lenOf pd_0_2 rfl) rfl rfl (Nat.le_of_ble_eq_true rfl) (hb hby at_37) e10 (by decide) (by decide) ?_
    rintro _ T12 L12 X12 ⟨rfl, N12q, e12⟩
    have N_13 := Fr.app N_11 N12q
    show own_Go X12 (Q0 Z q0 q1 p2 p3 p4 h0 n0) 4 32 40 #[.val (.long q0), .second, .val (.long q1), .second, .val (.int p2), .val (.int p3), .val (.int p4), .val (.ref b1), .val (.ref b4), .val (.int (0 : Int32)), .val (.int (own_from p2)), .unset, .unset, .unset, .unset, .unset, .unset, .unset] [(.int (own_to p2 (own_from p2)))]
    refine own_st (fun _ k => XS.istore X12.here hx rfl (hb hby at_40) rfl (l' := #[.val (.long q0), .second, .val (.long q1), .second, .val (.int p2), .val (.int p3), .val (.int p4), .val (.ref b1), .val (.ref b4), .val (.int (0 : Int32)), .val (.int (own_from p2)), .val (.int (own_to p2 (own_from p2))), .unset, .unset, .unset, .unset, .unset, .unset]) rfl k) ?_
    show own_Go X12 (Q0 Z q0 q1 p2 p3 p4 h0 n0) 4 32 42 #[.val (.long q0), .second, .val (.long q1), .second, .val (.int p2), .val (.int p3), .val (.int p4), .val (.ref b1), .val (.ref b4), .val (.int (0 : Int32)), .val (.int (own_from p2)), .val (.int (own_to p2 (own_from p2))), .unset, .unset, .unset, .unset, .unset, .unset] []
    refine own_st (fun _ k => XS.iload X12.here hx rfl (hb hby at_42) rfl k) ?_
    show own_Go X12 (Q0 Z q0 q1 p2 p3 p4 h0 n0) 4 32 44 #[.val (.long q0), .second, .val (.long q1), .second, .val (.int p2), .val (.int p3), .val (.int p4), .val (.ref b1), .val (.ref b4), .val (.int (0 : Int32)), .val (.int (own_from p2)), .val (.int (own_to p2 (own_from p2))), .unset, .unset, .unset, .unset, .unset, .unset] [(.int p3)]
    refine own_callS (W := 0) X12 hx hZ hown (hw _ (List.mem_of_getElem? (i := 5) rfl)) (hw _ (List.mem_of_getElem? (i := 6) rfl)) (hw _ (List.mem_of_getElem? (i := 2) rfl)) (hw _ (List.mem_of_getElem? (i := 7) rfl)) (by decide) (rm2 l Z a0 hw [] p3  T4.heap n0 Z_8 ) (by decide) (by decide) (by rw [hml]; rfl) [(.int p3)] [] (lenOf pd_0_1 rfl) rfl rfl (Nat.le_of_ble_eq_true rfl) (hb hby at_44) e12 (by decide) (by decide) ?_
    rintro _ T14 L14 X14 ⟨rfl, N14q, e14⟩
    have N_15 := Fr.app N_13 N14q
    show own_Go X14 (Q0 Z q0 q1 p2 p3 p4 h0 n0) 4 32 47 #[.val (.long q0), .second, .val (.long q1), .second, .val (.int p2), .val (.int p3), .val (.int p4), .val (.ref b1), .val (.ref b4), .val (.int (0 : Int32)), .val (.int (own_from p2)), .val (.int (own_to p2 (own_from p2))), .unset, .unset, .unset, .unset, .unset, .unset] [(.int (own_from p3))]
    refine own_st (fun _ k => XS.istore X14.here hx rfl (hb hby at_47) rfl (l' := #[.val (.long q0), .second, .val (.long q1), .second, .val (.int p2), .val (.int p3), .val (.int p4), .val (.ref b1), .val (.ref b4), .val (.int (0 : Int32)), .val (.int (own_from p2)), .val (.int (own_to p2 (own_from p2))), .val (.int (own_from p3)), .unset, .unset, .unset, .unset, .unset]) rfl k) ?_
    show own_Go X14 (Q0 Z q0 q1 p2 p3 p4 h0 n0) 4 32 49 #[.val (.long q0), .second, .val (.long q1), .second, .val (.int p2), .val (.int p3), .val (.int p4), .val (.ref b1), .val (.ref b4), .val (.int (0 : Int32)), .val (.int (own_from p2)), .val (.int (own_to p2 (own_from p2))), .val (.int (own_from p3)), .unset, .unset, .unset, .unset, .unset] []
    refine own_st (fun _ k => XS.iload X14.here hx rfl (hb hby at_49) rfl k) ?_
    show own_Go X14 (Q0 Z q0 q1 p2 p3 p4 h0 n0) 4 32 51 #[.val (.long q0), .second, .val (.long q1), .second, .val (.int p2), .val (.int p3), .val (.int p4), .val (.ref b1), .val (.ref b4), .val (.int (0 : Int32)), .val (.int (own_from p2)), .val (.int (own_to p2 (own_from p2))), .val (.int (own_from p3)), .unset, .unset, .unset, .unset, .unset] [(.int p3)]
    refine own_st (fun _ k => XS.iload X14.here hx rfl (hb hby at_51) rfl k) ?_
    show own_Go X14 (Q0 Z q0 q1 p2 p3 p4 h0 n0) 4 32 53 #[.val (.long q0), .second, .val (.long q1), .second, .val (.int p2), .val (.int p3), .val (.int p4), .val (.ref b1), .val (.ref b4), .val (.int (0 : Int32)), .val (.int (own_from p2)), .val (.int (own_to p2 (own_from p2))), .val (.int (own_from p3)), .unset, .unset, .unset, .unset, .unset] [(.int (own_from p3)), (.int p3)]
    refine own_callS (W := 0) X14 hx hZ hown (hw _ (List.mem_of_getElem? (i := 9) rfl)) (hw _ (List.mem_of_getElem? (i := 10) rfl)) (hw _ (List.mem_of_getElem? (i := 2) rfl)) (hw _ (List.mem_of_getElem? (i := 11) rfl)) (by decide) (rm3 l Z a0 hw [] p3 (own_from p3)  T4.heap n0 Z_8 (own_fromB p3)) (by decide) (by decide) (by rw [hml]; rfl) [(.int p3), (.int (own_from p3))] [] (lenOf pd_0_2 rfl) rfl rfl (Nat.le_of_ble_eq_true rfl) (hb hby at_53) e14 (by decide) (by decide) ?_
    rintro _ T16 L16 X16 ⟨rfl, N16q, e16⟩
    have N_17 := Fr.app N_15 N16q
    show own_Go X16 (Q0 Z q0 q1 p2 p3 p4 h0 n0) 4 32 56 #[.val (.long q0), .second, .val (.long q1), .second, .val (.int p2), .val (.int p3), .val (.int p4), .val (.ref b1), .val (.ref b4), .val (.int (0 : Int32)), .val (.int (own_from p2)), .val (.int (own_to p2 (own_from p2))), .val (.int (own_from p3)), .unset, .unset, .unset, .unset, .unset] [(.int (own_to p3 (own_from p3)))]
    refine own_st (fun _ k => XS.istore X16.here hx rfl (hb hby at_56) rfl (l' := #[.val (.long q0), .second, .val (.long q1), .second, .val (.int p2), .val (.int p3), .val (.int p4), .val (.ref b1), .val (.ref b4), .val (.int (0 : Int32)), .val (.int (own_from p2)), .val (.int (own_to p2 (own_from p2))), .val (.int (own_from p3)), .val (.int (own_to p3 (own_from p3))), .unset, .unset, .unset, .unset]) rfl k) ?_
    show own_Go X16 (Q0 Z q0 q1 p2 p3 p4 h0 n0) 4 32 58 #[.val (.long q0), .second, .val (.long q1), .second, .val (.int p2), .val (.int p3), .val (.int p4), .val (.ref b1), .val (.ref b4), .val (.int (0 : Int32)), .val (.int (own_from p2)), .val (.int (own_to p2 (own_from p2))), .val (.int (own_from p3)), .val (.int (own_to p3 (own_from p3))), .unset, .unset, .unset, .unset] []
    refine own_st (fun _ k => XS.iload X16.here hx rfl (hb hby at_58) rfl k) ?_
    show own_Go X16 (Q0 Z q0 q1 p2 p3 p4 h0 n0) 4 32 60 #[.val (.long q0), .second, .val (.long q1), .second, .val (.int p2), .val (.int p3), .val (.int p4), .val (.ref b1), .val (.ref b4), .val (.int (0 : Int32)), .val (.int (own_from p2)), .val (.int (own_to p2 (own_from p2))), .val (.int (own_from p3)), .val (.int (own_to p3 (own_from p3))), .unset, .unset, .unset, .unset] [(.int (0 : Int32))]
    have c60_18 : (0 : Int32) = (0 : Int32) := (by decide)
    refine own_st (fun _ k => XS.ifYes X16.here hx rfl (pc0 := 60) (pc' := 68) rfl (hb hby at_60) rfl ((if0 _ _).trans (teq c60_18).1) (by decide) (by decide) k) ?_
    show own_Go X16 (Q0 Z q0 q1 p2 p3 p4 h0 n0) 4 32 68 #[.val (.long q0), .second, .val (.long q1), .second, .val (.int p2), .val (.int p3), .val (.int p4), .val (.ref b1), .val (.ref b4), .val (.int (0 : Int32)), .val (.int (own_from p2)), .val (.int (own_to p2 (own_from p2))), .val (.int (own_from p3)), .val (.int (own_to p3 (own_from p3))), .unset, .unset, .unset, .unset] []
    refine own_st (fun _ k => XS.aload X16.here hx rfl (hb hby at_68) rfl rfl k) ?_
    show own_Go X16 (Q0 Z q0 q1 p2 p3 p4 h0 n0) 4 32 70 #[.val (.long q0), .second, .val (.long q1), .second, .val (.int p2), .val (.int p3), .val (.int p4), .val (.ref b1), .val (.ref b4), .val (.int (0 : Int32)), .val (.int (own_from p2)), .val (.int (own_to p2 (own_from p2))), .val (.int (own_from p3)), .val (.int (own_to p3 (own_from p3))), .unset, .unset, .unset, .unset] [(.ref b4)]
    refine own_st (fun _ k => XS.astore X16.here hx rfl (hb hby at_70) rfl rfl (l' := #[.val (.long q0), .second, .val (.long q1), .second, .val (.int p2), .val (.int p3), .val (.int p4), .val (.ref b1), .val (.ref b4), .val (.int (0 : Int32)), .val (.int (own_from p2)), .val (.int (own_to p2 (own_from p2))), .val (.int (own_from p3)), .val (.int (own_to p3 (own_from p3))), .val (.ref b4), .unset, .unset, .unset]) rfl k) ?_
    show own_Go X16 (Q0 Z q0 q1 p2 p3 p4 h0 n0) 4 32 72 #[.val (.long q0), .second, .val (.long q1), .second, .val (.int p2), .val (.int p3), .val (.int p4), .val (.ref b1), .val (.ref b4), .val (.int (0 : Int32)), .val (.int (own_from p2)), .val (.int (own_to p2 (own_from p2))), .val (.int (own_from p3)), .val (.int (own_to p3 (own_from p3))), .val (.ref b4), .unset, .unset, .unset] []
    obtain ⟨T19, h19, X19, e19, E19, A19, D19, -, st19⟩ := newO X16 hx hZ hown (hw _ (List.mem_of_getElem? (i := 12) rfl)) (hw _ (List.mem_of_getElem? (i := 13) rfl)) (hw _ (List.mem_of_getElem? (i := 14) rfl)) e16 (g := (mkF m 72 #[.val (.long q0), .second, .val (.long q1), .second, .val (.int p2), .val (.int p3), .val (.int p4), .val (.ref b1), .val (.ref b4), .val (.int (0 : Int32)), .val (.int (own_from p2)), .val (.int (own_to p2 (own_from p2))), .val (.int (own_from p3)), .val (.int (own_to p3 (own_from p3))), .val (.ref b4), .unset, .unset, .unset] [])) rfl (hb hby at_72) (by decide) (by decide)
    obtain ⟨b19, g19⟩ : ∃ z, z = T4.heap.size := ⟨_, rfl⟩
    rw [← g19] at A19 D19 st19
    refine own_st st19 ?_
    have ne_20 := Nat.ne_of_lt (Nat.lt_of_lt_of_le f_7.lt (Nat.le_of_eq g19.symm))
    have ne_21 := Nat.ne_of_lt (Nat.lt_of_lt_of_le V4q.lt (Nat.le_of_eq g19.symm))
    have G_22 := Nat.le_trans Z_8 (Nat.le_of_eq g19.symm)
    have f_23 := f_7.ext E19
    have f_24 := V4q.ext E19
    have Z_25 := Nat.le_trans Z_8 E19.1
    have F_characters_19 : Fld Z h19 b19 "com/example/stopbit/stopbit/Text" "characters" "[B" .null := D19 (Or.inl (hw _ (List.mem_of_getElem? (i := 22) rfl))) (ty := (.array .byte)) (by decide)
    have F_start_19 : Fld Z h19 b19 "com/example/stopbit/stopbit/Text" "start" "I" (.int (0 : Int32)) := D19 (Or.inl (hw _ (List.mem_of_getElem? (i := 29) rfl))) (ty := .int) (by decide)
    have F_length_19 : Fld Z h19 b19 "com/example/stopbit/stopbit/Text" "length" "I" (.int (0 : Int32)) := D19 (Or.inl (hw _ (List.mem_of_getElem? (i := 31) rfl))) (ty := .int) (by decide)
    have F_decoded_19 : Fld Z h19 b19 "com/example/stopbit/stopbit/Text" "decoded" "[C" .null := D19 (Or.inl (hw _ (List.mem_of_getElem? (i := 54) rfl))) (ty := (.array .char)) (by decide)
    show own_Go X19 (Q0 Z q0 q1 p2 p3 p4 h0 n0) 4 32 75 #[.val (.long q0), .second, .val (.long q1), .second, .val (.int p2), .val (.int p3), .val (.int p4), .val (.ref b1), .val (.ref b4), .val (.int (0 : Int32)), .val (.int (own_from p2)), .val (.int (own_to p2 (own_from p2))), .val (.int (own_from p3)), .val (.int (own_to p3 (own_from p3))), .val (.ref b4), .unset, .unset, .unset] [(.ref b19)]
    refine own_st (fun _ k => XS.dup X19.here hx rfl (hb hby at_75) rfl rfl k) ?_
    show own_Go X19 (Q0 Z q0 q1 p2 p3 p4 h0 n0) 4 32 76 #[.val (.long q0), .second, .val (.long q1), .second, .val (.int p2), .val (.int p3), .val (.int p4), .val (.ref b1), .val (.ref b4), .val (.int (0 : Int32)), .val (.int (own_from p2)), .val (.int (own_to p2 (own_from p2))), .val (.int (own_from p3)), .val (.int (own_to p3 (own_from p3))), .val (.ref b4), .unset, .unset, .unset] [(.ref b19), (.ref b19)]
    refine own_callI (W := 1) X19 hx hZ hown (hw _ (List.mem_of_getElem? (i := 15) rfl)) (hw _ (List.mem_of_getElem? (i := 16) rfl)) (hw _ (List.mem_of_getElem? (i := 14) rfl)) (hw _ (List.mem_of_getElem? (i := 17) rfl)) rfl (by decide) (rm4 l Z a0 hw [] b19 h19 n0 Z_25 A19 G_22 F_length_19 F_decoded_19 F_characters_19 F_start_19) (by decide) (by decide) (by rw [hml]; rfl) b19 [] [(.ref b19)] (lenOf pd_0_3 rfl) rfl rfl (Nat.le_of_ble_eq_true rfl) (hb hby at_76) e19 (by decide) (by decide) ?_
    rintro _ T26 L26 X26 ⟨b26, rfl, N26q, K26q, G26q, S26q, F26_length, F26_decoded, F26_characters, F26_start⟩
    have ne_27 := Nat.ne_of_lt (Nat.lt_of_lt_of_le f_23.lt S26q)
    have ne_28 := Nat.ne_of_lt (Nat.lt_of_lt_of_le f_24.lt S26q)
    have ne_29 := Nat.ne_of_lt (Nat.lt_of_lt_of_le A19.lt S26q)
    have N_30 := Fr.app N_17 N26q
    have f_31 := f_23.keep K26q (ninS ne_20 nin0)
    have f_32 := f_24.keep K26q (ninS ne_21 nin0)
    have f_33 := A19.keep K26q
    have Z_34 := Nat.le_trans Z_25 K26q.1
    show own_Go X26 (Q0 Z q0 q1 p2 p3 p4 h0 n0) 4 32 79 #[.val (.long q0), .second, .val (.long q1), .second, .val (.int p2), .val (.int p3), .val (.int p4), .val (.ref b1), .val (.ref b4), .val (.int (0 : Int32)), .val (.int (own_from p2)), .val (.int (own_to p2 (own_from p2))), .val (.int (own_from p3)), .val (.int (own_to p3 (own_from p3))), .val (.ref b4), .unset, .unset, .unset] [(.ref b19)]
    refine own_st (fun _ k => XS.astore X26.here hx rfl (hb hby at_79) rfl rfl (l' := #[.val (.long q0), .second, .val (.long q1), .second, .val (.int p2), .val (.int p3), .val (.int p4), .val (.ref b1), .val (.ref b4), .val (.int (0 : Int32)), .val (.int (own_from p2)), .val (.int (own_to p2 (own_from p2))), .val (.int (own_from p3)), .val (.int (own_to p3 (own_from p3))), .val (.ref b4), .val (.ref b19), .unset, .unset]) rfl k) ?_
    show own_Go X26 (Q0 Z q0 q1 p2 p3 p4 h0 n0) 4 32 81 #[.val (.long q0), .second, .val (.long q1), .second, .val (.int p2), .val (.int p3), .val (.int p4), .val (.ref b1), .val (.ref b4), .val (.int (0 : Int32)), .val (.int (own_from p2)), .val (.int (own_to p2 (own_from p2))), .val (.int (own_from p3)), .val (.int (own_to p3 (own_from p3))), .val (.ref b4), .val (.ref b19), .unset, .unset] []
    refine own_st (fun _ k => XS.aload X26.here hx rfl (hb hby at_81) rfl rfl k) ?_
    show own_Go X26 (Q0 Z q0 q1 p2 p3 p4 h0 n0) 4 32 83 #[.val (.long q0), .second, .val (.long q1), .second, .val (.int p2), .val (.int p3), .val (.int p4), .val (.ref b1), .val (.ref b4), .val (.int (0 : Int32)), .val (.int (own_from p2)), .val (.int (own_to p2 (own_from p2))), .val (.int (own_from p3)), .val (.int (own_to p3 (own_from p3))), .val (.ref b4), .val (.ref b19), .unset, .unset] [(.ref b19)]
    refine own_st (fun _ k => XS.aload X26.here hx rfl (hb hby at_83) rfl rfl k) ?_
    show own_Go X26 (Q0 Z q0 q1 p2 p3 p4 h0 n0) 4 32 85 #[.val (.long q0), .second, .val (.long q1), .second, .val (.int p2), .val (.int p3), .val (.int p4), .val (.ref b1), .val (.ref b4), .val (.int (0 : Int32)), .val (.int (own_from p2)), .val (.int (own_to p2 (own_from p2))), .val (.int (own_from p3)), .val (.int (own_to p3 (own_from p3))), .val (.ref b4), .val (.ref b19), .unset, .unset] [(.ref b1), (.ref b19)]
    refine own_st (fun _ k => XS.iload X26.here hx rfl (hb hby at_85) rfl k) ?_
    show own_Go X26 (Q0 Z q0 q1 p2 p3 p4 h0 n0) 4 32 87 #[.val (.long q0), .second, .val (.long q1), .second, .val (.int p2), .val (.int p3), .val (.int p4), .val (.ref b1), .val (.ref b4), .val (.int (0 : Int32)), .val (.int (own_from p2)), .val (.int (own_to p2 (own_from p2))), .val (.int (own_from p3)), .val (.int (own_to p3 (own_from p3))), .val (.ref b4), .val (.ref b19), .unset, .unset] [(.int (own_from p2)), (.ref b1), (.ref b19)]
    refine own_st (fun _ k => XS.iload X26.here hx rfl (hb hby at_87) rfl k) ?_
    show own_Go X26 (Q0 Z q0 q1 p2 p3 p4 h0 n0) 4 32 89 #[.val (.long q0), .second, .val (.long q1), .second, .val (.int p2), .val (.int p3), .val (.int p4), .val (.ref b1), .val (.ref b4), .val (.int (0 : Int32)), .val (.int (own_from p2)), .val (.int (own_to p2 (own_from p2))), .val (.int (own_from p3)), .val (.int (own_to p3 (own_from p3))), .val (.ref b4), .val (.ref b19), .unset, .unset] [(.int (own_to p2 (own_from p2))), (.int (own_from p2)), (.ref b1), (.ref b19)]
    refine own_callV (W := 0) X26 hx hZ hown (hw _ (List.mem_of_getElem? (i := 23) rfl)) (hw _ (List.mem_of_getElem? (i := 24) rfl)) (hw _ (List.mem_of_getElem? (i := 26) rfl)) (hw _ (List.mem_of_getElem? (i := 25) rfl)) (hw _ (List.mem_of_getElem? (i := 14) rfl)) (hw _ (List.mem_of_getElem? (i := 27) rfl)) (by decide) (rm6 l Z a0 hw [] b19 b1 (own_from p2) (own_to p2 (own_from p2)) (0 : Int32) (0 : Int32) b26 T26.heap n0 Z_34 f_33 G_22 F26_length F26_decoded F26_characters F26_start (Ne.symm ne_27)) (by decide) (by decide) (by rw [hml]; rfl) b19 [(.ref b1), (.int (own_from p2)), (.int (own_to p2 (own_from p2)))] [] (lenOf pd_0_4 rfl) rfl rfl (Nat.le_of_ble_eq_true rfl) (hb hby at_89) (Eq.refl T26.heap) f_33 (by decide) (by decide) ?_
    rintro _ T35 L35 X35 ⟨rfl, N35q, K35q, F35_length, F35_decoded, F35_characters, F35_start⟩
    have N_36 := Fr.app N_30 N35q
    have f_37 := f_31.keep K35q (ninS ne_20 nin0)
    have f_38 := f_32.keep K35q (ninS ne_21 nin0)
    have f_39 := f_33.keep K35q
    have Z_40 := Nat.le_trans Z_34 K35q.1
    show own_Go X35 (Q0 Z q0 q1 p2 p3 p4 h0 n0) 4 32 92 #[.val (.long q0), .second, .val (.long q1), .second, .val (.int p2), .val (.int p3), .val (.int p4), .val (.ref b1), .val (.ref b4), .val (.int (0 : Int32)), .val (.int (own_from p2)), .val (.int (own_to p2 (own_from p2))), .val (.int (own_from p3)), .val (.int (own_to p3 (own_from p3))), .val (.ref b4), .val (.ref b19), .unset, .unset] []
    refine own_st (fun _ k => XS.aload X35.here hx rfl (hb hby at_92) rfl rfl k) ?_
    show own_Go X35 (Q0 Z q0 q1 p2 p3 p4 h0 n0) 4 32 94 #[.val (.long q0), .second, .val (.long q1), .second, .val (.int p2), .val (.int p3), .val (.int p4), .val (.ref b1), .val (.ref b4), .val (.int (0 : Int32)), .val (.int (own_from p2)), .val (.int (own_to p2 (own_from p2))), .val (.int (own_from p3)), .val (.int (own_to p3 (own_from p3))), .val (.ref b4), .val (.ref b19), .unset, .unset] [(.ref b19)]
    refine own_st (fun _ k => XS.aload X35.here hx rfl (hb hby at_94) rfl rfl k) ?_
    show own_Go X35 (Q0 Z q0 q1 p2 p3 p4 h0 n0) 4 32 96 #[.val (.long q0), .second, .val (.long q1), .second, .val (.int p2), .val (.int p3), .val (.int p4), .val (.ref b1), .val (.ref b4), .val (.int (0 : Int32)), .val (.int (own_from p2)), .val (.int (own_to p2 (own_from p2))), .val (.int (own_from p3)), .val (.int (own_to p3 (own_from p3))), .val (.ref b4), .val (.ref b19), .unset, .unset] [(.ref b1), (.ref b19)]
    refine own_st (fun _ k => XS.iload X35.here hx rfl (hb hby at_96) rfl k) ?_
    show own_Go X35 (Q0 Z q0 q1 p2 p3 p4 h0 n0) 4 32 98 #[.val (.long q0), .second, .val (.long q1), .second, .val (.int p2), .val (.int p3), .val (.int p4), .val (.ref b1), .val (.ref b4), .val (.int (0 : Int32)), .val (.int (own_from p2)), .val (.int (own_to p2 (own_from p2))), .val (.int (own_from p3)), .val (.int (own_to p3 (own_from p3))), .val (.ref b4), .val (.ref b19), .unset, .unset] [(.int (own_from p2)), (.ref b1), (.ref b19)]
    refine own_st (fun _ k => XS.iload X35.here hx rfl (hb hby at_98) rfl k) ?_
    show own_Go X35 (Q0 Z q0 q1 p2 p3 p4 h0 n0) 4 32 100 #[.val (.long q0), .second, .val (.long q1), .second, .val (.int p2), .val (.int p3), .val (.int p4), .val (.ref b1), .val (.ref b4), .val (.int (0 : Int32)), .val (.int (own_from p2)), .val (.int (own_to p2 (own_from p2))), .val (.int (own_from p3)), .val (.int (own_to p3 (own_from p3))), .val (.ref b4), .val (.ref b19), .unset, .unset] [(.int (own_to p2 (own_from p2))), (.int (own_from p2)), (.ref b1), (.ref b19)]
    refine own_st (fun _ k => XS.iload X35.here hx rfl (hb hby at_100) rfl k) ?_
    show own_Go X35 (Q0 Z q0 q1 p2 p3 p4 h0 n0) 4 32 102 #[.val (.long q0), .second, .val (.long q1), .second, .val (.int p2), .val (.int p3), .val (.int p4), .val (.ref b1), .val (.ref b4), .val (.int (0 : Int32)), .val (.int (own_from p2)), .val (.int (own_to p2 (own_from p2))), .val (.int (own_from p3)), .val (.int (own_to p3 (own_from p3))), .val (.ref b4), .val (.ref b19), .unset, .unset] [(.int p4), (.int (own_to p2 (own_from p2))), (.int (own_from p2)), (.ref b1), (.ref b19)]
    refine own_st (fun _ k => XS.iconst X35.here hx rfl (hb hby at_102) k) ?_
    show own_Go X35 (Q0 Z q0 q1 p2 p3 p4 h0 n0) 4 32 103 #[.val (.long q0), .second, .val (.long q1), .second, .val (.int p2), .val (.int p3), .val (.int p4), .val (.ref b1), .val (.ref b4), .val (.int (0 : Int32)), .val (.int (own_from p2)), .val (.int (own_to p2 (own_from p2))), .val (.int (own_from p3)), .val (.int (own_to p3 (own_from p3))), .val (.ref b4), .val (.ref b19), .unset, .unset] [(.int (1 : Int32)), (.int p4), (.int (own_to p2 (own_from p2))), (.int (own_from p2)), (.ref b1), (.ref b19)]
    refine own_st (fun _ k => XS.iushr X35.here hx rfl (hb hby at_103) rfl k) ?_
    show own_Go X35 (Q0 Z q0 q1 p2 p3 p4 h0 n0) 4 32 104 #[.val (.long q0), .second, .val (.long q1), .second, .val (.int p2), .val (.int p3), .val (.int p4), .val (.ref b1), .val (.ref b4), .val (.int (0 : Int32)), .val (.int (own_from p2)), .val (.int (own_to p2 (own_from p2))), .val (.int (own_from p3)), .val (.int (own_to p3 (own_from p3))), .val (.ref b4), .val (.ref b19), .unset, .unset] [(.int ((p4.toUInt32 >>> ((1 : Int32) &&& 31).toUInt32).toInt32)), (.int (own_to p2 (own_from p2))), (.int (own_from p2)), (.ref b1), (.ref b19)]
    refine own_callS (W := 0) X35 hx hZ hown (hw _ (List.mem_of_getElem? (i := 32) rfl)) (hw _ (List.mem_of_getElem? (i := 33) rfl)) (hw _ (List.mem_of_getElem? (i := 2) rfl)) (hw _ (List.mem_of_getElem? (i := 34) rfl)) (by decide) (rm7 l Z a0 hw [] b19 b1 (own_from p2) (own_to p2 (own_from p2)) ((p4.toUInt32 >>> ((1 : Int32) &&& 31).toUInt32).toInt32) k1 (own_y0 q0) (own_ys (8 : Int32) q0) (own_ys (16 : Int32) q0) (own_ys (24 : Int32) q0) (own_ys (32 : Int32) q0) (own_ys (40 : Int32) q0) T35.heap n0 Z_40 f_39 F35_length F35_decoded F35_characters F35_start f_37 (own_toB (own_fromB p2))) (by decide) (by decide) (by rw [hml]; rfl) [(.ref b19), (.ref b1), (.int (own_from p2)), (.int (own_to p2 (own_from p2))), (.int ((p4.toUInt32 >>> ((1 : Int32) &&& 31).toUInt32).toInt32))] [] (lenOf pd_0_5 rfl) rfl rfl (Nat.le_of_ble_eq_true rfl) (hb hby at_104) (Eq.refl T35.heap) (by decide) (by decide) ?_
    rintro _ T41 L41 X41 ⟨rfl, N41q, e41⟩
    have N_42 := Fr.app N_36 N41q
    show own_Go X41 (Q0 Z q0 q1 p2 p3 p4 h0 n0) 4 32 107 #[.val (.long q0), .second, .val (.long q1), .second, .val (.int p2), .val (.int p3), .val (.int p4), .val (.ref b1), .val (.ref b4), .val (.int (0 : Int32)), .val (.int (own_from p2)), .val (.int (own_to p2 (own_from p2))), .val (.int (own_from p3)), .val (.int (own_to p3 (own_from p3))), .val (.ref b4), .val (.ref b19), .unset, .unset] [(.int (1 : Int32))]
    refine own_st (fun _ k => XS.istore X41.here hx rfl (hb hby at_107) rfl (l' := #[.val (.long q0), .second, .val (.long q1), .second, .val (.int p2), .val (.int p3), .val (.int p4), .val (.ref b1), .val (.ref b4), .val (.int (0 : Int32)), .val (.int (own_from p2)), .val (.int (own_to p2 (own_from p2))), .val (.int (own_from p3)), .val (.int (own_to p3 (own_from p3))), .val (.ref b4), .val (.ref b19), .val (.int (1 : Int32)), .unset]) rfl k) ?_
    show own_Go X41 (Q0 Z q0 q1 p2 p3 p4 h0 n0) 4 32 109 #[.val (.long q0), .second, .val (.long q1), .second, .val (.int p2), .val (.int p3), .val (.int p4), .val (.ref b1), .val (.ref b4), .val (.int (0 : Int32)), .val (.int (own_from p2)), .val (.int (own_to p2 (own_from p2))), .val (.int (own_from p3)), .val (.int (own_to p3 (own_from p3))), .val (.ref b4), .val (.ref b19), .val (.int (1 : Int32)), .unset] []
    refine own_st (fun _ k => XS.aload X41.here hx rfl (hb hby at_109) rfl rfl k) ?_
    show own_Go X41 (Q0 Z q0 q1 p2 p3 p4 h0 n0) 4 32 111 #[.val (.long q0), .second, .val (.long q1), .second, .val (.int p2), .val (.int p3), .val (.int p4), .val (.ref b1), .val (.ref b4), .val (.int (0 : Int32)), .val (.int (own_from p2)), .val (.int (own_to p2 (own_from p2))), .val (.int (own_from p3)), .val (.int (own_to p3 (own_from p3))), .val (.ref b4), .val (.ref b19), .val (.int (1 : Int32)), .unset] [(.ref b19)]
    refine own_st (fun _ k => XS.aload X41.here hx rfl (hb hby at_111) rfl rfl k) ?_
    show own_Go X41 (Q0 Z q0 q1 p2 p3 p4 h0 n0) 4 32 113 #[.val (.long q0), .second, .val (.long q1), .second, .val (.int p2), .val (.int p3), .val (.int p4), .val (.ref b1), .val (.ref b4), .val (.int (0 : Int32)), .val (.int (own_from p2)), .val (.int (own_to p2 (own_from p2))), .val (.int (own_from p3)), .val (.int (own_to p3 (own_from p3))), .val (.ref b4), .val (.ref b19), .val (.int (1 : Int32)), .unset] [(.ref b4), (.ref b19)]
    refine own_st (fun _ k => XS.iload X41.here hx rfl (hb hby at_113) rfl k) ?_
    show own_Go X41 (Q0 Z q0 q1 p2 p3 p4 h0 n0) 4 32 115 #[.val (.long q0), .second, .val (.long q1), .second, .val (.int p2), .val (.int p3), .val (.int p4), .val (.ref b1), .val (.ref b4), .val (.int (0 : Int32)), .val (.int (own_from p2)), .val (.int (own_to p2 (own_from p2))), .val (.int (own_from p3)), .val (.int (own_to p3 (own_from p3))), .val (.ref b4), .val (.ref b19), .val (.int (1 : Int32)), .unset] [(.int (own_from p3)), (.ref b4), (.ref b19)]
    refine own_st (fun _ k => XS.iload X41.here hx rfl (hb hby at_115) rfl k) ?_
    show own_Go X41 (Q0 Z q0 q1 p2 p3 p4 h0 n0) 4 32 117 #[.val (.long q0), .second, .val (.long q1), .second, .val (.int p2), .val (.int p3), .val (.int p4), .val (.ref b1), .val (.ref b4), .val (.int (0 : Int32)), .val (.int (own_from p2)), .val (.int (own_to p2 (own_from p2))), .val (.int (own_from p3)), .val (.int (own_to p3 (own_from p3))), .val (.ref b4), .val (.ref b19), .val (.int (1 : Int32)), .unset] [(.int (own_to p3 (own_from p3))), (.int (own_from p3)), (.ref b4), (.ref b19)]
    refine own_callV (W := 0) X41 hx hZ hown (hw _ (List.mem_of_getElem? (i := 23) rfl)) (hw _ (List.mem_of_getElem? (i := 24) rfl)) (hw _ (List.mem_of_getElem? (i := 26) rfl)) (hw _ (List.mem_of_getElem? (i := 25) rfl)) (hw _ (List.mem_of_getElem? (i := 14) rfl)) (hw _ (List.mem_of_getElem? (i := 27) rfl)) (by decide) (rm6 l Z a0 hw [] b19 b4 (own_from p3) (own_to p3 (own_from p3)) ((own_to p2 (own_from p2)) - (own_from p2)) (own_from p2) b1 T35.heap n0 Z_40 f_39 G_22 F35_length F35_decoded F35_characters F35_start ne_5) (by decide) (by decide) (by rw [hml]; rfl) b19 [(.ref b4), (.int (own_from p3)), (.int (own_to p3 (own_from p3)))] [] (lenOf pd_0_4 rfl) rfl rfl (Nat.le_of_ble_eq_true rfl) (hb hby at_117) e41 f_39 (by decide) (by decide) ?_
    rintro _ T43 L43 X43 ⟨rfl, N43q, K43q, F43_length, F43_decoded, F43_characters, F43_start⟩
    have N_44 := Fr.app N_42 N43q
    have f_45 := f_37.keep K43q (ninS ne_20 nin0)
    have f_46 := f_38.keep K43q (ninS ne_21 nin0)
    have f_47 := f_39.keep K43q
    have Z_48 := Nat.le_trans Z_40 K43q.1
    show own_Go X43 (Q0 Z q0 q1 p2 p3 p4 h0 n0) 4 32 120 #[.val (.long q0), .second, .val (.long q1), .second, .val (.int p2), .val (.int p3), .val (.int p4), .val (.ref b1), .val (.ref b4), .val (.int (0 : Int32)), .val (.int (own_from p2)), .val (.int (own_to p2 (own_from p2))), .val (.int (own_from p3)), .val (.int (own_to p3 (own_from p3))), .val (.ref b4), .val (.ref b19), .val (.int (1 : Int32)), .unset] []
    refine own_st (fun _ k => XS.aload X43.here hx rfl (hb hby at_120) rfl rfl k) ?_
    show own_Go X43 (Q0 Z q0 q1 p2 p3 p4 h0 n0) 4 32 122 #[.val (.long q0), .second, .val (.long q1), .second, .val (.int p2), .val (.int p3), .val (.int p4), .val (.ref b1), .val (.ref b4), .val (.int (0 : Int32)), .val (.int (own_from p2)), .val (.int (own_to p2 (own_from p2))), .val (.int (own_from p3)), .val (.int (own_to p3 (own_from p3))), .val (.ref b4), .val (.ref b19), .val (.int (1 : Int32)), .unset] [(.ref b19)]
    refine own_st (fun _ k => XS.aload X43.here hx rfl (hb hby at_122) rfl rfl k) ?_
    show own_Go X43 (Q0 Z q0 q1 p2 p3 p4 h0 n0) 4 32 124 #[.val (.long q0), .second, .val (.long q1), .second, .val (.int p2), .val (.int p3), .val (.int p4), .val (.ref b1), .val (.ref b4), .val (.int (0 : Int32)), .val (.int (own_from p2)), .val (.int (own_to p2 (own_from p2))), .val (.int (own_from p3)), .val (.int (own_to p3 (own_from p3))), .val (.ref b4), .val (.ref b19), .val (.int (1 : Int32)), .unset] [(.ref b4), (.ref b19)]
    refine own_st (fun _ k => XS.iload X43.here hx rfl (hb hby at_124) rfl k) ?_
    show own_Go X43 (Q0 Z q0 q1 p2 p3 p4 h0 n0) 4 32 126 #[.val (.long q0), .second, .val (.long q1), .second, .val (.int p2), .val (.int p3), .val (.int p4), .val (.ref b1), .val (.ref b4), .val (.int (0 : Int32)), .val (.int (own_from p2)), .val (.int (own_to p2 (own_from p2))), .val (.int (own_from p3)), .val (.int (own_to p3 (own_from p3))), .val (.ref b4), .val (.ref b19), .val (.int (1 : Int32)), .unset] [(.int (own_from p3)), (.ref b4), (.ref b19)]
    refine own_st (fun _ k => XS.iload X43.here hx rfl (hb hby at_126) rfl k) ?_
    show own_Go X43 (Q0 Z q0 q1 p2 p3 p4 h0 n0) 4 32 128 #[.val (.long q0), .second, .val (.long q1), .second, .val (.int p2), .val (.int p3), .val (.int p4), .val (.ref b1), .val (.ref b4), .val (.int (0 : Int32)), .val (.int (own_from p2)), .val (.int (own_to p2 (own_from p2))), .val (.int (own_from p3)), .val (.int (own_to p3 (own_from p3))), .val (.ref b4), .val (.ref b19), .val (.int (1 : Int32)), .unset] [(.int (own_to p3 (own_from p3))), (.int (own_from p3)), (.ref b4), (.ref b19)]
    refine own_st (fun _ k => XS.iload X43.here hx rfl (hb hby at_128) rfl k) ?_
    show own_Go X43 (Q0 Z q0 q1 p2 p3 p4 h0 n0) 4 32 130 #[.val (.long q0), .second, .val (.long q1), .second, .val (.int p2), .val (.int p3), .val (.int p4), .val (.ref b1), .val (.ref b4), .val (.int (0 : Int32)), .val (.int (own_from p2)), .val (.int (own_to p2 (own_from p2))), .val (.int (own_from p3)), .val (.int (own_to p3 (own_from p3))), .val (.ref b4), .val (.ref b19), .val (.int (1 : Int32)), .unset] [(.int p4), (.int (own_to p3 (own_from p3))), (.int (own_from p3)), (.ref b4), (.ref b19)]
    refine own_st (fun _ k => XS.bipush X43.here hx rfl (hb hby at_130) k) ?_
    show own_Go X43 (Q0 Z q0 q1 p2 p3 p4 h0 n0) 4 32 132 #[.val (.long q0), .second, .val (.long q1), .second, .val (.int p2), .val (.int p3), .val (.int p4), .val (.ref b1), .val (.ref b4), .val (.int (0 : Int32)), .val (.int (own_from p2)), .val (.int (own_to p2 (own_from p2))), .val (.int (own_from p3)), .val (.int (own_to p3 (own_from p3))), .val (.ref b4), .val (.ref b19), .val (.int (1 : Int32)), .unset] [(.int (16 : Int32)), (.int p4), (.int (own_to p3 (own_from p3))), (.int (own_from p3)), (.ref b4), (.ref b19)]
    refine own_st (fun _ k => XS.iushr X43.here hx rfl (hb hby at_132) rfl k) ?_
    show own_Go X43 (Q0 Z q0 q1 p2 p3 p4 h0 n0) 4 32 133 #[.val (.long q0), .second, .val (.long q1), .second, .val (.int p2), .val (.int p3), .val (.int p4), .val (.ref b1), .val (.ref b4), .val (.int (0 : Int32)), .val (.int (own_from p2)), .val (.int (own_to p2 (own_from p2))), .val (.int (own_from p3)), .val (.int (own_to p3 (own_from p3))), .val (.ref b4), .val (.ref b19), .val (.int (1 : Int32)), .unset] [(.int ((p4.toUInt32 >>> ((16 : Int32) &&& 31).toUInt32).toInt32)), (.int (own_to p3 (own_from p3))), (.int (own_from p3)), (.ref b4), (.ref b19)]
    refine own_callS (W := 0) X43 hx hZ hown (hw _ (List.mem_of_getElem? (i := 32) rfl)) (hw _ (List.mem_of_getElem? (i := 33) rfl)) (hw _ (List.mem_of_getElem? (i := 2) rfl)) (hw _ (List.mem_of_getElem? (i := 34) rfl)) (by decide) (rm7 l Z a0 hw [] b19 b4 (own_from p3) (own_to p3 (own_from p3)) ((p4.toUInt32 >>> ((16 : Int32) &&& 31).toUInt32).toInt32) k4 (own_y0 q1) (own_ys (8 : Int32) q1) (own_ys (16 : Int32) q1) (own_ys (24 : Int32) q1) (own_ys (32 : Int32) q1) (own_ys (40 : Int32) q1) T43.heap n0 Z_48 f_47 F43_length F43_decoded F43_characters F43_start f_46 (own_toB (own_fromB p3))) (by decide) (by decide) (by rw [hml]; rfl) [(.ref b19), (.ref b4), (.int (own_from p3)), (.int (own_to p3 (own_from p3))), (.int ((p4.toUInt32 >>> ((16 : Int32) &&& 31).toUInt32).toInt32))] [] (lenOf pd_0_5 rfl) rfl rfl (Nat.le_of_ble_eq_true rfl) (hb hby at_133) (Eq.refl T43.heap) (by decide) (by decide) ?_
    rintro _ T49 L49 X49 ⟨rfl, N49q, e49⟩
    have N_50 := Fr.app N_44 N49q
    show own_Go X49 (Q0 Z q0 q1 p2 p3 p4 h0 n0) 4 32 136 #[.val (.long q0), .second, .val (.long q1), .second, .val (.int p2), .val (.int p3), .val (.int p4), .val (.ref b1), .val (.ref b4), .val (.int (0 : Int32)), .val (.int (own_from p2)), .val (.int (own_to p2 (own_from p2))), .val (.int (own_from p3)), .val (.int (own_to p3 (own_from p3))), .val (.ref b4), .val (.ref b19), .val (.int (1 : Int32)), .unset] [(.int (1 : Int32))]
    refine own_st (fun _ k => XS.istore X49.here hx rfl (hb hby at_136) rfl (l' := #[.val (.long q0), .second, .val (.long q1), .second, .val (.int p2), .val (.int p3), .val (.int p4), .val (.ref b1), .val (.ref b4), .val (.int (0 : Int32)), .val (.int (own_from p2)), .val (.int (own_to p2 (own_from p2))), .val (.int (own_from p3)), .val (.int (own_to p3 (own_from p3))), .val (.ref b4), .val (.ref b19), .val (.int (1 : Int32)), .val (.int (1 : Int32))]) rfl k) ?_
    show own_Go X49 (Q0 Z q0 q1 p2 p3 p4 h0 n0) 4 32 138 #[.val (.long q0), .second, .val (.long q1), .second, .val (.int p2), .val (.int p3), .val (.int p4), .val (.ref b1), .val (.ref b4), .val (.int (0 : Int32)), .val (.int (own_from p2)), .val (.int (own_to p2 (own_from p2))), .val (.int (own_from p3)), .val (.int (own_to p3 (own_from p3))), .val (.ref b4), .val (.ref b19), .val (.int (1 : Int32)), .val (.int (1 : Int32))] []
    refine own_st (fun _ k => XS.iload X49.here hx rfl (hb hby at_138) rfl k) ?_
    show own_Go X49 (Q0 Z q0 q1 p2 p3 p4 h0 n0) 4 32 140 #[.val (.long q0), .second, .val (.long q1), .second, .val (.int p2), .val (.int p3), .val (.int p4), .val (.ref b1), .val (.ref b4), .val (.int (0 : Int32)), .val (.int (own_from p2)), .val (.int (own_to p2 (own_from p2))), .val (.int (own_from p3)), .val (.int (own_to p3 (own_from p3))), .val (.ref b4), .val (.ref b19), .val (.int (1 : Int32)), .val (.int (1 : Int32))] [(.int (1 : Int32))]
    have c140_51 : ¬ ((1 : Int32) = (0 : Int32)) := (by decide)
    refine own_st (fun _ k => XS.ifNo X49.here hx rfl (hb hby at_140) rfl ((if0 _ _).trans (feq c140_51).1) k) ?_
    show own_Go X49 (Q0 Z q0 q1 p2 p3 p4 h0 n0) 4 32 143 #[.val (.long q0), .second, .val (.long q1), .second, .val (.int p2), .val (.int p3), .val (.int p4), .val (.ref b1), .val (.ref b4), .val (.int (0 : Int32)), .val (.int (own_from p2)), .val (.int (own_to p2 (own_from p2))), .val (.int (own_from p3)), .val (.int (own_to p3 (own_from p3))), .val (.ref b4), .val (.ref b19), .val (.int (1 : Int32)), .val (.int (1 : Int32))] []
    refine own_st (fun _ k => XS.iload X49.here hx rfl (hb hby at_143) rfl k) ?_
    show own_Go X49 (Q0 Z q0 q1 p2 p3 p4 h0 n0) 4 32 145 #[.val (.long q0), .second, .val (.long q1), .second, .val (.int p2), .val (.int p3), .val (.int p4), .val (.ref b1), .val (.ref b4), .val (.int (0 : Int32)), .val (.int (own_from p2)), .val (.int (own_to p2 (own_from p2))), .val (.int (own_from p3)), .val (.int (own_to p3 (own_from p3))), .val (.ref b4), .val (.ref b19), .val (.int (1 : Int32)), .val (.int (1 : Int32))] [(.int (1 : Int32))]
    have c145_52 : ¬ ((1 : Int32) = (0 : Int32)) := (by decide)
    refine own_st (fun _ k => XS.ifNo X49.here hx rfl (hb hby at_145) rfl ((if0 _ _).trans (feq c145_52).1) k) ?_
    show own_Go X49 (Q0 Z q0 q1 p2 p3 p4 h0 n0) 4 32 148 #[.val (.long q0), .second, .val (.long q1), .second, .val (.int p2), .val (.int p3), .val (.int p4), .val (.ref b1), .val (.ref b4), .val (.int (0 : Int32)), .val (.int (own_from p2)), .val (.int (own_to p2 (own_from p2))), .val (.int (own_from p3)), .val (.int (own_to p3 (own_from p3))), .val (.ref b4), .val (.ref b19), .val (.int (1 : Int32)), .val (.int (1 : Int32))] []
    refine own_st (fun _ k => XS.iconst X49.here hx rfl (hb hby at_148) k) ?_
    show own_Go X49 (Q0 Z q0 q1 p2 p3 p4 h0 n0) 4 32 149 #[.val (.long q0), .second, .val (.long q1), .second, .val (.int p2), .val (.int p3), .val (.int p4), .val (.ref b1), .val (.ref b4), .val (.int (0 : Int32)), .val (.int (own_from p2)), .val (.int (own_to p2 (own_from p2))), .val (.int (own_from p3)), .val (.int (own_to p3 (own_from p3))), .val (.ref b4), .val (.ref b19), .val (.int (1 : Int32)), .val (.int (1 : Int32))] [(.int (1 : Int32))]
    refine own_st (fun _ k => XS.goto X49.here hx rfl (pc0 := 149) (pc' := 153) rfl (hb hby at_149) (by decide) (by decide) k) ?_
    show own_Go X49 (Q0 Z q0 q1 p2 p3 p4 h0 n0) 4 32 153 #[.val (.long q0), .second, .val (.long q1), .second, .val (.int p2), .val (.int p3), .val (.int p4), .val (.ref b1), .val (.ref b4), .val (.int (0 : Int32)), .val (.int (own_from p2)), .val (.int (own_to p2 (own_from p2))), .val (.int (own_from p3)), .val (.int (own_to p3 (own_from p3))), .val (.ref b4), .val (.ref b19), .val (.int (1 : Int32)), .val (.int (1 : Int32))] [(.int (1 : Int32))]
    refine own_retN X49 hx Bd.returns (by simp) hlk e49 (hb hby at_153) (by decide) (by decide) ?_
    exact ⟨rfl, N_50⟩
  · skip
    refine own_st (fun _ k => XS.ifNo X4.here hx rfl (hb hby at_16) rfl ((if0 _ _).trans (feq c16_9).1) k) ?_
    show own_Go X4 (Q0 Z q0 q1 p2 p3 p4 h0 n0) 4 32 19 #[.val (.long q0), .second, .val (.long q1), .second, .val (.int p2), .val (.int p3), .val (.int p4), .val (.ref b1), .val (.ref b4), .unset, .unset, .unset, .unset, .unset, .unset, .unset, .unset, .unset] []
    refine own_st (fun _ k => XS.iconst X4.here hx rfl (hb hby at_19) k) ?_
    show own_Go X4 (Q0 Z q0 q1 p2 p3 p4 h0 n0) 4 32 20 #[.val (.long q0), .second, .val (.long q1), .second, .val (.int p2), .val (.int p3), .val (.int p4), .val (.ref b1), .val (.ref b4), .unset, .unset, .unset, .unset, .unset, .unset, .unset, .unset, .unset] [(.int (1 : Int32))]
    refine own_st (fun _ k => XS.goto X4.here hx rfl (pc0 := 20) (pc' := 24) rfl (hb hby at_20) (by decide) (by decide) k) ?_
    show own_Go X4 (Q0 Z q0 q1 p2 p3 p4 h0 n0) 4 32 24 #[.val (.long q0), .second, .val (.long q1), .second, .val (.int p2), .val (.int p3), .val (.int p4), .val (.ref b1), .val (.ref b4), .unset, .unset, .unset, .unset, .unset, .unset, .unset, .unset, .unset] [(.int (1 : Int32))]
    refine own_st (fun _ k => XS.istore X4.here hx rfl (hb hby at_24) rfl (l' := #[.val (.long q0), .second, .val (.long q1), .second, .val (.int p2), .val (.int p3), .val (.int p4), .val (.ref b1), .val (.ref b4), .val (.int (1 : Int32)), .unset, .unset, .unset, .unset, .unset, .unset, .unset, .unset]) rfl k) ?_
    show own_Go X4 (Q0 Z q0 q1 p2 p3 p4 h0 n0) 4 32 26 #[.val (.long q0), .second, .val (.long q1), .second, .val (.int p2), .val (.int p3), .val (.int p4), .val (.ref b1), .val (.ref b4), .val (.int (1 : Int32)), .unset, .unset, .unset, .unset, .unset, .unset, .unset, .unset] []
    refine own_st (fun _ k => XS.iload X4.here hx rfl (hb hby at_26) rfl k) ?_
    show own_Go X4 (Q0 Z q0 q1 p2 p3 p4 h0 n0) 4 32 28 #[.val (.long q0), .second, .val (.long q1), .second, .val (.int p2), .val (.int p3), .val (.int p4), .val (.ref b1), .val (.ref b4), .val (.int (1 : Int32)), .unset, .unset, .unset, .unset, .unset, .unset, .unset, .unset] [(.int p2)]
    refine own_callS (W := 0) X4 hx hZ hown (hw _ (List.mem_of_getElem? (i := 5) rfl)) (hw _ (List.mem_of_getElem? (i := 6) rfl)) (hw _ (List.mem_of_getElem? (i := 2) rfl)) (hw _ (List.mem_of_getElem? (i := 7) rfl)) (by decide) (rm2 l Z a0 hw [] p2  T4.heap n0 Z_8 ) (by decide) (by decide) (by rw [hml]; rfl) [(.int p2)] [] (lenOf pd_0_1 rfl) rfl rfl (Nat.le_of_ble_eq_true rfl) (hb hby at_28) (Eq.refl T4.heap) (by decide) (by decide) ?_
    rintro _ T53 L53 X53 ⟨rfl, N53q, e53⟩
    have N_54 := Fr.app N_6 N53q
    show own_Go X53 (Q0 Z q0 q1 p2 p3 p4 h0 n0) 4 32 31 #[.val (.long q0), .second, .val (.long q1), .second, .val (.int p2), .val (.int p3), .val (.int p4), .val (.ref b1), .val (.ref b4), .val (.int (1 : Int32)), .unset, .unset, .unset, .unset, .unset, .unset, .unset, .unset] [(.int (own_from p2))]
    refine own_st (fun _ k => XS.istore X53.here hx rfl (hb hby at_31) rfl (l' := #[.val (.long q0), .second, .val (.long q1), .second, .val (.int p2), .val (.int p3), .val (.int p4), .val (.ref b1), .val (.ref b4), .val (.int (1 : Int32)), .val (.int (own_from p2)), .unset, .unset, .unset, .unset, .unset, .unset, .unset]) rfl k) ?_
    show own_Go X53 (Q0 Z q0 q1 p2 p3 p4 h0 n0) 4 32 33 #[.val (.long q0), .second, .val (.long q1), .second, .val (.int p2), .val (.int p3), .val (.int p4), .val (.ref b1), .val (.ref b4), .val (.int (1 : Int32)), .val (.int (own_from p2)), .unset, .unset, .unset, .unset, .unset, .unset, .unset] []
    refine own_st (fun _ k => XS.iload X53.here hx rfl (hb hby at_33) rfl k) ?_
    show own_Go X53 (Q0 Z q0 q1 p2 p3 p4 h0 n0) 4 32 35 #[.val (.long q0), .second, .val (.long q1), .second, .val (.int p2), .val (.int p3), .val (.int p4), .val (.ref b1), .val (.ref b4), .val (.int (1 : Int32)), .val (.int (own_from p2)), .unset, .unset, .unset, .unset, .unset, .unset, .unset] [(.int p2)]
    refine own_st (fun _ k => XS.iload X53.here hx rfl (hb hby at_35) rfl k) ?_
    show own_Go X53 (Q0 Z q0 q1 p2 p3 p4 h0 n0) 4 32 37 #[.val (.long q0), .second, .val (.long q1), .second, .val (.int p2), .val (.int p3), .val (.int p4), .val (.ref b1), .val (.ref b4), .val (.int (1 : Int32)), .val (.int (own_from p2)), .unset, .unset, .unset, .unset, .unset, .unset, .unset] [(.int (own_from p2)), (.int p2)]
    refine own_callS (W := 0) X53 hx hZ hown (hw _ (List.mem_of_getElem? (i := 9) rfl)) (hw _ (List.mem_of_getElem? (i := 10) rfl)) (hw _ (List.mem_of_getElem? (i := 2) rfl)) (hw _ (List.mem_of_getElem? (i := 11) rfl)) (by decide) (rm3 l Z a0 hw [] p2 (own_from p2)  T4.heap n0 Z_8 (own_fromB p2)) (by decide) (by decide) (by rw [hml]; rfl) [(.int p2), (.int (own_from p2))] [] (lenOf pd_0_2 rfl) rfl rfl (Nat.le_of_ble_eq_true rfl) (hb hby at_37) e53 (by decide) (by decide) ?_
    rintro _ T55 L55 X55 ⟨rfl, N55q, e55⟩
    have N_56 := Fr.app N_54 N55q
    show own_Go X55 (Q0 Z q0 q1 p2 p3 p4 h0 n0) 4 32 40 #[.val (.long q0), .second, .val (.long q1), .second, .val (.int p2), .val (.int p3), .val (.int p4), .val (.ref b1), .val (.ref b4), .val (.int (1 : Int32)), .val (.int (own_from p2)), .unset, .unset, .unset, .unset, .unset, .unset, .unset] [(.int (own_to p2 (own_from p2)))]
    refine own_st (fun _ k => XS.istore X55.here hx rfl (hb hby at_40) rfl (l' := #[.val (.long q0), .second, .val (.long q1), .second, .val (.int p2), .val (.int p3), .val (.int p4), .val (.ref b1), .val (.ref b4), .val (.int (1 : Int32)), .val (.int (own_from p2)), .val (.int (own_to p2 (own_from p2))), .unset, .unset, .unset, .unset, .unset, .unset]) rfl k) ?_
    show own_Go X55 (Q0 Z q0 q1 p2 p3 p4 h0 n0) 4 32 42 #[.val (.long q0), .second, .val (.long q1), .second, .val (.int p2), .val (.int p3), .val (.int p4), .val (.ref b1), .val (.ref b4), .val (.int (1 : Int32)), .val (.int (own_from p2)), .val (.int (own_to p2 (own_from p2))), .unset, .unset, .unset, .unset, .unset, .unset] []
    refine own_st (fun _ k => XS.iload X55.here hx rfl (hb hby at_42) rfl k) ?_
    show own_Go X55 (Q0 Z q0 q1 p2 p3 p4 h0 n0) 4 32 44 #[.val (.long q0), .second, .val (.long q1), .second, .val (.int p2), .val (.int p3), .val (.int p4), .val (.ref b1), .val (.ref b4), .val (.int (1 : Int32)), .val (.int (own_from p2)), .val (.int (own_to p2 (own_from p2))), .unset, .unset, .unset, .unset, .unset, .unset] [(.int p3)]
    refine own_callS (W := 0) X55 hx hZ hown (hw _ (List.mem_of_getElem? (i := 5) rfl)) (hw _ (List.mem_of_getElem? (i := 6) rfl)) (hw _ (List.mem_of_getElem? (i := 2) rfl)) (hw _ (List.mem_of_getElem? (i := 7) rfl)) (by decide) (rm2 l Z a0 hw [] p3  T4.heap n0 Z_8 ) (by decide) (by decide) (by rw [hml]; rfl) [(.int p3)] [] (lenOf pd_0_1 rfl) rfl rfl (Nat.le_of_ble_eq_true rfl) (hb hby at_44) e55 (by decide) (by decide) ?_
    rintro _ T57 L57 X57 ⟨rfl, N57q, e57⟩
    have N_58 := Fr.app N_56 N57q
    show own_Go X57 (Q0 Z q0 q1 p2 p3 p4 h0 n0) 4 32 47 #[.val (.long q0), .second, .val (.long q1), .second, .val (.int p2), .val (.int p3), .val (.int p4), .val (.ref b1), .val (.ref b4), .val (.int (1 : Int32)), .val (.int (own_from p2)), .val (.int (own_to p2 (own_from p2))), .unset, .unset, .unset, .unset, .unset, .unset] [(.int (own_from p3))]
    refine own_st (fun _ k => XS.istore X57.here hx rfl (hb hby at_47) rfl (l' := #[.val (.long q0), .second, .val (.long q1), .second, .val (.int p2), .val (.int p3), .val (.int p4), .val (.ref b1), .val (.ref b4), .val (.int (1 : Int32)), .val (.int (own_from p2)), .val (.int (own_to p2 (own_from p2))), .val (.int (own_from p3)), .unset, .unset, .unset, .unset, .unset]) rfl k) ?_
    show own_Go X57 (Q0 Z q0 q1 p2 p3 p4 h0 n0) 4 32 49 #[.val (.long q0), .second, .val (.long q1), .second, .val (.int p2), .val (.int p3), .val (.int p4), .val (.ref b1), .val (.ref b4), .val (.int (1 : Int32)), .val (.int (own_from p2)), .val (.int (own_to p2 (own_from p2))), .val (.int (own_from p3)), .unset, .unset, .unset, .unset, .unset] []
    refine own_st (fun _ k => XS.iload X57.here hx rfl (hb hby at_49) rfl k) ?_
    show own_Go X57 (Q0 Z q0 q1 p2 p3 p4 h0 n0) 4 32 51 #[.val (.long q0), .second, .val (.long q1), .second, .val (.int p2), .val (.int p3), .val (.int p4), .val (.ref b1), .val (.ref b4), .val (.int (1 : Int32)), .val (.int (own_from p2)), .val (.int (own_to p2 (own_from p2))), .val (.int (own_from p3)), .unset, .unset, .unset, .unset, .unset] [(.int p3)]
    refine own_st (fun _ k => XS.iload X57.here hx rfl (hb hby at_51) rfl k) ?_
    show own_Go X57 (Q0 Z q0 q1 p2 p3 p4 h0 n0) 4 32 53 #[.val (.long q0), .second, .val (.long q1), .second, .val (.int p2), .val (.int p3), .val (.int p4), .val (.ref b1), .val (.ref b4), .val (.int (1 : Int32)), .val (.int (own_from p2)), .val (.int (own_to p2 (own_from p2))), .val (.int (own_from p3)), .unset, .unset, .unset, .unset, .unset] [(.int (own_from p3)), (.int p3)]
    refine own_callS (W := 0) X57 hx hZ hown (hw _ (List.mem_of_getElem? (i := 9) rfl)) (hw _ (List.mem_of_getElem? (i := 10) rfl)) (hw _ (List.mem_of_getElem? (i := 2) rfl)) (hw _ (List.mem_of_getElem? (i := 11) rfl)) (by decide) (rm3 l Z a0 hw [] p3 (own_from p3)  T4.heap n0 Z_8 (own_fromB p3)) (by decide) (by decide) (by rw [hml]; rfl) [(.int p3), (.int (own_from p3))] [] (lenOf pd_0_2 rfl) rfl rfl (Nat.le_of_ble_eq_true rfl) (hb hby at_53) e57 (by decide) (by decide) ?_
    rintro _ T59 L59 X59 ⟨rfl, N59q, e59⟩
    have N_60 := Fr.app N_58 N59q
    show own_Go X59 (Q0 Z q0 q1 p2 p3 p4 h0 n0) 4 32 56 #[.val (.long q0), .second, .val (.long q1), .second, .val (.int p2), .val (.int p3), .val (.int p4), .val (.ref b1), .val (.ref b4), .val (.int (1 : Int32)), .val (.int (own_from p2)), .val (.int (own_to p2 (own_from p2))), .val (.int (own_from p3)), .unset, .unset, .unset, .unset, .unset] [(.int (own_to p3 (own_from p3)))]
    refine own_st (fun _ k => XS.istore X59.here hx rfl (hb hby at_56) rfl (l' := #[.val (.long q0), .second, .val (.long q1), .second, .val (.int p2), .val (.int p3), .val (.int p4), .val (.ref b1), .val (.ref b4), .val (.int (1 : Int32)), .val (.int (own_from p2)), .val (.int (own_to p2 (own_from p2))), .val (.int (own_from p3)), .val (.int (own_to p3 (own_from p3))), .unset, .unset, .unset, .unset]) rfl k) ?_
    show own_Go X59 (Q0 Z q0 q1 p2 p3 p4 h0 n0) 4 32 58 #[.val (.long q0), .second, .val (.long q1), .second, .val (.int p2), .val (.int p3), .val (.int p4), .val (.ref b1), .val (.ref b4), .val (.int (1 : Int32)), .val (.int (own_from p2)), .val (.int (own_to p2 (own_from p2))), .val (.int (own_from p3)), .val (.int (own_to p3 (own_from p3))), .unset, .unset, .unset, .unset] []
    refine own_st (fun _ k => XS.iload X59.here hx rfl (hb hby at_58) rfl k) ?_
    show own_Go X59 (Q0 Z q0 q1 p2 p3 p4 h0 n0) 4 32 60 #[.val (.long q0), .second, .val (.long q1), .second, .val (.int p2), .val (.int p3), .val (.int p4), .val (.ref b1), .val (.ref b4), .val (.int (1 : Int32)), .val (.int (own_from p2)), .val (.int (own_to p2 (own_from p2))), .val (.int (own_from p3)), .val (.int (own_to p3 (own_from p3))), .unset, .unset, .unset, .unset] [(.int (1 : Int32))]
    have c60_61 : ¬ ((1 : Int32) = (0 : Int32)) := (by decide)
    refine own_st (fun _ k => XS.ifNo X59.here hx rfl (hb hby at_60) rfl ((if0 _ _).trans (feq c60_61).1) k) ?_
    show own_Go X59 (Q0 Z q0 q1 p2 p3 p4 h0 n0) 4 32 63 #[.val (.long q0), .second, .val (.long q1), .second, .val (.int p2), .val (.int p3), .val (.int p4), .val (.ref b1), .val (.ref b4), .val (.int (1 : Int32)), .val (.int (own_from p2)), .val (.int (own_to p2 (own_from p2))), .val (.int (own_from p3)), .val (.int (own_to p3 (own_from p3))), .unset, .unset, .unset, .unset] []
    refine own_st (fun _ k => XS.aload X59.here hx rfl (hb hby at_63) rfl rfl k) ?_
    show own_Go X59 (Q0 Z q0 q1 p2 p3 p4 h0 n0) 4 32 65 #[.val (.long q0), .second, .val (.long q1), .second, .val (.int p2), .val (.int p3), .val (.int p4), .val (.ref b1), .val (.ref b4), .val (.int (1 : Int32)), .val (.int (own_from p2)), .val (.int (own_to p2 (own_from p2))), .val (.int (own_from p3)), .val (.int (own_to p3 (own_from p3))), .unset, .unset, .unset, .unset] [(.ref b1)]
    refine own_st (fun _ k => XS.goto X59.here hx rfl (pc0 := 65) (pc' := 70) rfl (hb hby at_65) (by decide) (by decide) k) ?_
    show own_Go X59 (Q0 Z q0 q1 p2 p3 p4 h0 n0) 4 32 70 #[.val (.long q0), .second, .val (.long q1), .second, .val (.int p2), .val (.int p3), .val (.int p4), .val (.ref b1), .val (.ref b4), .val (.int (1 : Int32)), .val (.int (own_from p2)), .val (.int (own_to p2 (own_from p2))), .val (.int (own_from p3)), .val (.int (own_to p3 (own_from p3))), .unset, .unset, .unset, .unset] [(.ref b1)]
    refine own_st (fun _ k => XS.astore X59.here hx rfl (hb hby at_70) rfl rfl (l' := #[.val (.long q0), .second, .val (.long q1), .second, .val (.int p2), .val (.int p3), .val (.int p4), .val (.ref b1), .val (.ref b4), .val (.int (1 : Int32)), .val (.int (own_from p2)), .val (.int (own_to p2 (own_from p2))), .val (.int (own_from p3)), .val (.int (own_to p3 (own_from p3))), .val (.ref b1), .unset, .unset, .unset]) rfl k) ?_
    show own_Go X59 (Q0 Z q0 q1 p2 p3 p4 h0 n0) 4 32 72 #[.val (.long q0), .second, .val (.long q1), .second, .val (.int p2), .val (.int p3), .val (.int p4), .val (.ref b1), .val (.ref b4), .val (.int (1 : Int32)), .val (.int (own_from p2)), .val (.int (own_to p2 (own_from p2))), .val (.int (own_from p3)), .val (.int (own_to p3 (own_from p3))), .val (.ref b1), .unset, .unset, .unset] []
    obtain ⟨T62, h62, X62, e62, E62, A62, D62, -, st62⟩ := newO X59 hx hZ hown (hw _ (List.mem_of_getElem? (i := 12) rfl)) (hw _ (List.mem_of_getElem? (i := 13) rfl)) (hw _ (List.mem_of_getElem? (i := 14) rfl)) e59 (g := (mkF m 72 #[.val (.long q0), .second, .val (.long q1), .second, .val (.int p2), .val (.int p3), .val (.int p4), .val (.ref b1), .val (.ref b4), .val (.int (1 : Int32)), .val (.int (own_from p2)), .val (.int (own_to p2 (own_from p2))), .val (.int (own_from p3)), .val (.int (own_to p3 (own_from p3))), .val (.ref b1), .unset, .unset, .unset] [])) rfl (hb hby at_72) (by decide) (by decide)
    obtain ⟨b62, g62⟩ : ∃ z, z = T4.heap.size := ⟨_, rfl⟩
    rw [← g62] at A62 D62 st62
    refine own_st st62 ?_
    have ne_63 := Nat.ne_of_lt (Nat.lt_of_lt_of_le f_7.lt (Nat.le_of_eq g62.symm))
    have ne_64 := Nat.ne_of_lt (Nat.lt_of_lt_of_le V4q.lt (Nat.le_of_eq g62.symm))
    have G_65 := Nat.le_trans Z_8 (Nat.le_of_eq g62.symm)
    have f_66 := f_7.ext E62
    have f_67 := V4q.ext E62
    have Z_68 := Nat.le_trans Z_8 E62.1
    have F_characters_62 : Fld Z h62 b62 "com/example/stopbit/stopbit/Text" "characters" "[B" .null := D62 (Or.inl (hw _ (List.mem_of_getElem? (i := 22) rfl))) (ty := (.array .byte)) (by decide)
    have F_start_62 : Fld Z h62 b62 "com/example/stopbit/stopbit/Text" "start" "I" (.int (0 : Int32)) := D62 (Or.inl (hw _ (List.mem_of_getElem? (i := 29) rfl))) (ty := .int) (by decide)
    have F_length_62 : Fld Z h62 b62 "com/example/stopbit/stopbit/Text" "length" "I" (.int (0 : Int32)) := D62 (Or.inl (hw _ (List.mem_of_getElem? (i := 31) rfl))) (ty := .int) (by decide)
    have F_decoded_62 : Fld Z h62 b62 "com/example/stopbit/stopbit/Text" "decoded" "[C" .null := D62 (Or.inl (hw _ (List.mem_of_getElem? (i := 54) rfl))) (ty := (.array .char)) (by decide)
    show own_Go X62 (Q0 Z q0 q1 p2 p3 p4 h0 n0) 4 32 75 #[.val (.long q0), .second, .val (.long q1), .second, .val (.int p2), .val (.int p3), .val (.int p4), .val (.ref b1), .val (.ref b4), .val (.int (1 : Int32)), .val (.int (own_from p2)), .val (.int (own_to p2 (own_from p2))), .val (.int (own_from p3)), .val (.int (own_to p3 (own_from p3))), .val (.ref b1), .unset, .unset, .unset] [(.ref b62)]
    refine own_st (fun _ k => XS.dup X62.here hx rfl (hb hby at_75) rfl rfl k) ?_
    show own_Go X62 (Q0 Z q0 q1 p2 p3 p4 h0 n0) 4 32 76 #[.val (.long q0), .second, .val (.long q1), .second, .val (.int p2), .val (.int p3), .val (.int p4), .val (.ref b1), .val (.ref b4), .val (.int (1 : Int32)), .val (.int (own_from p2)), .val (.int (own_to p2 (own_from p2))), .val (.int (own_from p3)), .val (.int (own_to p3 (own_from p3))), .val (.ref b1), .unset, .unset, .unset] [(.ref b62), (.ref b62)]
    refine own_callI (W := 1) X62 hx hZ hown (hw _ (List.mem_of_getElem? (i := 15) rfl)) (hw _ (List.mem_of_getElem? (i := 16) rfl)) (hw _ (List.mem_of_getElem? (i := 14) rfl)) (hw _ (List.mem_of_getElem? (i := 17) rfl)) rfl (by decide) (rm4 l Z a0 hw [] b62 h62 n0 Z_68 A62 G_65 F_length_62 F_decoded_62 F_characters_62 F_start_62) (by decide) (by decide) (by rw [hml]; rfl) b62 [] [(.ref b62)] (lenOf pd_0_3 rfl) rfl rfl (Nat.le_of_ble_eq_true rfl) (hb hby at_76) e62 (by decide) (by decide) ?_
    rintro _ T69 L69 X69 ⟨b69, rfl, N69q, K69q, G69q, S69q, F69_length, F69_decoded, F69_characters, F69_start⟩
    have ne_70 := Nat.ne_of_lt (Nat.lt_of_lt_of_le f_66.lt S69q)
    have ne_71 := Nat.ne_of_lt (Nat.lt_of_lt_of_le f_67.lt S69q)
    have ne_72 := Nat.ne_of_lt (Nat.lt_of_lt_of_le A62.lt S69q)
    have N_73 := Fr.app N_60 N69q
    have f_74 := f_66.keep K69q (ninS ne_63 nin0)
    have f_75 := f_67.keep K69q (ninS ne_64 nin0)
    have f_76 := A62.keep K69q
    have Z_77 := Nat.le_trans Z_68 K69q.1
    show own_Go X69 (Q0 Z q0 q1 p2 p3 p4 h0 n0) 4 32 79 #[.val (.long q0), .second, .val (.long q1), .second, .val (.int p2), .val (.int p3), .val (.int p4), .val (.ref b1), .val (.ref b4), .val (.int (1 : Int32)), .val (.int (own_from p2)), .val (.int (own_to p2 (own_from p2))), .val (.int (own_from p3)), .val (.int (own_to p3 (own_from p3))), .val (.ref b1), .unset, .unset, .unset] [(.ref b62)]
    refine own_st (fun _ k => XS.astore X69.here hx rfl (hb hby at_79) rfl rfl (l' := #[.val (.long q0), .second, .val (.long q1), .second, .val (.int p2), .val (.int p3), .val (.int p4), .val (.ref b1), .val (.ref b4), .val (.int (1 : Int32)), .val (.int (own_from p2)), .val (.int (own_to p2 (own_from p2))), .val (.int (own_from p3)), .val (.int (own_to p3 (own_from p3))), .val (.ref b1), .val (.ref b62), .unset, .unset]) rfl k) ?_
    show own_Go X69 (Q0 Z q0 q1 p2 p3 p4 h0 n0) 4 32 81 #[.val (.long q0), .second, .val (.long q1), .second, .val (.int p2), .val (.int p3), .val (.int p4), .val (.ref b1), .val (.ref b4), .val (.int (1 : Int32)), .val (.int (own_from p2)), .val (.int (own_to p2 (own_from p2))), .val (.int (own_from p3)), .val (.int (own_to p3 (own_from p3))), .val (.ref b1), .val (.ref b62), .unset, .unset] []
    refine own_st (fun _ k => XS.aload X69.here hx rfl (hb hby at_81) rfl rfl k) ?_
    show own_Go X69 (Q0 Z q0 q1 p2 p3 p4 h0 n0) 4 32 83 #[.val (.long q0), .second, .val (.long q1), .second, .val (.int p2), .val (.int p3), .val (.int p4), .val (.ref b1), .val (.ref b4), .val (.int (1 : Int32)), .val (.int (own_from p2)), .val (.int (own_to p2 (own_from p2))), .val (.int (own_from p3)), .val (.int (own_to p3 (own_from p3))), .val (.ref b1), .val (.ref b62), .unset, .unset] [(.ref b62)]
    refine own_st (fun _ k => XS.aload X69.here hx rfl (hb hby at_83) rfl rfl k) ?_
    show own_Go X69 (Q0 Z q0 q1 p2 p3 p4 h0 n0) 4 32 85 #[.val (.long q0), .second, .val (.long q1), .second, .val (.int p2), .val (.int p3), .val (.int p4), .val (.ref b1), .val (.ref b4), .val (.int (1 : Int32)), .val (.int (own_from p2)), .val (.int (own_to p2 (own_from p2))), .val (.int (own_from p3)), .val (.int (own_to p3 (own_from p3))), .val (.ref b1), .val (.ref b62), .unset, .unset] [(.ref b1), (.ref b62)]
    refine own_st (fun _ k => XS.iload X69.here hx rfl (hb hby at_85) rfl k) ?_
    show own_Go X69 (Q0 Z q0 q1 p2 p3 p4 h0 n0) 4 32 87 #[.val (.long q0), .second, .val (.long q1), .second, .val (.int p2), .val (.int p3), .val (.int p4), .val (.ref b1), .val (.ref b4), .val (.int (1 : Int32)), .val (.int (own_from p2)), .val (.int (own_to p2 (own_from p2))), .val (.int (own_from p3)), .val (.int (own_to p3 (own_from p3))), .val (.ref b1), .val (.ref b62), .unset, .unset] [(.int (own_from p2)), (.ref b1), (.ref b62)]
    refine own_st (fun _ k => XS.iload X69.here hx rfl (hb hby at_87) rfl k) ?_
    show own_Go X69 (Q0 Z q0 q1 p2 p3 p4 h0 n0) 4 32 89 #[.val (.long q0), .second, .val (.long q1), .second, .val (.int p2), .val (.int p3), .val (.int p4), .val (.ref b1), .val (.ref b4), .val (.int (1 : Int32)), .val (.int (own_from p2)), .val (.int (own_to p2 (own_from p2))), .val (.int (own_from p3)), .val (.int (own_to p3 (own_from p3))), .val (.ref b1), .val (.ref b62), .unset, .unset] [(.int (own_to p2 (own_from p2))), (.int (own_from p2)), (.ref b1), (.ref b62)]
    refine own_callV (W := 0) X69 hx hZ hown (hw _ (List.mem_of_getElem? (i := 23) rfl)) (hw _ (List.mem_of_getElem? (i := 24) rfl)) (hw _ (List.mem_of_getElem? (i := 26) rfl)) (hw _ (List.mem_of_getElem? (i := 25) rfl)) (hw _ (List.mem_of_getElem? (i := 14) rfl)) (hw _ (List.mem_of_getElem? (i := 27) rfl)) (by decide) (rm6 l Z a0 hw [] b62 b1 (own_from p2) (own_to p2 (own_from p2)) (0 : Int32) (0 : Int32) b69 T69.heap n0 Z_77 f_76 G_65 F69_length F69_decoded F69_characters F69_start (Ne.symm ne_70)) (by decide) (by decide) (by rw [hml]; rfl) b62 [(.ref b1), (.int (own_from p2)), (.int (own_to p2 (own_from p2)))] [] (lenOf pd_0_4 rfl) rfl rfl (Nat.le_of_ble_eq_true rfl) (hb hby at_89) (Eq.refl T69.heap) f_76 (by decide) (by decide) ?_
    rintro _ T78 L78 X78 ⟨rfl, N78q, K78q, F78_length, F78_decoded, F78_characters, F78_start⟩
    have N_79 := Fr.app N_73 N78q
    have f_80 := f_74.keep K78q (ninS ne_63 nin0)
    have f_81 := f_75.keep K78q (ninS ne_64 nin0)
    have f_82 := f_76.keep K78q
    have Z_83 := Nat.le_trans Z_77 K78q.1
    show own_Go X78 (Q0 Z q0 q1 p2 p3 p4 h0 n0) 4 32 92 #[.val (.long q0), .second, .val (.long q1), .second, .val (.int p2), .val (.int p3), .val (.int p4), .val (.ref b1), .val (.ref b4), .val (.int (1 : Int32)), .val (.int (own_from p2)), .val (.int (own_to p2 (own_from p2))), .val (.int (own_from p3)), .val (.int (own_to p3 (own_from p3))), .val (.ref b1), .val (.ref b62), .unset, .unset] []
    refine own_st (fun _ k => XS.aload X78.here hx rfl (hb hby at_92) rfl rfl k) ?_
    show own_Go X78 (Q0 Z q0 q1 p2 p3 p4 h0 n0) 4 32 94 #[.val (.long q0), .second, .val (.long q1), .second, .val (.int p2), .val (.int p3), .val (.int p4), .val (.ref b1), .val (.ref b4), .val (.int (1 : Int32)), .val (.int (own_from p2)), .val (.int (own_to p2 (own_from p2))), .val (.int (own_from p3)), .val (.int (own_to p3 (own_from p3))), .val (.ref b1), .val (.ref b62), .unset, .unset] [(.ref b62)]
    refine own_st (fun _ k => XS.aload X78.here hx rfl (hb hby at_94) rfl rfl k) ?_
    show own_Go X78 (Q0 Z q0 q1 p2 p3 p4 h0 n0) 4 32 96 #[.val (.long q0), .second, .val (.long q1), .second, .val (.int p2), .val (.int p3), .val (.int p4), .val (.ref b1), .val (.ref b4), .val (.int (1 : Int32)), .val (.int (own_from p2)), .val (.int (own_to p2 (own_from p2))), .val (.int (own_from p3)), .val (.int (own_to p3 (own_from p3))), .val (.ref b1), .val (.ref b62), .unset, .unset] [(.ref b1), (.ref b62)]
    refine own_st (fun _ k => XS.iload X78.here hx rfl (hb hby at_96) rfl k) ?_
    show own_Go X78 (Q0 Z q0 q1 p2 p3 p4 h0 n0) 4 32 98 #[.val (.long q0), .second, .val (.long q1), .second, .val (.int p2), .val (.int p3), .val (.int p4), .val (.ref b1), .val (.ref b4), .val (.int (1 : Int32)), .val (.int (own_from p2)), .val (.int (own_to p2 (own_from p2))), .val (.int (own_from p3)), .val (.int (own_to p3 (own_from p3))), .val (.ref b1), .val (.ref b62), .unset, .unset] [(.int (own_from p2)), (.ref b1), (.ref b62)]
    refine own_st (fun _ k => XS.iload X78.here hx rfl (hb hby at_98) rfl k) ?_
    show own_Go X78 (Q0 Z q0 q1 p2 p3 p4 h0 n0) 4 32 100 #[.val (.long q0), .second, .val (.long q1), .second, .val (.int p2), .val (.int p3), .val (.int p4), .val (.ref b1), .val (.ref b4), .val (.int (1 : Int32)), .val (.int (own_from p2)), .val (.int (own_to p2 (own_from p2))), .val (.int (own_from p3)), .val (.int (own_to p3 (own_from p3))), .val (.ref b1), .val (.ref b62), .unset, .unset] [(.int (own_to p2 (own_from p2))), (.int (own_from p2)), (.ref b1), (.ref b62)]
    refine own_st (fun _ k => XS.iload X78.here hx rfl (hb hby at_100) rfl k) ?_
    show own_Go X78 (Q0 Z q0 q1 p2 p3 p4 h0 n0) 4 32 102 #[.val (.long q0), .second, .val (.long q1), .second, .val (.int p2), .val (.int p3), .val (.int p4), .val (.ref b1), .val (.ref b4), .val (.int (1 : Int32)), .val (.int (own_from p2)), .val (.int (own_to p2 (own_from p2))), .val (.int (own_from p3)), .val (.int (own_to p3 (own_from p3))), .val (.ref b1), .val (.ref b62), .unset, .unset] [(.int p4), (.int (own_to p2 (own_from p2))), (.int (own_from p2)), (.ref b1), (.ref b62)]
    refine own_st (fun _ k => XS.iconst X78.here hx rfl (hb hby at_102) k) ?_
    show own_Go X78 (Q0 Z q0 q1 p2 p3 p4 h0 n0) 4 32 103 #[.val (.long q0), .second, .val (.long q1), .second, .val (.int p2), .val (.int p3), .val (.int p4), .val (.ref b1), .val (.ref b4), .val (.int (1 : Int32)), .val (.int (own_from p2)), .val (.int (own_to p2 (own_from p2))), .val (.int (own_from p3)), .val (.int (own_to p3 (own_from p3))), .val (.ref b1), .val (.ref b62), .unset, .unset] [(.int (1 : Int32)), (.int p4), (.int (own_to p2 (own_from p2))), (.int (own_from p2)), (.ref b1), (.ref b62)]
    refine own_st (fun _ k => XS.iushr X78.here hx rfl (hb hby at_103) rfl k) ?_
    show own_Go X78 (Q0 Z q0 q1 p2 p3 p4 h0 n0) 4 32 104 #[.val (.long q0), .second, .val (.long q1), .second, .val (.int p2), .val (.int p3), .val (.int p4), .val (.ref b1), .val (.ref b4), .val (.int (1 : Int32)), .val (.int (own_from p2)), .val (.int (own_to p2 (own_from p2))), .val (.int (own_from p3)), .val (.int (own_to p3 (own_from p3))), .val (.ref b1), .val (.ref b62), .unset, .unset] [(.int ((p4.toUInt32 >>> ((1 : Int32) &&& 31).toUInt32).toInt32)), (.int (own_to p2 (own_from p2))), (.int (own_from p2)), (.ref b1), (.ref b62)]
    refine own_callS (W := 0) X78 hx hZ hown (hw _ (List.mem_of_getElem? (i := 32) rfl)) (hw _ (List.mem_of_getElem? (i := 33) rfl)) (hw _ (List.mem_of_getElem? (i := 2) rfl)) (hw _ (List.mem_of_getElem? (i := 34) rfl)) (by decide) (rm7 l Z a0 hw [] b62 b1 (own_from p2) (own_to p2 (own_from p2)) ((p4.toUInt32 >>> ((1 : Int32) &&& 31).toUInt32).toInt32) k1 (own_y0 q0) (own_ys (8 : Int32) q0) (own_ys (16 : Int32) q0) (own_ys (24 : Int32) q0) (own_ys (32 : Int32) q0) (own_ys (40 : Int32) q0) T78.heap n0 Z_83 f_82 F78_length F78_decoded F78_characters F78_start f_80 (own_toB (own_fromB p2))) (by decide) (by decide) (by rw [hml]; rfl) [(.ref b62), (.ref b1), (.int (own_from p2)), (.int (own_to p2 (own_from p2))), (.int ((p4.toUInt32 >>> ((1 : Int32) &&& 31).toUInt32).toInt32))] [] (lenOf pd_0_5 rfl) rfl rfl (Nat.le_of_ble_eq_true rfl) (hb hby at_104) (Eq.refl T78.heap) (by decide) (by decide) ?_
    rintro _ T84 L84 X84 ⟨rfl, N84q, e84⟩
    have N_85 := Fr.app N_79 N84q
    show own_Go X84 (Q0 Z q0 q1 p2 p3 p4 h0 n0) 4 32 107 #[.val (.long q0), .second, .val (.long q1), .second, .val (.int p2), .val (.int p3), .val (.int p4), .val (.ref b1), .val (.ref b4), .val (.int (1 : Int32)), .val (.int (own_from p2)), .val (.int (own_to p2 (own_from p2))), .val (.int (own_from p3)), .val (.int (own_to p3 (own_from p3))), .val (.ref b1), .val (.ref b62), .unset, .unset] [(.int (1 : Int32))]
    refine own_st (fun _ k => XS.istore X84.here hx rfl (hb hby at_107) rfl (l' := #[.val (.long q0), .second, .val (.long q1), .second, .val (.int p2), .val (.int p3), .val (.int p4), .val (.ref b1), .val (.ref b4), .val (.int (1 : Int32)), .val (.int (own_from p2)), .val (.int (own_to p2 (own_from p2))), .val (.int (own_from p3)), .val (.int (own_to p3 (own_from p3))), .val (.ref b1), .val (.ref b62), .val (.int (1 : Int32)), .unset]) rfl k) ?_
    show own_Go X84 (Q0 Z q0 q1 p2 p3 p4 h0 n0) 4 32 109 #[.val (.long q0), .second, .val (.long q1), .second, .val (.int p2), .val (.int p3), .val (.int p4), .val (.ref b1), .val (.ref b4), .val (.int (1 : Int32)), .val (.int (own_from p2)), .val (.int (own_to p2 (own_from p2))), .val (.int (own_from p3)), .val (.int (own_to p3 (own_from p3))), .val (.ref b1), .val (.ref b62), .val (.int (1 : Int32)), .unset] []
    refine own_st (fun _ k => XS.aload X84.here hx rfl (hb hby at_109) rfl rfl k) ?_
    show own_Go X84 (Q0 Z q0 q1 p2 p3 p4 h0 n0) 4 32 111 #[.val (.long q0), .second, .val (.long q1), .second, .val (.int p2), .val (.int p3), .val (.int p4), .val (.ref b1), .val (.ref b4), .val (.int (1 : Int32)), .val (.int (own_from p2)), .val (.int (own_to p2 (own_from p2))), .val (.int (own_from p3)), .val (.int (own_to p3 (own_from p3))), .val (.ref b1), .val (.ref b62), .val (.int (1 : Int32)), .unset] [(.ref b62)]
    refine own_st (fun _ k => XS.aload X84.here hx rfl (hb hby at_111) rfl rfl k) ?_
    show own_Go X84 (Q0 Z q0 q1 p2 p3 p4 h0 n0) 4 32 113 #[.val (.long q0), .second, .val (.long q1), .second, .val (.int p2), .val (.int p3), .val (.int p4), .val (.ref b1), .val (.ref b4), .val (.int (1 : Int32)), .val (.int (own_from p2)), .val (.int (own_to p2 (own_from p2))), .val (.int (own_from p3)), .val (.int (own_to p3 (own_from p3))), .val (.ref b1), .val (.ref b62), .val (.int (1 : Int32)), .unset] [(.ref b1), (.ref b62)]
    refine own_st (fun _ k => XS.iload X84.here hx rfl (hb hby at_113) rfl k) ?_
    show own_Go X84 (Q0 Z q0 q1 p2 p3 p4 h0 n0) 4 32 115 #[.val (.long q0), .second, .val (.long q1), .second, .val (.int p2), .val (.int p3), .val (.int p4), .val (.ref b1), .val (.ref b4), .val (.int (1 : Int32)), .val (.int (own_from p2)), .val (.int (own_to p2 (own_from p2))), .val (.int (own_from p3)), .val (.int (own_to p3 (own_from p3))), .val (.ref b1), .val (.ref b62), .val (.int (1 : Int32)), .unset] [(.int (own_from p3)), (.ref b1), (.ref b62)]
    refine own_st (fun _ k => XS.iload X84.here hx rfl (hb hby at_115) rfl k) ?_
    show own_Go X84 (Q0 Z q0 q1 p2 p3 p4 h0 n0) 4 32 117 #[.val (.long q0), .second, .val (.long q1), .second, .val (.int p2), .val (.int p3), .val (.int p4), .val (.ref b1), .val (.ref b4), .val (.int (1 : Int32)), .val (.int (own_from p2)), .val (.int (own_to p2 (own_from p2))), .val (.int (own_from p3)), .val (.int (own_to p3 (own_from p3))), .val (.ref b1), .val (.ref b62), .val (.int (1 : Int32)), .unset] [(.int (own_to p3 (own_from p3))), (.int (own_from p3)), (.ref b1), (.ref b62)]
    refine own_callV (W := 0) X84 hx hZ hown (hw _ (List.mem_of_getElem? (i := 23) rfl)) (hw _ (List.mem_of_getElem? (i := 24) rfl)) (hw _ (List.mem_of_getElem? (i := 26) rfl)) (hw _ (List.mem_of_getElem? (i := 25) rfl)) (hw _ (List.mem_of_getElem? (i := 14) rfl)) (hw _ (List.mem_of_getElem? (i := 27) rfl)) (by decide) (rm16 l Z a0 hw [] b62 b1 (own_from p3) (own_to p3 (own_from p3)) ((own_to p2 (own_from p2)) - (own_from p2)) (own_from p2) T78.heap n0 Z_83 f_82 G_65 F78_length F78_decoded F78_characters F78_start) (by decide) (by decide) (by rw [hml]; rfl) b62 [(.ref b1), (.int (own_from p3)), (.int (own_to p3 (own_from p3)))] [] (lenOf pd_0_4 rfl) rfl rfl (Nat.le_of_ble_eq_true rfl) (hb hby at_117) e84 f_82 (by decide) (by decide) ?_
    rintro _ T86 L86 X86 ⟨rfl, N86q, K86q, F86_length, F86_decoded, F86_characters, F86_start⟩
    have N_87 := Fr.app N_85 N86q
    have f_88 := f_80.keep K86q (ninS ne_63 nin0)
    have f_89 := f_81.keep K86q (ninS ne_64 nin0)
    have f_90 := f_82.keep K86q
    have Z_91 := Nat.le_trans Z_83 K86q.1
    show own_Go X86 (Q0 Z q0 q1 p2 p3 p4 h0 n0) 4 32 120 #[.val (.long q0), .second, .val (.long q1), .second, .val (.int p2), .val (.int p3), .val (.int p4), .val (.ref b1), .val (.ref b4), .val (.int (1 : Int32)), .val (.int (own_from p2)), .val (.int (own_to p2 (own_from p2))), .val (.int (own_from p3)), .val (.int (own_to p3 (own_from p3))), .val (.ref b1), .val (.ref b62), .val (.int (1 : Int32)), .unset] []
    refine own_st (fun _ k => XS.aload X86.here hx rfl (hb hby at_120) rfl rfl k) ?_
    show own_Go X86 (Q0 Z q0 q1 p2 p3 p4 h0 n0) 4 32 122 #[.val (.long q0), .second, .val (.long q1), .second, .val (.int p2), .val (.int p3), .val (.int p4), .val (.ref b1), .val (.ref b4), .val (.int (1 : Int32)), .val (.int (own_from p2)), .val (.int (own_to p2 (own_from p2))), .val (.int (own_from p3)), .val (.int (own_to p3 (own_from p3))), .val (.ref b1), .val (.ref b62), .val (.int (1 : Int32)), .unset] [(.ref b62)]
    refine own_st (fun _ k => XS.aload X86.here hx rfl (hb hby at_122) rfl rfl k) ?_
    show own_Go X86 (Q0 Z q0 q1 p2 p3 p4 h0 n0) 4 32 124 #[.val (.long q0), .second, .val (.long q1), .second, .val (.int p2), .val (.int p3), .val (.int p4), .val (.ref b1), .val (.ref b4), .val (.int (1 : Int32)), .val (.int (own_from p2)), .val (.int (own_to p2 (own_from p2))), .val (.int (own_from p3)), .val (.int (own_to p3 (own_from p3))), .val (.ref b1), .val (.ref b62), .val (.int (1 : Int32)), .unset] [(.ref b1), (.ref b62)]
    refine own_st (fun _ k => XS.iload X86.here hx rfl (hb hby at_124) rfl k) ?_
    show own_Go X86 (Q0 Z q0 q1 p2 p3 p4 h0 n0) 4 32 126 #[.val (.long q0), .second, .val (.long q1), .second, .val (.int p2), .val (.int p3), .val (.int p4), .val (.ref b1), .val (.ref b4), .val (.int (1 : Int32)), .val (.int (own_from p2)), .val (.int (own_to p2 (own_from p2))), .val (.int (own_from p3)), .val (.int (own_to p3 (own_from p3))), .val (.ref b1), .val (.ref b62), .val (.int (1 : Int32)), .unset] [(.int (own_from p3)), (.ref b1), (.ref b62)]
    refine own_st (fun _ k => XS.iload X86.here hx rfl (hb hby at_126) rfl k) ?_
    show own_Go X86 (Q0 Z q0 q1 p2 p3 p4 h0 n0) 4 32 128 #[.val (.long q0), .second, .val (.long q1), .second, .val (.int p2), .val (.int p3), .val (.int p4), .val (.ref b1), .val (.ref b4), .val (.int (1 : Int32)), .val (.int (own_from p2)), .val (.int (own_to p2 (own_from p2))), .val (.int (own_from p3)), .val (.int (own_to p3 (own_from p3))), .val (.ref b1), .val (.ref b62), .val (.int (1 : Int32)), .unset] [(.int (own_to p3 (own_from p3))), (.int (own_from p3)), (.ref b1), (.ref b62)]
    refine own_st (fun _ k => XS.iload X86.here hx rfl (hb hby at_128) rfl k) ?_
    show own_Go X86 (Q0 Z q0 q1 p2 p3 p4 h0 n0) 4 32 130 #[.val (.long q0), .second, .val (.long q1), .second, .val (.int p2), .val (.int p3), .val (.int p4), .val (.ref b1), .val (.ref b4), .val (.int (1 : Int32)), .val (.int (own_from p2)), .val (.int (own_to p2 (own_from p2))), .val (.int (own_from p3)), .val (.int (own_to p3 (own_from p3))), .val (.ref b1), .val (.ref b62), .val (.int (1 : Int32)), .unset] [(.int p4), (.int (own_to p3 (own_from p3))), (.int (own_from p3)), (.ref b1), (.ref b62)]
    refine own_st (fun _ k => XS.bipush X86.here hx rfl (hb hby at_130) k) ?_
    show own_Go X86 (Q0 Z q0 q1 p2 p3 p4 h0 n0) 4 32 132 #[.val (.long q0), .second, .val (.long q1), .second, .val (.int p2), .val (.int p3), .val (.int p4), .val (.ref b1), .val (.ref b4), .val (.int (1 : Int32)), .val (.int (own_from p2)), .val (.int (own_to p2 (own_from p2))), .val (.int (own_from p3)), .val (.int (own_to p3 (own_from p3))), .val (.ref b1), .val (.ref b62), .val (.int (1 : Int32)), .unset] [(.int (16 : Int32)), (.int p4), (.int (own_to p3 (own_from p3))), (.int (own_from p3)), (.ref b1), (.ref b62)]
    refine own_st (fun _ k => XS.iushr X86.here hx rfl (hb hby at_132) rfl k) ?_
    show own_Go X86 (Q0 Z q0 q1 p2 p3 p4 h0 n0) 4 32 133 #[.val (.long q0), .second, .val (.long q1), .second, .val (.int p2), .val (.int p3), .val (.int p4), .val (.ref b1), .val (.ref b4), .val (.int (1 : Int32)), .val (.int (own_from p2)), .val (.int (own_to p2 (own_from p2))), .val (.int (own_from p3)), .val (.int (own_to p3 (own_from p3))), .val (.ref b1), .val (.ref b62), .val (.int (1 : Int32)), .unset] [(.int ((p4.toUInt32 >>> ((16 : Int32) &&& 31).toUInt32).toInt32)), (.int (own_to p3 (own_from p3))), (.int (own_from p3)), (.ref b1), (.ref b62)]
    refine own_callS (W := 0) X86 hx hZ hown (hw _ (List.mem_of_getElem? (i := 32) rfl)) (hw _ (List.mem_of_getElem? (i := 33) rfl)) (hw _ (List.mem_of_getElem? (i := 2) rfl)) (hw _ (List.mem_of_getElem? (i := 34) rfl)) (by decide) (rm7 l Z a0 hw [] b62 b1 (own_from p3) (own_to p3 (own_from p3)) ((p4.toUInt32 >>> ((16 : Int32) &&& 31).toUInt32).toInt32) k1 (own_y0 q0) (own_ys (8 : Int32) q0) (own_ys (16 : Int32) q0) (own_ys (24 : Int32) q0) (own_ys (32 : Int32) q0) (own_ys (40 : Int32) q0) T86.heap n0 Z_91 f_90 F86_length F86_decoded F86_characters F86_start f_88 (own_toB (own_fromB p3))) (by decide) (by decide) (by rw [hml]; rfl) [(.ref b62), (.ref b1), (.int (own_from p3)), (.int (own_to p3 (own_from p3))), (.int ((p4.toUInt32 >>> ((16 : Int32) &&& 31).toUInt32).toInt32))] [] (lenOf pd_0_5 rfl) rfl rfl (Nat.le_of_ble_eq_true rfl) (hb hby at_133) (Eq.refl T86.heap) (by decide) (by decide) ?_
    rintro _ T92 L92 X92 ⟨rfl, N92q, e92⟩
    have N_93 := Fr.app N_87 N92q
    show own_Go X92 (Q0 Z q0 q1 p2 p3 p4 h0 n0) 4 32 136 #[.val (.long q0), .second, .val (.long q1), .second, .val (.int p2), .val (.int p3), .val (.int p4), .val (.ref b1), .val (.ref b4), .val (.int (1 : Int32)), .val (.int (own_from p2)), .val (.int (own_to p2 (own_from p2))), .val (.int (own_from p3)), .val (.int (own_to p3 (own_from p3))), .val (.ref b1), .val (.ref b62), .val (.int (1 : Int32)), .unset] [(.int (1 : Int32))]
    refine own_st (fun _ k => XS.istore X92.here hx rfl (hb hby at_136) rfl (l' := #[.val (.long q0), .second, .val (.long q1), .second, .val (.int p2), .val (.int p3), .val (.int p4), .val (.ref b1), .val (.ref b4), .val (.int (1 : Int32)), .val (.int (own_from p2)), .val (.int (own_to p2 (own_from p2))), .val (.int (own_from p3)), .val (.int (own_to p3 (own_from p3))), .val (.ref b1), .val (.ref b62), .val (.int (1 : Int32)), .val (.int (1 : Int32))]) rfl k) ?_
    show own_Go X92 (Q0 Z q0 q1 p2 p3 p4 h0 n0) 4 32 138 #[.val (.long q0), .second, .val (.long q1), .second, .val (.int p2), .val (.int p3), .val (.int p4), .val (.ref b1), .val (.ref b4), .val (.int (1 : Int32)), .val (.int (own_from p2)), .val (.int (own_to p2 (own_from p2))), .val (.int (own_from p3)), .val (.int (own_to p3 (own_from p3))), .val (.ref b1), .val (.ref b62), .val (.int (1 : Int32)), .val (.int (1 : Int32))] []
    refine own_st (fun _ k => XS.iload X92.here hx rfl (hb hby at_138) rfl k) ?_
    show own_Go X92 (Q0 Z q0 q1 p2 p3 p4 h0 n0) 4 32 140 #[.val (.long q0), .second, .val (.long q1), .second, .val (.int p2), .val (.int p3), .val (.int p4), .val (.ref b1), .val (.ref b4), .val (.int (1 : Int32)), .val (.int (own_from p2)), .val (.int (own_to p2 (own_from p2))), .val (.int (own_from p3)), .val (.int (own_to p3 (own_from p3))), .val (.ref b1), .val (.ref b62), .val (.int (1 : Int32)), .val (.int (1 : Int32))] [(.int (1 : Int32))]
    have c140_94 : ¬ ((1 : Int32) = (0 : Int32)) := (by decide)
    refine own_st (fun _ k => XS.ifNo X92.here hx rfl (hb hby at_140) rfl ((if0 _ _).trans (feq c140_94).1) k) ?_
    show own_Go X92 (Q0 Z q0 q1 p2 p3 p4 h0 n0) 4 32 143 #[.val (.long q0), .second, .val (.long q1), .second, .val (.int p2), .val (.int p3), .val (.int p4), .val (.ref b1), .val (.ref b4), .val (.int (1 : Int32)), .val (.int (own_from p2)), .val (.int (own_to p2 (own_from p2))), .val (.int (own_from p3)), .val (.int (own_to p3 (own_from p3))), .val (.ref b1), .val (.ref b62), .val (.int (1 : Int32)), .val (.int (1 : Int32))] []
    refine own_st (fun _ k => XS.iload X92.here hx rfl (hb hby at_143) rfl k) ?_
    show own_Go X92 (Q0 Z q0 q1 p2 p3 p4 h0 n0) 4 32 145 #[.val (.long q0), .second, .val (.long q1), .second, .val (.int p2), .val (.int p3), .val (.int p4), .val (.ref b1), .val (.ref b4), .val (.int (1 : Int32)), .val (.int (own_from p2)), .val (.int (own_to p2 (own_from p2))), .val (.int (own_from p3)), .val (.int (own_to p3 (own_from p3))), .val (.ref b1), .val (.ref b62), .val (.int (1 : Int32)), .val (.int (1 : Int32))] [(.int (1 : Int32))]
    have c145_95 : ¬ ((1 : Int32) = (0 : Int32)) := (by decide)
    refine own_st (fun _ k => XS.ifNo X92.here hx rfl (hb hby at_145) rfl ((if0 _ _).trans (feq c145_95).1) k) ?_
    show own_Go X92 (Q0 Z q0 q1 p2 p3 p4 h0 n0) 4 32 148 #[.val (.long q0), .second, .val (.long q1), .second, .val (.int p2), .val (.int p3), .val (.int p4), .val (.ref b1), .val (.ref b4), .val (.int (1 : Int32)), .val (.int (own_from p2)), .val (.int (own_to p2 (own_from p2))), .val (.int (own_from p3)), .val (.int (own_to p3 (own_from p3))), .val (.ref b1), .val (.ref b62), .val (.int (1 : Int32)), .val (.int (1 : Int32))] []
    refine own_st (fun _ k => XS.iconst X92.here hx rfl (hb hby at_148) k) ?_
    show own_Go X92 (Q0 Z q0 q1 p2 p3 p4 h0 n0) 4 32 149 #[.val (.long q0), .second, .val (.long q1), .second, .val (.int p2), .val (.int p3), .val (.int p4), .val (.ref b1), .val (.ref b4), .val (.int (1 : Int32)), .val (.int (own_from p2)), .val (.int (own_to p2 (own_from p2))), .val (.int (own_from p3)), .val (.int (own_to p3 (own_from p3))), .val (.ref b1), .val (.ref b62), .val (.int (1 : Int32)), .val (.int (1 : Int32))] [(.int (1 : Int32))]
    refine own_st (fun _ k => XS.goto X92.here hx rfl (pc0 := 149) (pc' := 153) rfl (hb hby at_149) (by decide) (by decide) k) ?_
    show own_Go X92 (Q0 Z q0 q1 p2 p3 p4 h0 n0) 4 32 153 #[.val (.long q0), .second, .val (.long q1), .second, .val (.int p2), .val (.int p3), .val (.int p4), .val (.ref b1), .val (.ref b4), .val (.int (1 : Int32)), .val (.int (own_from p2)), .val (.int (own_to p2 (own_from p2))), .val (.int (own_from p3)), .val (.int (own_to p3 (own_from p3))), .val (.ref b1), .val (.ref b62), .val (.int (1 : Int32)), .val (.int (1 : Int32))] [(.int (1 : Int32))]
    refine own_retN X92 hx Bd.returns (by simp) hlk e92 (hb hby at_153) (by decide) (by decide) ?_
    exact ⟨rfl, N_93⟩
set_option maxRecDepth 65536 in
set_option maxHeartbeats 40000000 in
theorem comes_1 {Post : Tables → Env → Array Value → State → Outcome → State → Prop} (hpost : ∀ tb e args s v u, (limb_1_1.after args s (.returned v) u = true ∧ limb_1_2.after args s (.returned v) u = true ∧ True) → FrameEnd s (.returned v) u (Jvm.fieldLocs frame_1_writes args s ++ Jvm.arrayLocs frame_1_arrays args s ++ Jvm.staticLocs frame_1_statics s) 16 128 → Post tb e args s (.returned v) u) :
    ArmFor flags0 classFile x code maxLocals ret World_1 tables_1 room_1 Calls_1 rest_1 Pre_1 Post := by
  intro l hfl _ _ p e ha hc hk s m args below hf hA hF happ hP
  obtain ⟨hcalls, hrest, hpre⟩ := hP
  obtain ⟨-, -, -, hnamed, -, -, -, hat⟩ := (Spec.applies_iff hf).mp happ
  obtain ⟨hg, hn⟩ := and_e (Cond.before_iff.mp (show (Jvm.Cond.and given_1 narrow_1).before args s = true from hpre))
  obtain ⟨g1, g2⟩ := and_e hg
  obtain ⟨g3, g4⟩ := and_e g2
  obtain ⟨g5, g6⟩ := and_e g4
  obtain ⟨g7, g8⟩ := and_e g6
  obtain ⟨g9, g10⟩ := and_e g8
  obtain ⟨w0, w1, w2, w3, w4, rfl⟩ : ∃ w0 w1 w2 w3 w4 : Value, args = #[w0, w1, w2, w3, w4] := by
    have hs : args.size = 5 := by simpa [Cond.value, given_1] using g1
    obtain ⟨L⟩ := args
    match L, hs with
    | [w0, w1, w2, w3, w4], _ => exact ⟨w0, w1, w2, w3, w4, rfl⟩
  have hw := fun d (hd : d ∈ tables_1) => atoms_spec (ws := Jvm.Cond.code x code maxLocals ret :: tables_1) hat d (List.mem_cons_of_mem _ hd)
  obtain ⟨i0, ei0⟩ := isL_v g3
  obtain rfl : w0 = (.long i0) := Option.some.inj ei0
  obtain ⟨i1, ei1⟩ := isL_v g5
  obtain rfl : w1 = (.long i1) := Option.some.inj ei1
  obtain ⟨i2, ei2⟩ := is_v g7
  obtain rfl : w2 = (.int i2) := Option.some.inj ei2
  obtain ⟨i3, ei3⟩ := is_v g9
  obtain rfl : w3 = (.int i3) := Option.some.inj ei3
  obtain ⟨i4, ei4⟩ := is_v g10
  obtain rfl : w4 = (.int i4) := Option.some.inj ei4
  obtain ⟨n, o, h1, h2, h3, _, L, rfl, ⟨rfl, N⟩, hq⟩ := rm0 l s _ hw tables_1 i0 i1 i2 i3 i4 s.heap s.heap.size (Nat.le_refl _) p e ha hc hk s m _ below hf ((Spec.applies_iff_loose hf).mp happ).1 ⟨rfl, State.Warmed39.refl s, rfl⟩ trivial
  refine ⟨n, _, h1, h2, h3, hpost _ _ _ _ _ _ ⟨Cond.after_iff.mpr rfl, Cond.after_iff.mpr (eq_i res_at (Term.int_eval (1)) rfl), trivial⟩ ⟨hq.1, hq.2.1, (hq.2.2.sift fun y hy => Or.inr (N y hy)).mono (by decide) (by decide)⟩⟩
theorem main_1_1 : Claimed_1_1 := comes_1 fun _ _ _ _ _ _ h hF => ⟨h.1, hF⟩
theorem main_1_2 : Claimed_1_2 := comes_1 fun _ _ _ _ _ _ h hF => ⟨h.2.1, hF⟩
end Jvm.Pilot.@@N@@
namespace Jvm.Pilot.@@N@@
open Jvm Jvm.ClassFile Sem Op Lib Jvm.Free Jvm.Stand Jvm.Pilot.@@N@@.Jvm.D
/-! MADE BY PROGRAM (witnessworld.py) out of the Statement's table words and the real class files: 12 classes; the members and pool entries that the words name. The judged class is class 1, her method 5. -/
namespace start1
open Jvm.ClassFile
def u (s : String) : CpInfo := .utf8 (stringToUtf16 s)
/-- a pool by its gaps: so many unusable entries, then the entry; so many at the end -/
def gap : Nat → List CpInfo → List CpInfo
  | 0, r => r
  | n + 1, r => .unusable :: gap n r
def poolList (es : List (Nat × CpInfo)) (last : Nat) : List CpInfo := es.foldr (fun e r => gap e.1 (e.2 :: r)) (gap last [])
def pool (es : List (Nat × CpInfo)) (last : Nat) : Array CpInfo := ⟨poolList es last⟩
def fileOf (pool : Array CpInfo) (this : Nat) (attrs : Array Attribute := #[]) (ms : Array MethodInfo := #[]) (fl : Nat := 33) (sup : Nat := 0) (ifs : Array Nat := #[]) (fds : Array FieldInfo := #[]) : ClassFile where
  minorVersion := 0
  majorVersion := 65
  constantPool := pool
  accessFlags := fl
  thisClass := this
  superClass := sup
  interfaces := ifs
  fields := fds
  methods := ms
  attributes := attrs
def plain (name : String) (sup : Option ClassId) : Class where
  name := name
  kind := .ordinary
  loader := none
  accessFlags := 33
  super := sup
  interfaces := #[]
  cf := none
  fields := #[]
  methods := #[]
  instanceTypes := #[]
  staticTypes := #[]
  resolved := #[]
  callSites := []
  init := .initialized
  statics := none
  mirror := none

def pool0 : Array CpInfo := pool [(5, u "<init>"), (0, u "()V"), (1, .class_ 10), (1, u "java/lang/Object")] 113

def k0c0 : Code := { maxStack := 0, maxLocals := 1, code := object_method_1_code, exceptionTable := #[], attributes := #[] }
def k0m0 : Method := { name := "<init>", desc := "()V", sig := { parameters := [], returnType := none }, accessFlags := 1, code := some k0c0 }
/-- java/lang/Object -/
def k0 : Class := { plain "java/lang/Object" none with
  accessFlags := 33
  interfaces := #[]
  cf := some (fileOf pool0 8 #[] #[{ accessFlags := 1, nameIndex := 5, descriptorIndex := 6, attributes := #[] }] 33 0 #[] #[])
  fields := #[]
  methods := #[k0m0]
  instanceTypes := #[]
  staticTypes := #[]
  resolved := Array.replicate 124 none
  statics := none }

def pool1 : Array CpInfo := pool [(2, .class_ 4), (0, .nameAndType 5 6), (0, u "java/lang/Object"), (0, u "<init>"), (0, u "()V"), (0, .integer 2147483647), (0, .methodref 9 10), (0, .class_ 11), (0, .nameAndType 12 13), (0, u "com/example/stopbit/stopbit/Text"), (0, u "length"), (0, u "()I"), (0, .methodref 9 15), (0, .nameAndType 16 17), (0, u "charAt"), (0, u "(I)C"), (0, .methodref 19 20), (0, .class_ 21), (0, .nameAndType 22 23), (0, u "com/example/stopbit/stopbit/TextViewPinLaw"), (0, u "bytesOf"), (0, u "(J)[B"), (0, .methodref 19 25), (0, .nameAndType 26 27), (0, u "fromOf"), (0, u "(I)I"), (0, .methodref 19 29), (0, .nameAndType 30 31), (0, u "toOf"), (0, u "(II)I"), (0, .methodref 9 3), (0, .methodref 9 34), (0, .nameAndType 35 36), (0, u "view"), (0, u "([BII)V"), (0, .methodref 19 38), (0, .nameAndType 39 40), (0, u "seen"), (0, u "(Lcom/example/stopbit/stopbit/Text;[BIII)Z"), (3, u "law"), (0, u "(JJIII)Z")] 4

def k1m0 : Method := { name := "<init>", desc := "()V", sig := { parameters := [], returnType := none }, accessFlags := 1, code := none }
def k1c1 : Code := { maxStack := 5, maxLocals := 3, code := method_2_code, exceptionTable := #[], attributes := #[] }
def k1m1 : Method := { name := "bytesOf", desc := "(J)[B", sig := { parameters := [.long], returnType := some (.array .byte) }, accessFlags := 10, code := some k1c1 }
def k1c2 : Code := { maxStack := 2, maxLocals := 1, code := method_3_code, exceptionTable := #[], attributes := #[] }
def k1m2 : Method := { name := "fromOf", desc := "(I)I", sig := { parameters := [.int], returnType := some .int }, accessFlags := 10, code := some k1c2 }
def k1c3 : Code := { maxStack := 4, maxLocals := 2, code := method_4_code, exceptionTable := #[], attributes := #[] }
def k1m3 : Method := { name := "toOf", desc := "(II)I", sig := { parameters := [.int, .int], returnType := some .int }, accessFlags := 10, code := some k1c3 }
def k1c4 : Code := { maxStack := 4, maxLocals := 7, code := method_5_code, exceptionTable := #[], attributes := #[] }
def k1m4 : Method := { name := "seen", desc := "(Lcom/example/stopbit/stopbit/Text;[BIII)Z", sig := { parameters := [(.object "com/example/stopbit/stopbit/Text"), (.array .byte), .int, .int, .int], returnType := some .boolean }, accessFlags := 10, code := some k1c4 }
def k1c5 : Code := { maxStack := 6, maxLocals := 18, code := code, exceptionTable := #[], attributes := #[] }
def k1m5 : Method := { name := "law", desc := "(JJIII)Z", sig := { parameters := [.long, .long, .int, .int, .int], returnType := some .boolean }, accessFlags := 9, code := some k1c5 }
/-- com/example/stopbit/stopbit/TextViewPinLaw -/
def k1 : Class := { plain "com/example/stopbit/stopbit/TextViewPinLaw" (some 0) with
  accessFlags := 49
  interfaces := #[]
  cf := some (fileOf pool1 19 #[] #[{ accessFlags := 1, nameIndex := 5, descriptorIndex := 6, attributes := #[] }, { accessFlags := 10, nameIndex := 22, descriptorIndex := 23, attributes := #[] }, { accessFlags := 10, nameIndex := 26, descriptorIndex := 27, attributes := #[] }, { accessFlags := 10, nameIndex := 30, descriptorIndex := 31, attributes := #[] }, { accessFlags := 10, nameIndex := 39, descriptorIndex := 40, attributes := #[] }, { accessFlags := 9, nameIndex := 44, descriptorIndex := 45, attributes := #[] }] 49 2 #[] #[])
  fields := #[]
  methods := #[k1m0, k1m1, k1m2, k1m3, k1m4, k1m5]
  instanceTypes := #[]
  staticTypes := #[]
  resolved := Array.replicate 50 none
  statics := none }

def pool2 : Array CpInfo := pool [(2, .class_ 4), (1, u "java/lang/CharSequence"), (42, .class_ 48), (0, u "java/lang/CharSequence$1CodePointIterator"), (10, .class_ 60), (0, u "java/lang/CharSequence$1CharIterator"), (5, .class_ 67), (0, u "java/lang/Object")] 63

/-- java/lang/CharSequence -/
def k2 : Class := { plain "java/lang/CharSequence" (some 0) with
  accessFlags := 1537
  interfaces := #[]
  cf := some (fileOf pool2 2 #[.nestMembers #[47, 59]] #[] 1537 66 #[] #[])
  fields := #[]
  methods := #[]
  instanceTypes := #[]
  staticTypes := #[]
  resolved := Array.replicate 131 none
  statics := none }

def pool3 : Array CpInfo := pool [(1, .methodref 2 3), (0, .class_ 4), (0, .nameAndType 5 6), (0, u "java/lang/Object"), (0, u "<init>"), (0, u "()V"), (0, .class_ 8), (0, u "com/example/stopbit/stopbit/Text"), (0, .fieldref 7 10), (0, .nameAndType 11 12), (0, u "characters"), (0, u "[B"), (12, .fieldref 7 26), (0, .nameAndType 27 28), (0, u "length"), (0, u "I"), (1, .class_ 32), (1, u "java/lang/CharSequence"), (0, u "()I"), (2, u "charAt"), (0, u "(I)C"), (12, .fieldref 7 51), (0, .nameAndType 52 28), (0, u "start"), (13, .fieldref 7 67), (0, .nameAndType 68 69), (0, u "decoded"), (0, u "[C"), (5, u "(II)I"), (20, .methodref 97 98), (0, .class_ 99), (0, .nameAndType 100 75), (0, u "java/util/Objects"), (0, u "checkIndex"), (15, u "INITIAL_CAPACITY"), (2, u "CHARACTER_BITS"), (1, u "CONTINUATION_BITS"), (1, u "CONTINUATION_MARK"), (8, u "view"), (0, u "([BII)V")] 13

def k3c0 : Code := { maxStack := 2, maxLocals := 1, code := prog_93_method_1_code, exceptionTable := #[], attributes := #[] }
def k3m0 : Method := { name := "<init>", desc := "()V", sig := { parameters := [], returnType := none }, accessFlags := 0, code := some k3c0 }
def k3c1 : Code := { maxStack := 3, maxLocals := 4, code := prog_93_method_5_code, exceptionTable := #[], attributes := #[] }
def k3m1 : Method := { name := "view", desc := "([BII)V", sig := { parameters := [(.array .byte), .int, .int], returnType := none }, accessFlags := 0, code := some k3c1 }
def k3c2 : Code := { maxStack := 1, maxLocals := 1, code := prog_93_method_11_code, exceptionTable := #[], attributes := #[] }
def k3m2 : Method := { name := "length", desc := "()I", sig := { parameters := [], returnType := some .int }, accessFlags := 1, code := some k3c2 }
def k3c3 : Code := { maxStack := 3, maxLocals := 2, code := prog_93_method_12_code, exceptionTable := #[], attributes := #[] }
def k3m3 : Method := { name := "charAt", desc := "(I)C", sig := { parameters := [.int], returnType := some .char }, accessFlags := 1, code := some k3c3 }
/-- com/example/stopbit/stopbit/Text -/
def k3 : Class := { plain "com/example/stopbit/stopbit/Text" (some 0) with
  accessFlags := 48
  interfaces := #[2]
  cf := some (fileOf pool3 7 #[] #[{ accessFlags := 0, nameIndex := 5, descriptorIndex := 6, attributes := #[] }, { accessFlags := 0, nameIndex := 132, descriptorIndex := 133, attributes := #[] }, { accessFlags := 1, nameIndex := 27, descriptorIndex := 33, attributes := #[] }, { accessFlags := 1, nameIndex := 36, descriptorIndex := 37, attributes := #[] }] 48 2 #[30] #[{ accessFlags := 26, nameIndex := 116, descriptorIndex := 28, attributes := #[] }, { accessFlags := 26, nameIndex := 119, descriptorIndex := 28, attributes := #[] }, { accessFlags := 26, nameIndex := 121, descriptorIndex := 28, attributes := #[] }, { accessFlags := 26, nameIndex := 123, descriptorIndex := 28, attributes := #[] }, { accessFlags := 2, nameIndex := 11, descriptorIndex := 12, attributes := #[] }, { accessFlags := 2, nameIndex := 68, descriptorIndex := 69, attributes := #[] }, { accessFlags := 2, nameIndex := 52, descriptorIndex := 28, attributes := #[] }, { accessFlags := 2, nameIndex := 27, descriptorIndex := 28, attributes := #[] }])
  fields := #[{ name := "INITIAL_CAPACITY", type := .int, accessFlags := 26, slot := 0, constantValue := 0 }, { name := "CHARACTER_BITS", type := .int, accessFlags := 26, slot := 1, constantValue := 0 }, { name := "CONTINUATION_BITS", type := .int, accessFlags := 26, slot := 2, constantValue := 0 }, { name := "CONTINUATION_MARK", type := .int, accessFlags := 26, slot := 3, constantValue := 0 }, { name := "characters", type := (.array .byte), accessFlags := 2, slot := 0, constantValue := 0 }, { name := "decoded", type := (.array .char), accessFlags := 2, slot := 1, constantValue := 0 }, { name := "start", type := .int, accessFlags := 2, slot := 2, constantValue := 0 }, { name := "length", type := .int, accessFlags := 2, slot := 3, constantValue := 0 }]
  methods := #[k3m0, k3m1, k3m2, k3m3]
  instanceTypes := #[(.array .byte), (.array .char), .int, .int]
  staticTypes := #[.int, .int, .int, .int]
  resolved := Array.replicate 147 none
  statics := none }

def pool4 : Array CpInfo := pool [(2, .class_ 4), (1, u "java/lang/Object"), (0, u "<init>"), (0, u "()V"), (35, .class_ 44), (1, u "java/util/Objects"), (60, .methodref 106 107), (0, .class_ 108), (0, .nameAndType 109 110), (0, u "jdk/internal/util/Preconditions"), (0, u "checkIndex"), (0, u "(IILjava/util/function/BiFunction;)I"), (60, u "(II)I")] 12

def k4m0 : Method := { name := "<init>", desc := "()V", sig := { parameters := [], returnType := none }, accessFlags := 2, code := none }
def k4c1 : Code := { maxStack := 3, maxLocals := 2, code := jdk_31_method_17_code, exceptionTable := #[], attributes := #[] }
def k4m1 : Method := { name := "checkIndex", desc := "(II)I", sig := { parameters := [.int, .int], returnType := some .int }, accessFlags := 9, code := some k4c1 }
/-- java/util/Objects -/
def k4 : Class := { plain "java/util/Objects" (some 0) with
  accessFlags := 49
  interfaces := #[]
  cf := some (fileOf pool4 42 #[] #[{ accessFlags := 2, nameIndex := 5, descriptorIndex := 6, attributes := #[] }, { accessFlags := 9, nameIndex := 109, descriptorIndex := 171, attributes := #[] }] 49 2 #[] #[])
  fields := #[]
  methods := #[k4m0, k4m1]
  instanceTypes := #[]
  staticTypes := #[]
  resolved := Array.replicate 184 none
  statics := none }

def pool5 : Array CpInfo := pool [(2, .class_ 4), (1, u "java/lang/Object"), (0, u "<init>"), (0, u "()V"), (17, .class_ 26), (1, u "jdk/internal/util/Preconditions"), (6, u "checkIndex"), (21, .class_ 56), (0, u "jdk/internal/util/Preconditions$4"), (57, .class_ 115), (0, u "jdk/internal/util/Preconditions$1"), (7, u "SIOOBE_FORMATTER"), (0, u "Ljava/util/function/BiFunction;"), (0, .class_ 126), (0, u "jdk/internal/util/Preconditions$2"), (3, u "AIOOBE_FORMATTER"), (0, .class_ 132), (0, u "jdk/internal/util/Preconditions$3"), (3, u "IOOBE_FORMATTER"), (41, u "(IILjava/util/function/BiFunction;)I")] 15

def k5m0 : Method := { name := "<init>", desc := "()V", sig := { parameters := [], returnType := none }, accessFlags := 1, code := none }
def k5c1 : Code := { maxStack := 3, maxLocals := 3, code := jdk_41_method_11_code, exceptionTable := #[], attributes := #[] }
def k5m1 : Method := { name := "checkIndex", desc := "(IILjava/util/function/BiFunction;)I", sig := { parameters := [.int, .int, (.object "java/util/function/BiFunction")], returnType := some .int }, accessFlags := 9, code := some k5c1 }
/-- jdk/internal/util/Preconditions -/
def k5 : Class := { plain "jdk/internal/util/Preconditions" (some 0) with
  accessFlags := 33
  interfaces := #[]
  cf := some (fileOf pool5 24 #[.nestMembers #[55, 131, 125, 114]] #[{ accessFlags := 1, nameIndex := 5, descriptorIndex := 6, attributes := #[] }, { accessFlags := 9, nameIndex := 33, descriptorIndex := 178, attributes := #[] }] 33 2 #[] #[{ accessFlags := 25, nameIndex := 123, descriptorIndex := 124, attributes := #[] }, { accessFlags := 25, nameIndex := 130, descriptorIndex := 124, attributes := #[] }, { accessFlags := 25, nameIndex := 136, descriptorIndex := 124, attributes := #[] }])
  fields := #[{ name := "SIOOBE_FORMATTER", type := (.object "java/util/function/BiFunction"), accessFlags := 25, slot := 0, constantValue := 0 }, { name := "AIOOBE_FORMATTER", type := (.object "java/util/function/BiFunction"), accessFlags := 25, slot := 1, constantValue := 0 }, { name := "IOOBE_FORMATTER", type := (.object "java/util/function/BiFunction"), accessFlags := 25, slot := 2, constantValue := 0 }]
  methods := #[k5m0, k5m1]
  instanceTypes := #[]
  staticTypes := #[(.object "java/util/function/BiFunction"), (.object "java/util/function/BiFunction"), (.object "java/util/function/BiFunction")]
  resolved := Array.replicate 194 none
  statics := none }

def pool6 : Array CpInfo := pool [(1, u "java/lang/Cloneable"), (0, .class_ 1), (0, u "java/lang/Object"), (0, .class_ 3)] 3

/-- java/lang/Cloneable -/
def k6 : Class := { plain "java/lang/Cloneable" (some 0) with
  accessFlags := 1537
  interfaces := #[]
  cf := some (fileOf pool6 2 #[] #[] 1537 4 #[] #[])
  fields := #[]
  methods := #[]
  instanceTypes := #[]
  staticTypes := #[]
  resolved := Array.replicate 8 none
  statics := none }

def pool7 : Array CpInfo := pool [(1, u "java/io/Serializable"), (0, .class_ 1), (0, u "java/lang/Object"), (0, .class_ 3)] 3

/-- java/io/Serializable -/
def k7 : Class := { plain "java/io/Serializable" (some 0) with
  accessFlags := 1537
  interfaces := #[]
  cf := some (fileOf pool7 2 #[] #[] 1537 4 #[] #[])
  fields := #[]
  methods := #[]
  instanceTypes := #[]
  staticTypes := #[]
  resolved := Array.replicate 8 none
  statics := none }

/-- the primitive byte -/
def k8 : Class := { plain "byte" none with kind := .primitive 'B', accessFlags := 0x411 }
/-- [B -/
def k9 : Class := { plain "[B" (some 0) with kind := .array 8 .byte, interfaces := #[6, 7], accessFlags := 1041 }

/-- the primitive int -/
def k10 : Class := { plain "int" none with kind := .primitive 'I', accessFlags := 0x411 }
/-- [I -/
def k11 : Class := { plain "[I" (some 0) with kind := .array 10 .int, interfaces := #[6, 7], accessFlags := 1041 }

def heap : Heap := #[]
def classes : Array Class := #[k0, k1, k2, k3, k4, k5, k6, k7, k8, k9, k10, k11]
def interned : List (Array UInt16 × Addr) := []
def slotsUsed : Nat := 0
def theMethod : MethodId := ⟨1, 5⟩
def args0 : Array Value := #[.long 5, .long 7, .int 9, .int 11, .int 13]
def aboutOver (below : List Frame) : State where
  vm := { classes := classes, interned := interned.toArray }
  heap := heap
  slotsUsed := slotsUsed
  threads := #[{ frames := .invoking theMethod args0 :: below }]
def below0 : List Frame := [.native { method := ⟨0, 0⟩, args := #[] }]
def about1 : State := aboutOver below0
def p0 : Program := .bare "" "" ""
def e0 : Env := launch0.env 0 0 0
theorem w_frames : about1.frames = Frame.invoking theMethod args0 :: below0 := rfl
set_option maxRecDepth 65536 in
theorem w_args : argsFit about1.vm theMethod args0 = true := by decide +kernel
set_option maxRecDepth 65536 in
theorem w_heap : heapFits about1 = true := by decide +kernel
set_option maxRecDepth 65536 in
theorem w_runnable : about1.curStatus? = some .runnable := by decide +kernel
set_option maxRecDepth 65536 in
theorem w_alone : about1.alone = true := by decide +kernel
set_option maxRecDepth 65536 in
theorem w_named : about1.methodNamed? x = some theMethod := by decide +kernel
set_option maxRecDepth 65536 in
theorem w_hears : about1.hears theMethod below0 = true := by decide +kernel
set_option maxRecDepth 65536 in
theorem w_ripe : about1.ripe theMethod args0 below0 = true := by decide +kernel
theorem w_running : about1.status = .running := rfl
set_option maxRecDepth 65536 in
theorem w_room : about1.hasRoom e0.platform room_1 = true :=
  launch0.hasRoom_least _ room_1 (by decide +kernel) (by decide +kernel) (by decide +kernel) (by decide +kernel) (by decide +kernel) (by decide +kernel)
theorem allAtoms_all (ts : List Jvm.Cond) (a : Array Jvm.Value) (st : Jvm.State) : (allAtoms ts).before a st = ts.all (fun c => c.before a st) := by
  induction ts with
  | nil => rfl
  | cons c t ih =>
    show (Jvm.Cond.and c (allAtoms t)).before a st = _
    rw [Jvm.Cond.before_and, ih, List.all_cons]
def words1 : List Jvm.Cond := Jvm.Cond.code x code maxLocals ret :: tables_1
/-- a 'code' word, met by the world's own term for the bytes: nothing is compared byte by byte -/
theorem code_word {y : MethodName} {bytes : ByteArray} {mx : Nat} {rt : Option FieldType} {a : Array Value} {s : State} {m : MethodId} {meth : Method} {c : Code} (h1 : s.methodNamed? y = some m) (h2 : s.vm.method? m = some meth) (h3 : meth.code = some c) (h4 : c.code = bytes)
    (h5 : (c.maxLocals == mx && c.exceptionTable.isEmpty && decide (c.maxStack ≤ mostOperands) && decide (meth.sig.returnType = rt) && !meth.locks && decide (parseMethodDescriptor y.desc = some meth.sig)) = true) : (Jvm.Cond.code y bytes mx rt).before a s = true := by
  simp only [Bool.and_eq_true, beq_iff_eq, Bool.not_eq_true', decide_eq_true_eq] at h5
  obtain ⟨⟨⟨⟨⟨g1, g2⟩, g3⟩, g4⟩, g5⟩, g6⟩ := h5
  simp [Cond.before, Cond.holds, Cond.value, h1, h2, h3, h4, g1, g2, g3, g4, g5, g6]
def isCode : Jvm.Cond → Bool
  | .code _ _ _ _ => true
  | _ => false
theorem all_split {L : List Jvm.Cond} {P : Jvm.Cond → Bool} (h1 : L.all (fun c => isCode c || P c) = true) (h2 : ∀ c ∈ L.filter isCode, P c = true) : L.all P = true := by
  refine List.all_eq_true.mpr fun c hc => ?_
  have h := List.all_eq_true.mp h1 c hc
  rcases Bool.eq_false_or_eq_true (isCode c) with hi | hi
  · exact h2 c (List.mem_filter.mpr ⟨hc, hi⟩)
  · simpa [hi] using h
set_option maxRecDepth 65536 in
theorem w_c0 : (Jvm.Cond.code x code maxLocals ret).before args0 about1 = true := code_word (m := ⟨1, 5⟩) (meth := k1m5) (c := k1c5) (by decide +kernel) rfl rfl rfl (by decide +kernel)
set_option maxRecDepth 65536 in
theorem w_c1 : (Jvm.Cond.code ({ cls := "com/example/stopbit/stopbit/TextViewPinLaw", name := "bytesOf", desc := "(J)[B" } : Jvm.MethodName) method_2_code (3 : Nat) (Option.some (Jvm.ClassFile.FieldType.array Jvm.ClassFile.FieldType.byte))).before args0 about1 = true := code_word (m := ⟨1, 1⟩) (meth := k1m1) (c := k1c1) (by decide +kernel) rfl rfl rfl (by decide +kernel)
set_option maxRecDepth 65536 in
theorem w_c2 : (Jvm.Cond.code ({ cls := "com/example/stopbit/stopbit/TextViewPinLaw", name := "fromOf", desc := "(I)I" } : Jvm.MethodName) method_3_code (1 : Nat) (Option.some Jvm.ClassFile.FieldType.int)).before args0 about1 = true := code_word (m := ⟨1, 2⟩) (meth := k1m2) (c := k1c2) (by decide +kernel) rfl rfl rfl (by decide +kernel)
set_option maxRecDepth 65536 in
theorem w_c3 : (Jvm.Cond.code ({ cls := "com/example/stopbit/stopbit/TextViewPinLaw", name := "toOf", desc := "(II)I" } : Jvm.MethodName) method_4_code (2 : Nat) (Option.some Jvm.ClassFile.FieldType.int)).before args0 about1 = true := code_word (m := ⟨1, 3⟩) (meth := k1m3) (c := k1c3) (by decide +kernel) rfl rfl rfl (by decide +kernel)
set_option maxRecDepth 65536 in
theorem w_c4 : (Jvm.Cond.code ({ cls := "com/example/stopbit/stopbit/Text", name := "<init>", desc := "()V" } : Jvm.MethodName) prog_93_method_1_code (1 : Nat) (Option.none : Option Jvm.ClassFile.FieldType)).before args0 about1 = true := code_word (m := ⟨3, 0⟩) (meth := k3m0) (c := k3c0) (by decide +kernel) rfl rfl rfl (by decide +kernel)
set_option maxRecDepth 65536 in
theorem w_c5 : (Jvm.Cond.code ({ cls := "java/lang/Object", name := "<init>", desc := "()V" } : Jvm.MethodName) object_method_1_code (1 : Nat) (Option.none : Option Jvm.ClassFile.FieldType)).before args0 about1 = true := code_word (m := ⟨0, 0⟩) (meth := k0m0) (c := k0c0) (by decide +kernel) rfl rfl rfl (by decide +kernel)
set_option maxRecDepth 65536 in
theorem w_c6 : (Jvm.Cond.code ({ cls := "com/example/stopbit/stopbit/Text", name := "view", desc := "([BII)V" } : Jvm.MethodName) prog_93_method_5_code (4 : Nat) (Option.none : Option Jvm.ClassFile.FieldType)).before args0 about1 = true := code_word (m := ⟨3, 1⟩) (meth := k3m1) (c := k3c1) (by decide +kernel) rfl rfl rfl (by decide +kernel)
set_option maxRecDepth 65536 in
theorem w_c7 : (Jvm.Cond.code ({ cls := "com/example/stopbit/stopbit/TextViewPinLaw", name := "seen", desc := "(Lcom/example/stopbit/stopbit/Text;[BIII)Z" } : Jvm.MethodName) method_5_code (7 : Nat) (Option.some Jvm.ClassFile.FieldType.boolean)).before args0 about1 = true := code_word (m := ⟨1, 4⟩) (meth := k1m4) (c := k1c4) (by decide +kernel) rfl rfl rfl (by decide +kernel)
set_option maxRecDepth 65536 in
theorem w_c8 : (Jvm.Cond.code ({ cls := "com/example/stopbit/stopbit/Text", name := "length", desc := "()I" } : Jvm.MethodName) prog_93_method_11_code (1 : Nat) (Option.some Jvm.ClassFile.FieldType.int)).before args0 about1 = true := code_word (m := ⟨3, 2⟩) (meth := k3m2) (c := k3c2) (by decide +kernel) rfl rfl rfl (by decide +kernel)
set_option maxRecDepth 65536 in
theorem w_c9 : (Jvm.Cond.code ({ cls := "com/example/stopbit/stopbit/Text", name := "charAt", desc := "(I)C" } : Jvm.MethodName) prog_93_method_12_code (2 : Nat) (Option.some Jvm.ClassFile.FieldType.char)).before args0 about1 = true := code_word (m := ⟨3, 3⟩) (meth := k3m3) (c := k3c3) (by decide +kernel) rfl rfl rfl (by decide +kernel)
set_option maxRecDepth 65536 in
theorem w_c10 : (Jvm.Cond.code ({ cls := "java/util/Objects", name := "checkIndex", desc := "(II)I" } : Jvm.MethodName) jdk_31_method_17_code (2 : Nat) (Option.some Jvm.ClassFile.FieldType.int)).before args0 about1 = true := code_word (m := ⟨4, 1⟩) (meth := k4m1) (c := k4c1) (by decide +kernel) rfl rfl rfl (by decide +kernel)
set_option maxRecDepth 65536 in
theorem w_c11 : (Jvm.Cond.code ({ cls := "jdk/internal/util/Preconditions", name := "checkIndex", desc := "(IILjava/util/function/BiFunction;)I" } : Jvm.MethodName) jdk_41_method_11_code (3 : Nat) (Option.some Jvm.ClassFile.FieldType.int)).before args0 about1 = true := code_word (m := ⟨5, 1⟩) (meth := k5m1) (c := k5c1) (by decide +kernel) rfl rfl rfl (by decide +kernel)
def codes1 : List Jvm.Cond := [Jvm.Cond.code x code maxLocals ret, Jvm.Cond.code ({ cls := "com/example/stopbit/stopbit/TextViewPinLaw", name := "bytesOf", desc := "(J)[B" } : Jvm.MethodName) method_2_code (3 : Nat) (Option.some (Jvm.ClassFile.FieldType.array Jvm.ClassFile.FieldType.byte)), Jvm.Cond.code ({ cls := "com/example/stopbit/stopbit/TextViewPinLaw", name := "fromOf", desc := "(I)I" } : Jvm.MethodName) method_3_code (1 : Nat) (Option.some Jvm.ClassFile.FieldType.int), Jvm.Cond.code ({ cls := "com/example/stopbit/stopbit/TextViewPinLaw", name := "toOf", desc := "(II)I" } : Jvm.MethodName) method_4_code (2 : Nat) (Option.some Jvm.ClassFile.FieldType.int), Jvm.Cond.code ({ cls := "com/example/stopbit/stopbit/Text", name := "<init>", desc := "()V" } : Jvm.MethodName) prog_93_method_1_code (1 : Nat) (Option.none : Option Jvm.ClassFile.FieldType), Jvm.Cond.code ({ cls := "java/lang/Object", name := "<init>", desc := "()V" } : Jvm.MethodName) object_method_1_code (1 : Nat) (Option.none : Option Jvm.ClassFile.FieldType), Jvm.Cond.code ({ cls := "com/example/stopbit/stopbit/Text", name := "view", desc := "([BII)V" } : Jvm.MethodName) prog_93_method_5_code (4 : Nat) (Option.none : Option Jvm.ClassFile.FieldType), Jvm.Cond.code ({ cls := "com/example/stopbit/stopbit/TextViewPinLaw", name := "seen", desc := "(Lcom/example/stopbit/stopbit/Text;[BIII)Z" } : Jvm.MethodName) method_5_code (7 : Nat) (Option.some Jvm.ClassFile.FieldType.boolean), Jvm.Cond.code ({ cls := "com/example/stopbit/stopbit/Text", name := "length", desc := "()I" } : Jvm.MethodName) prog_93_method_11_code (1 : Nat) (Option.some Jvm.ClassFile.FieldType.int), Jvm.Cond.code ({ cls := "com/example/stopbit/stopbit/Text", name := "charAt", desc := "(I)C" } : Jvm.MethodName) prog_93_method_12_code (2 : Nat) (Option.some Jvm.ClassFile.FieldType.char), Jvm.Cond.code ({ cls := "java/util/Objects", name := "checkIndex", desc := "(II)I" } : Jvm.MethodName) jdk_31_method_17_code (2 : Nat) (Option.some Jvm.ClassFile.FieldType.int), Jvm.Cond.code ({ cls := "jdk/internal/util/Preconditions", name := "checkIndex", desc := "(IILjava/util/function/BiFunction;)I" } : Jvm.MethodName) jdk_41_method_11_code (3 : Nat) (Option.some Jvm.ClassFile.FieldType.int)]
set_option maxRecDepth 65536 in
theorem codes_eq : words1.filter isCode = codes1 := rfl
theorem w_codes : ∀ c ∈ words1.filter isCode, c.before args0 about1 = true := by
  rw [codes_eq]
  intro c hc
  simp only [codes1, List.mem_cons, List.not_mem_nil, or_false] at hc
  rcases hc with rfl | rfl | rfl | rfl | rfl | rfl | rfl | rfl | rfl | rfl | rfl | rfl
  · exact w_c0
  · exact w_c1
  · exact w_c2
  · exact w_c3
  · exact w_c4
  · exact w_c5
  · exact w_c6
  · exact w_c7
  · exact w_c8
  · exact w_c9
  · exact w_c10
  · exact w_c11
set_option maxRecDepth 65536 in
theorem w_t1 : (words1.take 24).all (fun c => isCode c || c.before args0 about1) = true := by decide +kernel
set_option maxRecDepth 65536 in
theorem w_t2 : ((words1.drop 24).take 24).all (fun c => isCode c || c.before args0 about1) = true := by decide +kernel
set_option maxRecDepth 65536 in
theorem w_t3 : ((words1.drop 24).drop 24).all (fun c => isCode c || c.before args0 about1) = true := by decide +kernel
theorem w_tables : (allAtoms (Jvm.Cond.code x code maxLocals ret :: tables_1)).before args0 about1 = true := by
  rw [allAtoms_all]
  show words1.all (fun c => c.before args0 about1) = true
  refine all_split ?_ w_codes
  rw [← List.take_append_drop 24 words1, List.all_append, w_t1, ← List.take_append_drop 24 (words1.drop 24), List.all_append, w_t2, w_t3]
  rfl
set_option maxRecDepth 65536 in
theorem w_case : (Jvm.Cond.and given_1 narrow_1).before args0 about1 = true := by decide +kernel
theorem w_applies : (headSpec (Jvm.Cond.code x code maxLocals ret :: tables_1) room_1).applies x e0.platform about1 = true :=
  (Spec.applies_iff w_frames).mpr ⟨w_running, w_runnable, w_alone, w_named, w_hears, w_ripe, w_room, w_tables⟩
theorem atStart : AtStart classFile x code maxLocals ret World_1 tables_1 room_1 Calls_1 rest_1 Pre_1 launch0 p0 e0 about1 theMethod args0 below0 :=
  ⟨lists_1, trivial, launch0.admits_env _ _ _, launch0.least_env, fairChoices_fair.cas, fairChoices_fair.clock, w_frames, w_args, w_heap, w_applies, trivial, trivial, w_case⟩
end start1
theorem witness_1 : WitnessClaimed_1 := ⟨start1.p0, start1.e0, start1.about1, start1.theMethod, start1.args0, start1.below0, start1.atStart⟩
end Jvm.Pilot.@@N@@
