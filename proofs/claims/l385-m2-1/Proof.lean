import JvmDerived
import JvmDerived.Pilot.@@N@@Statement
import JvmDerived.Pilot.@@N@@Code
set_option linter.unusedVariables false
set_option linter.unusedSimpArgs false
namespace Jvm.Pilot.@@N@@
open Jvm Jvm.ClassFile Sem Op Lib Jvm.Free Jvm.Stand Jvm.LawKit Jvm.RoadKit Bundle Jvm.Pilot.@@N@@.Jvm.D
abbrev oU : Slot := .unset
abbrev oS : Slot := .second
abbrev oN : Slot := .val .null
abbrev oI (x : Int32) : Slot := .val (.int x)
abbrev oJ (x : Int64) : Slot := .val (.long x)
abbrev oR (a : Addr) : Slot := .val (.ref a)
section Own
variable {p : Program} {l : Launch} {e : Env} {R : Room} {s : State} {m : MethodId} {args : Array Value} {below : List Frame} {meth : Method} {c : Code} {T : State} {locs : List Loc} {cells slots : Nat} {Q : Option Value → Heap → List Loc → Prop} {kc ks : Nat} {Z : State} {a0 : Array Value} {h : Heap}
/-- from the state st the body comes to its end, and Q holds there -/
def own_Fin (p : Program) (e : Env) (below : List Frame) (s : State) (Q : Option Value → Heap → List Loc → Prop) (kc ks : Nat) (st : State) : Prop :=
  ∃ s₂ o, Steps p.tables e below st s₂ ∧ s₂.status = .running ∧ Ended s₂ below o ∧ ∃ v L, o = .returned v ∧ Q v s₂.heap L ∧ FrameEnd s o s₂ L kc ks
abbrev own_Go (X : Stand p l e R s m args below meth c T locs cells slots) (Q : Option Value → Heap → List Loc → Prop) (kc ks : Nat) (pc : Nat) (Ls : Array Slot) (S : List Value) : Prop := own_Fin p e below s Q kc ks (T.setTop (mkF m pc Ls S))
theorem own_st {a b : State} (hst : ∀ t, Steps p.tables e below b t → Steps p.tables e below a t) (k : own_Fin p e below s Q kc ks b) : own_Fin p e below s Q kc ks a := by
  obtain ⟨s₂, o, h1, r⟩ := k
  exact ⟨s₂, o, hst _ h1, r⟩
theorem own_cast {g g' : JFrame} (q : g = g') (k : own_Fin p e below s Q kc ks (T.setTop g')) : own_Fin p e below s Q kc ks (T.setTop g) := q ▸ k
theorem own_end (X : Stand p l e R s m args below meth c T locs cells slots) {v : Option Value} {a : State} (hv : meth.sig.returnType = none → v = none) (hlocks : meth.locks = false) (eT : T.heap = h)
    (hs : ∀ fs, (∀ (f : JFrame) (acts : List Action), f.method = m → f.locked = none → f.entered = [] → (doReturn e (T.setTop f) acts v).1 = T.setFrames fs) → Steps p.tables e below a (T.setFrames fs))
    (hc : cells ≤ kc) (hl : slots ≤ ks) (hq : Q v h locs) : own_Fin p e below s Q kc ks a := by
  obtain ⟨fs, hr, hrun, hended, hW, hsame⟩ := X.leave hv hlocks
  exact ⟨_, _, hs fs hr, hrun, hended, _, _, rfl, by show Q v T.heap locs; rw [eT]; exact hq, ⟨_, rfl⟩, hW, hsame.mono hc hl⟩
theorem own_retV (X : Stand p l e R s m args below meth c T locs cells slots) (hx : p.tables.exec = Jvm.exec) (hret : meth.sig.returnType = none) (hlocks : meth.locks = false) (eT : T.heap = h) {pc : Nat} {Ls : Array Slot} (hd : decode c.code pc = .ok (.return_, 1)) (hc : cells ≤ kc) (hl : slots ≤ ks) (hq : Q none h locs) :
    own_Fin p e below s Q kc ks (T.setTop (mkF m pc Ls [])) := own_end X (fun _ => rfl) hlocks eT (fun _ hr => X.returnOut hx hret hd hr) hc hl hq
theorem own_retN (X : Stand p l e R s m args below meth c T locs cells slots) (hx : p.tables.exec = Jvm.exec) {t : FieldType} (hret : meth.sig.returnType = some t) (ht : t = .boolean ∨ t = .byte ∨ t = .char ∨ t = .short) (hlocks : meth.locks = false) (eT : T.heap = h) {pc : Nat} {Ls : Array Slot} {z : Int32} {rest : List Value} (hd : decode c.code pc = .ok (.ireturn, 1)) (hc : cells ≤ kc) (hl : slots ≤ ks) (hq : Q (some (.int (nar t z))) h locs) :
    own_Fin p e below s Q kc ks (T.setTop (mkF m pc Ls (.int z :: rest))) := own_end X (fun h => by rw [hret] at h; cases h) hlocks eT (fun _ hr => retN X hx hret ht hd hr) hc hl hq
theorem own_retI (X : Stand p l e R s m args below meth c T locs cells slots) (hx : p.tables.exec = Jvm.exec) (hret : meth.sig.returnType = some .int) (hlocks : meth.locks = false) (eT : T.heap = h) {pc : Nat} {Ls : Array Slot} {z : Int32} {rest : List Value} (hd : decode c.code pc = .ok (.ireturn, 1)) (hc : cells ≤ kc) (hl : slots ≤ ks) (hq : Q (some (.int z)) h locs) :
    own_Fin p e below s Q kc ks (T.setTop (mkF m pc Ls (.int z :: rest))) := own_end X (fun h => by rw [hret] at h; cases h) hlocks eT (fun _ hr => retOut X hx hret rfl (Or.inl ⟨rfl, Or.inl rfl, _, rfl⟩) hd hr) hc hl hq
theorem own_retJ (X : Stand p l e R s m args below meth c T locs cells slots) (hx : p.tables.exec = Jvm.exec) (hret : meth.sig.returnType = some .long) (hlocks : meth.locks = false) (eT : T.heap = h) {pc : Nat} {Ls : Array Slot} {z : Int64} {rest : List Value} (hd : decode c.code pc = .ok (.lreturn, 1)) (hc : cells ≤ kc) (hl : slots ≤ ks) (hq : Q (some (.long z)) h locs) :
    own_Fin p e below s Q kc ks (T.setTop (mkF m pc Ls (.long z :: rest))) := own_end X (fun h => by rw [hret] at h; cases h) hlocks eT (fun _ hr => retOut X hx hret rfl (Or.inr (Or.inl ⟨rfl, rfl, _, rfl⟩)) hd hr) hc hl hq
theorem own_retA (X : Stand p l e R s m args below meth c T locs cells slots) (hx : p.tables.exec = Jvm.exec) {t : FieldType} (hret : meth.sig.returnType = some t) (ht : t.isReference = true) (hlocks : meth.locks = false) (eT : T.heap = h) {pc : Nat} {Ls : Array Slot} {a : Addr} {rest : List Value} (hd : decode c.code pc = .ok (.areturn, 1)) (hc : cells ≤ kc) (hl : slots ≤ ks) (hq : Q (some (.ref a)) h locs) :
    own_Fin p e below s Q kc ks (T.setTop (mkF m pc Ls (.ref a :: rest))) := own_end X (fun h => by rw [hret] at h; cases h) hlocks eT (fun _ hr => retOut X hx hret (by cases t <;> first | rfl | cases ht) (Or.inr (Or.inr (Or.inr (Or.inr ⟨rfl, ht, rfl⟩)))) hd hr) hc hl hq
theorem own_nar1 : nar .boolean 1 = 1 := by decide
theorem own_nar0 : nar .boolean 0 = 0 := by decide
theorem own_lrem {g : JFrame} {target : State} (X : Stand p l e R s m args below meth c T locs cells slots) (hx : p.tables.exec = Jvm.exec) (hg : g.method = m) {x y : Int64} {rest : List Value} (hd : decode c.code g.pc = .ok (.lrem, 1)) (hs : g.stack = .long y :: .long x :: rest) (hy : y ≠ 0)
    (hr : Steps p.tables e below (T.setTop { g with pc := g.pc + 1, stack := .long (x % y) :: rest }) target) : Steps p.tables e below (T.setTop g) target := by
  have q : x - x / y * y = x % y := lrem_mod x y
  exact XS.lrem X.here hx hg hd hs hy (by rw [q]; exact hr)
/-! the calls -/
variable {y z : MethodName} {bytes : ByteArray} {maxL : Nat} {ret : Option FieldType} {rm : Room} {W : Nat} {as' : Array Value} {Qc : Option Value → Heap → List Loc → Prop} {own C : String} {index : Nat}
theorem own_callS (X : Stand p l e R s m args below meth c T locs cells slots) (hx : p.tables.exec = Jvm.exec) (hZ : Z.Warmed39 s.vm) (hown : s.vm.findClass own = some m.cls)
    (wl : (Cond.methodLink own index y).before a0 Z = true) (ws : (Cond.static y).before a0 Z = true) (wz : (Cond.initialized y.cls).before a0 Z = true) (wc : (Cond.code y bytes maxL ret).before a0 Z = true)
    (hy : y.cls ≠ "java/lang/invoke/MethodHandle" ∧ y.cls ≠ "java/lang/invoke/VarHandle")
    (hM : MetFree l y (head1 [Cond.code y bytes maxL ret] rm) (fun a U => a = as' ∧ Z.Warmed39 U.vm ∧ U.heap = h) (fun _ _ _ _ _ => True) (fun _ U o U' => ∃ v L, o = .returned v ∧ Qc v U'.heap L ∧ FrameEnd U o U' L rm.cells rm.slots))
    (hf : rm.frames + 1 ≤ R.frames) (hl : W + (maxL + 11) + rm.locals ≤ R.locals) {pc : Nat} {Ls : Array Slot} {S : List Value} (hsize : Ls.size = c.maxLocals) (argsL rest : List Value)
    (hlen : ∀ sig, parseMethodDescriptor y.desc = some sig → argsL.length = sig.parameters.length) (hS : S = argsL.reverse ++ rest) (ha : argsL.toArray = as') (hW : (rest.map fun v => v.category).sum ≤ W)
    (hd : decode c.code pc = .ok (.invokestatic index, 3)) (eT : T.heap = h) (hcl : cells + rm.cells ≤ R.cells) (hsl : slots + rm.slots ≤ R.slots)
    (k : ∀ (v : Option Value) (T' : State) (L' : List Loc) (X' : Stand p l e R s m args below meth c T' (locs ++ L') (cells + rm.cells) (slots + rm.slots)), Qc v T'.heap L' → own_Fin p e below s Q kc ks (T'.setTop (mkF m (pc + 3) Ls (v.toList ++ rest)))) :
    own_Fin p e below s Q kc ks (T.setTop (mkF m pc Ls S)) := by
  subst hS
  obtain ⟨v, _, ⟨T', L1, k1, n1⟩, -, X', ⟨L', hQ, l1, y1, z1⟩, st⟩ := Jvm.LawKit.callS X hx (y := y) hown (mvT hZ wl) (mvT hZ ws) (mvT hZ wz) (mvT hZ wc) hy (backOf (W := W) hM hZ wc wz hf hl) (g := mkF m pc Ls (argsL.reverse ++ rest)) rfl hsize (argsL := argsL) (rest := rest) hlen rfl (by show 2 * 0 + _ ≤ _; omega) hd (fun _ _ => ⟨ha, eT, hcl, hsl⟩)
  dsimp only [Pt.U, Pt.locs, Pt.cells, Pt.slots] at X' l1 y1 z1 st hQ
  subst l1 y1 z1
  exact own_st (fun t => st t) (k v T' L' X' hQ)
theorem own_callI (X : Stand p l e R s m args below meth c T locs cells slots) (hx : p.tables.exec = Jvm.exec) (hZ : Z.Warmed39 s.vm) (hown : s.vm.findClass own = some m.cls)
    (wl : (Cond.methodLink own index y).before a0 Z = true) (ws : (Cond.instanceMethod y).before a0 Z = true) (wz : (Cond.initialized y.cls).before a0 Z = true) (wc : (Cond.code y bytes maxL none).before a0 Z = true)
    (hn : y.name = "<init>") (hy : y.cls ≠ "java/lang/invoke/MethodHandle" ∧ y.cls ≠ "java/lang/invoke/VarHandle")
    (hM : MetFree l y (head1 [Cond.code y bytes maxL none] rm) (fun a U => a = as' ∧ Z.Warmed39 U.vm ∧ U.heap = h) (fun _ _ _ _ _ => True) (fun _ U o U' => ∃ v L, o = .returned v ∧ Qc v U'.heap L ∧ FrameEnd U o U' L rm.cells rm.slots))
    (hf : rm.frames + 1 ≤ R.frames) (hl : W + (maxL + 11) + rm.locals ≤ R.locals) {pc : Nat} {Ls : Array Slot} {S : List Value} (hsize : Ls.size = c.maxLocals) (a : Addr) (argsL rest : List Value)
    (hlen : ∀ sig, parseMethodDescriptor y.desc = some sig → argsL.length = sig.parameters.length) (hS : S = argsL.reverse ++ .ref a :: rest) (ha : (Value.ref a :: argsL).toArray = as') (hW : (rest.map fun v => v.category).sum ≤ W)
    (hd : decode c.code pc = .ok (.invokespecial index, 3)) (eT : T.heap = h) (hcl : cells + rm.cells ≤ R.cells) (hsl : slots + rm.slots ≤ R.slots)
    (k : ∀ (v : Option Value) (T' : State) (L' : List Loc) (X' : Stand p l e R s m args below meth c T' (locs ++ L') (cells + rm.cells) (slots + rm.slots)), Qc v T'.heap L' → own_Fin p e below s Q kc ks (T'.setTop (mkF m (pc + 3) Ls (v.toList ++ rest)))) :
    own_Fin p e below s Q kc ks (T.setTop (mkF m pc Ls S)) := by
  subst hS
  obtain ⟨v, _, ⟨T', L1, k1, n1⟩, -, X', ⟨L', hQ, l1, y1, z1⟩, st⟩ := X.specialBack hx (y := y) hn hown (mvT hZ wl) (mvT hZ ws) (mvT hZ wc) hy (backOf (W := W) hM hZ wc wz hf hl) (g := mkF m pc Ls (argsL.reverse ++ .ref a :: rest)) rfl hsize (Steps.refl _) (a := a) (argsL := argsL) (rest := rest) hlen rfl (by show 2 * 0 + _ ≤ _; omega) hd (fun _ _ => ⟨ha, eT, hcl, hsl⟩)
  dsimp only [Pt.U, Pt.locs, Pt.cells, Pt.slots] at X' l1 y1 z1 st hQ
  subst l1 y1 z1
  exact own_st (fun t => st.trans) (k v T' L' X' hQ)
theorem own_callV (X : Stand p l e R s m args below meth c T locs cells slots) (hx : p.tables.exec = Jvm.exec) (hZ : Z.Warmed39 s.vm) (hown : s.vm.findClass own = some m.cls)
    (wl : (Cond.methodLink own index y).before a0 Z = true) (wd : (Cond.declares y).before a0 Z = true) (wsel : (Cond.selects C y y).before a0 Z = true) (ws : (Cond.instanceMethod y).before a0 Z = true) (wz : (Cond.initialized y.cls).before a0 Z = true) (wc : (Cond.code y bytes maxL ret).before a0 Z = true)
    (hy : y.cls ≠ "java/lang/invoke/MethodHandle" ∧ y.cls ≠ "java/lang/invoke/VarHandle")
    (hM : MetFree l y (head1 [Cond.code y bytes maxL ret] rm) (fun a U => a = as' ∧ Z.Warmed39 U.vm ∧ U.heap = h) (fun _ _ _ _ _ => True) (fun _ U o U' => ∃ v L, o = .returned v ∧ Qc v U'.heap L ∧ FrameEnd U o U' L rm.cells rm.slots))
    (hf : rm.frames + 1 ≤ R.frames) (hl : W + (maxL + 11) + rm.locals ≤ R.locals) {pc : Nat} {Ls : Array Slot} {S : List Value} (hsize : Ls.size = c.maxLocals) (a : Addr) (argsL rest : List Value)
    (hlen : ∀ sig, parseMethodDescriptor y.desc = some sig → argsL.length = sig.parameters.length) (hS : S = argsL.reverse ++ .ref a :: rest) (ha : (Value.ref a :: argsL).toArray = as') (hW : (rest.map fun v => v.category).sum ≤ W)
    (hd : decode c.code pc = .ok (.invokevirtual index, 3)) (eT : T.heap = h) (EA : Exa Z h a C) (hcl : cells + rm.cells ≤ R.cells) (hsl : slots + rm.slots ≤ R.slots)
    (k : ∀ (v : Option Value) (T' : State) (L' : List Loc) (X' : Stand p l e R s m args below meth c T' (locs ++ L') (cells + rm.cells) (slots + rm.slots)), Qc v T'.heap L' → own_Fin p e below s Q kc ks (T'.setTop (mkF m (pc + 3) Ls (v.toList ++ rest)))) :
    own_Fin p e below s Q kc ks (T.setTop (mkF m pc Ls S)) := by
  subst hS
  obtain ⟨cq, kq, q1, q2, q3⟩ := isOf hZ eT EA
  obtain ⟨v, _, ⟨T', L1, k1, n1⟩, -, X', ⟨L', hQ, l1, y1, z1⟩, st⟩ := X.virtualBack hx (y := y) (z := y) hown (mvT hZ wl) (mvT hZ wd) (notFace_of_selects (args := #[]) (mvT hZ wsel)) (mvT hZ wsel) (mvT hZ ws) hy (backOf (W := W) hM hZ wc wz hf hl) q1 q3 (g := mkF m pc Ls (argsL.reverse ++ .ref a :: rest)) rfl hsize (Steps.refl _) (argsL := argsL) (rest := rest) hlen rfl (by show 2 * 0 + _ ≤ _; omega) hd (fun _ _ => ⟨ha, eT, hcl, hsl⟩)
  dsimp only [Pt.U, Pt.locs, Pt.cells, Pt.slots] at X' l1 y1 z1 st hQ
  subst l1 y1 z1
  exact own_st (fun t => st.trans) (k v T' L' X' hQ)
/-! arrays -/
variable {a : Addr} {kA : ClassId} {n j x : Int32} {vs : List Value} {dv : Value}
theorem own_stI (X : Stand p l e R s m args below meth c T locs cells slots) (hx : p.tables.exec = Jvm.exec) (hZ : Z.Warmed39 s.vm) (eT : T.heap = h) (V : Arv Z h a kA .int n vs dv) (q : ¬ j < 0 ∧ j < n) (hi : j.toNatClampNeg < vs.length) {g : JFrame} (hg : g.method = m) {rest : List Value} (hs : g.stack = .int x :: .int j :: .ref a :: rest) (hd : decode c.code g.pc = .ok (.iastore, 1)) :
    ∃ T' h', Stand p l e R s m args below meth c T' (locs ++ [⟨a, j.toNatClampNeg⟩]) cells slots ∧ T'.heap = h' ∧ Wr h h' a j.toNatClampNeg (.int x) ∧ Arv Z h' a kA .int n (vs.set j.toNatClampNeg (.int x)) dv ∧ ∀ target, Steps p.tables e below (T'.setTop { g with pc := g.pc + 1, stack := rest }) target → Steps p.tables e below (T.setTop g) target := by
  obtain ⟨cl, Ar, q1, S1, N1, H1, G1⟩ := V
  obtain ⟨T', h', X', e', W', st⟩ := stI X hx hZ eT Ar (inb_of S1 q) hg hs hd
  exact ⟨T', h', X', e', W', Arv.set Ar q1 S1 N1 H1 G1 rfl W' _ rfl hi, st⟩
theorem own_stB (X : Stand p l e R s m args below meth c T locs cells slots) (hx : p.tables.exec = Jvm.exec) (hZ : Z.Warmed39 s.vm) (eT : T.heap = h) (V : Arv Z h a kA .byte n vs dv) (q : ¬ j < 0 ∧ j < n) (hi : j.toNatClampNeg < vs.length) {g : JFrame} (hg : g.method = m) {rest : List Value} (hs : g.stack = .int x :: .int j :: .ref a :: rest) (hd : decode c.code g.pc = .ok (.bastore, 1)) :
    ∃ T' h', Stand p l e R s m args below meth c T' (locs ++ [⟨a, j.toNatClampNeg⟩]) cells slots ∧ T'.heap = h' ∧ Wr h h' a j.toNatClampNeg (.int (nar .byte x)) ∧ Arv Z h' a kA .byte n (vs.set j.toNatClampNeg (.int x.toInt8.toInt32)) dv ∧ ∀ target, Steps p.tables e below (T'.setTop { g with pc := g.pc + 1, stack := rest }) target → Steps p.tables e below (T.setTop g) target := by
  obtain ⟨cl, Ar, q1, S1, N1, H1, G1⟩ := V
  obtain ⟨T', h', X', e', W', st⟩ := stB X hx hZ eT Ar (inb_of S1 q) hg hs hd
  exact ⟨T', h', X', e', W', Arv.set Ar q1 S1 N1 H1 G1 (fits_nar_byte x) W' _ rfl hi, st⟩
theorem own_stJ {x : Int64} (X : Stand p l e R s m args below meth c T locs cells slots) (hx : p.tables.exec = Jvm.exec) (hZ : Z.Warmed39 s.vm) (eT : T.heap = h) (V : Arv Z h a kA .long n vs dv) (q : ¬ j < 0 ∧ j < n) (hi : j.toNatClampNeg < vs.length) {g : JFrame} (hg : g.method = m) {rest : List Value} (hs : g.stack = .long x :: .int j :: .ref a :: rest) (hd : decode c.code g.pc = .ok (.lastore, 1)) :
    ∃ T' h', Stand p l e R s m args below meth c T' (locs ++ [⟨a, j.toNatClampNeg⟩]) cells slots ∧ T'.heap = h' ∧ Wr h h' a j.toNatClampNeg (.long x) ∧ Arv Z h' a kA .long n (vs.set j.toNatClampNeg (.long x)) dv ∧ ∀ target, Steps p.tables e below (T'.setTop { g with pc := g.pc + 1, stack := rest }) target → Steps p.tables e below (T.setTop g) target := by
  obtain ⟨cl, Ar, q1, S1, N1, H1, G1⟩ := V
  obtain ⟨T', h', X', e', W', st⟩ := stJ X hx hZ eT Ar (inb_of S1 q) hg hs hd
  exact ⟨T', h', X', e', W', Arv.set Ar q1 S1 N1 H1 G1 rfl W' _ rfl hi, st⟩
theorem own_ldI (X : Stand p l e R s m args below meth c T locs cells slots) (hx : p.tables.exec = Jvm.exec) (hZ : Z.Warmed39 s.vm) (eT : T.heap = h) (V : Arv Z h a kA .int n vs dv) (q : ¬ j < 0 ∧ j < n) {v : Value} (hv : vs.getD j.toNatClampNeg dv = v) {g : JFrame} (hg : g.method = m) {rest : List Value} (hs : g.stack = .int j :: .ref a :: rest) (hd : decode c.code g.pc = .ok (.iaload, 1)) :
    ∀ target, Steps p.tables e below (T.setTop { g with pc := g.pc + 1, stack := v :: rest }) target → Steps p.tables e below (T.setTop g) target := by
  obtain ⟨cl, Ar, q1, S1, N1, H1, G1⟩ := V
  exact X.iaload hx (by rw [eT]; exact Ar.1) (State.isArrayOf_alike hZ.alike Ar.2.1) Ar.2.2 (inb_of S1 q) (H1.at (inb_of S1 q) hv) hg hs hd
theorem own_ldB (X : Stand p l e R s m args below meth c T locs cells slots) (hx : p.tables.exec = Jvm.exec) (hZ : Z.Warmed39 s.vm) (eT : T.heap = h) (V : Arv Z h a kA .byte n vs dv) (q : ¬ j < 0 ∧ j < n) {v : Value} (hv : vs.getD j.toNatClampNeg dv = v) {g : JFrame} (hg : g.method = m) {rest : List Value} (hs : g.stack = .int j :: .ref a :: rest) (hd : decode c.code g.pc = .ok (.baload, 1)) :
    ∀ target, Steps p.tables e below (T.setTop { g with pc := g.pc + 1, stack := v :: rest }) target → Steps p.tables e below (T.setTop g) target := by
  obtain ⟨cl, Ar, q1, S1, N1, H1, G1⟩ := V
  exact X.baloadBytes hx (by rw [eT]; exact Ar.1) (State.isArrayOf_alike hZ.alike Ar.2.1) Ar.2.2 (inb_of S1 q) (H1.at (inb_of S1 q) hv) hg hs hd
theorem own_ldJ (X : Stand p l e R s m args below meth c T locs cells slots) (hx : p.tables.exec = Jvm.exec) (hZ : Z.Warmed39 s.vm) (eT : T.heap = h) (V : Arv Z h a kA .long n vs dv) (q : ¬ j < 0 ∧ j < n) {v : Value} (hv : vs.getD j.toNatClampNeg dv = v) {g : JFrame} (hg : g.method = m) {rest : List Value} (hs : g.stack = .int j :: .ref a :: rest) (hd : decode c.code g.pc = .ok (.laload, 1)) :
    ∀ target, Steps p.tables e below (T.setTop { g with pc := g.pc + 1, stack := v :: rest }) target → Steps p.tables e below (T.setTop g) target := by
  obtain ⟨cl, Ar, q1, S1, N1, H1, G1⟩ := V
  exact X.laload hx (by rw [eT]; exact Ar.1) (State.isArrayOf_alike hZ.alike Ar.2.1) Ar.2.2 (inb_of S1 q) (H1.at (inb_of S1 q) hv) hg hs hd
theorem own_len {ty : FieldType} (X : Stand p l e R s m args below meth c T locs cells slots) (hx : p.tables.exec = Jvm.exec) (hZ : Z.Warmed39 s.vm) (eT : T.heap = h) (V : Arv Z h a kA ty n vs dv) {g : JFrame} (hg : g.method = m) {rest : List Value} (hs : g.stack = .ref a :: rest) (hd : decode c.code g.pc = .ok (.arraylength, 1)) :
    ∀ target, Steps p.tables e below (T.setTop { g with pc := g.pc + 1, stack := .int n :: rest }) target → Steps p.tables e below (T.setTop g) target := by
  obtain ⟨cl, Ar, q1, S1, N1, H1, G1⟩ := V
  intro t k
  refine X.arraylength hx (by rw [eT]; exact Ar.1) (State.isArrayOf_alike hZ.alike Ar.2.1) hg hs hd t ?_
  rw [len_of S1 N1]; exact k
end Own

def own_low (len i : Int32) : Int64 := ((8 : Int64) * ((len - (1 : Int32)) - i).toInt64)
def own_bey (len bits i : Int32) : Int32 := if own_low len i < bits.toInt64 then (bits.toInt64 - own_low len i).toInt32 else 0
def own_one (b len bits i : Int32) : Int32 := if own_bey len bits i < (8 : Int32) then (if ((b &&& (255 : Int32)) >>> ((own_bey len bits i) &&& 31)) = (0 : Int32) then 1 else 0) else 1
def own_fb0 (bits : Int32) : Int32 := 1
def own_fb1 (x0 bits : Int32) : Int32 := own_one x0 1 bits 0
def own_fb2 (x0 x1 bits : Int32) : Int32 := if own_one x0 2 bits 0 = (0 : Int32) then 0 else own_one x1 2 bits 1
def own_fb3 (x0 x1 x2 bits : Int32) : Int32 := if own_one x0 3 bits 0 = (0 : Int32) then 0 else if own_one x1 3 bits 1 = (0 : Int32) then 0 else own_one x2 3 bits 2
def own_fb4 (x0 x1 x2 x3 bits : Int32) : Int32 := if own_one x0 4 bits 0 = (0 : Int32) then 0 else if own_one x1 4 bits 1 = (0 : Int32) then 0 else if own_one x2 4 bits 2 = (0 : Int32) then 0 else own_one x3 4 bits 3
theorem own_oneb (b len bits i : Int32) : nar .boolean (own_one b len bits i) = own_one b len bits i := by
  unfold own_one
  repeat' split
  all_goals rfl
theorem own_bvn {b : Int32} {n : Nat} (h : b.toInt = n) : b.toBitVec.toNat = n := by
  have h2 : b.toBitVec.toInt = n := h
  rw [BitVec.toInt_eq_toNat_cond] at h2
  have := b.toBitVec.isLt
  split at h2 <;> omega
theorem own_beyv {len bits i : Int32} {m : Nat} (hm : (own_low len i).toInt = m) (hm' : m ≤ 24) : (own_bey len bits i).toInt = ((bits.toInt.toNat - m : Nat) : Int) := by
  have r := rng32 bits
  have c := c_i2l bits
  unfold own_bey
  split
  · rename_i q
    rw [Int64.lt_iff_toInt_lt, c, hm] at q
    have s := c_lsub bits.toInt64 (own_low len i)
    have r2 := rng64 (bits.toInt64 - own_low len i)
    rw [c, hm] at s
    rw [Int64.toInt_toInt32, Int.bmod_eq_of_le (by omega) (by omega)]
    omega
  · rename_i q
    rw [Int64.lt_iff_toInt_lt, c, hm] at q
    have e : (0 : Int32).toInt = 0 := by decide
    rw [e]
    omega
theorem own_255 (b : Int32) : 0 ≤ (b &&& (255 : Int32)).toInt ∧ (b &&& (255 : Int32)).toInt < 256 := by
  have h1 := c_mask b 255 8 (by decide) (by decide)
  omega
theorem own_onev {b len bits i : Int32} {m B : Nat} (hm : (own_low len i).toInt = m) (hm' : m ≤ 24) (hB : (b &&& (255 : Int32)).toInt = B) : own_one b len bits i = if B < 2 ^ (bits.toInt.toNat - m) then 1 else 0 := by
  have e := own_beyv (bits := bits) hm hm'
  have h255 := own_255 b
  have e8 : (8 : Int32).toInt = 8 := by decide
  unfold own_one
  by_cases q : own_bey len bits i < (8 : Int32)
  · rw [if_pos q]
    rw [Int32.lt_iff_toInt_lt, e, e8] at q
    have hs := c_ishr (b &&& (255 : Int32)) (own_bey len bits i) (bits.toInt.toNat - m) (by rw [own_bvn e]; omega)
    have hz : (((b &&& (255 : Int32)) >>> ((own_bey len bits i) &&& 31)) = (0 : Int32)) ↔ B < 2 ^ (bits.toInt.toNat - m) := by
      have e0 : (0 : Int32).toInt = 0 := by decide
      rw [← Int32.toInt_inj, hs, hB, e0, ← Int.natCast_ediv]
      constructor
      · intro z
        have z' : B / 2 ^ (bits.toInt.toNat - m) = 0 := by omega
        exact (Nat.div_eq_zero_iff_lt (Nat.pow_pos (by decide))).mp z'
      · intro z
        rw [Nat.div_eq_of_lt z]; rfl
    by_cases c : B < 2 ^ (bits.toInt.toNat - m)
    · rw [if_pos c, if_pos (hz.mpr c)]
    · rw [if_neg c, if_neg (fun z => c (hz.mp z))]
  · rw [if_neg q]
    rw [Int32.lt_iff_toInt_lt, e, e8] at q
    have : 2 ^ 8 ≤ 2 ^ (bits.toInt.toNat - m) := Nat.pow_le_pow_right (by decide) (by omega)
    rw [if_pos (by omega)]
theorem own_and {P Q : Prop} [Decidable P] [Decidable Q] {a b : Int32} (ha : a = if P then 1 else 0) (hb : b = if Q then 1 else 0) : (if a = (0 : Int32) then (0 : Int32) else b) = if P ∧ Q then 1 else 0 := by
  subst ha hb
  by_cases p : P <;> by_cases q : Q <;> simp [p, q]
theorem own_nat {B r low n : Nat} (hr : r < 2 ^ low) : B * 2 ^ low + r < 2 ^ n ↔ (B < 2 ^ (n - low) ∧ r < 2 ^ n) := by
  by_cases h : low ≤ n
  · have e : 2 ^ n = 2 ^ (n - low) * 2 ^ low := by rw [← Nat.pow_add]; congr 1; omega
    have l : 2 ^ low ≤ 2 ^ n := Nat.pow_le_pow_right (by decide) h
    constructor
    · intro q
      refine ⟨?_, by omega⟩
      rw [e] at q
      exact Nat.lt_of_mul_lt_mul_right (a := 2 ^ low) (by omega)
    · rintro ⟨q, -⟩
      have : (B + 1) * 2 ^ low ≤ 2 ^ (n - low) * 2 ^ low := Nat.mul_le_mul_right _ q
      rw [Nat.add_mul, Nat.one_mul] at this
      omega
  · have e : n - low = 0 := by omega
    have l : 2 ^ n ≤ 2 ^ low := Nat.pow_le_pow_right (by decide) (by omega)
    rw [e, Nat.pow_zero]
    constructor
    · intro q
      have : B = 0 := by
        rcases Nat.eq_zero_or_pos B with z | z
        · exact z
        · have : 2 ^ low ≤ B * 2 ^ low := Nat.le_mul_of_pos_left _ z
          omega
      subst this
      omega
    · rintro ⟨q, q'⟩
      have : B = 0 := by omega
      subst this
      omega
theorem own_if {P Q : Prop} [Decidable P] [Decidable Q] (h : P ↔ Q) : (if P then (1 : Int32) else 0) = if Q then 1 else 0 := by
  by_cases q : Q
  · rw [if_pos q, if_pos (h.mpr q)]
  · rw [if_neg q, if_neg (fun z => q (h.mp z))]
theorem own_f1 {x0 bits : Int32} {B0 V : Nat} (h0 : (x0 &&& (255 : Int32)).toInt = B0) (hV : V = B0) : own_fb1 x0 bits = if V < 2 ^ bits.toInt.toNat then 1 else 0 := by
  subst hV
  exact own_onev (m := 0) (by decide) (by decide) h0
theorem own_f2 {x0 x1 bits : Int32} {B0 B1 V : Nat} (h0 : (x0 &&& (255 : Int32)).toInt = B0) (h1 : (x1 &&& (255 : Int32)).toInt = B1) (hV : V = B0 * 2 ^ 8 + B1) : own_fb2 x0 x1 bits = if V < 2 ^ bits.toInt.toNat then 1 else 0 := by
  subst hV
  have k1 := own_255 x1
  refine (own_and (own_onev (m := 8) (by decide) (by decide) h0) (own_onev (m := 0) (by decide) (by decide) h1)).trans (own_if ?_)
  rw [own_nat (low := 8) (by omega), Nat.sub_zero]
theorem own_f3 {x0 x1 x2 bits : Int32} {B0 B1 B2 V : Nat} (h0 : (x0 &&& (255 : Int32)).toInt = B0) (h1 : (x1 &&& (255 : Int32)).toInt = B1) (h2 : (x2 &&& (255 : Int32)).toInt = B2) (hV : V = B0 * 2 ^ 16 + (B1 * 2 ^ 8 + B2)) : own_fb3 x0 x1 x2 bits = if V < 2 ^ bits.toInt.toNat then 1 else 0 := by
  subst hV
  have k1 := own_255 x1
  have k2 := own_255 x2
  refine (own_and (own_onev (m := 16) (by decide) (by decide) h0) (own_and (own_onev (m := 8) (by decide) (by decide) h1) (own_onev (m := 0) (by decide) (by decide) h2))).trans (own_if ?_)
  rw [own_nat (low := 16) (by omega), own_nat (low := 8) (by omega), Nat.sub_zero]
theorem own_f4 {x0 x1 x2 x3 bits : Int32} {B0 B1 B2 B3 V : Nat} (h0 : (x0 &&& (255 : Int32)).toInt = B0) (h1 : (x1 &&& (255 : Int32)).toInt = B1) (h2 : (x2 &&& (255 : Int32)).toInt = B2) (h3 : (x3 &&& (255 : Int32)).toInt = B3) (hV : V = B0 * 2 ^ 24 + (B1 * 2 ^ 16 + (B2 * 2 ^ 8 + B3))) : own_fb4 x0 x1 x2 x3 bits = if V < 2 ^ bits.toInt.toNat then 1 else 0 := by
  subst hV
  have k1 := own_255 x1
  have k2 := own_255 x2
  have k3 := own_255 x3
  refine (own_and (own_onev (m := 24) (by decide) (by decide) h0) (own_and (own_onev (m := 16) (by decide) (by decide) h1) (own_and (own_onev (m := 8) (by decide) (by decide) h2) (own_onev (m := 0) (by decide) (by decide) h3)))).trans (own_if ?_)
  rw [own_nat (low := 24) (by omega), own_nat (low := 16) (by omega), own_nat (low := 8) (by omega), Nat.sub_zero]
theorem own_hor {u : Int64} {b : Int32} {U : Int} (hu : u.toInt = U) (h0 : 0 ≤ U) (h1 : U < 16777216) (hb : 0 ≤ b.toInt ∧ b.toInt < 256) : ((u <<< ((8 : Int32) &&& 0x3f).toInt64) ||| b.toInt64).toInt = U * 256 + b.toInt := by
  have m := c_lshl u 8 8 (by decide)
  have r := rng64 (u <<< ((8 : Int32) &&& 0x3f).toInt64)
  have i := c_i2l b
  rw [hu] at m
  have m' : (u <<< ((8 : Int32) &&& 0x3f).toInt64).toInt = U * 256 := by omega
  have a := c_orL (u <<< ((8 : Int32) &&& 0x3f).toInt64) b.toInt64 8 (by decide) 256 (by decide) (by rw [m']; omega) (by omega) (by omega)
  have r2 := rng64 ((u <<< ((8 : Int32) &&& 0x3f).toInt64) ||| b.toInt64)
  rw [m', i] at a
  omega
theorem own_len5 {a l : Int32} (h : (a &&& (7 : Int32)) % (5 : Int32) = l) : l = 0 ∨ l = 1 ∨ l = 2 ∨ l = 3 ∨ l = 4 := by
  subst h
  have h1 := c_mask a 7 3 (by decide) (by decide)
  have h2 := (c_irem (a &&& (7 : Int32)) 5 5 (by decide)).1 (by omega)
  have e0 : (0 : Int32).toInt = 0 := by decide
  have e1 : (1 : Int32).toInt = 1 := by decide
  have e2 : (2 : Int32).toInt = 2 := by decide
  have e3 : (3 : Int32).toInt = 3 := by decide
  have e4 : (4 : Int32).toInt = 4 := by decide
  simp only [← Int32.toInt_inj, e0, e1, e2, e3, e4]
  omega
/-- the law's own word, as a comparison with a power of two -/
theorem own_le0 {W : Int64} {bits : Int32} {U : Nat} (hW : W.toInt = U) (h : ¬ (0 : Int32) < bits) : (U < 2 ^ bits.toInt.toNat ↔ W = (0 : Int64)) := by
  rw [Int32.lt_iff_toInt_lt] at h
  have e0 : (0 : Int32).toInt = 0 := by decide
  have e : bits.toInt.toNat = 0 := by omega
  have z : (0 : Int64).toInt = 0 := by decide
  rw [e, ← Int64.toInt_inj, hW, z, Nat.pow_zero]
  omega
theorem own_ge40 {bits : Int32} {U : Nat} (hU : U < 4294967296) (h : ¬ bits < (40 : Int32)) : U < 2 ^ bits.toInt.toNat := by
  rw [Int32.lt_iff_toInt_lt] at h
  have e0 : (40 : Int32).toInt = 40 := by decide
  have : 2 ^ 40 ≤ 2 ^ bits.toInt.toNat := Nat.pow_le_pow_right (by decide) (by omega)
  omega
theorem own_mid {W : Int64} {bits : Int32} {U : Nat} (hW : W.toInt = U) (hU : U < 4294967296) (h0 : (0 : Int32) < bits) (h : bits < (40 : Int32)) : (U < 2 ^ bits.toInt.toNat ↔ ((W.toUInt64 >>> (bits &&& 0x3f).toInt64.toUInt64).toInt64) = (0 : Int64)) := by
  rw [Int32.lt_iff_toInt_lt] at h h0
  have e0 : (40 : Int32).toInt = 40 := by decide
  have e1 : (0 : Int32).toInt = 0 := by decide
  have z : (0 : Int64).toInt = 0 := by decide
  have hb : bits.toInt = (bits.toInt.toNat : Int) := by omega
  have s := c_lushr W bits bits.toInt.toNat (by rw [own_bvn hb]; omega) (by omega)
  rw [← Int64.toInt_inj, s, hW, z, Int.emod_eq_of_lt (by omega) (by omega), ← Int.natCast_ediv]
  constructor
  · intro q
    rw [Nat.div_eq_of_lt q]; rfl
  · intro q
    have q' : U / 2 ^ bits.toInt.toNat = 0 := by omega
    exact (Nat.div_eq_zero_iff_lt (Nat.pow_pos (by decide))).mp q'
theorem d10_0 : decode prog_64_method_12_code 0 = .ok (.iconst 1, 1) := by decide +kernel
theorem d10_1 : decode prog_64_method_12_code 1 = .ok (.istore_n 3, 1) := by decide +kernel
theorem d10_2 : decode prog_64_method_12_code 2 = .ok (.iconst 0, 1) := by decide +kernel
theorem d10_3 : decode prog_64_method_12_code 3 = .ok (.istore 4, 2) := by decide +kernel
theorem d10_5 : decode prog_64_method_12_code 5 = .ok (.iload 4, 2) := by decide +kernel
theorem d10_7 : decode prog_64_method_12_code 7 = .ok (.iload_n 1, 1) := by decide +kernel
theorem d10_8 : decode prog_64_method_12_code 8 = .ok (.if_icmp .ge 73, 3) := by decide +kernel
theorem d10_81 : decode prog_64_method_12_code 81 = .ok (.iload_n 3, 1) := by decide +kernel
theorem d10_82 : decode prog_64_method_12_code 82 = .ok (.ireturn, 1) := by decide +kernel
theorem pn_10 : plainName "com/example/wide_berth/wideberth/postgres/Literals" = true := by first | (simp [plainName, overriddenIn]; done) | decide +kernel
theorem ef_10 (m : MethodId) (r0 : Addr) (p2 : Int32) : entryFrame m #[(.ref r0), (.int (0 : Int32)), (.int p2)] 8 = mkF m 0 #[.val (.ref r0), .val (.int (0 : Int32)), .val (.int p2), .unset, .unset, .unset, .unset, .unset] [] := by first | (simp [entryFrame, mkF, argsToLocals, Value.category]; done) | rfl
def Q10 (Z : State) (r0 : Addr) (p2 : Int32) (kA : ClassId) (x0 x1 x2 x3 : Int32) (h0 : Heap) (n0 : Nat) (v : Option Value) (h : Heap) (L : List Loc) : Prop := v = some (.int (own_fb0 p2)) ∧ Fr n0 L ∧ h = h0
set_option maxRecDepth 65536 in
set_option maxHeartbeats 40000000 in
theorem rm10 (l : Launch) (Z : State) (a0 : Array Value) (hw : ∀ d ∈ tables_1, d.before a0 Z = true) (ws : List Jvm.Cond) (r0 : Addr) (p2 : Int32) (kA : ClassId) (x0 x1 x2 x3 : Int32) (h0 : Heap) (n0 : Nat) (Z0 : n0 ≤ h0.size) (PV : Arv Z h0 r0 kA .byte (4 : Int32) [(.int x0), (.int x1), (.int x2), (.int x3)] (.int (0 : Int32))) :
    MetFree l (⟨"com/example/wide_berth/wideberth/postgres/Literals", "fitsBits", "([BII)Z"⟩ : MethodName) (head1 (Jvm.Cond.code (⟨"com/example/wide_berth/wideberth/postgres/Literals", "fitsBits", "([BII)Z"⟩ : MethodName) prog_64_method_12_code 8 (some .boolean) :: ws) ({ frames := 0, cells := 0, slots := 0, locals := 0 } : Room)) (fun a U => a = #[(.ref r0), (.int (0 : Int32)), (.int p2)] ∧ Z.Warmed39 U.vm ∧ U.heap = h0) (fun _ _ _ _ _ => True) (fun _ U o U' => ∃ v L, o = .returned v ∧ Q10 Z r0 p2 kA x0 x1 x2 x3 h0 n0 v U'.heap L ∧ FrameEnd U o U' L ({ frames := 0, cells := 0, slots := 0, locals := 0 } : Room).cells ({ frames := 0, cells := 0, slots := 0, locals := 0 } : Room).slots) := by
  refine MetFree.of_bodySF (plainFor_of_name pn_10) hisR ?_
  intro p e s m args below meth c s₁ Bd hml0 hP hK
  obtain ⟨rfl, hZ, hh⟩ := hP
  have hx := Bd.exec
  have hby := Bd.bytes
  have hml : c.maxLocals = 8 := hml0
  have hown : s.vm.findClass "com/example/wide_berth/wideberth/postgres/Literals" = some m.cls := findClass_of_methodNamed Bd.named
  have hnm := (name_of_methodNamed Bd.named Bd.method).1
  have hlk : meth.locks = false := Bd.notSynchronized
  have X0 : Stand p l e ({ frames := 0, cells := 0, slots := 0, locals := 0 } : Room) s m #[(.ref r0), (.int (0 : Int32)), (.int p2)] below meth c s₁ [] 0 0 := Stand.of_body Bd
  have e0 : s₁.heap = h0 := by rw [← hh, Bd.state]; rfl
  have N0 := Fr.nil n0
  refine own_cast (Q := Q10 Z r0 p2 kA x0 x1 x2 x3 h0 n0) (kc := 0) (ks := 0) (ef_10 m r0 p2) ?_
  refine own_st (fun _ k => XS.iconst X0.here hx rfl (hb hby d10_0) k) ?_
  show own_Go X0 (Q10 Z r0 p2 kA x0 x1 x2 x3 h0 n0) 0 0 1 #[.val (.ref r0), .val (.int (0 : Int32)), .val (.int p2), .unset, .unset, .unset, .unset, .unset] [(.int (1 : Int32))]
  refine own_st (fun _ k => XS.istoreN X0.here hx rfl (hb hby d10_1) rfl (l' := #[.val (.ref r0), .val (.int (0 : Int32)), .val (.int p2), .val (.int (1 : Int32)), .unset, .unset, .unset, .unset]) rfl k) ?_
  show own_Go X0 (Q10 Z r0 p2 kA x0 x1 x2 x3 h0 n0) 0 0 2 #[.val (.ref r0), .val (.int (0 : Int32)), .val (.int p2), .val (.int (1 : Int32)), .unset, .unset, .unset, .unset] []
  refine own_st (fun _ k => XS.iconst X0.here hx rfl (hb hby d10_2) k) ?_
  show own_Go X0 (Q10 Z r0 p2 kA x0 x1 x2 x3 h0 n0) 0 0 3 #[.val (.ref r0), .val (.int (0 : Int32)), .val (.int p2), .val (.int (1 : Int32)), .unset, .unset, .unset, .unset] [(.int (0 : Int32))]
  refine own_st (fun _ k => XS.istore X0.here hx rfl (hb hby d10_3) rfl (l' := #[.val (.ref r0), .val (.int (0 : Int32)), .val (.int p2), .val (.int (1 : Int32)), .val (.int (0 : Int32)), .unset, .unset, .unset]) rfl k) ?_
  show own_Go X0 (Q10 Z r0 p2 kA x0 x1 x2 x3 h0 n0) 0 0 5 #[.val (.ref r0), .val (.int (0 : Int32)), .val (.int p2), .val (.int (1 : Int32)), .val (.int (0 : Int32)), .unset, .unset, .unset] []
  refine own_st (fun _ k => XS.iload X0.here hx rfl (hb hby d10_5) rfl k) ?_
  show own_Go X0 (Q10 Z r0 p2 kA x0 x1 x2 x3 h0 n0) 0 0 7 #[.val (.ref r0), .val (.int (0 : Int32)), .val (.int p2), .val (.int (1 : Int32)), .val (.int (0 : Int32)), .unset, .unset, .unset] [(.int (0 : Int32))]
  refine own_st (fun _ k => XS.iloadN X0.here hx rfl (hb hby d10_7) rfl k) ?_
  show own_Go X0 (Q10 Z r0 p2 kA x0 x1 x2 x3 h0 n0) 0 0 8 #[.val (.ref r0), .val (.int (0 : Int32)), .val (.int p2), .val (.int (1 : Int32)), .val (.int (0 : Int32)), .unset, .unset, .unset] [(.int (0 : Int32)), (.int (0 : Int32))]
  have c8_1 : ¬ ((0 : Int32) < (0 : Int32)) := (by decide)
  refine own_st (fun _ k => XS.icmpYes X0.here hx rfl (pc0 := 8) (pc' := 81) rfl (hb hby d10_8) rfl (flt c8_1).2.1 (by decide) (by decide) k) ?_
  show own_Go X0 (Q10 Z r0 p2 kA x0 x1 x2 x3 h0 n0) 0 0 81 #[.val (.ref r0), .val (.int (0 : Int32)), .val (.int p2), .val (.int (1 : Int32)), .val (.int (0 : Int32)), .unset, .unset, .unset] []
  refine own_st (fun _ k => XS.iloadN X0.here hx rfl (hb hby d10_81) rfl k) ?_
  show own_Go X0 (Q10 Z r0 p2 kA x0 x1 x2 x3 h0 n0) 0 0 82 #[.val (.ref r0), .val (.int (0 : Int32)), .val (.int p2), .val (.int (1 : Int32)), .val (.int (0 : Int32)), .unset, .unset, .unset] [(.int (1 : Int32))]
  refine own_retN X0 hx Bd.returns (by simp) hlk e0 (hb hby d10_82) (by decide) (by decide) ?_
  have hr : (own_fb0 p2) = (1 : Int32) := by rfl
  exact ⟨by rw [hr]; rfl, N0, rfl⟩
theorem d11_0 : decode prog_64_method_12_code 0 = .ok (.iconst 1, 1) := by decide +kernel
theorem d11_1 : decode prog_64_method_12_code 1 = .ok (.istore_n 3, 1) := by decide +kernel
theorem d11_2 : decode prog_64_method_12_code 2 = .ok (.iconst 0, 1) := by decide +kernel
theorem d11_3 : decode prog_64_method_12_code 3 = .ok (.istore 4, 2) := by decide +kernel
theorem d11_5 : decode prog_64_method_12_code 5 = .ok (.iload 4, 2) := by decide +kernel
theorem d11_7 : decode prog_64_method_12_code 7 = .ok (.iload_n 1, 1) := by decide +kernel
theorem d11_8 : decode prog_64_method_12_code 8 = .ok (.if_icmp .ge 73, 3) := by decide +kernel
theorem d11_11 : decode prog_64_method_12_code 11 = .ok (.iload_n 3, 1) := by decide +kernel
theorem d11_12 : decode prog_64_method_12_code 12 = .ok (.ifCond .eq 69, 3) := by decide +kernel
theorem d11_15 : decode prog_64_method_12_code 15 = .ok (.ldc2_w 112, 3) := by decide +kernel
theorem d11_18 : decode prog_64_method_12_code 18 = .ok (.iload_n 1, 1) := by decide +kernel
theorem d11_19 : decode prog_64_method_12_code 19 = .ok (.iconst 1, 1) := by decide +kernel
theorem d11_20 : decode prog_64_method_12_code 20 = .ok (.isub, 1) := by decide +kernel
theorem d11_21 : decode prog_64_method_12_code 21 = .ok (.iload 4, 2) := by decide +kernel
theorem d11_23 : decode prog_64_method_12_code 23 = .ok (.isub, 1) := by decide +kernel
theorem d11_24 : decode prog_64_method_12_code 24 = .ok (.i2l, 1) := by decide +kernel
theorem d11_25 : decode prog_64_method_12_code 25 = .ok (.lmul, 1) := by decide +kernel
theorem d11_26 : decode prog_64_method_12_code 26 = .ok (.lstore 5, 2) := by decide +kernel
theorem d11_28 : decode prog_64_method_12_code 28 = .ok (.lload 5, 2) := by decide +kernel
theorem d11_30 : decode prog_64_method_12_code 30 = .ok (.iload_n 2, 1) := by decide +kernel
theorem d11_31 : decode prog_64_method_12_code 31 = .ok (.i2l, 1) := by decide +kernel
theorem d11_32 : decode prog_64_method_12_code 32 = .ok (.lcmp, 1) := by decide +kernel
theorem d11_33 : decode prog_64_method_12_code 33 = .ok (.ifCond .lt 7, 3) := by decide +kernel
theorem d11_36 : decode prog_64_method_12_code 36 = .ok (.iconst 0, 1) := by decide +kernel
theorem d11_37 : decode prog_64_method_12_code 37 = .ok (.goto 9, 3) := by decide +kernel
theorem d11_40 : decode prog_64_method_12_code 40 = .ok (.iload_n 2, 1) := by decide +kernel
theorem d11_41 : decode prog_64_method_12_code 41 = .ok (.i2l, 1) := by decide +kernel
theorem d11_42 : decode prog_64_method_12_code 42 = .ok (.lload 5, 2) := by decide +kernel
theorem d11_44 : decode prog_64_method_12_code 44 = .ok (.lsub, 1) := by decide +kernel
theorem d11_45 : decode prog_64_method_12_code 45 = .ok (.l2i, 1) := by decide +kernel
theorem d11_46 : decode prog_64_method_12_code 46 = .ok (.istore 7, 2) := by decide +kernel
theorem d11_48 : decode prog_64_method_12_code 48 = .ok (.iload 7, 2) := by decide +kernel
theorem d11_50 : decode prog_64_method_12_code 50 = .ok (.bipush 8, 2) := by decide +kernel
theorem d11_52 : decode prog_64_method_12_code 52 = .ok (.if_icmp .ge 17, 3) := by decide +kernel
theorem d11_55 : decode prog_64_method_12_code 55 = .ok (.aload_n 0, 1) := by decide +kernel
theorem d11_56 : decode prog_64_method_12_code 56 = .ok (.iload 4, 2) := by decide +kernel
theorem d11_58 : decode prog_64_method_12_code 58 = .ok (.baload, 1) := by decide +kernel
theorem d11_59 : decode prog_64_method_12_code 59 = .ok (.sipush 255, 3) := by decide +kernel
theorem d11_62 : decode prog_64_method_12_code 62 = .ok (.iand, 1) := by decide +kernel
theorem d11_63 : decode prog_64_method_12_code 63 = .ok (.iload 7, 2) := by decide +kernel
theorem d11_65 : decode prog_64_method_12_code 65 = .ok (.ishr, 1) := by decide +kernel
theorem d11_66 : decode prog_64_method_12_code 66 = .ok (.ifCond .ne 7, 3) := by decide +kernel
theorem d11_69 : decode prog_64_method_12_code 69 = .ok (.iconst 1, 1) := by decide +kernel
theorem d11_70 : decode prog_64_method_12_code 70 = .ok (.goto 4, 3) := by decide +kernel
theorem d11_73 : decode prog_64_method_12_code 73 = .ok (.iconst 0, 1) := by decide +kernel
theorem d11_74 : decode prog_64_method_12_code 74 = .ok (.istore_n 3, 1) := by decide +kernel
theorem d11_75 : decode prog_64_method_12_code 75 = .ok (.iinc 4 1, 3) := by decide +kernel
theorem d11_78 : decode prog_64_method_12_code 78 = .ok (.goto (-73), 3) := by decide +kernel
theorem d11_81 : decode prog_64_method_12_code 81 = .ok (.iload_n 3, 1) := by decide +kernel
theorem d11_82 : decode prog_64_method_12_code 82 = .ok (.ireturn, 1) := by decide +kernel
theorem pn_11 : plainName "com/example/wide_berth/wideberth/postgres/Literals" = true := by first | (simp [plainName, overriddenIn]; done) | decide +kernel
theorem ef_11 (m : MethodId) (r0 : Addr) (p2 : Int32) : entryFrame m #[(.ref r0), (.int (1 : Int32)), (.int p2)] 8 = mkF m 0 #[.val (.ref r0), .val (.int (1 : Int32)), .val (.int p2), .unset, .unset, .unset, .unset, .unset] [] := by first | (simp [entryFrame, mkF, argsToLocals, Value.category]; done) | rfl
def Q11 (Z : State) (r0 : Addr) (p2 : Int32) (kA : ClassId) (x0 x1 x2 x3 : Int32) (h0 : Heap) (n0 : Nat) (v : Option Value) (h : Heap) (L : List Loc) : Prop := v = some (.int (own_fb1 x0 p2)) ∧ Fr n0 L ∧ h = h0
set_option maxRecDepth 65536 in
set_option maxHeartbeats 40000000 in
theorem rm11 (l : Launch) (Z : State) (a0 : Array Value) (hw : ∀ d ∈ tables_1, d.before a0 Z = true) (ws : List Jvm.Cond) (r0 : Addr) (p2 : Int32) (kA : ClassId) (x0 x1 x2 x3 : Int32) (h0 : Heap) (n0 : Nat) (Z0 : n0 ≤ h0.size) (PV : Arv Z h0 r0 kA .byte (4 : Int32) [(.int x0), (.int x1), (.int x2), (.int x3)] (.int (0 : Int32))) :
    MetFree l (⟨"com/example/wide_berth/wideberth/postgres/Literals", "fitsBits", "([BII)Z"⟩ : MethodName) (head1 (Jvm.Cond.code (⟨"com/example/wide_berth/wideberth/postgres/Literals", "fitsBits", "([BII)Z"⟩ : MethodName) prog_64_method_12_code 8 (some .boolean) :: ws) ({ frames := 0, cells := 0, slots := 0, locals := 0 } : Room)) (fun a U => a = #[(.ref r0), (.int (1 : Int32)), (.int p2)] ∧ Z.Warmed39 U.vm ∧ U.heap = h0) (fun _ _ _ _ _ => True) (fun _ U o U' => ∃ v L, o = .returned v ∧ Q11 Z r0 p2 kA x0 x1 x2 x3 h0 n0 v U'.heap L ∧ FrameEnd U o U' L ({ frames := 0, cells := 0, slots := 0, locals := 0 } : Room).cells ({ frames := 0, cells := 0, slots := 0, locals := 0 } : Room).slots) := by
  refine MetFree.of_bodySF (plainFor_of_name pn_11) hisR ?_
  intro p e s m args below meth c s₁ Bd hml0 hP hK
  obtain ⟨rfl, hZ, hh⟩ := hP
  have hx := Bd.exec
  have hby := Bd.bytes
  have hml : c.maxLocals = 8 := hml0
  have hown : s.vm.findClass "com/example/wide_berth/wideberth/postgres/Literals" = some m.cls := findClass_of_methodNamed Bd.named
  have hnm := (name_of_methodNamed Bd.named Bd.method).1
  have hlk : meth.locks = false := Bd.notSynchronized
  have X0 : Stand p l e ({ frames := 0, cells := 0, slots := 0, locals := 0 } : Room) s m #[(.ref r0), (.int (1 : Int32)), (.int p2)] below meth c s₁ [] 0 0 := Stand.of_body Bd
  have e0 : s₁.heap = h0 := by rw [← hh, Bd.state]; rfl
  have N0 := Fr.nil n0
  refine own_cast (Q := Q11 Z r0 p2 kA x0 x1 x2 x3 h0 n0) (kc := 0) (ks := 0) (ef_11 m r0 p2) ?_
  refine own_st (fun _ k => XS.iconst X0.here hx rfl (hb hby d11_0) k) ?_
  show own_Go X0 (Q11 Z r0 p2 kA x0 x1 x2 x3 h0 n0) 0 0 1 #[.val (.ref r0), .val (.int (1 : Int32)), .val (.int p2), .unset, .unset, .unset, .unset, .unset] [(.int (1 : Int32))]
  refine own_st (fun _ k => XS.istoreN X0.here hx rfl (hb hby d11_1) rfl (l' := #[.val (.ref r0), .val (.int (1 : Int32)), .val (.int p2), .val (.int (1 : Int32)), .unset, .unset, .unset, .unset]) rfl k) ?_
  show own_Go X0 (Q11 Z r0 p2 kA x0 x1 x2 x3 h0 n0) 0 0 2 #[.val (.ref r0), .val (.int (1 : Int32)), .val (.int p2), .val (.int (1 : Int32)), .unset, .unset, .unset, .unset] []
  refine own_st (fun _ k => XS.iconst X0.here hx rfl (hb hby d11_2) k) ?_
  show own_Go X0 (Q11 Z r0 p2 kA x0 x1 x2 x3 h0 n0) 0 0 3 #[.val (.ref r0), .val (.int (1 : Int32)), .val (.int p2), .val (.int (1 : Int32)), .unset, .unset, .unset, .unset] [(.int (0 : Int32))]
  refine own_st (fun _ k => XS.istore X0.here hx rfl (hb hby d11_3) rfl (l' := #[.val (.ref r0), .val (.int (1 : Int32)), .val (.int p2), .val (.int (1 : Int32)), .val (.int (0 : Int32)), .unset, .unset, .unset]) rfl k) ?_
  show own_Go X0 (Q11 Z r0 p2 kA x0 x1 x2 x3 h0 n0) 0 0 5 #[.val (.ref r0), .val (.int (1 : Int32)), .val (.int p2), .val (.int (1 : Int32)), .val (.int (0 : Int32)), .unset, .unset, .unset] []
  refine own_st (fun _ k => XS.iload X0.here hx rfl (hb hby d11_5) rfl k) ?_
  show own_Go X0 (Q11 Z r0 p2 kA x0 x1 x2 x3 h0 n0) 0 0 7 #[.val (.ref r0), .val (.int (1 : Int32)), .val (.int p2), .val (.int (1 : Int32)), .val (.int (0 : Int32)), .unset, .unset, .unset] [(.int (0 : Int32))]
  refine own_st (fun _ k => XS.iloadN X0.here hx rfl (hb hby d11_7) rfl k) ?_
  show own_Go X0 (Q11 Z r0 p2 kA x0 x1 x2 x3 h0 n0) 0 0 8 #[.val (.ref r0), .val (.int (1 : Int32)), .val (.int p2), .val (.int (1 : Int32)), .val (.int (0 : Int32)), .unset, .unset, .unset] [(.int (1 : Int32)), (.int (0 : Int32))]
  have c8_1 : (0 : Int32) < (1 : Int32) := (by decide)
  refine own_st (fun _ k => XS.icmpNo X0.here hx rfl (hb hby d11_8) rfl (tlt c8_1).2.1 k) ?_
  show own_Go X0 (Q11 Z r0 p2 kA x0 x1 x2 x3 h0 n0) 0 0 11 #[.val (.ref r0), .val (.int (1 : Int32)), .val (.int p2), .val (.int (1 : Int32)), .val (.int (0 : Int32)), .unset, .unset, .unset] []
  refine own_st (fun _ k => XS.iloadN X0.here hx rfl (hb hby d11_11) rfl k) ?_
  show own_Go X0 (Q11 Z r0 p2 kA x0 x1 x2 x3 h0 n0) 0 0 12 #[.val (.ref r0), .val (.int (1 : Int32)), .val (.int p2), .val (.int (1 : Int32)), .val (.int (0 : Int32)), .unset, .unset, .unset] [(.int (1 : Int32))]
  have c12_2 : ¬ ((1 : Int32) = (0 : Int32)) := (by decide)
  refine own_st (fun _ k => XS.ifNo X0.here hx rfl (hb hby d11_12) rfl ((if0 _ _).trans (feq c12_2).1) k) ?_
  show own_Go X0 (Q11 Z r0 p2 kA x0 x1 x2 x3 h0 n0) 0 0 15 #[.val (.ref r0), .val (.int (1 : Int32)), .val (.int p2), .val (.int (1 : Int32)), .val (.int (0 : Int32)), .unset, .unset, .unset] []
  refine own_st (fun t k => X0.ldc2Long hx hown (mvT hZ (hw _ (List.mem_of_getElem? (i := 5) rfl))) (g := (mkF m 15 #[.val (.ref r0), .val (.int (1 : Int32)), .val (.int p2), .val (.int (1 : Int32)), .val (.int (0 : Int32)), .unset, .unset, .unset] [])) rfl (hb hby d11_15) t k) ?_
  show own_Go X0 (Q11 Z r0 p2 kA x0 x1 x2 x3 h0 n0) 0 0 18 #[.val (.ref r0), .val (.int (1 : Int32)), .val (.int p2), .val (.int (1 : Int32)), .val (.int (0 : Int32)), .unset, .unset, .unset] [(.long (8 : Int64))]
  refine own_st (fun _ k => XS.iloadN X0.here hx rfl (hb hby d11_18) rfl k) ?_
  show own_Go X0 (Q11 Z r0 p2 kA x0 x1 x2 x3 h0 n0) 0 0 19 #[.val (.ref r0), .val (.int (1 : Int32)), .val (.int p2), .val (.int (1 : Int32)), .val (.int (0 : Int32)), .unset, .unset, .unset] [(.int (1 : Int32)), (.long (8 : Int64))]
  refine own_st (fun _ k => XS.iconst X0.here hx rfl (hb hby d11_19) k) ?_
  show own_Go X0 (Q11 Z r0 p2 kA x0 x1 x2 x3 h0 n0) 0 0 20 #[.val (.ref r0), .val (.int (1 : Int32)), .val (.int p2), .val (.int (1 : Int32)), .val (.int (0 : Int32)), .unset, .unset, .unset] [(.int (1 : Int32)), (.int (1 : Int32)), (.long (8 : Int64))]
  refine own_st (fun _ k => XS.isub X0.here hx rfl (hb hby d11_20) rfl k) ?_
  show own_Go X0 (Q11 Z r0 p2 kA x0 x1 x2 x3 h0 n0) 0 0 21 #[.val (.ref r0), .val (.int (1 : Int32)), .val (.int p2), .val (.int (1 : Int32)), .val (.int (0 : Int32)), .unset, .unset, .unset] [(.int (0 : Int32)), (.long (8 : Int64))]
  refine own_st (fun _ k => XS.iload X0.here hx rfl (hb hby d11_21) rfl k) ?_
  show own_Go X0 (Q11 Z r0 p2 kA x0 x1 x2 x3 h0 n0) 0 0 23 #[.val (.ref r0), .val (.int (1 : Int32)), .val (.int p2), .val (.int (1 : Int32)), .val (.int (0 : Int32)), .unset, .unset, .unset] [(.int (0 : Int32)), (.int (0 : Int32)), (.long (8 : Int64))]
  refine own_st (fun _ k => XS.isub X0.here hx rfl (hb hby d11_23) rfl k) ?_
  show own_Go X0 (Q11 Z r0 p2 kA x0 x1 x2 x3 h0 n0) 0 0 24 #[.val (.ref r0), .val (.int (1 : Int32)), .val (.int p2), .val (.int (1 : Int32)), .val (.int (0 : Int32)), .unset, .unset, .unset] [(.int (0 : Int32)), (.long (8 : Int64))]
  refine own_st (fun _ k => XS.i2l X0.here hx rfl (hb hby d11_24) rfl k) ?_
  show own_Go X0 (Q11 Z r0 p2 kA x0 x1 x2 x3 h0 n0) 0 0 25 #[.val (.ref r0), .val (.int (1 : Int32)), .val (.int p2), .val (.int (1 : Int32)), .val (.int (0 : Int32)), .unset, .unset, .unset] [(.long ((0 : Int32).toInt64)), (.long (8 : Int64))]
  refine own_st (fun _ k => XS.lmul X0.here hx rfl (hb hby d11_25) rfl k) ?_
  show own_Go X0 (Q11 Z r0 p2 kA x0 x1 x2 x3 h0 n0) 0 0 26 #[.val (.ref r0), .val (.int (1 : Int32)), .val (.int p2), .val (.int (1 : Int32)), .val (.int (0 : Int32)), .unset, .unset, .unset] [(.long ((8 : Int64) * ((0 : Int32).toInt64)))]
  refine own_st (fun _ k => XS.lstore X0.here hx rfl (hb hby d11_26) rfl (l' := #[.val (.ref r0), .val (.int (1 : Int32)), .val (.int p2), .val (.int (1 : Int32)), .val (.int (0 : Int32)), .val (.long ((8 : Int64) * ((0 : Int32).toInt64))), .second, .unset]) rfl k) ?_
  show own_Go X0 (Q11 Z r0 p2 kA x0 x1 x2 x3 h0 n0) 0 0 28 #[.val (.ref r0), .val (.int (1 : Int32)), .val (.int p2), .val (.int (1 : Int32)), .val (.int (0 : Int32)), .val (.long ((8 : Int64) * ((0 : Int32).toInt64))), .second, .unset] []
  show own_Go X0 (Q11 Z r0 p2 kA x0 x1 x2 x3 h0 n0) 0 0 28 #[.val (.ref r0), .val (.int (1 : Int32)), .val (.int p2), .val (.int (1 : Int32)), .val (.int (0 : Int32)), .val (.long (own_low (1 : Int32) (0 : Int32))), .second, .unset] []
  have J46_0 : ∀ (bb : Int32) (hbb : bb = (own_bey (1 : Int32) p2 (0 : Int32))), own_Go X0 (Q11 Z r0 p2 kA x0 x1 x2 x3 h0 n0) 0 0 46 #[.val (.ref r0), .val (.int (1 : Int32)), .val (.int p2), .val (.int (1 : Int32)), .val (.int (0 : Int32)), .val (.long (own_low (1 : Int32) (0 : Int32))), .second, .unset] [(.int bb)] := by
    intro bb hbb
    subst hbb
    show own_Go X0 (Q11 Z r0 p2 kA x0 x1 x2 x3 h0 n0) 0 0 46 #[.val (.ref r0), .val (.int (1 : Int32)), .val (.int p2), .val (.int (1 : Int32)), .val (.int (0 : Int32)), .val (.long (own_low (1 : Int32) (0 : Int32))), .second, .unset] [(.int (own_bey (1 : Int32) p2 (0 : Int32)))]
    refine own_st (fun _ k => XS.istore X0.here hx rfl (hb hby d11_46) rfl (l' := #[.val (.ref r0), .val (.int (1 : Int32)), .val (.int p2), .val (.int (1 : Int32)), .val (.int (0 : Int32)), .val (.long (own_low (1 : Int32) (0 : Int32))), .second, .val (.int (own_bey (1 : Int32) p2 (0 : Int32)))]) rfl k) ?_
    show own_Go X0 (Q11 Z r0 p2 kA x0 x1 x2 x3 h0 n0) 0 0 48 #[.val (.ref r0), .val (.int (1 : Int32)), .val (.int p2), .val (.int (1 : Int32)), .val (.int (0 : Int32)), .val (.long (own_low (1 : Int32) (0 : Int32))), .second, .val (.int (own_bey (1 : Int32) p2 (0 : Int32)))] []
    have J74_0 : ∀ (ff : Int32) (hff : ff = (own_one x0 (1 : Int32) p2 (0 : Int32))), own_Go X0 (Q11 Z r0 p2 kA x0 x1 x2 x3 h0 n0) 0 0 74 #[.val (.ref r0), .val (.int (1 : Int32)), .val (.int p2), .val (.int (1 : Int32)), .val (.int (0 : Int32)), .val (.long (own_low (1 : Int32) (0 : Int32))), .second, .val (.int (own_bey (1 : Int32) p2 (0 : Int32)))] [(.int ff)] := by
      intro ff hff
      subst hff
      show own_Go X0 (Q11 Z r0 p2 kA x0 x1 x2 x3 h0 n0) 0 0 74 #[.val (.ref r0), .val (.int (1 : Int32)), .val (.int p2), .val (.int (1 : Int32)), .val (.int (0 : Int32)), .val (.long (own_low (1 : Int32) (0 : Int32))), .second, .val (.int (own_bey (1 : Int32) p2 (0 : Int32)))] [(.int (own_one x0 (1 : Int32) p2 (0 : Int32)))]
      refine own_st (fun _ k => XS.istoreN X0.here hx rfl (hb hby d11_74) rfl (l' := #[.val (.ref r0), .val (.int (1 : Int32)), .val (.int p2), .val (.int (own_one x0 (1 : Int32) p2 (0 : Int32))), .val (.int (0 : Int32)), .val (.long (own_low (1 : Int32) (0 : Int32))), .second, .val (.int (own_bey (1 : Int32) p2 (0 : Int32)))]) rfl k) ?_
      show own_Go X0 (Q11 Z r0 p2 kA x0 x1 x2 x3 h0 n0) 0 0 75 #[.val (.ref r0), .val (.int (1 : Int32)), .val (.int p2), .val (.int (own_one x0 (1 : Int32) p2 (0 : Int32))), .val (.int (0 : Int32)), .val (.long (own_low (1 : Int32) (0 : Int32))), .second, .val (.int (own_bey (1 : Int32) p2 (0 : Int32)))] []
      refine own_st (fun _ k => XS.iinc X0.here hx rfl (hb hby d11_75) rfl (l' := #[.val (.ref r0), .val (.int (1 : Int32)), .val (.int p2), .val (.int (own_one x0 (1 : Int32) p2 (0 : Int32))), .val (.int (1 : Int32)), .val (.long (own_low (1 : Int32) (0 : Int32))), .second, .val (.int (own_bey (1 : Int32) p2 (0 : Int32)))]) rfl k) ?_
      show own_Go X0 (Q11 Z r0 p2 kA x0 x1 x2 x3 h0 n0) 0 0 78 #[.val (.ref r0), .val (.int (1 : Int32)), .val (.int p2), .val (.int (own_one x0 (1 : Int32) p2 (0 : Int32))), .val (.int (1 : Int32)), .val (.long (own_low (1 : Int32) (0 : Int32))), .second, .val (.int (own_bey (1 : Int32) p2 (0 : Int32)))] []
      refine own_st (fun _ k => XS.goto X0.here hx rfl (pc0 := 78) (pc' := 5) rfl (hb hby d11_78) (by decide) (by decide) k) ?_
      show own_Go X0 (Q11 Z r0 p2 kA x0 x1 x2 x3 h0 n0) 0 0 5 #[.val (.ref r0), .val (.int (1 : Int32)), .val (.int p2), .val (.int (own_one x0 (1 : Int32) p2 (0 : Int32))), .val (.int (1 : Int32)), .val (.long (own_low (1 : Int32) (0 : Int32))), .second, .val (.int (own_bey (1 : Int32) p2 (0 : Int32)))] []
      refine own_st (fun _ k => XS.iload X0.here hx rfl (hb hby d11_5) rfl k) ?_
      show own_Go X0 (Q11 Z r0 p2 kA x0 x1 x2 x3 h0 n0) 0 0 7 #[.val (.ref r0), .val (.int (1 : Int32)), .val (.int p2), .val (.int (own_one x0 (1 : Int32) p2 (0 : Int32))), .val (.int (1 : Int32)), .val (.long (own_low (1 : Int32) (0 : Int32))), .second, .val (.int (own_bey (1 : Int32) p2 (0 : Int32)))] [(.int (1 : Int32))]
      refine own_st (fun _ k => XS.iloadN X0.here hx rfl (hb hby d11_7) rfl k) ?_
      show own_Go X0 (Q11 Z r0 p2 kA x0 x1 x2 x3 h0 n0) 0 0 8 #[.val (.ref r0), .val (.int (1 : Int32)), .val (.int p2), .val (.int (own_one x0 (1 : Int32) p2 (0 : Int32))), .val (.int (1 : Int32)), .val (.long (own_low (1 : Int32) (0 : Int32))), .second, .val (.int (own_bey (1 : Int32) p2 (0 : Int32)))] [(.int (1 : Int32)), (.int (1 : Int32))]
      have c8_3 : ¬ ((1 : Int32) < (1 : Int32)) := (by decide)
      refine own_st (fun _ k => XS.icmpYes X0.here hx rfl (pc0 := 8) (pc' := 81) rfl (hb hby d11_8) rfl (flt c8_3).2.1 (by decide) (by decide) k) ?_
      show own_Go X0 (Q11 Z r0 p2 kA x0 x1 x2 x3 h0 n0) 0 0 81 #[.val (.ref r0), .val (.int (1 : Int32)), .val (.int p2), .val (.int (own_one x0 (1 : Int32) p2 (0 : Int32))), .val (.int (1 : Int32)), .val (.long (own_low (1 : Int32) (0 : Int32))), .second, .val (.int (own_bey (1 : Int32) p2 (0 : Int32)))] []
      refine own_st (fun _ k => XS.iloadN X0.here hx rfl (hb hby d11_81) rfl k) ?_
      show own_Go X0 (Q11 Z r0 p2 kA x0 x1 x2 x3 h0 n0) 0 0 82 #[.val (.ref r0), .val (.int (1 : Int32)), .val (.int p2), .val (.int (own_one x0 (1 : Int32) p2 (0 : Int32))), .val (.int (1 : Int32)), .val (.long (own_low (1 : Int32) (0 : Int32))), .second, .val (.int (own_bey (1 : Int32) p2 (0 : Int32)))] [(.int (own_one x0 (1 : Int32) p2 (0 : Int32)))]
      refine own_retN X0 hx Bd.returns (by simp) hlk e0 (hb hby d11_82) (by decide) (by decide) ?_
      have hr : (own_fb1 x0 p2) = (own_one x0 (1 : Int32) p2 (0 : Int32)) := by rfl
      exact ⟨by rw [hr]; rw [own_oneb], N0, rfl⟩
    refine own_st (fun _ k => XS.iload X0.here hx rfl (hb hby d11_48) rfl k) ?_
    show own_Go X0 (Q11 Z r0 p2 kA x0 x1 x2 x3 h0 n0) 0 0 50 #[.val (.ref r0), .val (.int (1 : Int32)), .val (.int p2), .val (.int (1 : Int32)), .val (.int (0 : Int32)), .val (.long (own_low (1 : Int32) (0 : Int32))), .second, .val (.int (own_bey (1 : Int32) p2 (0 : Int32)))] [(.int (own_bey (1 : Int32) p2 (0 : Int32)))]
    refine own_st (fun _ k => XS.bipush X0.here hx rfl (hb hby d11_50) k) ?_
    show own_Go X0 (Q11 Z r0 p2 kA x0 x1 x2 x3 h0 n0) 0 0 52 #[.val (.ref r0), .val (.int (1 : Int32)), .val (.int p2), .val (.int (1 : Int32)), .val (.int (0 : Int32)), .val (.long (own_low (1 : Int32) (0 : Int32))), .second, .val (.int (own_bey (1 : Int32) p2 (0 : Int32)))] [(.int (8 : Int32)), (.int (own_bey (1 : Int32) p2 (0 : Int32)))]
    by_cases c52_4 : (own_bey (1 : Int32) p2 (0 : Int32)) < (8 : Int32)
    · skip
      refine own_st (fun _ k => XS.icmpNo X0.here hx rfl (hb hby d11_52) rfl (tlt c52_4).2.1 k) ?_
      show own_Go X0 (Q11 Z r0 p2 kA x0 x1 x2 x3 h0 n0) 0 0 55 #[.val (.ref r0), .val (.int (1 : Int32)), .val (.int p2), .val (.int (1 : Int32)), .val (.int (0 : Int32)), .val (.long (own_low (1 : Int32) (0 : Int32))), .second, .val (.int (own_bey (1 : Int32) p2 (0 : Int32)))] []
      refine own_st (fun _ k => XS.aloadN X0.here hx rfl (hb hby d11_55) rfl rfl k) ?_
      show own_Go X0 (Q11 Z r0 p2 kA x0 x1 x2 x3 h0 n0) 0 0 56 #[.val (.ref r0), .val (.int (1 : Int32)), .val (.int p2), .val (.int (1 : Int32)), .val (.int (0 : Int32)), .val (.long (own_low (1 : Int32) (0 : Int32))), .second, .val (.int (own_bey (1 : Int32) p2 (0 : Int32)))] [(.ref r0)]
      refine own_st (fun _ k => XS.iload X0.here hx rfl (hb hby d11_56) rfl k) ?_
      show own_Go X0 (Q11 Z r0 p2 kA x0 x1 x2 x3 h0 n0) 0 0 58 #[.val (.ref r0), .val (.int (1 : Int32)), .val (.int p2), .val (.int (1 : Int32)), .val (.int (0 : Int32)), .val (.long (own_low (1 : Int32) (0 : Int32))), .second, .val (.int (own_bey (1 : Int32) p2 (0 : Int32)))] [(.int (0 : Int32)), (.ref r0)]
      refine own_st (fun _ k => own_ldB X0 hx hZ e0 PV (j := (0 : Int32)) ⟨by decide, by decide⟩ (v := (.int x0)) rfl (g := (mkF m 58 #[.val (.ref r0), .val (.int (1 : Int32)), .val (.int p2), .val (.int (1 : Int32)), .val (.int (0 : Int32)), .val (.long (own_low (1 : Int32) (0 : Int32))), .second, .val (.int (own_bey (1 : Int32) p2 (0 : Int32)))] [(.int (0 : Int32)), (.ref r0)])) rfl rfl (hb hby d11_58) _ k) ?_
      show own_Go X0 (Q11 Z r0 p2 kA x0 x1 x2 x3 h0 n0) 0 0 59 #[.val (.ref r0), .val (.int (1 : Int32)), .val (.int p2), .val (.int (1 : Int32)), .val (.int (0 : Int32)), .val (.long (own_low (1 : Int32) (0 : Int32))), .second, .val (.int (own_bey (1 : Int32) p2 (0 : Int32)))] [(.int x0)]
      refine own_st (fun _ k => XS.sipush X0.here hx rfl (hb hby d11_59) k) ?_
      show own_Go X0 (Q11 Z r0 p2 kA x0 x1 x2 x3 h0 n0) 0 0 62 #[.val (.ref r0), .val (.int (1 : Int32)), .val (.int p2), .val (.int (1 : Int32)), .val (.int (0 : Int32)), .val (.long (own_low (1 : Int32) (0 : Int32))), .second, .val (.int (own_bey (1 : Int32) p2 (0 : Int32)))] [(.int (255 : Int32)), (.int x0)]
      refine own_st (fun _ k => XS.iand X0.here hx rfl (hb hby d11_62) rfl k) ?_
      show own_Go X0 (Q11 Z r0 p2 kA x0 x1 x2 x3 h0 n0) 0 0 63 #[.val (.ref r0), .val (.int (1 : Int32)), .val (.int p2), .val (.int (1 : Int32)), .val (.int (0 : Int32)), .val (.long (own_low (1 : Int32) (0 : Int32))), .second, .val (.int (own_bey (1 : Int32) p2 (0 : Int32)))] [(.int (x0 &&& (255 : Int32)))]
      refine own_st (fun _ k => XS.iload X0.here hx rfl (hb hby d11_63) rfl k) ?_
      show own_Go X0 (Q11 Z r0 p2 kA x0 x1 x2 x3 h0 n0) 0 0 65 #[.val (.ref r0), .val (.int (1 : Int32)), .val (.int p2), .val (.int (1 : Int32)), .val (.int (0 : Int32)), .val (.long (own_low (1 : Int32) (0 : Int32))), .second, .val (.int (own_bey (1 : Int32) p2 (0 : Int32)))] [(.int (own_bey (1 : Int32) p2 (0 : Int32))), (.int (x0 &&& (255 : Int32)))]
      refine own_st (fun _ k => XS.ishr X0.here hx rfl (hb hby d11_65) rfl k) ?_
      show own_Go X0 (Q11 Z r0 p2 kA x0 x1 x2 x3 h0 n0) 0 0 66 #[.val (.ref r0), .val (.int (1 : Int32)), .val (.int p2), .val (.int (1 : Int32)), .val (.int (0 : Int32)), .val (.long (own_low (1 : Int32) (0 : Int32))), .second, .val (.int (own_bey (1 : Int32) p2 (0 : Int32)))] [(.int ((x0 &&& (255 : Int32)) >>> ((own_bey (1 : Int32) p2 (0 : Int32)) &&& 31)))]
      by_cases c66_5 : ((x0 &&& (255 : Int32)) >>> ((own_bey (1 : Int32) p2 (0 : Int32)) &&& 31)) = (0 : Int32)
      · skip
        refine own_st (fun _ k => XS.ifNo X0.here hx rfl (hb hby d11_66) rfl ((if0 _ _).trans (teq c66_5).2) k) ?_
        show own_Go X0 (Q11 Z r0 p2 kA x0 x1 x2 x3 h0 n0) 0 0 69 #[.val (.ref r0), .val (.int (1 : Int32)), .val (.int p2), .val (.int (1 : Int32)), .val (.int (0 : Int32)), .val (.long (own_low (1 : Int32) (0 : Int32))), .second, .val (.int (own_bey (1 : Int32) p2 (0 : Int32)))] []
        refine own_st (fun _ k => XS.iconst X0.here hx rfl (hb hby d11_69) k) ?_
        show own_Go X0 (Q11 Z r0 p2 kA x0 x1 x2 x3 h0 n0) 0 0 70 #[.val (.ref r0), .val (.int (1 : Int32)), .val (.int p2), .val (.int (1 : Int32)), .val (.int (0 : Int32)), .val (.long (own_low (1 : Int32) (0 : Int32))), .second, .val (.int (own_bey (1 : Int32) p2 (0 : Int32)))] [(.int (1 : Int32))]
        refine own_st (fun _ k => XS.goto X0.here hx rfl (pc0 := 70) (pc' := 74) rfl (hb hby d11_70) (by decide) (by decide) k) ?_
        show own_Go X0 (Q11 Z r0 p2 kA x0 x1 x2 x3 h0 n0) 0 0 74 #[.val (.ref r0), .val (.int (1 : Int32)), .val (.int p2), .val (.int (1 : Int32)), .val (.int (0 : Int32)), .val (.long (own_low (1 : Int32) (0 : Int32))), .second, .val (.int (own_bey (1 : Int32) p2 (0 : Int32)))] [(.int (1 : Int32))]
        exact J74_0 _ (by unfold own_one; rw [if_pos c52_4, if_pos c66_5])
      · skip
        refine own_st (fun _ k => XS.ifYes X0.here hx rfl (pc0 := 66) (pc' := 73) rfl (hb hby d11_66) rfl ((if0 _ _).trans (feq c66_5).2) (by decide) (by decide) k) ?_
        show own_Go X0 (Q11 Z r0 p2 kA x0 x1 x2 x3 h0 n0) 0 0 73 #[.val (.ref r0), .val (.int (1 : Int32)), .val (.int p2), .val (.int (1 : Int32)), .val (.int (0 : Int32)), .val (.long (own_low (1 : Int32) (0 : Int32))), .second, .val (.int (own_bey (1 : Int32) p2 (0 : Int32)))] []
        refine own_st (fun _ k => XS.iconst X0.here hx rfl (hb hby d11_73) k) ?_
        show own_Go X0 (Q11 Z r0 p2 kA x0 x1 x2 x3 h0 n0) 0 0 74 #[.val (.ref r0), .val (.int (1 : Int32)), .val (.int p2), .val (.int (1 : Int32)), .val (.int (0 : Int32)), .val (.long (own_low (1 : Int32) (0 : Int32))), .second, .val (.int (own_bey (1 : Int32) p2 (0 : Int32)))] [(.int (0 : Int32))]
        exact J74_0 _ (by unfold own_one; rw [if_pos c52_4, if_neg c66_5])
    · skip
      refine own_st (fun _ k => XS.icmpYes X0.here hx rfl (pc0 := 52) (pc' := 69) rfl (hb hby d11_52) rfl (flt c52_4).2.1 (by decide) (by decide) k) ?_
      show own_Go X0 (Q11 Z r0 p2 kA x0 x1 x2 x3 h0 n0) 0 0 69 #[.val (.ref r0), .val (.int (1 : Int32)), .val (.int p2), .val (.int (1 : Int32)), .val (.int (0 : Int32)), .val (.long (own_low (1 : Int32) (0 : Int32))), .second, .val (.int (own_bey (1 : Int32) p2 (0 : Int32)))] []
      refine own_st (fun _ k => XS.iconst X0.here hx rfl (hb hby d11_69) k) ?_
      show own_Go X0 (Q11 Z r0 p2 kA x0 x1 x2 x3 h0 n0) 0 0 70 #[.val (.ref r0), .val (.int (1 : Int32)), .val (.int p2), .val (.int (1 : Int32)), .val (.int (0 : Int32)), .val (.long (own_low (1 : Int32) (0 : Int32))), .second, .val (.int (own_bey (1 : Int32) p2 (0 : Int32)))] [(.int (1 : Int32))]
      refine own_st (fun _ k => XS.goto X0.here hx rfl (pc0 := 70) (pc' := 74) rfl (hb hby d11_70) (by decide) (by decide) k) ?_
      show own_Go X0 (Q11 Z r0 p2 kA x0 x1 x2 x3 h0 n0) 0 0 74 #[.val (.ref r0), .val (.int (1 : Int32)), .val (.int p2), .val (.int (1 : Int32)), .val (.int (0 : Int32)), .val (.long (own_low (1 : Int32) (0 : Int32))), .second, .val (.int (own_bey (1 : Int32) p2 (0 : Int32)))] [(.int (1 : Int32))]
      exact J74_0 _ (by unfold own_one; rw [if_neg c52_4])
  refine own_st (fun _ k => XS.lload X0.here hx rfl (hb hby d11_28) rfl k) ?_
  show own_Go X0 (Q11 Z r0 p2 kA x0 x1 x2 x3 h0 n0) 0 0 30 #[.val (.ref r0), .val (.int (1 : Int32)), .val (.int p2), .val (.int (1 : Int32)), .val (.int (0 : Int32)), .val (.long (own_low (1 : Int32) (0 : Int32))), .second, .unset] [(.long (own_low (1 : Int32) (0 : Int32)))]
  refine own_st (fun _ k => XS.iloadN X0.here hx rfl (hb hby d11_30) rfl k) ?_
  show own_Go X0 (Q11 Z r0 p2 kA x0 x1 x2 x3 h0 n0) 0 0 31 #[.val (.ref r0), .val (.int (1 : Int32)), .val (.int p2), .val (.int (1 : Int32)), .val (.int (0 : Int32)), .val (.long (own_low (1 : Int32) (0 : Int32))), .second, .unset] [(.int p2), (.long (own_low (1 : Int32) (0 : Int32)))]
  refine own_st (fun _ k => XS.i2l X0.here hx rfl (hb hby d11_31) rfl k) ?_
  show own_Go X0 (Q11 Z r0 p2 kA x0 x1 x2 x3 h0 n0) 0 0 32 #[.val (.ref r0), .val (.int (1 : Int32)), .val (.int p2), .val (.int (1 : Int32)), .val (.int (0 : Int32)), .val (.long (own_low (1 : Int32) (0 : Int32))), .second, .unset] [(.long (p2.toInt64)), (.long (own_low (1 : Int32) (0 : Int32)))]
  refine own_st (fun _ k => XS.lcmp X0.here hx rfl (hb hby d11_32) rfl k) ?_
  show own_Go X0 (Q11 Z r0 p2 kA x0 x1 x2 x3 h0 n0) 0 0 33 #[.val (.ref r0), .val (.int (1 : Int32)), .val (.int p2), .val (.int (1 : Int32)), .val (.int (0 : Int32)), .val (.long (own_low (1 : Int32) (0 : Int32))), .second, .unset] [(.int (lcmpW (own_low (1 : Int32) (0 : Int32)) (p2.toInt64)))]
  by_cases c33_6 : (own_low (1 : Int32) (0 : Int32)) < (p2.toInt64)
  · skip
    refine own_st (fun _ k => XS.ifYes X0.here hx rfl (pc0 := 33) (pc' := 40) rfl (hb hby d11_33) rfl ((if0 _ _).trans (tlt ((lw_lt _ _).mpr c33_6)).1) (by decide) (by decide) k) ?_
    show own_Go X0 (Q11 Z r0 p2 kA x0 x1 x2 x3 h0 n0) 0 0 40 #[.val (.ref r0), .val (.int (1 : Int32)), .val (.int p2), .val (.int (1 : Int32)), .val (.int (0 : Int32)), .val (.long (own_low (1 : Int32) (0 : Int32))), .second, .unset] []
    refine own_st (fun _ k => XS.iloadN X0.here hx rfl (hb hby d11_40) rfl k) ?_
    show own_Go X0 (Q11 Z r0 p2 kA x0 x1 x2 x3 h0 n0) 0 0 41 #[.val (.ref r0), .val (.int (1 : Int32)), .val (.int p2), .val (.int (1 : Int32)), .val (.int (0 : Int32)), .val (.long (own_low (1 : Int32) (0 : Int32))), .second, .unset] [(.int p2)]
    refine own_st (fun _ k => XS.i2l X0.here hx rfl (hb hby d11_41) rfl k) ?_
    show own_Go X0 (Q11 Z r0 p2 kA x0 x1 x2 x3 h0 n0) 0 0 42 #[.val (.ref r0), .val (.int (1 : Int32)), .val (.int p2), .val (.int (1 : Int32)), .val (.int (0 : Int32)), .val (.long (own_low (1 : Int32) (0 : Int32))), .second, .unset] [(.long (p2.toInt64))]
    refine own_st (fun _ k => XS.lload X0.here hx rfl (hb hby d11_42) rfl k) ?_
    show own_Go X0 (Q11 Z r0 p2 kA x0 x1 x2 x3 h0 n0) 0 0 44 #[.val (.ref r0), .val (.int (1 : Int32)), .val (.int p2), .val (.int (1 : Int32)), .val (.int (0 : Int32)), .val (.long (own_low (1 : Int32) (0 : Int32))), .second, .unset] [(.long (own_low (1 : Int32) (0 : Int32))), (.long (p2.toInt64))]
    refine own_st (fun _ k => XS.lsub X0.here hx rfl (hb hby d11_44) rfl k) ?_
    show own_Go X0 (Q11 Z r0 p2 kA x0 x1 x2 x3 h0 n0) 0 0 45 #[.val (.ref r0), .val (.int (1 : Int32)), .val (.int p2), .val (.int (1 : Int32)), .val (.int (0 : Int32)), .val (.long (own_low (1 : Int32) (0 : Int32))), .second, .unset] [(.long ((p2.toInt64) - (own_low (1 : Int32) (0 : Int32))))]
    refine own_st (fun _ k => XS.l2i X0.here hx rfl (hb hby d11_45) rfl k) ?_
    show own_Go X0 (Q11 Z r0 p2 kA x0 x1 x2 x3 h0 n0) 0 0 46 #[.val (.ref r0), .val (.int (1 : Int32)), .val (.int p2), .val (.int (1 : Int32)), .val (.int (0 : Int32)), .val (.long (own_low (1 : Int32) (0 : Int32))), .second, .unset] [(.int (((p2.toInt64) - (own_low (1 : Int32) (0 : Int32))).toInt32))]
    exact J46_0 _ (by unfold own_bey; rw [if_pos c33_6])
  · skip
    refine own_st (fun _ k => XS.ifNo X0.here hx rfl (hb hby d11_33) rfl ((if0 _ _).trans (flt (fun q => c33_6 ((lw_lt _ _).mp q))).1) k) ?_
    show own_Go X0 (Q11 Z r0 p2 kA x0 x1 x2 x3 h0 n0) 0 0 36 #[.val (.ref r0), .val (.int (1 : Int32)), .val (.int p2), .val (.int (1 : Int32)), .val (.int (0 : Int32)), .val (.long (own_low (1 : Int32) (0 : Int32))), .second, .unset] []
    refine own_st (fun _ k => XS.iconst X0.here hx rfl (hb hby d11_36) k) ?_
    show own_Go X0 (Q11 Z r0 p2 kA x0 x1 x2 x3 h0 n0) 0 0 37 #[.val (.ref r0), .val (.int (1 : Int32)), .val (.int p2), .val (.int (1 : Int32)), .val (.int (0 : Int32)), .val (.long (own_low (1 : Int32) (0 : Int32))), .second, .unset] [(.int (0 : Int32))]
    refine own_st (fun _ k => XS.goto X0.here hx rfl (pc0 := 37) (pc' := 46) rfl (hb hby d11_37) (by decide) (by decide) k) ?_
    show own_Go X0 (Q11 Z r0 p2 kA x0 x1 x2 x3 h0 n0) 0 0 46 #[.val (.ref r0), .val (.int (1 : Int32)), .val (.int p2), .val (.int (1 : Int32)), .val (.int (0 : Int32)), .val (.long (own_low (1 : Int32) (0 : Int32))), .second, .unset] [(.int (0 : Int32))]
    exact J46_0 _ (by unfold own_bey; rw [if_neg c33_6])
theorem d12_0 : decode prog_64_method_12_code 0 = .ok (.iconst 1, 1) := by decide +kernel
theorem d12_1 : decode prog_64_method_12_code 1 = .ok (.istore_n 3, 1) := by decide +kernel
theorem d12_2 : decode prog_64_method_12_code 2 = .ok (.iconst 0, 1) := by decide +kernel
theorem d12_3 : decode prog_64_method_12_code 3 = .ok (.istore 4, 2) := by decide +kernel
theorem d12_5 : decode prog_64_method_12_code 5 = .ok (.iload 4, 2) := by decide +kernel
theorem d12_7 : decode prog_64_method_12_code 7 = .ok (.iload_n 1, 1) := by decide +kernel
theorem d12_8 : decode prog_64_method_12_code 8 = .ok (.if_icmp .ge 73, 3) := by decide +kernel
theorem d12_11 : decode prog_64_method_12_code 11 = .ok (.iload_n 3, 1) := by decide +kernel
theorem d12_12 : decode prog_64_method_12_code 12 = .ok (.ifCond .eq 69, 3) := by decide +kernel
theorem d12_15 : decode prog_64_method_12_code 15 = .ok (.ldc2_w 112, 3) := by decide +kernel
theorem d12_18 : decode prog_64_method_12_code 18 = .ok (.iload_n 1, 1) := by decide +kernel
theorem d12_19 : decode prog_64_method_12_code 19 = .ok (.iconst 1, 1) := by decide +kernel
theorem d12_20 : decode prog_64_method_12_code 20 = .ok (.isub, 1) := by decide +kernel
theorem d12_21 : decode prog_64_method_12_code 21 = .ok (.iload 4, 2) := by decide +kernel
theorem d12_23 : decode prog_64_method_12_code 23 = .ok (.isub, 1) := by decide +kernel
theorem d12_24 : decode prog_64_method_12_code 24 = .ok (.i2l, 1) := by decide +kernel
theorem d12_25 : decode prog_64_method_12_code 25 = .ok (.lmul, 1) := by decide +kernel
theorem d12_26 : decode prog_64_method_12_code 26 = .ok (.lstore 5, 2) := by decide +kernel
theorem d12_28 : decode prog_64_method_12_code 28 = .ok (.lload 5, 2) := by decide +kernel
theorem d12_30 : decode prog_64_method_12_code 30 = .ok (.iload_n 2, 1) := by decide +kernel
theorem d12_31 : decode prog_64_method_12_code 31 = .ok (.i2l, 1) := by decide +kernel
theorem d12_32 : decode prog_64_method_12_code 32 = .ok (.lcmp, 1) := by decide +kernel
theorem d12_33 : decode prog_64_method_12_code 33 = .ok (.ifCond .lt 7, 3) := by decide +kernel
theorem d12_36 : decode prog_64_method_12_code 36 = .ok (.iconst 0, 1) := by decide +kernel
theorem d12_37 : decode prog_64_method_12_code 37 = .ok (.goto 9, 3) := by decide +kernel
theorem d12_40 : decode prog_64_method_12_code 40 = .ok (.iload_n 2, 1) := by decide +kernel
theorem d12_41 : decode prog_64_method_12_code 41 = .ok (.i2l, 1) := by decide +kernel
theorem d12_42 : decode prog_64_method_12_code 42 = .ok (.lload 5, 2) := by decide +kernel
theorem d12_44 : decode prog_64_method_12_code 44 = .ok (.lsub, 1) := by decide +kernel
theorem d12_45 : decode prog_64_method_12_code 45 = .ok (.l2i, 1) := by decide +kernel
theorem d12_46 : decode prog_64_method_12_code 46 = .ok (.istore 7, 2) := by decide +kernel
theorem d12_48 : decode prog_64_method_12_code 48 = .ok (.iload 7, 2) := by decide +kernel
theorem d12_50 : decode prog_64_method_12_code 50 = .ok (.bipush 8, 2) := by decide +kernel
theorem d12_52 : decode prog_64_method_12_code 52 = .ok (.if_icmp .ge 17, 3) := by decide +kernel
theorem d12_55 : decode prog_64_method_12_code 55 = .ok (.aload_n 0, 1) := by decide +kernel
theorem d12_56 : decode prog_64_method_12_code 56 = .ok (.iload 4, 2) := by decide +kernel
theorem d12_58 : decode prog_64_method_12_code 58 = .ok (.baload, 1) := by decide +kernel
theorem d12_59 : decode prog_64_method_12_code 59 = .ok (.sipush 255, 3) := by decide +kernel
theorem d12_62 : decode prog_64_method_12_code 62 = .ok (.iand, 1) := by decide +kernel
theorem d12_63 : decode prog_64_method_12_code 63 = .ok (.iload 7, 2) := by decide +kernel
theorem d12_65 : decode prog_64_method_12_code 65 = .ok (.ishr, 1) := by decide +kernel
theorem d12_66 : decode prog_64_method_12_code 66 = .ok (.ifCond .ne 7, 3) := by decide +kernel
theorem d12_69 : decode prog_64_method_12_code 69 = .ok (.iconst 1, 1) := by decide +kernel
theorem d12_70 : decode prog_64_method_12_code 70 = .ok (.goto 4, 3) := by decide +kernel
theorem d12_73 : decode prog_64_method_12_code 73 = .ok (.iconst 0, 1) := by decide +kernel
theorem d12_74 : decode prog_64_method_12_code 74 = .ok (.istore_n 3, 1) := by decide +kernel
theorem d12_75 : decode prog_64_method_12_code 75 = .ok (.iinc 4 1, 3) := by decide +kernel
theorem d12_78 : decode prog_64_method_12_code 78 = .ok (.goto (-73), 3) := by decide +kernel
theorem d12_81 : decode prog_64_method_12_code 81 = .ok (.iload_n 3, 1) := by decide +kernel
theorem d12_82 : decode prog_64_method_12_code 82 = .ok (.ireturn, 1) := by decide +kernel
theorem pn_12 : plainName "com/example/wide_berth/wideberth/postgres/Literals" = true := by first | (simp [plainName, overriddenIn]; done) | decide +kernel
theorem ef_12 (m : MethodId) (r0 : Addr) (p2 : Int32) : entryFrame m #[(.ref r0), (.int (2 : Int32)), (.int p2)] 8 = mkF m 0 #[.val (.ref r0), .val (.int (2 : Int32)), .val (.int p2), .unset, .unset, .unset, .unset, .unset] [] := by first | (simp [entryFrame, mkF, argsToLocals, Value.category]; done) | rfl
def Q12 (Z : State) (r0 : Addr) (p2 : Int32) (kA : ClassId) (x0 x1 x2 x3 : Int32) (h0 : Heap) (n0 : Nat) (v : Option Value) (h : Heap) (L : List Loc) : Prop := v = some (.int (own_fb2 x0 x1 p2)) ∧ Fr n0 L ∧ h = h0
set_option maxRecDepth 65536 in
set_option maxHeartbeats 40000000 in
theorem rm12 (l : Launch) (Z : State) (a0 : Array Value) (hw : ∀ d ∈ tables_1, d.before a0 Z = true) (ws : List Jvm.Cond) (r0 : Addr) (p2 : Int32) (kA : ClassId) (x0 x1 x2 x3 : Int32) (h0 : Heap) (n0 : Nat) (Z0 : n0 ≤ h0.size) (PV : Arv Z h0 r0 kA .byte (4 : Int32) [(.int x0), (.int x1), (.int x2), (.int x3)] (.int (0 : Int32))) :
    MetFree l (⟨"com/example/wide_berth/wideberth/postgres/Literals", "fitsBits", "([BII)Z"⟩ : MethodName) (head1 (Jvm.Cond.code (⟨"com/example/wide_berth/wideberth/postgres/Literals", "fitsBits", "([BII)Z"⟩ : MethodName) prog_64_method_12_code 8 (some .boolean) :: ws) ({ frames := 0, cells := 0, slots := 0, locals := 0 } : Room)) (fun a U => a = #[(.ref r0), (.int (2 : Int32)), (.int p2)] ∧ Z.Warmed39 U.vm ∧ U.heap = h0) (fun _ _ _ _ _ => True) (fun _ U o U' => ∃ v L, o = .returned v ∧ Q12 Z r0 p2 kA x0 x1 x2 x3 h0 n0 v U'.heap L ∧ FrameEnd U o U' L ({ frames := 0, cells := 0, slots := 0, locals := 0 } : Room).cells ({ frames := 0, cells := 0, slots := 0, locals := 0 } : Room).slots) := by
  refine MetFree.of_bodySF (plainFor_of_name pn_12) hisR ?_
  intro p e s m args below meth c s₁ Bd hml0 hP hK
  obtain ⟨rfl, hZ, hh⟩ := hP
  have hx := Bd.exec
  have hby := Bd.bytes
  have hml : c.maxLocals = 8 := hml0
  have hown : s.vm.findClass "com/example/wide_berth/wideberth/postgres/Literals" = some m.cls := findClass_of_methodNamed Bd.named
  have hnm := (name_of_methodNamed Bd.named Bd.method).1
  have hlk : meth.locks = false := Bd.notSynchronized
  have X0 : Stand p l e ({ frames := 0, cells := 0, slots := 0, locals := 0 } : Room) s m #[(.ref r0), (.int (2 : Int32)), (.int p2)] below meth c s₁ [] 0 0 := Stand.of_body Bd
  have e0 : s₁.heap = h0 := by rw [← hh, Bd.state]; rfl
  have N0 := Fr.nil n0
  refine own_cast (Q := Q12 Z r0 p2 kA x0 x1 x2 x3 h0 n0) (kc := 0) (ks := 0) (ef_12 m r0 p2) ?_
  refine own_st (fun _ k => XS.iconst X0.here hx rfl (hb hby d12_0) k) ?_
  show own_Go X0 (Q12 Z r0 p2 kA x0 x1 x2 x3 h0 n0) 0 0 1 #[.val (.ref r0), .val (.int (2 : Int32)), .val (.int p2), .unset, .unset, .unset, .unset, .unset] [(.int (1 : Int32))]
  refine own_st (fun _ k => XS.istoreN X0.here hx rfl (hb hby d12_1) rfl (l' := #[.val (.ref r0), .val (.int (2 : Int32)), .val (.int p2), .val (.int (1 : Int32)), .unset, .unset, .unset, .unset]) rfl k) ?_
  show own_Go X0 (Q12 Z r0 p2 kA x0 x1 x2 x3 h0 n0) 0 0 2 #[.val (.ref r0), .val (.int (2 : Int32)), .val (.int p2), .val (.int (1 : Int32)), .unset, .unset, .unset, .unset] []
  refine own_st (fun _ k => XS.iconst X0.here hx rfl (hb hby d12_2) k) ?_
  show own_Go X0 (Q12 Z r0 p2 kA x0 x1 x2 x3 h0 n0) 0 0 3 #[.val (.ref r0), .val (.int (2 : Int32)), .val (.int p2), .val (.int (1 : Int32)), .unset, .unset, .unset, .unset] [(.int (0 : Int32))]
  refine own_st (fun _ k => XS.istore X0.here hx rfl (hb hby d12_3) rfl (l' := #[.val (.ref r0), .val (.int (2 : Int32)), .val (.int p2), .val (.int (1 : Int32)), .val (.int (0 : Int32)), .unset, .unset, .unset]) rfl k) ?_
  show own_Go X0 (Q12 Z r0 p2 kA x0 x1 x2 x3 h0 n0) 0 0 5 #[.val (.ref r0), .val (.int (2 : Int32)), .val (.int p2), .val (.int (1 : Int32)), .val (.int (0 : Int32)), .unset, .unset, .unset] []
  refine own_st (fun _ k => XS.iload X0.here hx rfl (hb hby d12_5) rfl k) ?_
  show own_Go X0 (Q12 Z r0 p2 kA x0 x1 x2 x3 h0 n0) 0 0 7 #[.val (.ref r0), .val (.int (2 : Int32)), .val (.int p2), .val (.int (1 : Int32)), .val (.int (0 : Int32)), .unset, .unset, .unset] [(.int (0 : Int32))]
  refine own_st (fun _ k => XS.iloadN X0.here hx rfl (hb hby d12_7) rfl k) ?_
  show own_Go X0 (Q12 Z r0 p2 kA x0 x1 x2 x3 h0 n0) 0 0 8 #[.val (.ref r0), .val (.int (2 : Int32)), .val (.int p2), .val (.int (1 : Int32)), .val (.int (0 : Int32)), .unset, .unset, .unset] [(.int (2 : Int32)), (.int (0 : Int32))]
  have c8_1 : (0 : Int32) < (2 : Int32) := (by decide)
  refine own_st (fun _ k => XS.icmpNo X0.here hx rfl (hb hby d12_8) rfl (tlt c8_1).2.1 k) ?_
  show own_Go X0 (Q12 Z r0 p2 kA x0 x1 x2 x3 h0 n0) 0 0 11 #[.val (.ref r0), .val (.int (2 : Int32)), .val (.int p2), .val (.int (1 : Int32)), .val (.int (0 : Int32)), .unset, .unset, .unset] []
  refine own_st (fun _ k => XS.iloadN X0.here hx rfl (hb hby d12_11) rfl k) ?_
  show own_Go X0 (Q12 Z r0 p2 kA x0 x1 x2 x3 h0 n0) 0 0 12 #[.val (.ref r0), .val (.int (2 : Int32)), .val (.int p2), .val (.int (1 : Int32)), .val (.int (0 : Int32)), .unset, .unset, .unset] [(.int (1 : Int32))]
  have c12_2 : ¬ ((1 : Int32) = (0 : Int32)) := (by decide)
  refine own_st (fun _ k => XS.ifNo X0.here hx rfl (hb hby d12_12) rfl ((if0 _ _).trans (feq c12_2).1) k) ?_
  show own_Go X0 (Q12 Z r0 p2 kA x0 x1 x2 x3 h0 n0) 0 0 15 #[.val (.ref r0), .val (.int (2 : Int32)), .val (.int p2), .val (.int (1 : Int32)), .val (.int (0 : Int32)), .unset, .unset, .unset] []
  refine own_st (fun t k => X0.ldc2Long hx hown (mvT hZ (hw _ (List.mem_of_getElem? (i := 5) rfl))) (g := (mkF m 15 #[.val (.ref r0), .val (.int (2 : Int32)), .val (.int p2), .val (.int (1 : Int32)), .val (.int (0 : Int32)), .unset, .unset, .unset] [])) rfl (hb hby d12_15) t k) ?_
  show own_Go X0 (Q12 Z r0 p2 kA x0 x1 x2 x3 h0 n0) 0 0 18 #[.val (.ref r0), .val (.int (2 : Int32)), .val (.int p2), .val (.int (1 : Int32)), .val (.int (0 : Int32)), .unset, .unset, .unset] [(.long (8 : Int64))]
  refine own_st (fun _ k => XS.iloadN X0.here hx rfl (hb hby d12_18) rfl k) ?_
  show own_Go X0 (Q12 Z r0 p2 kA x0 x1 x2 x3 h0 n0) 0 0 19 #[.val (.ref r0), .val (.int (2 : Int32)), .val (.int p2), .val (.int (1 : Int32)), .val (.int (0 : Int32)), .unset, .unset, .unset] [(.int (2 : Int32)), (.long (8 : Int64))]
  refine own_st (fun _ k => XS.iconst X0.here hx rfl (hb hby d12_19) k) ?_
  show own_Go X0 (Q12 Z r0 p2 kA x0 x1 x2 x3 h0 n0) 0 0 20 #[.val (.ref r0), .val (.int (2 : Int32)), .val (.int p2), .val (.int (1 : Int32)), .val (.int (0 : Int32)), .unset, .unset, .unset] [(.int (1 : Int32)), (.int (2 : Int32)), (.long (8 : Int64))]
  refine own_st (fun _ k => XS.isub X0.here hx rfl (hb hby d12_20) rfl k) ?_
  show own_Go X0 (Q12 Z r0 p2 kA x0 x1 x2 x3 h0 n0) 0 0 21 #[.val (.ref r0), .val (.int (2 : Int32)), .val (.int p2), .val (.int (1 : Int32)), .val (.int (0 : Int32)), .unset, .unset, .unset] [(.int (1 : Int32)), (.long (8 : Int64))]
  refine own_st (fun _ k => XS.iload X0.here hx rfl (hb hby d12_21) rfl k) ?_
  show own_Go X0 (Q12 Z r0 p2 kA x0 x1 x2 x3 h0 n0) 0 0 23 #[.val (.ref r0), .val (.int (2 : Int32)), .val (.int p2), .val (.int (1 : Int32)), .val (.int (0 : Int32)), .unset, .unset, .unset] [(.int (0 : Int32)), (.int (1 : Int32)), (.long (8 : Int64))]
  refine own_st (fun _ k => XS.isub X0.here hx rfl (hb hby d12_23) rfl k) ?_
  show own_Go X0 (Q12 Z r0 p2 kA x0 x1 x2 x3 h0 n0) 0 0 24 #[.val (.ref r0), .val (.int (2 : Int32)), .val (.int p2), .val (.int (1 : Int32)), .val (.int (0 : Int32)), .unset, .unset, .unset] [(.int (1 : Int32)), (.long (8 : Int64))]
  refine own_st (fun _ k => XS.i2l X0.here hx rfl (hb hby d12_24) rfl k) ?_
  show own_Go X0 (Q12 Z r0 p2 kA x0 x1 x2 x3 h0 n0) 0 0 25 #[.val (.ref r0), .val (.int (2 : Int32)), .val (.int p2), .val (.int (1 : Int32)), .val (.int (0 : Int32)), .unset, .unset, .unset] [(.long ((1 : Int32).toInt64)), (.long (8 : Int64))]
  refine own_st (fun _ k => XS.lmul X0.here hx rfl (hb hby d12_25) rfl k) ?_
  show own_Go X0 (Q12 Z r0 p2 kA x0 x1 x2 x3 h0 n0) 0 0 26 #[.val (.ref r0), .val (.int (2 : Int32)), .val (.int p2), .val (.int (1 : Int32)), .val (.int (0 : Int32)), .unset, .unset, .unset] [(.long ((8 : Int64) * ((1 : Int32).toInt64)))]
  refine own_st (fun _ k => XS.lstore X0.here hx rfl (hb hby d12_26) rfl (l' := #[.val (.ref r0), .val (.int (2 : Int32)), .val (.int p2), .val (.int (1 : Int32)), .val (.int (0 : Int32)), .val (.long ((8 : Int64) * ((1 : Int32).toInt64))), .second, .unset]) rfl k) ?_
  show own_Go X0 (Q12 Z r0 p2 kA x0 x1 x2 x3 h0 n0) 0 0 28 #[.val (.ref r0), .val (.int (2 : Int32)), .val (.int p2), .val (.int (1 : Int32)), .val (.int (0 : Int32)), .val (.long ((8 : Int64) * ((1 : Int32).toInt64))), .second, .unset] []
  show own_Go X0 (Q12 Z r0 p2 kA x0 x1 x2 x3 h0 n0) 0 0 28 #[.val (.ref r0), .val (.int (2 : Int32)), .val (.int p2), .val (.int (1 : Int32)), .val (.int (0 : Int32)), .val (.long (own_low (2 : Int32) (0 : Int32))), .second, .unset] []
  have J46_0 : ∀ (bb : Int32) (hbb : bb = (own_bey (2 : Int32) p2 (0 : Int32))), own_Go X0 (Q12 Z r0 p2 kA x0 x1 x2 x3 h0 n0) 0 0 46 #[.val (.ref r0), .val (.int (2 : Int32)), .val (.int p2), .val (.int (1 : Int32)), .val (.int (0 : Int32)), .val (.long (own_low (2 : Int32) (0 : Int32))), .second, .unset] [(.int bb)] := by
    intro bb hbb
    subst hbb
    show own_Go X0 (Q12 Z r0 p2 kA x0 x1 x2 x3 h0 n0) 0 0 46 #[.val (.ref r0), .val (.int (2 : Int32)), .val (.int p2), .val (.int (1 : Int32)), .val (.int (0 : Int32)), .val (.long (own_low (2 : Int32) (0 : Int32))), .second, .unset] [(.int (own_bey (2 : Int32) p2 (0 : Int32)))]
    refine own_st (fun _ k => XS.istore X0.here hx rfl (hb hby d12_46) rfl (l' := #[.val (.ref r0), .val (.int (2 : Int32)), .val (.int p2), .val (.int (1 : Int32)), .val (.int (0 : Int32)), .val (.long (own_low (2 : Int32) (0 : Int32))), .second, .val (.int (own_bey (2 : Int32) p2 (0 : Int32)))]) rfl k) ?_
    show own_Go X0 (Q12 Z r0 p2 kA x0 x1 x2 x3 h0 n0) 0 0 48 #[.val (.ref r0), .val (.int (2 : Int32)), .val (.int p2), .val (.int (1 : Int32)), .val (.int (0 : Int32)), .val (.long (own_low (2 : Int32) (0 : Int32))), .second, .val (.int (own_bey (2 : Int32) p2 (0 : Int32)))] []
    have J74_0 : ∀ (ff : Int32) (hff : ff = (own_one x0 (2 : Int32) p2 (0 : Int32))), own_Go X0 (Q12 Z r0 p2 kA x0 x1 x2 x3 h0 n0) 0 0 74 #[.val (.ref r0), .val (.int (2 : Int32)), .val (.int p2), .val (.int (1 : Int32)), .val (.int (0 : Int32)), .val (.long (own_low (2 : Int32) (0 : Int32))), .second, .val (.int (own_bey (2 : Int32) p2 (0 : Int32)))] [(.int ff)] := by
      intro ff hff
      subst hff
      show own_Go X0 (Q12 Z r0 p2 kA x0 x1 x2 x3 h0 n0) 0 0 74 #[.val (.ref r0), .val (.int (2 : Int32)), .val (.int p2), .val (.int (1 : Int32)), .val (.int (0 : Int32)), .val (.long (own_low (2 : Int32) (0 : Int32))), .second, .val (.int (own_bey (2 : Int32) p2 (0 : Int32)))] [(.int (own_one x0 (2 : Int32) p2 (0 : Int32)))]
      refine own_st (fun _ k => XS.istoreN X0.here hx rfl (hb hby d12_74) rfl (l' := #[.val (.ref r0), .val (.int (2 : Int32)), .val (.int p2), .val (.int (own_one x0 (2 : Int32) p2 (0 : Int32))), .val (.int (0 : Int32)), .val (.long (own_low (2 : Int32) (0 : Int32))), .second, .val (.int (own_bey (2 : Int32) p2 (0 : Int32)))]) rfl k) ?_
      show own_Go X0 (Q12 Z r0 p2 kA x0 x1 x2 x3 h0 n0) 0 0 75 #[.val (.ref r0), .val (.int (2 : Int32)), .val (.int p2), .val (.int (own_one x0 (2 : Int32) p2 (0 : Int32))), .val (.int (0 : Int32)), .val (.long (own_low (2 : Int32) (0 : Int32))), .second, .val (.int (own_bey (2 : Int32) p2 (0 : Int32)))] []
      refine own_st (fun _ k => XS.iinc X0.here hx rfl (hb hby d12_75) rfl (l' := #[.val (.ref r0), .val (.int (2 : Int32)), .val (.int p2), .val (.int (own_one x0 (2 : Int32) p2 (0 : Int32))), .val (.int (1 : Int32)), .val (.long (own_low (2 : Int32) (0 : Int32))), .second, .val (.int (own_bey (2 : Int32) p2 (0 : Int32)))]) rfl k) ?_
      show own_Go X0 (Q12 Z r0 p2 kA x0 x1 x2 x3 h0 n0) 0 0 78 #[.val (.ref r0), .val (.int (2 : Int32)), .val (.int p2), .val (.int (own_one x0 (2 : Int32) p2 (0 : Int32))), .val (.int (1 : Int32)), .val (.long (own_low (2 : Int32) (0 : Int32))), .second, .val (.int (own_bey (2 : Int32) p2 (0 : Int32)))] []
      refine own_st (fun _ k => XS.goto X0.here hx rfl (pc0 := 78) (pc' := 5) rfl (hb hby d12_78) (by decide) (by decide) k) ?_
      show own_Go X0 (Q12 Z r0 p2 kA x0 x1 x2 x3 h0 n0) 0 0 5 #[.val (.ref r0), .val (.int (2 : Int32)), .val (.int p2), .val (.int (own_one x0 (2 : Int32) p2 (0 : Int32))), .val (.int (1 : Int32)), .val (.long (own_low (2 : Int32) (0 : Int32))), .second, .val (.int (own_bey (2 : Int32) p2 (0 : Int32)))] []
      refine own_st (fun _ k => XS.iload X0.here hx rfl (hb hby d12_5) rfl k) ?_
      show own_Go X0 (Q12 Z r0 p2 kA x0 x1 x2 x3 h0 n0) 0 0 7 #[.val (.ref r0), .val (.int (2 : Int32)), .val (.int p2), .val (.int (own_one x0 (2 : Int32) p2 (0 : Int32))), .val (.int (1 : Int32)), .val (.long (own_low (2 : Int32) (0 : Int32))), .second, .val (.int (own_bey (2 : Int32) p2 (0 : Int32)))] [(.int (1 : Int32))]
      refine own_st (fun _ k => XS.iloadN X0.here hx rfl (hb hby d12_7) rfl k) ?_
      show own_Go X0 (Q12 Z r0 p2 kA x0 x1 x2 x3 h0 n0) 0 0 8 #[.val (.ref r0), .val (.int (2 : Int32)), .val (.int p2), .val (.int (own_one x0 (2 : Int32) p2 (0 : Int32))), .val (.int (1 : Int32)), .val (.long (own_low (2 : Int32) (0 : Int32))), .second, .val (.int (own_bey (2 : Int32) p2 (0 : Int32)))] [(.int (2 : Int32)), (.int (1 : Int32))]
      have c8_3 : (1 : Int32) < (2 : Int32) := (by decide)
      refine own_st (fun _ k => XS.icmpNo X0.here hx rfl (hb hby d12_8) rfl (tlt c8_3).2.1 k) ?_
      show own_Go X0 (Q12 Z r0 p2 kA x0 x1 x2 x3 h0 n0) 0 0 11 #[.val (.ref r0), .val (.int (2 : Int32)), .val (.int p2), .val (.int (own_one x0 (2 : Int32) p2 (0 : Int32))), .val (.int (1 : Int32)), .val (.long (own_low (2 : Int32) (0 : Int32))), .second, .val (.int (own_bey (2 : Int32) p2 (0 : Int32)))] []
      refine own_st (fun _ k => XS.iloadN X0.here hx rfl (hb hby d12_11) rfl k) ?_
      show own_Go X0 (Q12 Z r0 p2 kA x0 x1 x2 x3 h0 n0) 0 0 12 #[.val (.ref r0), .val (.int (2 : Int32)), .val (.int p2), .val (.int (own_one x0 (2 : Int32) p2 (0 : Int32))), .val (.int (1 : Int32)), .val (.long (own_low (2 : Int32) (0 : Int32))), .second, .val (.int (own_bey (2 : Int32) p2 (0 : Int32)))] [(.int (own_one x0 (2 : Int32) p2 (0 : Int32)))]
      by_cases c12_4 : (own_one x0 (2 : Int32) p2 (0 : Int32)) = (0 : Int32)
      · skip
        refine own_st (fun _ k => XS.ifYes X0.here hx rfl (pc0 := 12) (pc' := 81) rfl (hb hby d12_12) rfl ((if0 _ _).trans (teq c12_4).1) (by decide) (by decide) k) ?_
        show own_Go X0 (Q12 Z r0 p2 kA x0 x1 x2 x3 h0 n0) 0 0 81 #[.val (.ref r0), .val (.int (2 : Int32)), .val (.int p2), .val (.int (own_one x0 (2 : Int32) p2 (0 : Int32))), .val (.int (1 : Int32)), .val (.long (own_low (2 : Int32) (0 : Int32))), .second, .val (.int (own_bey (2 : Int32) p2 (0 : Int32)))] []
        refine own_st (fun _ k => XS.iloadN X0.here hx rfl (hb hby d12_81) rfl k) ?_
        show own_Go X0 (Q12 Z r0 p2 kA x0 x1 x2 x3 h0 n0) 0 0 82 #[.val (.ref r0), .val (.int (2 : Int32)), .val (.int p2), .val (.int (own_one x0 (2 : Int32) p2 (0 : Int32))), .val (.int (1 : Int32)), .val (.long (own_low (2 : Int32) (0 : Int32))), .second, .val (.int (own_bey (2 : Int32) p2 (0 : Int32)))] [(.int (own_one x0 (2 : Int32) p2 (0 : Int32)))]
        refine own_retN X0 hx Bd.returns (by simp) hlk e0 (hb hby d12_82) (by decide) (by decide) ?_
        have hr : (own_fb2 x0 x1 p2) = (own_one x0 (2 : Int32) p2 (0 : Int32)) := by unfold own_fb2; rw [if_pos c12_4]; exact c12_4.symm
        exact ⟨by rw [hr]; rw [own_oneb], N0, rfl⟩
      · skip
        refine own_st (fun _ k => XS.ifNo X0.here hx rfl (hb hby d12_12) rfl ((if0 _ _).trans (feq c12_4).1) k) ?_
        show own_Go X0 (Q12 Z r0 p2 kA x0 x1 x2 x3 h0 n0) 0 0 15 #[.val (.ref r0), .val (.int (2 : Int32)), .val (.int p2), .val (.int (own_one x0 (2 : Int32) p2 (0 : Int32))), .val (.int (1 : Int32)), .val (.long (own_low (2 : Int32) (0 : Int32))), .second, .val (.int (own_bey (2 : Int32) p2 (0 : Int32)))] []
        refine own_st (fun t k => X0.ldc2Long hx hown (mvT hZ (hw _ (List.mem_of_getElem? (i := 5) rfl))) (g := (mkF m 15 #[.val (.ref r0), .val (.int (2 : Int32)), .val (.int p2), .val (.int (own_one x0 (2 : Int32) p2 (0 : Int32))), .val (.int (1 : Int32)), .val (.long (own_low (2 : Int32) (0 : Int32))), .second, .val (.int (own_bey (2 : Int32) p2 (0 : Int32)))] [])) rfl (hb hby d12_15) t k) ?_
        show own_Go X0 (Q12 Z r0 p2 kA x0 x1 x2 x3 h0 n0) 0 0 18 #[.val (.ref r0), .val (.int (2 : Int32)), .val (.int p2), .val (.int (own_one x0 (2 : Int32) p2 (0 : Int32))), .val (.int (1 : Int32)), .val (.long (own_low (2 : Int32) (0 : Int32))), .second, .val (.int (own_bey (2 : Int32) p2 (0 : Int32)))] [(.long (8 : Int64))]
        refine own_st (fun _ k => XS.iloadN X0.here hx rfl (hb hby d12_18) rfl k) ?_
        show own_Go X0 (Q12 Z r0 p2 kA x0 x1 x2 x3 h0 n0) 0 0 19 #[.val (.ref r0), .val (.int (2 : Int32)), .val (.int p2), .val (.int (own_one x0 (2 : Int32) p2 (0 : Int32))), .val (.int (1 : Int32)), .val (.long (own_low (2 : Int32) (0 : Int32))), .second, .val (.int (own_bey (2 : Int32) p2 (0 : Int32)))] [(.int (2 : Int32)), (.long (8 : Int64))]
        refine own_st (fun _ k => XS.iconst X0.here hx rfl (hb hby d12_19) k) ?_
        show own_Go X0 (Q12 Z r0 p2 kA x0 x1 x2 x3 h0 n0) 0 0 20 #[.val (.ref r0), .val (.int (2 : Int32)), .val (.int p2), .val (.int (own_one x0 (2 : Int32) p2 (0 : Int32))), .val (.int (1 : Int32)), .val (.long (own_low (2 : Int32) (0 : Int32))), .second, .val (.int (own_bey (2 : Int32) p2 (0 : Int32)))] [(.int (1 : Int32)), (.int (2 : Int32)), (.long (8 : Int64))]
        refine own_st (fun _ k => XS.isub X0.here hx rfl (hb hby d12_20) rfl k) ?_
        show own_Go X0 (Q12 Z r0 p2 kA x0 x1 x2 x3 h0 n0) 0 0 21 #[.val (.ref r0), .val (.int (2 : Int32)), .val (.int p2), .val (.int (own_one x0 (2 : Int32) p2 (0 : Int32))), .val (.int (1 : Int32)), .val (.long (own_low (2 : Int32) (0 : Int32))), .second, .val (.int (own_bey (2 : Int32) p2 (0 : Int32)))] [(.int (1 : Int32)), (.long (8 : Int64))]
        refine own_st (fun _ k => XS.iload X0.here hx rfl (hb hby d12_21) rfl k) ?_
        show own_Go X0 (Q12 Z r0 p2 kA x0 x1 x2 x3 h0 n0) 0 0 23 #[.val (.ref r0), .val (.int (2 : Int32)), .val (.int p2), .val (.int (own_one x0 (2 : Int32) p2 (0 : Int32))), .val (.int (1 : Int32)), .val (.long (own_low (2 : Int32) (0 : Int32))), .second, .val (.int (own_bey (2 : Int32) p2 (0 : Int32)))] [(.int (1 : Int32)), (.int (1 : Int32)), (.long (8 : Int64))]
        refine own_st (fun _ k => XS.isub X0.here hx rfl (hb hby d12_23) rfl k) ?_
        show own_Go X0 (Q12 Z r0 p2 kA x0 x1 x2 x3 h0 n0) 0 0 24 #[.val (.ref r0), .val (.int (2 : Int32)), .val (.int p2), .val (.int (own_one x0 (2 : Int32) p2 (0 : Int32))), .val (.int (1 : Int32)), .val (.long (own_low (2 : Int32) (0 : Int32))), .second, .val (.int (own_bey (2 : Int32) p2 (0 : Int32)))] [(.int (0 : Int32)), (.long (8 : Int64))]
        refine own_st (fun _ k => XS.i2l X0.here hx rfl (hb hby d12_24) rfl k) ?_
        show own_Go X0 (Q12 Z r0 p2 kA x0 x1 x2 x3 h0 n0) 0 0 25 #[.val (.ref r0), .val (.int (2 : Int32)), .val (.int p2), .val (.int (own_one x0 (2 : Int32) p2 (0 : Int32))), .val (.int (1 : Int32)), .val (.long (own_low (2 : Int32) (0 : Int32))), .second, .val (.int (own_bey (2 : Int32) p2 (0 : Int32)))] [(.long ((0 : Int32).toInt64)), (.long (8 : Int64))]
        refine own_st (fun _ k => XS.lmul X0.here hx rfl (hb hby d12_25) rfl k) ?_
        show own_Go X0 (Q12 Z r0 p2 kA x0 x1 x2 x3 h0 n0) 0 0 26 #[.val (.ref r0), .val (.int (2 : Int32)), .val (.int p2), .val (.int (own_one x0 (2 : Int32) p2 (0 : Int32))), .val (.int (1 : Int32)), .val (.long (own_low (2 : Int32) (0 : Int32))), .second, .val (.int (own_bey (2 : Int32) p2 (0 : Int32)))] [(.long ((8 : Int64) * ((0 : Int32).toInt64)))]
        refine own_st (fun _ k => XS.lstore X0.here hx rfl (hb hby d12_26) rfl (l' := #[.val (.ref r0), .val (.int (2 : Int32)), .val (.int p2), .val (.int (own_one x0 (2 : Int32) p2 (0 : Int32))), .val (.int (1 : Int32)), .val (.long ((8 : Int64) * ((0 : Int32).toInt64))), .second, .val (.int (own_bey (2 : Int32) p2 (0 : Int32)))]) rfl k) ?_
        show own_Go X0 (Q12 Z r0 p2 kA x0 x1 x2 x3 h0 n0) 0 0 28 #[.val (.ref r0), .val (.int (2 : Int32)), .val (.int p2), .val (.int (own_one x0 (2 : Int32) p2 (0 : Int32))), .val (.int (1 : Int32)), .val (.long ((8 : Int64) * ((0 : Int32).toInt64))), .second, .val (.int (own_bey (2 : Int32) p2 (0 : Int32)))] []
        show own_Go X0 (Q12 Z r0 p2 kA x0 x1 x2 x3 h0 n0) 0 0 28 #[.val (.ref r0), .val (.int (2 : Int32)), .val (.int p2), .val (.int (own_one x0 (2 : Int32) p2 (0 : Int32))), .val (.int (1 : Int32)), .val (.long (own_low (2 : Int32) (1 : Int32))), .second, .val (.int (own_bey (2 : Int32) p2 (0 : Int32)))] []
        have J46_1 : ∀ (bb : Int32) (hbb : bb = (own_bey (2 : Int32) p2 (1 : Int32))), own_Go X0 (Q12 Z r0 p2 kA x0 x1 x2 x3 h0 n0) 0 0 46 #[.val (.ref r0), .val (.int (2 : Int32)), .val (.int p2), .val (.int (own_one x0 (2 : Int32) p2 (0 : Int32))), .val (.int (1 : Int32)), .val (.long (own_low (2 : Int32) (1 : Int32))), .second, .val (.int (own_bey (2 : Int32) p2 (0 : Int32)))] [(.int bb)] := by
          intro bb hbb
          subst hbb
          show own_Go X0 (Q12 Z r0 p2 kA x0 x1 x2 x3 h0 n0) 0 0 46 #[.val (.ref r0), .val (.int (2 : Int32)), .val (.int p2), .val (.int (own_one x0 (2 : Int32) p2 (0 : Int32))), .val (.int (1 : Int32)), .val (.long (own_low (2 : Int32) (1 : Int32))), .second, .val (.int (own_bey (2 : Int32) p2 (0 : Int32)))] [(.int (own_bey (2 : Int32) p2 (1 : Int32)))]
          refine own_st (fun _ k => XS.istore X0.here hx rfl (hb hby d12_46) rfl (l' := #[.val (.ref r0), .val (.int (2 : Int32)), .val (.int p2), .val (.int (own_one x0 (2 : Int32) p2 (0 : Int32))), .val (.int (1 : Int32)), .val (.long (own_low (2 : Int32) (1 : Int32))), .second, .val (.int (own_bey (2 : Int32) p2 (1 : Int32)))]) rfl k) ?_
          show own_Go X0 (Q12 Z r0 p2 kA x0 x1 x2 x3 h0 n0) 0 0 48 #[.val (.ref r0), .val (.int (2 : Int32)), .val (.int p2), .val (.int (own_one x0 (2 : Int32) p2 (0 : Int32))), .val (.int (1 : Int32)), .val (.long (own_low (2 : Int32) (1 : Int32))), .second, .val (.int (own_bey (2 : Int32) p2 (1 : Int32)))] []
          have J74_1 : ∀ (ff : Int32) (hff : ff = (own_one x1 (2 : Int32) p2 (1 : Int32))), own_Go X0 (Q12 Z r0 p2 kA x0 x1 x2 x3 h0 n0) 0 0 74 #[.val (.ref r0), .val (.int (2 : Int32)), .val (.int p2), .val (.int (own_one x0 (2 : Int32) p2 (0 : Int32))), .val (.int (1 : Int32)), .val (.long (own_low (2 : Int32) (1 : Int32))), .second, .val (.int (own_bey (2 : Int32) p2 (1 : Int32)))] [(.int ff)] := by
            intro ff hff
            subst hff
            show own_Go X0 (Q12 Z r0 p2 kA x0 x1 x2 x3 h0 n0) 0 0 74 #[.val (.ref r0), .val (.int (2 : Int32)), .val (.int p2), .val (.int (own_one x0 (2 : Int32) p2 (0 : Int32))), .val (.int (1 : Int32)), .val (.long (own_low (2 : Int32) (1 : Int32))), .second, .val (.int (own_bey (2 : Int32) p2 (1 : Int32)))] [(.int (own_one x1 (2 : Int32) p2 (1 : Int32)))]
            refine own_st (fun _ k => XS.istoreN X0.here hx rfl (hb hby d12_74) rfl (l' := #[.val (.ref r0), .val (.int (2 : Int32)), .val (.int p2), .val (.int (own_one x1 (2 : Int32) p2 (1 : Int32))), .val (.int (1 : Int32)), .val (.long (own_low (2 : Int32) (1 : Int32))), .second, .val (.int (own_bey (2 : Int32) p2 (1 : Int32)))]) rfl k) ?_
            show own_Go X0 (Q12 Z r0 p2 kA x0 x1 x2 x3 h0 n0) 0 0 75 #[.val (.ref r0), .val (.int (2 : Int32)), .val (.int p2), .val (.int (own_one x1 (2 : Int32) p2 (1 : Int32))), .val (.int (1 : Int32)), .val (.long (own_low (2 : Int32) (1 : Int32))), .second, .val (.int (own_bey (2 : Int32) p2 (1 : Int32)))] []
            refine own_st (fun _ k => XS.iinc X0.here hx rfl (hb hby d12_75) rfl (l' := #[.val (.ref r0), .val (.int (2 : Int32)), .val (.int p2), .val (.int (own_one x1 (2 : Int32) p2 (1 : Int32))), .val (.int (2 : Int32)), .val (.long (own_low (2 : Int32) (1 : Int32))), .second, .val (.int (own_bey (2 : Int32) p2 (1 : Int32)))]) rfl k) ?_
            show own_Go X0 (Q12 Z r0 p2 kA x0 x1 x2 x3 h0 n0) 0 0 78 #[.val (.ref r0), .val (.int (2 : Int32)), .val (.int p2), .val (.int (own_one x1 (2 : Int32) p2 (1 : Int32))), .val (.int (2 : Int32)), .val (.long (own_low (2 : Int32) (1 : Int32))), .second, .val (.int (own_bey (2 : Int32) p2 (1 : Int32)))] []
            refine own_st (fun _ k => XS.goto X0.here hx rfl (pc0 := 78) (pc' := 5) rfl (hb hby d12_78) (by decide) (by decide) k) ?_
            show own_Go X0 (Q12 Z r0 p2 kA x0 x1 x2 x3 h0 n0) 0 0 5 #[.val (.ref r0), .val (.int (2 : Int32)), .val (.int p2), .val (.int (own_one x1 (2 : Int32) p2 (1 : Int32))), .val (.int (2 : Int32)), .val (.long (own_low (2 : Int32) (1 : Int32))), .second, .val (.int (own_bey (2 : Int32) p2 (1 : Int32)))] []
            refine own_st (fun _ k => XS.iload X0.here hx rfl (hb hby d12_5) rfl k) ?_
            show own_Go X0 (Q12 Z r0 p2 kA x0 x1 x2 x3 h0 n0) 0 0 7 #[.val (.ref r0), .val (.int (2 : Int32)), .val (.int p2), .val (.int (own_one x1 (2 : Int32) p2 (1 : Int32))), .val (.int (2 : Int32)), .val (.long (own_low (2 : Int32) (1 : Int32))), .second, .val (.int (own_bey (2 : Int32) p2 (1 : Int32)))] [(.int (2 : Int32))]
            refine own_st (fun _ k => XS.iloadN X0.here hx rfl (hb hby d12_7) rfl k) ?_
            show own_Go X0 (Q12 Z r0 p2 kA x0 x1 x2 x3 h0 n0) 0 0 8 #[.val (.ref r0), .val (.int (2 : Int32)), .val (.int p2), .val (.int (own_one x1 (2 : Int32) p2 (1 : Int32))), .val (.int (2 : Int32)), .val (.long (own_low (2 : Int32) (1 : Int32))), .second, .val (.int (own_bey (2 : Int32) p2 (1 : Int32)))] [(.int (2 : Int32)), (.int (2 : Int32))]
            have c8_5 : ¬ ((2 : Int32) < (2 : Int32)) := (by decide)
            refine own_st (fun _ k => XS.icmpYes X0.here hx rfl (pc0 := 8) (pc' := 81) rfl (hb hby d12_8) rfl (flt c8_5).2.1 (by decide) (by decide) k) ?_
            show own_Go X0 (Q12 Z r0 p2 kA x0 x1 x2 x3 h0 n0) 0 0 81 #[.val (.ref r0), .val (.int (2 : Int32)), .val (.int p2), .val (.int (own_one x1 (2 : Int32) p2 (1 : Int32))), .val (.int (2 : Int32)), .val (.long (own_low (2 : Int32) (1 : Int32))), .second, .val (.int (own_bey (2 : Int32) p2 (1 : Int32)))] []
            refine own_st (fun _ k => XS.iloadN X0.here hx rfl (hb hby d12_81) rfl k) ?_
            show own_Go X0 (Q12 Z r0 p2 kA x0 x1 x2 x3 h0 n0) 0 0 82 #[.val (.ref r0), .val (.int (2 : Int32)), .val (.int p2), .val (.int (own_one x1 (2 : Int32) p2 (1 : Int32))), .val (.int (2 : Int32)), .val (.long (own_low (2 : Int32) (1 : Int32))), .second, .val (.int (own_bey (2 : Int32) p2 (1 : Int32)))] [(.int (own_one x1 (2 : Int32) p2 (1 : Int32)))]
            refine own_retN X0 hx Bd.returns (by simp) hlk e0 (hb hby d12_82) (by decide) (by decide) ?_
            have hr : (own_fb2 x0 x1 p2) = (own_one x1 (2 : Int32) p2 (1 : Int32)) := by unfold own_fb2; rw [if_neg c12_4]
            exact ⟨by rw [hr]; rw [own_oneb], N0, rfl⟩
          refine own_st (fun _ k => XS.iload X0.here hx rfl (hb hby d12_48) rfl k) ?_
          show own_Go X0 (Q12 Z r0 p2 kA x0 x1 x2 x3 h0 n0) 0 0 50 #[.val (.ref r0), .val (.int (2 : Int32)), .val (.int p2), .val (.int (own_one x0 (2 : Int32) p2 (0 : Int32))), .val (.int (1 : Int32)), .val (.long (own_low (2 : Int32) (1 : Int32))), .second, .val (.int (own_bey (2 : Int32) p2 (1 : Int32)))] [(.int (own_bey (2 : Int32) p2 (1 : Int32)))]
          refine own_st (fun _ k => XS.bipush X0.here hx rfl (hb hby d12_50) k) ?_
          show own_Go X0 (Q12 Z r0 p2 kA x0 x1 x2 x3 h0 n0) 0 0 52 #[.val (.ref r0), .val (.int (2 : Int32)), .val (.int p2), .val (.int (own_one x0 (2 : Int32) p2 (0 : Int32))), .val (.int (1 : Int32)), .val (.long (own_low (2 : Int32) (1 : Int32))), .second, .val (.int (own_bey (2 : Int32) p2 (1 : Int32)))] [(.int (8 : Int32)), (.int (own_bey (2 : Int32) p2 (1 : Int32)))]
          by_cases c52_6 : (own_bey (2 : Int32) p2 (1 : Int32)) < (8 : Int32)
          · skip
            refine own_st (fun _ k => XS.icmpNo X0.here hx rfl (hb hby d12_52) rfl (tlt c52_6).2.1 k) ?_
            show own_Go X0 (Q12 Z r0 p2 kA x0 x1 x2 x3 h0 n0) 0 0 55 #[.val (.ref r0), .val (.int (2 : Int32)), .val (.int p2), .val (.int (own_one x0 (2 : Int32) p2 (0 : Int32))), .val (.int (1 : Int32)), .val (.long (own_low (2 : Int32) (1 : Int32))), .second, .val (.int (own_bey (2 : Int32) p2 (1 : Int32)))] []
            refine own_st (fun _ k => XS.aloadN X0.here hx rfl (hb hby d12_55) rfl rfl k) ?_
            show own_Go X0 (Q12 Z r0 p2 kA x0 x1 x2 x3 h0 n0) 0 0 56 #[.val (.ref r0), .val (.int (2 : Int32)), .val (.int p2), .val (.int (own_one x0 (2 : Int32) p2 (0 : Int32))), .val (.int (1 : Int32)), .val (.long (own_low (2 : Int32) (1 : Int32))), .second, .val (.int (own_bey (2 : Int32) p2 (1 : Int32)))] [(.ref r0)]
            refine own_st (fun _ k => XS.iload X0.here hx rfl (hb hby d12_56) rfl k) ?_
            show own_Go X0 (Q12 Z r0 p2 kA x0 x1 x2 x3 h0 n0) 0 0 58 #[.val (.ref r0), .val (.int (2 : Int32)), .val (.int p2), .val (.int (own_one x0 (2 : Int32) p2 (0 : Int32))), .val (.int (1 : Int32)), .val (.long (own_low (2 : Int32) (1 : Int32))), .second, .val (.int (own_bey (2 : Int32) p2 (1 : Int32)))] [(.int (1 : Int32)), (.ref r0)]
            refine own_st (fun _ k => own_ldB X0 hx hZ e0 PV (j := (1 : Int32)) ⟨by decide, by decide⟩ (v := (.int x1)) rfl (g := (mkF m 58 #[.val (.ref r0), .val (.int (2 : Int32)), .val (.int p2), .val (.int (own_one x0 (2 : Int32) p2 (0 : Int32))), .val (.int (1 : Int32)), .val (.long (own_low (2 : Int32) (1 : Int32))), .second, .val (.int (own_bey (2 : Int32) p2 (1 : Int32)))] [(.int (1 : Int32)), (.ref r0)])) rfl rfl (hb hby d12_58) _ k) ?_
            show own_Go X0 (Q12 Z r0 p2 kA x0 x1 x2 x3 h0 n0) 0 0 59 #[.val (.ref r0), .val (.int (2 : Int32)), .val (.int p2), .val (.int (own_one x0 (2 : Int32) p2 (0 : Int32))), .val (.int (1 : Int32)), .val (.long (own_low (2 : Int32) (1 : Int32))), .second, .val (.int (own_bey (2 : Int32) p2 (1 : Int32)))] [(.int x1)]
            refine own_st (fun _ k => XS.sipush X0.here hx rfl (hb hby d12_59) k) ?_
            show own_Go X0 (Q12 Z r0 p2 kA x0 x1 x2 x3 h0 n0) 0 0 62 #[.val (.ref r0), .val (.int (2 : Int32)), .val (.int p2), .val (.int (own_one x0 (2 : Int32) p2 (0 : Int32))), .val (.int (1 : Int32)), .val (.long (own_low (2 : Int32) (1 : Int32))), .second, .val (.int (own_bey (2 : Int32) p2 (1 : Int32)))] [(.int (255 : Int32)), (.int x1)]
            refine own_st (fun _ k => XS.iand X0.here hx rfl (hb hby d12_62) rfl k) ?_
            show own_Go X0 (Q12 Z r0 p2 kA x0 x1 x2 x3 h0 n0) 0 0 63 #[.val (.ref r0), .val (.int (2 : Int32)), .val (.int p2), .val (.int (own_one x0 (2 : Int32) p2 (0 : Int32))), .val (.int (1 : Int32)), .val (.long (own_low (2 : Int32) (1 : Int32))), .second, .val (.int (own_bey (2 : Int32) p2 (1 : Int32)))] [(.int (x1 &&& (255 : Int32)))]
            refine own_st (fun _ k => XS.iload X0.here hx rfl (hb hby d12_63) rfl k) ?_
            show own_Go X0 (Q12 Z r0 p2 kA x0 x1 x2 x3 h0 n0) 0 0 65 #[.val (.ref r0), .val (.int (2 : Int32)), .val (.int p2), .val (.int (own_one x0 (2 : Int32) p2 (0 : Int32))), .val (.int (1 : Int32)), .val (.long (own_low (2 : Int32) (1 : Int32))), .second, .val (.int (own_bey (2 : Int32) p2 (1 : Int32)))] [(.int (own_bey (2 : Int32) p2 (1 : Int32))), (.int (x1 &&& (255 : Int32)))]
            refine own_st (fun _ k => XS.ishr X0.here hx rfl (hb hby d12_65) rfl k) ?_
            show own_Go X0 (Q12 Z r0 p2 kA x0 x1 x2 x3 h0 n0) 0 0 66 #[.val (.ref r0), .val (.int (2 : Int32)), .val (.int p2), .val (.int (own_one x0 (2 : Int32) p2 (0 : Int32))), .val (.int (1 : Int32)), .val (.long (own_low (2 : Int32) (1 : Int32))), .second, .val (.int (own_bey (2 : Int32) p2 (1 : Int32)))] [(.int ((x1 &&& (255 : Int32)) >>> ((own_bey (2 : Int32) p2 (1 : Int32)) &&& 31)))]
            by_cases c66_7 : ((x1 &&& (255 : Int32)) >>> ((own_bey (2 : Int32) p2 (1 : Int32)) &&& 31)) = (0 : Int32)
            · skip
              refine own_st (fun _ k => XS.ifNo X0.here hx rfl (hb hby d12_66) rfl ((if0 _ _).trans (teq c66_7).2) k) ?_
              show own_Go X0 (Q12 Z r0 p2 kA x0 x1 x2 x3 h0 n0) 0 0 69 #[.val (.ref r0), .val (.int (2 : Int32)), .val (.int p2), .val (.int (own_one x0 (2 : Int32) p2 (0 : Int32))), .val (.int (1 : Int32)), .val (.long (own_low (2 : Int32) (1 : Int32))), .second, .val (.int (own_bey (2 : Int32) p2 (1 : Int32)))] []
              refine own_st (fun _ k => XS.iconst X0.here hx rfl (hb hby d12_69) k) ?_
              show own_Go X0 (Q12 Z r0 p2 kA x0 x1 x2 x3 h0 n0) 0 0 70 #[.val (.ref r0), .val (.int (2 : Int32)), .val (.int p2), .val (.int (own_one x0 (2 : Int32) p2 (0 : Int32))), .val (.int (1 : Int32)), .val (.long (own_low (2 : Int32) (1 : Int32))), .second, .val (.int (own_bey (2 : Int32) p2 (1 : Int32)))] [(.int (1 : Int32))]
              refine own_st (fun _ k => XS.goto X0.here hx rfl (pc0 := 70) (pc' := 74) rfl (hb hby d12_70) (by decide) (by decide) k) ?_
              show own_Go X0 (Q12 Z r0 p2 kA x0 x1 x2 x3 h0 n0) 0 0 74 #[.val (.ref r0), .val (.int (2 : Int32)), .val (.int p2), .val (.int (own_one x0 (2 : Int32) p2 (0 : Int32))), .val (.int (1 : Int32)), .val (.long (own_low (2 : Int32) (1 : Int32))), .second, .val (.int (own_bey (2 : Int32) p2 (1 : Int32)))] [(.int (1 : Int32))]
              exact J74_1 _ (by unfold own_one; rw [if_pos c52_6, if_pos c66_7])
            · skip
              refine own_st (fun _ k => XS.ifYes X0.here hx rfl (pc0 := 66) (pc' := 73) rfl (hb hby d12_66) rfl ((if0 _ _).trans (feq c66_7).2) (by decide) (by decide) k) ?_
              show own_Go X0 (Q12 Z r0 p2 kA x0 x1 x2 x3 h0 n0) 0 0 73 #[.val (.ref r0), .val (.int (2 : Int32)), .val (.int p2), .val (.int (own_one x0 (2 : Int32) p2 (0 : Int32))), .val (.int (1 : Int32)), .val (.long (own_low (2 : Int32) (1 : Int32))), .second, .val (.int (own_bey (2 : Int32) p2 (1 : Int32)))] []
              refine own_st (fun _ k => XS.iconst X0.here hx rfl (hb hby d12_73) k) ?_
              show own_Go X0 (Q12 Z r0 p2 kA x0 x1 x2 x3 h0 n0) 0 0 74 #[.val (.ref r0), .val (.int (2 : Int32)), .val (.int p2), .val (.int (own_one x0 (2 : Int32) p2 (0 : Int32))), .val (.int (1 : Int32)), .val (.long (own_low (2 : Int32) (1 : Int32))), .second, .val (.int (own_bey (2 : Int32) p2 (1 : Int32)))] [(.int (0 : Int32))]
              exact J74_1 _ (by unfold own_one; rw [if_pos c52_6, if_neg c66_7])
          · skip
            refine own_st (fun _ k => XS.icmpYes X0.here hx rfl (pc0 := 52) (pc' := 69) rfl (hb hby d12_52) rfl (flt c52_6).2.1 (by decide) (by decide) k) ?_
            show own_Go X0 (Q12 Z r0 p2 kA x0 x1 x2 x3 h0 n0) 0 0 69 #[.val (.ref r0), .val (.int (2 : Int32)), .val (.int p2), .val (.int (own_one x0 (2 : Int32) p2 (0 : Int32))), .val (.int (1 : Int32)), .val (.long (own_low (2 : Int32) (1 : Int32))), .second, .val (.int (own_bey (2 : Int32) p2 (1 : Int32)))] []
            refine own_st (fun _ k => XS.iconst X0.here hx rfl (hb hby d12_69) k) ?_
            show own_Go X0 (Q12 Z r0 p2 kA x0 x1 x2 x3 h0 n0) 0 0 70 #[.val (.ref r0), .val (.int (2 : Int32)), .val (.int p2), .val (.int (own_one x0 (2 : Int32) p2 (0 : Int32))), .val (.int (1 : Int32)), .val (.long (own_low (2 : Int32) (1 : Int32))), .second, .val (.int (own_bey (2 : Int32) p2 (1 : Int32)))] [(.int (1 : Int32))]
            refine own_st (fun _ k => XS.goto X0.here hx rfl (pc0 := 70) (pc' := 74) rfl (hb hby d12_70) (by decide) (by decide) k) ?_
            show own_Go X0 (Q12 Z r0 p2 kA x0 x1 x2 x3 h0 n0) 0 0 74 #[.val (.ref r0), .val (.int (2 : Int32)), .val (.int p2), .val (.int (own_one x0 (2 : Int32) p2 (0 : Int32))), .val (.int (1 : Int32)), .val (.long (own_low (2 : Int32) (1 : Int32))), .second, .val (.int (own_bey (2 : Int32) p2 (1 : Int32)))] [(.int (1 : Int32))]
            exact J74_1 _ (by unfold own_one; rw [if_neg c52_6])
        refine own_st (fun _ k => XS.lload X0.here hx rfl (hb hby d12_28) rfl k) ?_
        show own_Go X0 (Q12 Z r0 p2 kA x0 x1 x2 x3 h0 n0) 0 0 30 #[.val (.ref r0), .val (.int (2 : Int32)), .val (.int p2), .val (.int (own_one x0 (2 : Int32) p2 (0 : Int32))), .val (.int (1 : Int32)), .val (.long (own_low (2 : Int32) (1 : Int32))), .second, .val (.int (own_bey (2 : Int32) p2 (0 : Int32)))] [(.long (own_low (2 : Int32) (1 : Int32)))]
        refine own_st (fun _ k => XS.iloadN X0.here hx rfl (hb hby d12_30) rfl k) ?_
        show own_Go X0 (Q12 Z r0 p2 kA x0 x1 x2 x3 h0 n0) 0 0 31 #[.val (.ref r0), .val (.int (2 : Int32)), .val (.int p2), .val (.int (own_one x0 (2 : Int32) p2 (0 : Int32))), .val (.int (1 : Int32)), .val (.long (own_low (2 : Int32) (1 : Int32))), .second, .val (.int (own_bey (2 : Int32) p2 (0 : Int32)))] [(.int p2), (.long (own_low (2 : Int32) (1 : Int32)))]
        refine own_st (fun _ k => XS.i2l X0.here hx rfl (hb hby d12_31) rfl k) ?_
        show own_Go X0 (Q12 Z r0 p2 kA x0 x1 x2 x3 h0 n0) 0 0 32 #[.val (.ref r0), .val (.int (2 : Int32)), .val (.int p2), .val (.int (own_one x0 (2 : Int32) p2 (0 : Int32))), .val (.int (1 : Int32)), .val (.long (own_low (2 : Int32) (1 : Int32))), .second, .val (.int (own_bey (2 : Int32) p2 (0 : Int32)))] [(.long (p2.toInt64)), (.long (own_low (2 : Int32) (1 : Int32)))]
        refine own_st (fun _ k => XS.lcmp X0.here hx rfl (hb hby d12_32) rfl k) ?_
        show own_Go X0 (Q12 Z r0 p2 kA x0 x1 x2 x3 h0 n0) 0 0 33 #[.val (.ref r0), .val (.int (2 : Int32)), .val (.int p2), .val (.int (own_one x0 (2 : Int32) p2 (0 : Int32))), .val (.int (1 : Int32)), .val (.long (own_low (2 : Int32) (1 : Int32))), .second, .val (.int (own_bey (2 : Int32) p2 (0 : Int32)))] [(.int (lcmpW (own_low (2 : Int32) (1 : Int32)) (p2.toInt64)))]
        by_cases c33_8 : (own_low (2 : Int32) (1 : Int32)) < (p2.toInt64)
        · skip
          refine own_st (fun _ k => XS.ifYes X0.here hx rfl (pc0 := 33) (pc' := 40) rfl (hb hby d12_33) rfl ((if0 _ _).trans (tlt ((lw_lt _ _).mpr c33_8)).1) (by decide) (by decide) k) ?_
          show own_Go X0 (Q12 Z r0 p2 kA x0 x1 x2 x3 h0 n0) 0 0 40 #[.val (.ref r0), .val (.int (2 : Int32)), .val (.int p2), .val (.int (own_one x0 (2 : Int32) p2 (0 : Int32))), .val (.int (1 : Int32)), .val (.long (own_low (2 : Int32) (1 : Int32))), .second, .val (.int (own_bey (2 : Int32) p2 (0 : Int32)))] []
          refine own_st (fun _ k => XS.iloadN X0.here hx rfl (hb hby d12_40) rfl k) ?_
          show own_Go X0 (Q12 Z r0 p2 kA x0 x1 x2 x3 h0 n0) 0 0 41 #[.val (.ref r0), .val (.int (2 : Int32)), .val (.int p2), .val (.int (own_one x0 (2 : Int32) p2 (0 : Int32))), .val (.int (1 : Int32)), .val (.long (own_low (2 : Int32) (1 : Int32))), .second, .val (.int (own_bey (2 : Int32) p2 (0 : Int32)))] [(.int p2)]
          refine own_st (fun _ k => XS.i2l X0.here hx rfl (hb hby d12_41) rfl k) ?_
          show own_Go X0 (Q12 Z r0 p2 kA x0 x1 x2 x3 h0 n0) 0 0 42 #[.val (.ref r0), .val (.int (2 : Int32)), .val (.int p2), .val (.int (own_one x0 (2 : Int32) p2 (0 : Int32))), .val (.int (1 : Int32)), .val (.long (own_low (2 : Int32) (1 : Int32))), .second, .val (.int (own_bey (2 : Int32) p2 (0 : Int32)))] [(.long (p2.toInt64))]
          refine own_st (fun _ k => XS.lload X0.here hx rfl (hb hby d12_42) rfl k) ?_
          show own_Go X0 (Q12 Z r0 p2 kA x0 x1 x2 x3 h0 n0) 0 0 44 #[.val (.ref r0), .val (.int (2 : Int32)), .val (.int p2), .val (.int (own_one x0 (2 : Int32) p2 (0 : Int32))), .val (.int (1 : Int32)), .val (.long (own_low (2 : Int32) (1 : Int32))), .second, .val (.int (own_bey (2 : Int32) p2 (0 : Int32)))] [(.long (own_low (2 : Int32) (1 : Int32))), (.long (p2.toInt64))]
          refine own_st (fun _ k => XS.lsub X0.here hx rfl (hb hby d12_44) rfl k) ?_
          show own_Go X0 (Q12 Z r0 p2 kA x0 x1 x2 x3 h0 n0) 0 0 45 #[.val (.ref r0), .val (.int (2 : Int32)), .val (.int p2), .val (.int (own_one x0 (2 : Int32) p2 (0 : Int32))), .val (.int (1 : Int32)), .val (.long (own_low (2 : Int32) (1 : Int32))), .second, .val (.int (own_bey (2 : Int32) p2 (0 : Int32)))] [(.long ((p2.toInt64) - (own_low (2 : Int32) (1 : Int32))))]
          refine own_st (fun _ k => XS.l2i X0.here hx rfl (hb hby d12_45) rfl k) ?_
          show own_Go X0 (Q12 Z r0 p2 kA x0 x1 x2 x3 h0 n0) 0 0 46 #[.val (.ref r0), .val (.int (2 : Int32)), .val (.int p2), .val (.int (own_one x0 (2 : Int32) p2 (0 : Int32))), .val (.int (1 : Int32)), .val (.long (own_low (2 : Int32) (1 : Int32))), .second, .val (.int (own_bey (2 : Int32) p2 (0 : Int32)))] [(.int (((p2.toInt64) - (own_low (2 : Int32) (1 : Int32))).toInt32))]
          exact J46_1 _ (by unfold own_bey; rw [if_pos c33_8])
        · skip
          refine own_st (fun _ k => XS.ifNo X0.here hx rfl (hb hby d12_33) rfl ((if0 _ _).trans (flt (fun q => c33_8 ((lw_lt _ _).mp q))).1) k) ?_
          show own_Go X0 (Q12 Z r0 p2 kA x0 x1 x2 x3 h0 n0) 0 0 36 #[.val (.ref r0), .val (.int (2 : Int32)), .val (.int p2), .val (.int (own_one x0 (2 : Int32) p2 (0 : Int32))), .val (.int (1 : Int32)), .val (.long (own_low (2 : Int32) (1 : Int32))), .second, .val (.int (own_bey (2 : Int32) p2 (0 : Int32)))] []
          refine own_st (fun _ k => XS.iconst X0.here hx rfl (hb hby d12_36) k) ?_
          show own_Go X0 (Q12 Z r0 p2 kA x0 x1 x2 x3 h0 n0) 0 0 37 #[.val (.ref r0), .val (.int (2 : Int32)), .val (.int p2), .val (.int (own_one x0 (2 : Int32) p2 (0 : Int32))), .val (.int (1 : Int32)), .val (.long (own_low (2 : Int32) (1 : Int32))), .second, .val (.int (own_bey (2 : Int32) p2 (0 : Int32)))] [(.int (0 : Int32))]
          refine own_st (fun _ k => XS.goto X0.here hx rfl (pc0 := 37) (pc' := 46) rfl (hb hby d12_37) (by decide) (by decide) k) ?_
          show own_Go X0 (Q12 Z r0 p2 kA x0 x1 x2 x3 h0 n0) 0 0 46 #[.val (.ref r0), .val (.int (2 : Int32)), .val (.int p2), .val (.int (own_one x0 (2 : Int32) p2 (0 : Int32))), .val (.int (1 : Int32)), .val (.long (own_low (2 : Int32) (1 : Int32))), .second, .val (.int (own_bey (2 : Int32) p2 (0 : Int32)))] [(.int (0 : Int32))]
          exact J46_1 _ (by unfold own_bey; rw [if_neg c33_8])
    refine own_st (fun _ k => XS.iload X0.here hx rfl (hb hby d12_48) rfl k) ?_
    show own_Go X0 (Q12 Z r0 p2 kA x0 x1 x2 x3 h0 n0) 0 0 50 #[.val (.ref r0), .val (.int (2 : Int32)), .val (.int p2), .val (.int (1 : Int32)), .val (.int (0 : Int32)), .val (.long (own_low (2 : Int32) (0 : Int32))), .second, .val (.int (own_bey (2 : Int32) p2 (0 : Int32)))] [(.int (own_bey (2 : Int32) p2 (0 : Int32)))]
    refine own_st (fun _ k => XS.bipush X0.here hx rfl (hb hby d12_50) k) ?_
    show own_Go X0 (Q12 Z r0 p2 kA x0 x1 x2 x3 h0 n0) 0 0 52 #[.val (.ref r0), .val (.int (2 : Int32)), .val (.int p2), .val (.int (1 : Int32)), .val (.int (0 : Int32)), .val (.long (own_low (2 : Int32) (0 : Int32))), .second, .val (.int (own_bey (2 : Int32) p2 (0 : Int32)))] [(.int (8 : Int32)), (.int (own_bey (2 : Int32) p2 (0 : Int32)))]
    by_cases c52_9 : (own_bey (2 : Int32) p2 (0 : Int32)) < (8 : Int32)
    · skip
      refine own_st (fun _ k => XS.icmpNo X0.here hx rfl (hb hby d12_52) rfl (tlt c52_9).2.1 k) ?_
      show own_Go X0 (Q12 Z r0 p2 kA x0 x1 x2 x3 h0 n0) 0 0 55 #[.val (.ref r0), .val (.int (2 : Int32)), .val (.int p2), .val (.int (1 : Int32)), .val (.int (0 : Int32)), .val (.long (own_low (2 : Int32) (0 : Int32))), .second, .val (.int (own_bey (2 : Int32) p2 (0 : Int32)))] []
      refine own_st (fun _ k => XS.aloadN X0.here hx rfl (hb hby d12_55) rfl rfl k) ?_
      show own_Go X0 (Q12 Z r0 p2 kA x0 x1 x2 x3 h0 n0) 0 0 56 #[.val (.ref r0), .val (.int (2 : Int32)), .val (.int p2), .val (.int (1 : Int32)), .val (.int (0 : Int32)), .val (.long (own_low (2 : Int32) (0 : Int32))), .second, .val (.int (own_bey (2 : Int32) p2 (0 : Int32)))] [(.ref r0)]
      refine own_st (fun _ k => XS.iload X0.here hx rfl (hb hby d12_56) rfl k) ?_
      show own_Go X0 (Q12 Z r0 p2 kA x0 x1 x2 x3 h0 n0) 0 0 58 #[.val (.ref r0), .val (.int (2 : Int32)), .val (.int p2), .val (.int (1 : Int32)), .val (.int (0 : Int32)), .val (.long (own_low (2 : Int32) (0 : Int32))), .second, .val (.int (own_bey (2 : Int32) p2 (0 : Int32)))] [(.int (0 : Int32)), (.ref r0)]
      refine own_st (fun _ k => own_ldB X0 hx hZ e0 PV (j := (0 : Int32)) ⟨by decide, by decide⟩ (v := (.int x0)) rfl (g := (mkF m 58 #[.val (.ref r0), .val (.int (2 : Int32)), .val (.int p2), .val (.int (1 : Int32)), .val (.int (0 : Int32)), .val (.long (own_low (2 : Int32) (0 : Int32))), .second, .val (.int (own_bey (2 : Int32) p2 (0 : Int32)))] [(.int (0 : Int32)), (.ref r0)])) rfl rfl (hb hby d12_58) _ k) ?_
      show own_Go X0 (Q12 Z r0 p2 kA x0 x1 x2 x3 h0 n0) 0 0 59 #[.val (.ref r0), .val (.int (2 : Int32)), .val (.int p2), .val (.int (1 : Int32)), .val (.int (0 : Int32)), .val (.long (own_low (2 : Int32) (0 : Int32))), .second, .val (.int (own_bey (2 : Int32) p2 (0 : Int32)))] [(.int x0)]
      refine own_st (fun _ k => XS.sipush X0.here hx rfl (hb hby d12_59) k) ?_
      show own_Go X0 (Q12 Z r0 p2 kA x0 x1 x2 x3 h0 n0) 0 0 62 #[.val (.ref r0), .val (.int (2 : Int32)), .val (.int p2), .val (.int (1 : Int32)), .val (.int (0 : Int32)), .val (.long (own_low (2 : Int32) (0 : Int32))), .second, .val (.int (own_bey (2 : Int32) p2 (0 : Int32)))] [(.int (255 : Int32)), (.int x0)]
      refine own_st (fun _ k => XS.iand X0.here hx rfl (hb hby d12_62) rfl k) ?_
      show own_Go X0 (Q12 Z r0 p2 kA x0 x1 x2 x3 h0 n0) 0 0 63 #[.val (.ref r0), .val (.int (2 : Int32)), .val (.int p2), .val (.int (1 : Int32)), .val (.int (0 : Int32)), .val (.long (own_low (2 : Int32) (0 : Int32))), .second, .val (.int (own_bey (2 : Int32) p2 (0 : Int32)))] [(.int (x0 &&& (255 : Int32)))]
      refine own_st (fun _ k => XS.iload X0.here hx rfl (hb hby d12_63) rfl k) ?_
      show own_Go X0 (Q12 Z r0 p2 kA x0 x1 x2 x3 h0 n0) 0 0 65 #[.val (.ref r0), .val (.int (2 : Int32)), .val (.int p2), .val (.int (1 : Int32)), .val (.int (0 : Int32)), .val (.long (own_low (2 : Int32) (0 : Int32))), .second, .val (.int (own_bey (2 : Int32) p2 (0 : Int32)))] [(.int (own_bey (2 : Int32) p2 (0 : Int32))), (.int (x0 &&& (255 : Int32)))]
      refine own_st (fun _ k => XS.ishr X0.here hx rfl (hb hby d12_65) rfl k) ?_
      show own_Go X0 (Q12 Z r0 p2 kA x0 x1 x2 x3 h0 n0) 0 0 66 #[.val (.ref r0), .val (.int (2 : Int32)), .val (.int p2), .val (.int (1 : Int32)), .val (.int (0 : Int32)), .val (.long (own_low (2 : Int32) (0 : Int32))), .second, .val (.int (own_bey (2 : Int32) p2 (0 : Int32)))] [(.int ((x0 &&& (255 : Int32)) >>> ((own_bey (2 : Int32) p2 (0 : Int32)) &&& 31)))]
      by_cases c66_10 : ((x0 &&& (255 : Int32)) >>> ((own_bey (2 : Int32) p2 (0 : Int32)) &&& 31)) = (0 : Int32)
      · skip
        refine own_st (fun _ k => XS.ifNo X0.here hx rfl (hb hby d12_66) rfl ((if0 _ _).trans (teq c66_10).2) k) ?_
        show own_Go X0 (Q12 Z r0 p2 kA x0 x1 x2 x3 h0 n0) 0 0 69 #[.val (.ref r0), .val (.int (2 : Int32)), .val (.int p2), .val (.int (1 : Int32)), .val (.int (0 : Int32)), .val (.long (own_low (2 : Int32) (0 : Int32))), .second, .val (.int (own_bey (2 : Int32) p2 (0 : Int32)))] []
        refine own_st (fun _ k => XS.iconst X0.here hx rfl (hb hby d12_69) k) ?_
        show own_Go X0 (Q12 Z r0 p2 kA x0 x1 x2 x3 h0 n0) 0 0 70 #[.val (.ref r0), .val (.int (2 : Int32)), .val (.int p2), .val (.int (1 : Int32)), .val (.int (0 : Int32)), .val (.long (own_low (2 : Int32) (0 : Int32))), .second, .val (.int (own_bey (2 : Int32) p2 (0 : Int32)))] [(.int (1 : Int32))]
        refine own_st (fun _ k => XS.goto X0.here hx rfl (pc0 := 70) (pc' := 74) rfl (hb hby d12_70) (by decide) (by decide) k) ?_
        show own_Go X0 (Q12 Z r0 p2 kA x0 x1 x2 x3 h0 n0) 0 0 74 #[.val (.ref r0), .val (.int (2 : Int32)), .val (.int p2), .val (.int (1 : Int32)), .val (.int (0 : Int32)), .val (.long (own_low (2 : Int32) (0 : Int32))), .second, .val (.int (own_bey (2 : Int32) p2 (0 : Int32)))] [(.int (1 : Int32))]
        exact J74_0 _ (by unfold own_one; rw [if_pos c52_9, if_pos c66_10])
      · skip
        refine own_st (fun _ k => XS.ifYes X0.here hx rfl (pc0 := 66) (pc' := 73) rfl (hb hby d12_66) rfl ((if0 _ _).trans (feq c66_10).2) (by decide) (by decide) k) ?_
        show own_Go X0 (Q12 Z r0 p2 kA x0 x1 x2 x3 h0 n0) 0 0 73 #[.val (.ref r0), .val (.int (2 : Int32)), .val (.int p2), .val (.int (1 : Int32)), .val (.int (0 : Int32)), .val (.long (own_low (2 : Int32) (0 : Int32))), .second, .val (.int (own_bey (2 : Int32) p2 (0 : Int32)))] []
        refine own_st (fun _ k => XS.iconst X0.here hx rfl (hb hby d12_73) k) ?_
        show own_Go X0 (Q12 Z r0 p2 kA x0 x1 x2 x3 h0 n0) 0 0 74 #[.val (.ref r0), .val (.int (2 : Int32)), .val (.int p2), .val (.int (1 : Int32)), .val (.int (0 : Int32)), .val (.long (own_low (2 : Int32) (0 : Int32))), .second, .val (.int (own_bey (2 : Int32) p2 (0 : Int32)))] [(.int (0 : Int32))]
        exact J74_0 _ (by unfold own_one; rw [if_pos c52_9, if_neg c66_10])
    · skip
      refine own_st (fun _ k => XS.icmpYes X0.here hx rfl (pc0 := 52) (pc' := 69) rfl (hb hby d12_52) rfl (flt c52_9).2.1 (by decide) (by decide) k) ?_
      show own_Go X0 (Q12 Z r0 p2 kA x0 x1 x2 x3 h0 n0) 0 0 69 #[.val (.ref r0), .val (.int (2 : Int32)), .val (.int p2), .val (.int (1 : Int32)), .val (.int (0 : Int32)), .val (.long (own_low (2 : Int32) (0 : Int32))), .second, .val (.int (own_bey (2 : Int32) p2 (0 : Int32)))] []
      refine own_st (fun _ k => XS.iconst X0.here hx rfl (hb hby d12_69) k) ?_
      show own_Go X0 (Q12 Z r0 p2 kA x0 x1 x2 x3 h0 n0) 0 0 70 #[.val (.ref r0), .val (.int (2 : Int32)), .val (.int p2), .val (.int (1 : Int32)), .val (.int (0 : Int32)), .val (.long (own_low (2 : Int32) (0 : Int32))), .second, .val (.int (own_bey (2 : Int32) p2 (0 : Int32)))] [(.int (1 : Int32))]
      refine own_st (fun _ k => XS.goto X0.here hx rfl (pc0 := 70) (pc' := 74) rfl (hb hby d12_70) (by decide) (by decide) k) ?_
      show own_Go X0 (Q12 Z r0 p2 kA x0 x1 x2 x3 h0 n0) 0 0 74 #[.val (.ref r0), .val (.int (2 : Int32)), .val (.int p2), .val (.int (1 : Int32)), .val (.int (0 : Int32)), .val (.long (own_low (2 : Int32) (0 : Int32))), .second, .val (.int (own_bey (2 : Int32) p2 (0 : Int32)))] [(.int (1 : Int32))]
      exact J74_0 _ (by unfold own_one; rw [if_neg c52_9])
  refine own_st (fun _ k => XS.lload X0.here hx rfl (hb hby d12_28) rfl k) ?_
  show own_Go X0 (Q12 Z r0 p2 kA x0 x1 x2 x3 h0 n0) 0 0 30 #[.val (.ref r0), .val (.int (2 : Int32)), .val (.int p2), .val (.int (1 : Int32)), .val (.int (0 : Int32)), .val (.long (own_low (2 : Int32) (0 : Int32))), .second, .unset] [(.long (own_low (2 : Int32) (0 : Int32)))]
  refine own_st (fun _ k => XS.iloadN X0.here hx rfl (hb hby d12_30) rfl k) ?_
  show own_Go X0 (Q12 Z r0 p2 kA x0 x1 x2 x3 h0 n0) 0 0 31 #[.val (.ref r0), .val (.int (2 : Int32)), .val (.int p2), .val (.int (1 : Int32)), .val (.int (0 : Int32)), .val (.long (own_low (2 : Int32) (0 : Int32))), .second, .unset] [(.int p2), (.long (own_low (2 : Int32) (0 : Int32)))]
  refine own_st (fun _ k => XS.i2l X0.here hx rfl (hb hby d12_31) rfl k) ?_
  show own_Go X0 (Q12 Z r0 p2 kA x0 x1 x2 x3 h0 n0) 0 0 32 #[.val (.ref r0), .val (.int (2 : Int32)), .val (.int p2), .val (.int (1 : Int32)), .val (.int (0 : Int32)), .val (.long (own_low (2 : Int32) (0 : Int32))), .second, .unset] [(.long (p2.toInt64)), (.long (own_low (2 : Int32) (0 : Int32)))]
  refine own_st (fun _ k => XS.lcmp X0.here hx rfl (hb hby d12_32) rfl k) ?_
  show own_Go X0 (Q12 Z r0 p2 kA x0 x1 x2 x3 h0 n0) 0 0 33 #[.val (.ref r0), .val (.int (2 : Int32)), .val (.int p2), .val (.int (1 : Int32)), .val (.int (0 : Int32)), .val (.long (own_low (2 : Int32) (0 : Int32))), .second, .unset] [(.int (lcmpW (own_low (2 : Int32) (0 : Int32)) (p2.toInt64)))]
  by_cases c33_11 : (own_low (2 : Int32) (0 : Int32)) < (p2.toInt64)
  · skip
    refine own_st (fun _ k => XS.ifYes X0.here hx rfl (pc0 := 33) (pc' := 40) rfl (hb hby d12_33) rfl ((if0 _ _).trans (tlt ((lw_lt _ _).mpr c33_11)).1) (by decide) (by decide) k) ?_
    show own_Go X0 (Q12 Z r0 p2 kA x0 x1 x2 x3 h0 n0) 0 0 40 #[.val (.ref r0), .val (.int (2 : Int32)), .val (.int p2), .val (.int (1 : Int32)), .val (.int (0 : Int32)), .val (.long (own_low (2 : Int32) (0 : Int32))), .second, .unset] []
    refine own_st (fun _ k => XS.iloadN X0.here hx rfl (hb hby d12_40) rfl k) ?_
    show own_Go X0 (Q12 Z r0 p2 kA x0 x1 x2 x3 h0 n0) 0 0 41 #[.val (.ref r0), .val (.int (2 : Int32)), .val (.int p2), .val (.int (1 : Int32)), .val (.int (0 : Int32)), .val (.long (own_low (2 : Int32) (0 : Int32))), .second, .unset] [(.int p2)]
    refine own_st (fun _ k => XS.i2l X0.here hx rfl (hb hby d12_41) rfl k) ?_
    show own_Go X0 (Q12 Z r0 p2 kA x0 x1 x2 x3 h0 n0) 0 0 42 #[.val (.ref r0), .val (.int (2 : Int32)), .val (.int p2), .val (.int (1 : Int32)), .val (.int (0 : Int32)), .val (.long (own_low (2 : Int32) (0 : Int32))), .second, .unset] [(.long (p2.toInt64))]
    refine own_st (fun _ k => XS.lload X0.here hx rfl (hb hby d12_42) rfl k) ?_
    show own_Go X0 (Q12 Z r0 p2 kA x0 x1 x2 x3 h0 n0) 0 0 44 #[.val (.ref r0), .val (.int (2 : Int32)), .val (.int p2), .val (.int (1 : Int32)), .val (.int (0 : Int32)), .val (.long (own_low (2 : Int32) (0 : Int32))), .second, .unset] [(.long (own_low (2 : Int32) (0 : Int32))), (.long (p2.toInt64))]
    refine own_st (fun _ k => XS.lsub X0.here hx rfl (hb hby d12_44) rfl k) ?_
    show own_Go X0 (Q12 Z r0 p2 kA x0 x1 x2 x3 h0 n0) 0 0 45 #[.val (.ref r0), .val (.int (2 : Int32)), .val (.int p2), .val (.int (1 : Int32)), .val (.int (0 : Int32)), .val (.long (own_low (2 : Int32) (0 : Int32))), .second, .unset] [(.long ((p2.toInt64) - (own_low (2 : Int32) (0 : Int32))))]
    refine own_st (fun _ k => XS.l2i X0.here hx rfl (hb hby d12_45) rfl k) ?_
    show own_Go X0 (Q12 Z r0 p2 kA x0 x1 x2 x3 h0 n0) 0 0 46 #[.val (.ref r0), .val (.int (2 : Int32)), .val (.int p2), .val (.int (1 : Int32)), .val (.int (0 : Int32)), .val (.long (own_low (2 : Int32) (0 : Int32))), .second, .unset] [(.int (((p2.toInt64) - (own_low (2 : Int32) (0 : Int32))).toInt32))]
    exact J46_0 _ (by unfold own_bey; rw [if_pos c33_11])
  · skip
    refine own_st (fun _ k => XS.ifNo X0.here hx rfl (hb hby d12_33) rfl ((if0 _ _).trans (flt (fun q => c33_11 ((lw_lt _ _).mp q))).1) k) ?_
    show own_Go X0 (Q12 Z r0 p2 kA x0 x1 x2 x3 h0 n0) 0 0 36 #[.val (.ref r0), .val (.int (2 : Int32)), .val (.int p2), .val (.int (1 : Int32)), .val (.int (0 : Int32)), .val (.long (own_low (2 : Int32) (0 : Int32))), .second, .unset] []
    refine own_st (fun _ k => XS.iconst X0.here hx rfl (hb hby d12_36) k) ?_
    show own_Go X0 (Q12 Z r0 p2 kA x0 x1 x2 x3 h0 n0) 0 0 37 #[.val (.ref r0), .val (.int (2 : Int32)), .val (.int p2), .val (.int (1 : Int32)), .val (.int (0 : Int32)), .val (.long (own_low (2 : Int32) (0 : Int32))), .second, .unset] [(.int (0 : Int32))]
    refine own_st (fun _ k => XS.goto X0.here hx rfl (pc0 := 37) (pc' := 46) rfl (hb hby d12_37) (by decide) (by decide) k) ?_
    show own_Go X0 (Q12 Z r0 p2 kA x0 x1 x2 x3 h0 n0) 0 0 46 #[.val (.ref r0), .val (.int (2 : Int32)), .val (.int p2), .val (.int (1 : Int32)), .val (.int (0 : Int32)), .val (.long (own_low (2 : Int32) (0 : Int32))), .second, .unset] [(.int (0 : Int32))]
    exact J46_0 _ (by unfold own_bey; rw [if_neg c33_11])
theorem d13_0 : decode prog_64_method_12_code 0 = .ok (.iconst 1, 1) := by decide +kernel
theorem d13_1 : decode prog_64_method_12_code 1 = .ok (.istore_n 3, 1) := by decide +kernel
theorem d13_2 : decode prog_64_method_12_code 2 = .ok (.iconst 0, 1) := by decide +kernel
theorem d13_3 : decode prog_64_method_12_code 3 = .ok (.istore 4, 2) := by decide +kernel
theorem d13_5 : decode prog_64_method_12_code 5 = .ok (.iload 4, 2) := by decide +kernel
theorem d13_7 : decode prog_64_method_12_code 7 = .ok (.iload_n 1, 1) := by decide +kernel
theorem d13_8 : decode prog_64_method_12_code 8 = .ok (.if_icmp .ge 73, 3) := by decide +kernel
theorem d13_11 : decode prog_64_method_12_code 11 = .ok (.iload_n 3, 1) := by decide +kernel
theorem d13_12 : decode prog_64_method_12_code 12 = .ok (.ifCond .eq 69, 3) := by decide +kernel
theorem d13_15 : decode prog_64_method_12_code 15 = .ok (.ldc2_w 112, 3) := by decide +kernel
theorem d13_18 : decode prog_64_method_12_code 18 = .ok (.iload_n 1, 1) := by decide +kernel
theorem d13_19 : decode prog_64_method_12_code 19 = .ok (.iconst 1, 1) := by decide +kernel
theorem d13_20 : decode prog_64_method_12_code 20 = .ok (.isub, 1) := by decide +kernel
theorem d13_21 : decode prog_64_method_12_code 21 = .ok (.iload 4, 2) := by decide +kernel
theorem d13_23 : decode prog_64_method_12_code 23 = .ok (.isub, 1) := by decide +kernel
theorem d13_24 : decode prog_64_method_12_code 24 = .ok (.i2l, 1) := by decide +kernel
theorem d13_25 : decode prog_64_method_12_code 25 = .ok (.lmul, 1) := by decide +kernel
theorem d13_26 : decode prog_64_method_12_code 26 = .ok (.lstore 5, 2) := by decide +kernel
theorem d13_28 : decode prog_64_method_12_code 28 = .ok (.lload 5, 2) := by decide +kernel
theorem d13_30 : decode prog_64_method_12_code 30 = .ok (.iload_n 2, 1) := by decide +kernel
theorem d13_31 : decode prog_64_method_12_code 31 = .ok (.i2l, 1) := by decide +kernel
theorem d13_32 : decode prog_64_method_12_code 32 = .ok (.lcmp, 1) := by decide +kernel
theorem d13_33 : decode prog_64_method_12_code 33 = .ok (.ifCond .lt 7, 3) := by decide +kernel
theorem d13_36 : decode prog_64_method_12_code 36 = .ok (.iconst 0, 1) := by decide +kernel
theorem d13_37 : decode prog_64_method_12_code 37 = .ok (.goto 9, 3) := by decide +kernel
theorem d13_40 : decode prog_64_method_12_code 40 = .ok (.iload_n 2, 1) := by decide +kernel
theorem d13_41 : decode prog_64_method_12_code 41 = .ok (.i2l, 1) := by decide +kernel
theorem d13_42 : decode prog_64_method_12_code 42 = .ok (.lload 5, 2) := by decide +kernel
theorem d13_44 : decode prog_64_method_12_code 44 = .ok (.lsub, 1) := by decide +kernel
theorem d13_45 : decode prog_64_method_12_code 45 = .ok (.l2i, 1) := by decide +kernel
theorem d13_46 : decode prog_64_method_12_code 46 = .ok (.istore 7, 2) := by decide +kernel
theorem d13_48 : decode prog_64_method_12_code 48 = .ok (.iload 7, 2) := by decide +kernel
theorem d13_50 : decode prog_64_method_12_code 50 = .ok (.bipush 8, 2) := by decide +kernel
theorem d13_52 : decode prog_64_method_12_code 52 = .ok (.if_icmp .ge 17, 3) := by decide +kernel
theorem d13_55 : decode prog_64_method_12_code 55 = .ok (.aload_n 0, 1) := by decide +kernel
theorem d13_56 : decode prog_64_method_12_code 56 = .ok (.iload 4, 2) := by decide +kernel
theorem d13_58 : decode prog_64_method_12_code 58 = .ok (.baload, 1) := by decide +kernel
theorem d13_59 : decode prog_64_method_12_code 59 = .ok (.sipush 255, 3) := by decide +kernel
theorem d13_62 : decode prog_64_method_12_code 62 = .ok (.iand, 1) := by decide +kernel
theorem d13_63 : decode prog_64_method_12_code 63 = .ok (.iload 7, 2) := by decide +kernel
theorem d13_65 : decode prog_64_method_12_code 65 = .ok (.ishr, 1) := by decide +kernel
theorem d13_66 : decode prog_64_method_12_code 66 = .ok (.ifCond .ne 7, 3) := by decide +kernel
theorem d13_69 : decode prog_64_method_12_code 69 = .ok (.iconst 1, 1) := by decide +kernel
theorem d13_70 : decode prog_64_method_12_code 70 = .ok (.goto 4, 3) := by decide +kernel
theorem d13_73 : decode prog_64_method_12_code 73 = .ok (.iconst 0, 1) := by decide +kernel
theorem d13_74 : decode prog_64_method_12_code 74 = .ok (.istore_n 3, 1) := by decide +kernel
theorem d13_75 : decode prog_64_method_12_code 75 = .ok (.iinc 4 1, 3) := by decide +kernel
theorem d13_78 : decode prog_64_method_12_code 78 = .ok (.goto (-73), 3) := by decide +kernel
theorem d13_81 : decode prog_64_method_12_code 81 = .ok (.iload_n 3, 1) := by decide +kernel
theorem d13_82 : decode prog_64_method_12_code 82 = .ok (.ireturn, 1) := by decide +kernel
theorem pn_13 : plainName "com/example/wide_berth/wideberth/postgres/Literals" = true := by first | (simp [plainName, overriddenIn]; done) | decide +kernel
theorem ef_13 (m : MethodId) (r0 : Addr) (p2 : Int32) : entryFrame m #[(.ref r0), (.int (3 : Int32)), (.int p2)] 8 = mkF m 0 #[.val (.ref r0), .val (.int (3 : Int32)), .val (.int p2), .unset, .unset, .unset, .unset, .unset] [] := by first | (simp [entryFrame, mkF, argsToLocals, Value.category]; done) | rfl
def Q13 (Z : State) (r0 : Addr) (p2 : Int32) (kA : ClassId) (x0 x1 x2 x3 : Int32) (h0 : Heap) (n0 : Nat) (v : Option Value) (h : Heap) (L : List Loc) : Prop := v = some (.int (own_fb3 x0 x1 x2 p2)) ∧ Fr n0 L ∧ h = h0
set_option maxRecDepth 65536 in
set_option maxHeartbeats 40000000 in
theorem rm13 (l : Launch) (Z : State) (a0 : Array Value) (hw : ∀ d ∈ tables_1, d.before a0 Z = true) (ws : List Jvm.Cond) (r0 : Addr) (p2 : Int32) (kA : ClassId) (x0 x1 x2 x3 : Int32) (h0 : Heap) (n0 : Nat) (Z0 : n0 ≤ h0.size) (PV : Arv Z h0 r0 kA .byte (4 : Int32) [(.int x0), (.int x1), (.int x2), (.int x3)] (.int (0 : Int32))) :
    MetFree l (⟨"com/example/wide_berth/wideberth/postgres/Literals", "fitsBits", "([BII)Z"⟩ : MethodName) (head1 (Jvm.Cond.code (⟨"com/example/wide_berth/wideberth/postgres/Literals", "fitsBits", "([BII)Z"⟩ : MethodName) prog_64_method_12_code 8 (some .boolean) :: ws) ({ frames := 0, cells := 0, slots := 0, locals := 0 } : Room)) (fun a U => a = #[(.ref r0), (.int (3 : Int32)), (.int p2)] ∧ Z.Warmed39 U.vm ∧ U.heap = h0) (fun _ _ _ _ _ => True) (fun _ U o U' => ∃ v L, o = .returned v ∧ Q13 Z r0 p2 kA x0 x1 x2 x3 h0 n0 v U'.heap L ∧ FrameEnd U o U' L ({ frames := 0, cells := 0, slots := 0, locals := 0 } : Room).cells ({ frames := 0, cells := 0, slots := 0, locals := 0 } : Room).slots) := by
  refine MetFree.of_bodySF (plainFor_of_name pn_13) hisR ?_
  intro p e s m args below meth c s₁ Bd hml0 hP hK
  obtain ⟨rfl, hZ, hh⟩ := hP
  have hx := Bd.exec
  have hby := Bd.bytes
  have hml : c.maxLocals = 8 := hml0
  have hown : s.vm.findClass "com/example/wide_berth/wideberth/postgres/Literals" = some m.cls := findClass_of_methodNamed Bd.named
  have hnm := (name_of_methodNamed Bd.named Bd.method).1
  have hlk : meth.locks = false := Bd.notSynchronized
  have X0 : Stand p l e ({ frames := 0, cells := 0, slots := 0, locals := 0 } : Room) s m #[(.ref r0), (.int (3 : Int32)), (.int p2)] below meth c s₁ [] 0 0 := Stand.of_body Bd
  have e0 : s₁.heap = h0 := by rw [← hh, Bd.state]; rfl
  have N0 := Fr.nil n0
  refine own_cast (Q := Q13 Z r0 p2 kA x0 x1 x2 x3 h0 n0) (kc := 0) (ks := 0) (ef_13 m r0 p2) ?_
  refine own_st (fun _ k => XS.iconst X0.here hx rfl (hb hby d13_0) k) ?_
  show own_Go X0 (Q13 Z r0 p2 kA x0 x1 x2 x3 h0 n0) 0 0 1 #[.val (.ref r0), .val (.int (3 : Int32)), .val (.int p2), .unset, .unset, .unset, .unset, .unset] [(.int (1 : Int32))]
  refine own_st (fun _ k => XS.istoreN X0.here hx rfl (hb hby d13_1) rfl (l' := #[.val (.ref r0), .val (.int (3 : Int32)), .val (.int p2), .val (.int (1 : Int32)), .unset, .unset, .unset, .unset]) rfl k) ?_
  show own_Go X0 (Q13 Z r0 p2 kA x0 x1 x2 x3 h0 n0) 0 0 2 #[.val (.ref r0), .val (.int (3 : Int32)), .val (.int p2), .val (.int (1 : Int32)), .unset, .unset, .unset, .unset] []
  refine own_st (fun _ k => XS.iconst X0.here hx rfl (hb hby d13_2) k) ?_
  show own_Go X0 (Q13 Z r0 p2 kA x0 x1 x2 x3 h0 n0) 0 0 3 #[.val (.ref r0), .val (.int (3 : Int32)), .val (.int p2), .val (.int (1 : Int32)), .unset, .unset, .unset, .unset] [(.int (0 : Int32))]
  refine own_st (fun _ k => XS.istore X0.here hx rfl (hb hby d13_3) rfl (l' := #[.val (.ref r0), .val (.int (3 : Int32)), .val (.int p2), .val (.int (1 : Int32)), .val (.int (0 : Int32)), .unset, .unset, .unset]) rfl k) ?_
  show own_Go X0 (Q13 Z r0 p2 kA x0 x1 x2 x3 h0 n0) 0 0 5 #[.val (.ref r0), .val (.int (3 : Int32)), .val (.int p2), .val (.int (1 : Int32)), .val (.int (0 : Int32)), .unset, .unset, .unset] []
  refine own_st (fun _ k => XS.iload X0.here hx rfl (hb hby d13_5) rfl k) ?_
  show own_Go X0 (Q13 Z r0 p2 kA x0 x1 x2 x3 h0 n0) 0 0 7 #[.val (.ref r0), .val (.int (3 : Int32)), .val (.int p2), .val (.int (1 : Int32)), .val (.int (0 : Int32)), .unset, .unset, .unset] [(.int (0 : Int32))]
  refine own_st (fun _ k => XS.iloadN X0.here hx rfl (hb hby d13_7) rfl k) ?_
  show own_Go X0 (Q13 Z r0 p2 kA x0 x1 x2 x3 h0 n0) 0 0 8 #[.val (.ref r0), .val (.int (3 : Int32)), .val (.int p2), .val (.int (1 : Int32)), .val (.int (0 : Int32)), .unset, .unset, .unset] [(.int (3 : Int32)), (.int (0 : Int32))]
  have c8_1 : (0 : Int32) < (3 : Int32) := (by decide)
  refine own_st (fun _ k => XS.icmpNo X0.here hx rfl (hb hby d13_8) rfl (tlt c8_1).2.1 k) ?_
  show own_Go X0 (Q13 Z r0 p2 kA x0 x1 x2 x3 h0 n0) 0 0 11 #[.val (.ref r0), .val (.int (3 : Int32)), .val (.int p2), .val (.int (1 : Int32)), .val (.int (0 : Int32)), .unset, .unset, .unset] []
  refine own_st (fun _ k => XS.iloadN X0.here hx rfl (hb hby d13_11) rfl k) ?_
  show own_Go X0 (Q13 Z r0 p2 kA x0 x1 x2 x3 h0 n0) 0 0 12 #[.val (.ref r0), .val (.int (3 : Int32)), .val (.int p2), .val (.int (1 : Int32)), .val (.int (0 : Int32)), .unset, .unset, .unset] [(.int (1 : Int32))]
  have c12_2 : ¬ ((1 : Int32) = (0 : Int32)) := (by decide)
  refine own_st (fun _ k => XS.ifNo X0.here hx rfl (hb hby d13_12) rfl ((if0 _ _).trans (feq c12_2).1) k) ?_
  show own_Go X0 (Q13 Z r0 p2 kA x0 x1 x2 x3 h0 n0) 0 0 15 #[.val (.ref r0), .val (.int (3 : Int32)), .val (.int p2), .val (.int (1 : Int32)), .val (.int (0 : Int32)), .unset, .unset, .unset] []
  refine own_st (fun t k => X0.ldc2Long hx hown (mvT hZ (hw _ (List.mem_of_getElem? (i := 5) rfl))) (g := (mkF m 15 #[.val (.ref r0), .val (.int (3 : Int32)), .val (.int p2), .val (.int (1 : Int32)), .val (.int (0 : Int32)), .unset, .unset, .unset] [])) rfl (hb hby d13_15) t k) ?_
  show own_Go X0 (Q13 Z r0 p2 kA x0 x1 x2 x3 h0 n0) 0 0 18 #[.val (.ref r0), .val (.int (3 : Int32)), .val (.int p2), .val (.int (1 : Int32)), .val (.int (0 : Int32)), .unset, .unset, .unset] [(.long (8 : Int64))]
  refine own_st (fun _ k => XS.iloadN X0.here hx rfl (hb hby d13_18) rfl k) ?_
  show own_Go X0 (Q13 Z r0 p2 kA x0 x1 x2 x3 h0 n0) 0 0 19 #[.val (.ref r0), .val (.int (3 : Int32)), .val (.int p2), .val (.int (1 : Int32)), .val (.int (0 : Int32)), .unset, .unset, .unset] [(.int (3 : Int32)), (.long (8 : Int64))]
  refine own_st (fun _ k => XS.iconst X0.here hx rfl (hb hby d13_19) k) ?_
  show own_Go X0 (Q13 Z r0 p2 kA x0 x1 x2 x3 h0 n0) 0 0 20 #[.val (.ref r0), .val (.int (3 : Int32)), .val (.int p2), .val (.int (1 : Int32)), .val (.int (0 : Int32)), .unset, .unset, .unset] [(.int (1 : Int32)), (.int (3 : Int32)), (.long (8 : Int64))]
  refine own_st (fun _ k => XS.isub X0.here hx rfl (hb hby d13_20) rfl k) ?_
  show own_Go X0 (Q13 Z r0 p2 kA x0 x1 x2 x3 h0 n0) 0 0 21 #[.val (.ref r0), .val (.int (3 : Int32)), .val (.int p2), .val (.int (1 : Int32)), .val (.int (0 : Int32)), .unset, .unset, .unset] [(.int (2 : Int32)), (.long (8 : Int64))]
  refine own_st (fun _ k => XS.iload X0.here hx rfl (hb hby d13_21) rfl k) ?_
  show own_Go X0 (Q13 Z r0 p2 kA x0 x1 x2 x3 h0 n0) 0 0 23 #[.val (.ref r0), .val (.int (3 : Int32)), .val (.int p2), .val (.int (1 : Int32)), .val (.int (0 : Int32)), .unset, .unset, .unset] [(.int (0 : Int32)), (.int (2 : Int32)), (.long (8 : Int64))]
  refine own_st (fun _ k => XS.isub X0.here hx rfl (hb hby d13_23) rfl k) ?_
  show own_Go X0 (Q13 Z r0 p2 kA x0 x1 x2 x3 h0 n0) 0 0 24 #[.val (.ref r0), .val (.int (3 : Int32)), .val (.int p2), .val (.int (1 : Int32)), .val (.int (0 : Int32)), .unset, .unset, .unset] [(.int (2 : Int32)), (.long (8 : Int64))]
  refine own_st (fun _ k => XS.i2l X0.here hx rfl (hb hby d13_24) rfl k) ?_
  show own_Go X0 (Q13 Z r0 p2 kA x0 x1 x2 x3 h0 n0) 0 0 25 #[.val (.ref r0), .val (.int (3 : Int32)), .val (.int p2), .val (.int (1 : Int32)), .val (.int (0 : Int32)), .unset, .unset, .unset] [(.long ((2 : Int32).toInt64)), (.long (8 : Int64))]
  refine own_st (fun _ k => XS.lmul X0.here hx rfl (hb hby d13_25) rfl k) ?_
  show own_Go X0 (Q13 Z r0 p2 kA x0 x1 x2 x3 h0 n0) 0 0 26 #[.val (.ref r0), .val (.int (3 : Int32)), .val (.int p2), .val (.int (1 : Int32)), .val (.int (0 : Int32)), .unset, .unset, .unset] [(.long ((8 : Int64) * ((2 : Int32).toInt64)))]
  refine own_st (fun _ k => XS.lstore X0.here hx rfl (hb hby d13_26) rfl (l' := #[.val (.ref r0), .val (.int (3 : Int32)), .val (.int p2), .val (.int (1 : Int32)), .val (.int (0 : Int32)), .val (.long ((8 : Int64) * ((2 : Int32).toInt64))), .second, .unset]) rfl k) ?_
  show own_Go X0 (Q13 Z r0 p2 kA x0 x1 x2 x3 h0 n0) 0 0 28 #[.val (.ref r0), .val (.int (3 : Int32)), .val (.int p2), .val (.int (1 : Int32)), .val (.int (0 : Int32)), .val (.long ((8 : Int64) * ((2 : Int32).toInt64))), .second, .unset] []
  show own_Go X0 (Q13 Z r0 p2 kA x0 x1 x2 x3 h0 n0) 0 0 28 #[.val (.ref r0), .val (.int (3 : Int32)), .val (.int p2), .val (.int (1 : Int32)), .val (.int (0 : Int32)), .val (.long (own_low (3 : Int32) (0 : Int32))), .second, .unset] []
  have J46_0 : ∀ (bb : Int32) (hbb : bb = (own_bey (3 : Int32) p2 (0 : Int32))), own_Go X0 (Q13 Z r0 p2 kA x0 x1 x2 x3 h0 n0) 0 0 46 #[.val (.ref r0), .val (.int (3 : Int32)), .val (.int p2), .val (.int (1 : Int32)), .val (.int (0 : Int32)), .val (.long (own_low (3 : Int32) (0 : Int32))), .second, .unset] [(.int bb)] := by
    intro bb hbb
    subst hbb
    show own_Go X0 (Q13 Z r0 p2 kA x0 x1 x2 x3 h0 n0) 0 0 46 #[.val (.ref r0), .val (.int (3 : Int32)), .val (.int p2), .val (.int (1 : Int32)), .val (.int (0 : Int32)), .val (.long (own_low (3 : Int32) (0 : Int32))), .second, .unset] [(.int (own_bey (3 : Int32) p2 (0 : Int32)))]
    refine own_st (fun _ k => XS.istore X0.here hx rfl (hb hby d13_46) rfl (l' := #[.val (.ref r0), .val (.int (3 : Int32)), .val (.int p2), .val (.int (1 : Int32)), .val (.int (0 : Int32)), .val (.long (own_low (3 : Int32) (0 : Int32))), .second, .val (.int (own_bey (3 : Int32) p2 (0 : Int32)))]) rfl k) ?_
    show own_Go X0 (Q13 Z r0 p2 kA x0 x1 x2 x3 h0 n0) 0 0 48 #[.val (.ref r0), .val (.int (3 : Int32)), .val (.int p2), .val (.int (1 : Int32)), .val (.int (0 : Int32)), .val (.long (own_low (3 : Int32) (0 : Int32))), .second, .val (.int (own_bey (3 : Int32) p2 (0 : Int32)))] []
    have J74_0 : ∀ (ff : Int32) (hff : ff = (own_one x0 (3 : Int32) p2 (0 : Int32))), own_Go X0 (Q13 Z r0 p2 kA x0 x1 x2 x3 h0 n0) 0 0 74 #[.val (.ref r0), .val (.int (3 : Int32)), .val (.int p2), .val (.int (1 : Int32)), .val (.int (0 : Int32)), .val (.long (own_low (3 : Int32) (0 : Int32))), .second, .val (.int (own_bey (3 : Int32) p2 (0 : Int32)))] [(.int ff)] := by
      intro ff hff
      subst hff
      show own_Go X0 (Q13 Z r0 p2 kA x0 x1 x2 x3 h0 n0) 0 0 74 #[.val (.ref r0), .val (.int (3 : Int32)), .val (.int p2), .val (.int (1 : Int32)), .val (.int (0 : Int32)), .val (.long (own_low (3 : Int32) (0 : Int32))), .second, .val (.int (own_bey (3 : Int32) p2 (0 : Int32)))] [(.int (own_one x0 (3 : Int32) p2 (0 : Int32)))]
      refine own_st (fun _ k => XS.istoreN X0.here hx rfl (hb hby d13_74) rfl (l' := #[.val (.ref r0), .val (.int (3 : Int32)), .val (.int p2), .val (.int (own_one x0 (3 : Int32) p2 (0 : Int32))), .val (.int (0 : Int32)), .val (.long (own_low (3 : Int32) (0 : Int32))), .second, .val (.int (own_bey (3 : Int32) p2 (0 : Int32)))]) rfl k) ?_
      show own_Go X0 (Q13 Z r0 p2 kA x0 x1 x2 x3 h0 n0) 0 0 75 #[.val (.ref r0), .val (.int (3 : Int32)), .val (.int p2), .val (.int (own_one x0 (3 : Int32) p2 (0 : Int32))), .val (.int (0 : Int32)), .val (.long (own_low (3 : Int32) (0 : Int32))), .second, .val (.int (own_bey (3 : Int32) p2 (0 : Int32)))] []
      refine own_st (fun _ k => XS.iinc X0.here hx rfl (hb hby d13_75) rfl (l' := #[.val (.ref r0), .val (.int (3 : Int32)), .val (.int p2), .val (.int (own_one x0 (3 : Int32) p2 (0 : Int32))), .val (.int (1 : Int32)), .val (.long (own_low (3 : Int32) (0 : Int32))), .second, .val (.int (own_bey (3 : Int32) p2 (0 : Int32)))]) rfl k) ?_
      show own_Go X0 (Q13 Z r0 p2 kA x0 x1 x2 x3 h0 n0) 0 0 78 #[.val (.ref r0), .val (.int (3 : Int32)), .val (.int p2), .val (.int (own_one x0 (3 : Int32) p2 (0 : Int32))), .val (.int (1 : Int32)), .val (.long (own_low (3 : Int32) (0 : Int32))), .second, .val (.int (own_bey (3 : Int32) p2 (0 : Int32)))] []
      refine own_st (fun _ k => XS.goto X0.here hx rfl (pc0 := 78) (pc' := 5) rfl (hb hby d13_78) (by decide) (by decide) k) ?_
      show own_Go X0 (Q13 Z r0 p2 kA x0 x1 x2 x3 h0 n0) 0 0 5 #[.val (.ref r0), .val (.int (3 : Int32)), .val (.int p2), .val (.int (own_one x0 (3 : Int32) p2 (0 : Int32))), .val (.int (1 : Int32)), .val (.long (own_low (3 : Int32) (0 : Int32))), .second, .val (.int (own_bey (3 : Int32) p2 (0 : Int32)))] []
      refine own_st (fun _ k => XS.iload X0.here hx rfl (hb hby d13_5) rfl k) ?_
      show own_Go X0 (Q13 Z r0 p2 kA x0 x1 x2 x3 h0 n0) 0 0 7 #[.val (.ref r0), .val (.int (3 : Int32)), .val (.int p2), .val (.int (own_one x0 (3 : Int32) p2 (0 : Int32))), .val (.int (1 : Int32)), .val (.long (own_low (3 : Int32) (0 : Int32))), .second, .val (.int (own_bey (3 : Int32) p2 (0 : Int32)))] [(.int (1 : Int32))]
      refine own_st (fun _ k => XS.iloadN X0.here hx rfl (hb hby d13_7) rfl k) ?_
      show own_Go X0 (Q13 Z r0 p2 kA x0 x1 x2 x3 h0 n0) 0 0 8 #[.val (.ref r0), .val (.int (3 : Int32)), .val (.int p2), .val (.int (own_one x0 (3 : Int32) p2 (0 : Int32))), .val (.int (1 : Int32)), .val (.long (own_low (3 : Int32) (0 : Int32))), .second, .val (.int (own_bey (3 : Int32) p2 (0 : Int32)))] [(.int (3 : Int32)), (.int (1 : Int32))]
      have c8_3 : (1 : Int32) < (3 : Int32) := (by decide)
      refine own_st (fun _ k => XS.icmpNo X0.here hx rfl (hb hby d13_8) rfl (tlt c8_3).2.1 k) ?_
      show own_Go X0 (Q13 Z r0 p2 kA x0 x1 x2 x3 h0 n0) 0 0 11 #[.val (.ref r0), .val (.int (3 : Int32)), .val (.int p2), .val (.int (own_one x0 (3 : Int32) p2 (0 : Int32))), .val (.int (1 : Int32)), .val (.long (own_low (3 : Int32) (0 : Int32))), .second, .val (.int (own_bey (3 : Int32) p2 (0 : Int32)))] []
      refine own_st (fun _ k => XS.iloadN X0.here hx rfl (hb hby d13_11) rfl k) ?_
      show own_Go X0 (Q13 Z r0 p2 kA x0 x1 x2 x3 h0 n0) 0 0 12 #[.val (.ref r0), .val (.int (3 : Int32)), .val (.int p2), .val (.int (own_one x0 (3 : Int32) p2 (0 : Int32))), .val (.int (1 : Int32)), .val (.long (own_low (3 : Int32) (0 : Int32))), .second, .val (.int (own_bey (3 : Int32) p2 (0 : Int32)))] [(.int (own_one x0 (3 : Int32) p2 (0 : Int32)))]
      by_cases c12_4 : (own_one x0 (3 : Int32) p2 (0 : Int32)) = (0 : Int32)
      · skip
        refine own_st (fun _ k => XS.ifYes X0.here hx rfl (pc0 := 12) (pc' := 81) rfl (hb hby d13_12) rfl ((if0 _ _).trans (teq c12_4).1) (by decide) (by decide) k) ?_
        show own_Go X0 (Q13 Z r0 p2 kA x0 x1 x2 x3 h0 n0) 0 0 81 #[.val (.ref r0), .val (.int (3 : Int32)), .val (.int p2), .val (.int (own_one x0 (3 : Int32) p2 (0 : Int32))), .val (.int (1 : Int32)), .val (.long (own_low (3 : Int32) (0 : Int32))), .second, .val (.int (own_bey (3 : Int32) p2 (0 : Int32)))] []
        refine own_st (fun _ k => XS.iloadN X0.here hx rfl (hb hby d13_81) rfl k) ?_
        show own_Go X0 (Q13 Z r0 p2 kA x0 x1 x2 x3 h0 n0) 0 0 82 #[.val (.ref r0), .val (.int (3 : Int32)), .val (.int p2), .val (.int (own_one x0 (3 : Int32) p2 (0 : Int32))), .val (.int (1 : Int32)), .val (.long (own_low (3 : Int32) (0 : Int32))), .second, .val (.int (own_bey (3 : Int32) p2 (0 : Int32)))] [(.int (own_one x0 (3 : Int32) p2 (0 : Int32)))]
        refine own_retN X0 hx Bd.returns (by simp) hlk e0 (hb hby d13_82) (by decide) (by decide) ?_
        have hr : (own_fb3 x0 x1 x2 p2) = (own_one x0 (3 : Int32) p2 (0 : Int32)) := by unfold own_fb3; rw [if_pos c12_4]; exact c12_4.symm
        exact ⟨by rw [hr]; rw [own_oneb], N0, rfl⟩
      · skip
        refine own_st (fun _ k => XS.ifNo X0.here hx rfl (hb hby d13_12) rfl ((if0 _ _).trans (feq c12_4).1) k) ?_
        show own_Go X0 (Q13 Z r0 p2 kA x0 x1 x2 x3 h0 n0) 0 0 15 #[.val (.ref r0), .val (.int (3 : Int32)), .val (.int p2), .val (.int (own_one x0 (3 : Int32) p2 (0 : Int32))), .val (.int (1 : Int32)), .val (.long (own_low (3 : Int32) (0 : Int32))), .second, .val (.int (own_bey (3 : Int32) p2 (0 : Int32)))] []
        refine own_st (fun t k => X0.ldc2Long hx hown (mvT hZ (hw _ (List.mem_of_getElem? (i := 5) rfl))) (g := (mkF m 15 #[.val (.ref r0), .val (.int (3 : Int32)), .val (.int p2), .val (.int (own_one x0 (3 : Int32) p2 (0 : Int32))), .val (.int (1 : Int32)), .val (.long (own_low (3 : Int32) (0 : Int32))), .second, .val (.int (own_bey (3 : Int32) p2 (0 : Int32)))] [])) rfl (hb hby d13_15) t k) ?_
        show own_Go X0 (Q13 Z r0 p2 kA x0 x1 x2 x3 h0 n0) 0 0 18 #[.val (.ref r0), .val (.int (3 : Int32)), .val (.int p2), .val (.int (own_one x0 (3 : Int32) p2 (0 : Int32))), .val (.int (1 : Int32)), .val (.long (own_low (3 : Int32) (0 : Int32))), .second, .val (.int (own_bey (3 : Int32) p2 (0 : Int32)))] [(.long (8 : Int64))]
        refine own_st (fun _ k => XS.iloadN X0.here hx rfl (hb hby d13_18) rfl k) ?_
        show own_Go X0 (Q13 Z r0 p2 kA x0 x1 x2 x3 h0 n0) 0 0 19 #[.val (.ref r0), .val (.int (3 : Int32)), .val (.int p2), .val (.int (own_one x0 (3 : Int32) p2 (0 : Int32))), .val (.int (1 : Int32)), .val (.long (own_low (3 : Int32) (0 : Int32))), .second, .val (.int (own_bey (3 : Int32) p2 (0 : Int32)))] [(.int (3 : Int32)), (.long (8 : Int64))]
        refine own_st (fun _ k => XS.iconst X0.here hx rfl (hb hby d13_19) k) ?_
        show own_Go X0 (Q13 Z r0 p2 kA x0 x1 x2 x3 h0 n0) 0 0 20 #[.val (.ref r0), .val (.int (3 : Int32)), .val (.int p2), .val (.int (own_one x0 (3 : Int32) p2 (0 : Int32))), .val (.int (1 : Int32)), .val (.long (own_low (3 : Int32) (0 : Int32))), .second, .val (.int (own_bey (3 : Int32) p2 (0 : Int32)))] [(.int (1 : Int32)), (.int (3 : Int32)), (.long (8 : Int64))]
        refine own_st (fun _ k => XS.isub X0.here hx rfl (hb hby d13_20) rfl k) ?_
        show own_Go X0 (Q13 Z r0 p2 kA x0 x1 x2 x3 h0 n0) 0 0 21 #[.val (.ref r0), .val (.int (3 : Int32)), .val (.int p2), .val (.int (own_one x0 (3 : Int32) p2 (0 : Int32))), .val (.int (1 : Int32)), .val (.long (own_low (3 : Int32) (0 : Int32))), .second, .val (.int (own_bey (3 : Int32) p2 (0 : Int32)))] [(.int (2 : Int32)), (.long (8 : Int64))]
        refine own_st (fun _ k => XS.iload X0.here hx rfl (hb hby d13_21) rfl k) ?_
        show own_Go X0 (Q13 Z r0 p2 kA x0 x1 x2 x3 h0 n0) 0 0 23 #[.val (.ref r0), .val (.int (3 : Int32)), .val (.int p2), .val (.int (own_one x0 (3 : Int32) p2 (0 : Int32))), .val (.int (1 : Int32)), .val (.long (own_low (3 : Int32) (0 : Int32))), .second, .val (.int (own_bey (3 : Int32) p2 (0 : Int32)))] [(.int (1 : Int32)), (.int (2 : Int32)), (.long (8 : Int64))]
        refine own_st (fun _ k => XS.isub X0.here hx rfl (hb hby d13_23) rfl k) ?_
        show own_Go X0 (Q13 Z r0 p2 kA x0 x1 x2 x3 h0 n0) 0 0 24 #[.val (.ref r0), .val (.int (3 : Int32)), .val (.int p2), .val (.int (own_one x0 (3 : Int32) p2 (0 : Int32))), .val (.int (1 : Int32)), .val (.long (own_low (3 : Int32) (0 : Int32))), .second, .val (.int (own_bey (3 : Int32) p2 (0 : Int32)))] [(.int (1 : Int32)), (.long (8 : Int64))]
        refine own_st (fun _ k => XS.i2l X0.here hx rfl (hb hby d13_24) rfl k) ?_
        show own_Go X0 (Q13 Z r0 p2 kA x0 x1 x2 x3 h0 n0) 0 0 25 #[.val (.ref r0), .val (.int (3 : Int32)), .val (.int p2), .val (.int (own_one x0 (3 : Int32) p2 (0 : Int32))), .val (.int (1 : Int32)), .val (.long (own_low (3 : Int32) (0 : Int32))), .second, .val (.int (own_bey (3 : Int32) p2 (0 : Int32)))] [(.long ((1 : Int32).toInt64)), (.long (8 : Int64))]
        refine own_st (fun _ k => XS.lmul X0.here hx rfl (hb hby d13_25) rfl k) ?_
        show own_Go X0 (Q13 Z r0 p2 kA x0 x1 x2 x3 h0 n0) 0 0 26 #[.val (.ref r0), .val (.int (3 : Int32)), .val (.int p2), .val (.int (own_one x0 (3 : Int32) p2 (0 : Int32))), .val (.int (1 : Int32)), .val (.long (own_low (3 : Int32) (0 : Int32))), .second, .val (.int (own_bey (3 : Int32) p2 (0 : Int32)))] [(.long ((8 : Int64) * ((1 : Int32).toInt64)))]
        refine own_st (fun _ k => XS.lstore X0.here hx rfl (hb hby d13_26) rfl (l' := #[.val (.ref r0), .val (.int (3 : Int32)), .val (.int p2), .val (.int (own_one x0 (3 : Int32) p2 (0 : Int32))), .val (.int (1 : Int32)), .val (.long ((8 : Int64) * ((1 : Int32).toInt64))), .second, .val (.int (own_bey (3 : Int32) p2 (0 : Int32)))]) rfl k) ?_
        show own_Go X0 (Q13 Z r0 p2 kA x0 x1 x2 x3 h0 n0) 0 0 28 #[.val (.ref r0), .val (.int (3 : Int32)), .val (.int p2), .val (.int (own_one x0 (3 : Int32) p2 (0 : Int32))), .val (.int (1 : Int32)), .val (.long ((8 : Int64) * ((1 : Int32).toInt64))), .second, .val (.int (own_bey (3 : Int32) p2 (0 : Int32)))] []
        show own_Go X0 (Q13 Z r0 p2 kA x0 x1 x2 x3 h0 n0) 0 0 28 #[.val (.ref r0), .val (.int (3 : Int32)), .val (.int p2), .val (.int (own_one x0 (3 : Int32) p2 (0 : Int32))), .val (.int (1 : Int32)), .val (.long (own_low (3 : Int32) (1 : Int32))), .second, .val (.int (own_bey (3 : Int32) p2 (0 : Int32)))] []
        have J46_1 : ∀ (bb : Int32) (hbb : bb = (own_bey (3 : Int32) p2 (1 : Int32))), own_Go X0 (Q13 Z r0 p2 kA x0 x1 x2 x3 h0 n0) 0 0 46 #[.val (.ref r0), .val (.int (3 : Int32)), .val (.int p2), .val (.int (own_one x0 (3 : Int32) p2 (0 : Int32))), .val (.int (1 : Int32)), .val (.long (own_low (3 : Int32) (1 : Int32))), .second, .val (.int (own_bey (3 : Int32) p2 (0 : Int32)))] [(.int bb)] := by
          intro bb hbb
          subst hbb
          show own_Go X0 (Q13 Z r0 p2 kA x0 x1 x2 x3 h0 n0) 0 0 46 #[.val (.ref r0), .val (.int (3 : Int32)), .val (.int p2), .val (.int (own_one x0 (3 : Int32) p2 (0 : Int32))), .val (.int (1 : Int32)), .val (.long (own_low (3 : Int32) (1 : Int32))), .second, .val (.int (own_bey (3 : Int32) p2 (0 : Int32)))] [(.int (own_bey (3 : Int32) p2 (1 : Int32)))]
          refine own_st (fun _ k => XS.istore X0.here hx rfl (hb hby d13_46) rfl (l' := #[.val (.ref r0), .val (.int (3 : Int32)), .val (.int p2), .val (.int (own_one x0 (3 : Int32) p2 (0 : Int32))), .val (.int (1 : Int32)), .val (.long (own_low (3 : Int32) (1 : Int32))), .second, .val (.int (own_bey (3 : Int32) p2 (1 : Int32)))]) rfl k) ?_
          show own_Go X0 (Q13 Z r0 p2 kA x0 x1 x2 x3 h0 n0) 0 0 48 #[.val (.ref r0), .val (.int (3 : Int32)), .val (.int p2), .val (.int (own_one x0 (3 : Int32) p2 (0 : Int32))), .val (.int (1 : Int32)), .val (.long (own_low (3 : Int32) (1 : Int32))), .second, .val (.int (own_bey (3 : Int32) p2 (1 : Int32)))] []
          have J74_1 : ∀ (ff : Int32) (hff : ff = (own_one x1 (3 : Int32) p2 (1 : Int32))), own_Go X0 (Q13 Z r0 p2 kA x0 x1 x2 x3 h0 n0) 0 0 74 #[.val (.ref r0), .val (.int (3 : Int32)), .val (.int p2), .val (.int (own_one x0 (3 : Int32) p2 (0 : Int32))), .val (.int (1 : Int32)), .val (.long (own_low (3 : Int32) (1 : Int32))), .second, .val (.int (own_bey (3 : Int32) p2 (1 : Int32)))] [(.int ff)] := by
            intro ff hff
            subst hff
            show own_Go X0 (Q13 Z r0 p2 kA x0 x1 x2 x3 h0 n0) 0 0 74 #[.val (.ref r0), .val (.int (3 : Int32)), .val (.int p2), .val (.int (own_one x0 (3 : Int32) p2 (0 : Int32))), .val (.int (1 : Int32)), .val (.long (own_low (3 : Int32) (1 : Int32))), .second, .val (.int (own_bey (3 : Int32) p2 (1 : Int32)))] [(.int (own_one x1 (3 : Int32) p2 (1 : Int32)))]
            refine own_st (fun _ k => XS.istoreN X0.here hx rfl (hb hby d13_74) rfl (l' := #[.val (.ref r0), .val (.int (3 : Int32)), .val (.int p2), .val (.int (own_one x1 (3 : Int32) p2 (1 : Int32))), .val (.int (1 : Int32)), .val (.long (own_low (3 : Int32) (1 : Int32))), .second, .val (.int (own_bey (3 : Int32) p2 (1 : Int32)))]) rfl k) ?_
            show own_Go X0 (Q13 Z r0 p2 kA x0 x1 x2 x3 h0 n0) 0 0 75 #[.val (.ref r0), .val (.int (3 : Int32)), .val (.int p2), .val (.int (own_one x1 (3 : Int32) p2 (1 : Int32))), .val (.int (1 : Int32)), .val (.long (own_low (3 : Int32) (1 : Int32))), .second, .val (.int (own_bey (3 : Int32) p2 (1 : Int32)))] []
            refine own_st (fun _ k => XS.iinc X0.here hx rfl (hb hby d13_75) rfl (l' := #[.val (.ref r0), .val (.int (3 : Int32)), .val (.int p2), .val (.int (own_one x1 (3 : Int32) p2 (1 : Int32))), .val (.int (2 : Int32)), .val (.long (own_low (3 : Int32) (1 : Int32))), .second, .val (.int (own_bey (3 : Int32) p2 (1 : Int32)))]) rfl k) ?_
            show own_Go X0 (Q13 Z r0 p2 kA x0 x1 x2 x3 h0 n0) 0 0 78 #[.val (.ref r0), .val (.int (3 : Int32)), .val (.int p2), .val (.int (own_one x1 (3 : Int32) p2 (1 : Int32))), .val (.int (2 : Int32)), .val (.long (own_low (3 : Int32) (1 : Int32))), .second, .val (.int (own_bey (3 : Int32) p2 (1 : Int32)))] []
            refine own_st (fun _ k => XS.goto X0.here hx rfl (pc0 := 78) (pc' := 5) rfl (hb hby d13_78) (by decide) (by decide) k) ?_
            show own_Go X0 (Q13 Z r0 p2 kA x0 x1 x2 x3 h0 n0) 0 0 5 #[.val (.ref r0), .val (.int (3 : Int32)), .val (.int p2), .val (.int (own_one x1 (3 : Int32) p2 (1 : Int32))), .val (.int (2 : Int32)), .val (.long (own_low (3 : Int32) (1 : Int32))), .second, .val (.int (own_bey (3 : Int32) p2 (1 : Int32)))] []
            refine own_st (fun _ k => XS.iload X0.here hx rfl (hb hby d13_5) rfl k) ?_
            show own_Go X0 (Q13 Z r0 p2 kA x0 x1 x2 x3 h0 n0) 0 0 7 #[.val (.ref r0), .val (.int (3 : Int32)), .val (.int p2), .val (.int (own_one x1 (3 : Int32) p2 (1 : Int32))), .val (.int (2 : Int32)), .val (.long (own_low (3 : Int32) (1 : Int32))), .second, .val (.int (own_bey (3 : Int32) p2 (1 : Int32)))] [(.int (2 : Int32))]
            refine own_st (fun _ k => XS.iloadN X0.here hx rfl (hb hby d13_7) rfl k) ?_
            show own_Go X0 (Q13 Z r0 p2 kA x0 x1 x2 x3 h0 n0) 0 0 8 #[.val (.ref r0), .val (.int (3 : Int32)), .val (.int p2), .val (.int (own_one x1 (3 : Int32) p2 (1 : Int32))), .val (.int (2 : Int32)), .val (.long (own_low (3 : Int32) (1 : Int32))), .second, .val (.int (own_bey (3 : Int32) p2 (1 : Int32)))] [(.int (3 : Int32)), (.int (2 : Int32))]
            have c8_5 : (2 : Int32) < (3 : Int32) := (by decide)
            refine own_st (fun _ k => XS.icmpNo X0.here hx rfl (hb hby d13_8) rfl (tlt c8_5).2.1 k) ?_
            show own_Go X0 (Q13 Z r0 p2 kA x0 x1 x2 x3 h0 n0) 0 0 11 #[.val (.ref r0), .val (.int (3 : Int32)), .val (.int p2), .val (.int (own_one x1 (3 : Int32) p2 (1 : Int32))), .val (.int (2 : Int32)), .val (.long (own_low (3 : Int32) (1 : Int32))), .second, .val (.int (own_bey (3 : Int32) p2 (1 : Int32)))] []
            refine own_st (fun _ k => XS.iloadN X0.here hx rfl (hb hby d13_11) rfl k) ?_
            show own_Go X0 (Q13 Z r0 p2 kA x0 x1 x2 x3 h0 n0) 0 0 12 #[.val (.ref r0), .val (.int (3 : Int32)), .val (.int p2), .val (.int (own_one x1 (3 : Int32) p2 (1 : Int32))), .val (.int (2 : Int32)), .val (.long (own_low (3 : Int32) (1 : Int32))), .second, .val (.int (own_bey (3 : Int32) p2 (1 : Int32)))] [(.int (own_one x1 (3 : Int32) p2 (1 : Int32)))]
            by_cases c12_6 : (own_one x1 (3 : Int32) p2 (1 : Int32)) = (0 : Int32)
            · skip
              refine own_st (fun _ k => XS.ifYes X0.here hx rfl (pc0 := 12) (pc' := 81) rfl (hb hby d13_12) rfl ((if0 _ _).trans (teq c12_6).1) (by decide) (by decide) k) ?_
              show own_Go X0 (Q13 Z r0 p2 kA x0 x1 x2 x3 h0 n0) 0 0 81 #[.val (.ref r0), .val (.int (3 : Int32)), .val (.int p2), .val (.int (own_one x1 (3 : Int32) p2 (1 : Int32))), .val (.int (2 : Int32)), .val (.long (own_low (3 : Int32) (1 : Int32))), .second, .val (.int (own_bey (3 : Int32) p2 (1 : Int32)))] []
              refine own_st (fun _ k => XS.iloadN X0.here hx rfl (hb hby d13_81) rfl k) ?_
              show own_Go X0 (Q13 Z r0 p2 kA x0 x1 x2 x3 h0 n0) 0 0 82 #[.val (.ref r0), .val (.int (3 : Int32)), .val (.int p2), .val (.int (own_one x1 (3 : Int32) p2 (1 : Int32))), .val (.int (2 : Int32)), .val (.long (own_low (3 : Int32) (1 : Int32))), .second, .val (.int (own_bey (3 : Int32) p2 (1 : Int32)))] [(.int (own_one x1 (3 : Int32) p2 (1 : Int32)))]
              refine own_retN X0 hx Bd.returns (by simp) hlk e0 (hb hby d13_82) (by decide) (by decide) ?_
              have hr : (own_fb3 x0 x1 x2 p2) = (own_one x1 (3 : Int32) p2 (1 : Int32)) := by unfold own_fb3; rw [if_neg c12_4, if_pos c12_6]; exact c12_6.symm
              exact ⟨by rw [hr]; rw [own_oneb], N0, rfl⟩
            · skip
              refine own_st (fun _ k => XS.ifNo X0.here hx rfl (hb hby d13_12) rfl ((if0 _ _).trans (feq c12_6).1) k) ?_
              show own_Go X0 (Q13 Z r0 p2 kA x0 x1 x2 x3 h0 n0) 0 0 15 #[.val (.ref r0), .val (.int (3 : Int32)), .val (.int p2), .val (.int (own_one x1 (3 : Int32) p2 (1 : Int32))), .val (.int (2 : Int32)), .val (.long (own_low (3 : Int32) (1 : Int32))), .second, .val (.int (own_bey (3 : Int32) p2 (1 : Int32)))] []
              refine own_st (fun t k => X0.ldc2Long hx hown (mvT hZ (hw _ (List.mem_of_getElem? (i := 5) rfl))) (g := (mkF m 15 #[.val (.ref r0), .val (.int (3 : Int32)), .val (.int p2), .val (.int (own_one x1 (3 : Int32) p2 (1 : Int32))), .val (.int (2 : Int32)), .val (.long (own_low (3 : Int32) (1 : Int32))), .second, .val (.int (own_bey (3 : Int32) p2 (1 : Int32)))] [])) rfl (hb hby d13_15) t k) ?_
              show own_Go X0 (Q13 Z r0 p2 kA x0 x1 x2 x3 h0 n0) 0 0 18 #[.val (.ref r0), .val (.int (3 : Int32)), .val (.int p2), .val (.int (own_one x1 (3 : Int32) p2 (1 : Int32))), .val (.int (2 : Int32)), .val (.long (own_low (3 : Int32) (1 : Int32))), .second, .val (.int (own_bey (3 : Int32) p2 (1 : Int32)))] [(.long (8 : Int64))]
              refine own_st (fun _ k => XS.iloadN X0.here hx rfl (hb hby d13_18) rfl k) ?_
              show own_Go X0 (Q13 Z r0 p2 kA x0 x1 x2 x3 h0 n0) 0 0 19 #[.val (.ref r0), .val (.int (3 : Int32)), .val (.int p2), .val (.int (own_one x1 (3 : Int32) p2 (1 : Int32))), .val (.int (2 : Int32)), .val (.long (own_low (3 : Int32) (1 : Int32))), .second, .val (.int (own_bey (3 : Int32) p2 (1 : Int32)))] [(.int (3 : Int32)), (.long (8 : Int64))]
              refine own_st (fun _ k => XS.iconst X0.here hx rfl (hb hby d13_19) k) ?_
              show own_Go X0 (Q13 Z r0 p2 kA x0 x1 x2 x3 h0 n0) 0 0 20 #[.val (.ref r0), .val (.int (3 : Int32)), .val (.int p2), .val (.int (own_one x1 (3 : Int32) p2 (1 : Int32))), .val (.int (2 : Int32)), .val (.long (own_low (3 : Int32) (1 : Int32))), .second, .val (.int (own_bey (3 : Int32) p2 (1 : Int32)))] [(.int (1 : Int32)), (.int (3 : Int32)), (.long (8 : Int64))]
              refine own_st (fun _ k => XS.isub X0.here hx rfl (hb hby d13_20) rfl k) ?_
              show own_Go X0 (Q13 Z r0 p2 kA x0 x1 x2 x3 h0 n0) 0 0 21 #[.val (.ref r0), .val (.int (3 : Int32)), .val (.int p2), .val (.int (own_one x1 (3 : Int32) p2 (1 : Int32))), .val (.int (2 : Int32)), .val (.long (own_low (3 : Int32) (1 : Int32))), .second, .val (.int (own_bey (3 : Int32) p2 (1 : Int32)))] [(.int (2 : Int32)), (.long (8 : Int64))]
              refine own_st (fun _ k => XS.iload X0.here hx rfl (hb hby d13_21) rfl k) ?_
              show own_Go X0 (Q13 Z r0 p2 kA x0 x1 x2 x3 h0 n0) 0 0 23 #[.val (.ref r0), .val (.int (3 : Int32)), .val (.int p2), .val (.int (own_one x1 (3 : Int32) p2 (1 : Int32))), .val (.int (2 : Int32)), .val (.long (own_low (3 : Int32) (1 : Int32))), .second, .val (.int (own_bey (3 : Int32) p2 (1 : Int32)))] [(.int (2 : Int32)), (.int (2 : Int32)), (.long (8 : Int64))]
              refine own_st (fun _ k => XS.isub X0.here hx rfl (hb hby d13_23) rfl k) ?_
              show own_Go X0 (Q13 Z r0 p2 kA x0 x1 x2 x3 h0 n0) 0 0 24 #[.val (.ref r0), .val (.int (3 : Int32)), .val (.int p2), .val (.int (own_one x1 (3 : Int32) p2 (1 : Int32))), .val (.int (2 : Int32)), .val (.long (own_low (3 : Int32) (1 : Int32))), .second, .val (.int (own_bey (3 : Int32) p2 (1 : Int32)))] [(.int (0 : Int32)), (.long (8 : Int64))]
              refine own_st (fun _ k => XS.i2l X0.here hx rfl (hb hby d13_24) rfl k) ?_
              show own_Go X0 (Q13 Z r0 p2 kA x0 x1 x2 x3 h0 n0) 0 0 25 #[.val (.ref r0), .val (.int (3 : Int32)), .val (.int p2), .val (.int (own_one x1 (3 : Int32) p2 (1 : Int32))), .val (.int (2 : Int32)), .val (.long (own_low (3 : Int32) (1 : Int32))), .second, .val (.int (own_bey (3 : Int32) p2 (1 : Int32)))] [(.long ((0 : Int32).toInt64)), (.long (8 : Int64))]
              refine own_st (fun _ k => XS.lmul X0.here hx rfl (hb hby d13_25) rfl k) ?_
              show own_Go X0 (Q13 Z r0 p2 kA x0 x1 x2 x3 h0 n0) 0 0 26 #[.val (.ref r0), .val (.int (3 : Int32)), .val (.int p2), .val (.int (own_one x1 (3 : Int32) p2 (1 : Int32))), .val (.int (2 : Int32)), .val (.long (own_low (3 : Int32) (1 : Int32))), .second, .val (.int (own_bey (3 : Int32) p2 (1 : Int32)))] [(.long ((8 : Int64) * ((0 : Int32).toInt64)))]
              refine own_st (fun _ k => XS.lstore X0.here hx rfl (hb hby d13_26) rfl (l' := #[.val (.ref r0), .val (.int (3 : Int32)), .val (.int p2), .val (.int (own_one x1 (3 : Int32) p2 (1 : Int32))), .val (.int (2 : Int32)), .val (.long ((8 : Int64) * ((0 : Int32).toInt64))), .second, .val (.int (own_bey (3 : Int32) p2 (1 : Int32)))]) rfl k) ?_
              show own_Go X0 (Q13 Z r0 p2 kA x0 x1 x2 x3 h0 n0) 0 0 28 #[.val (.ref r0), .val (.int (3 : Int32)), .val (.int p2), .val (.int (own_one x1 (3 : Int32) p2 (1 : Int32))), .val (.int (2 : Int32)), .val (.long ((8 : Int64) * ((0 : Int32).toInt64))), .second, .val (.int (own_bey (3 : Int32) p2 (1 : Int32)))] []
              show own_Go X0 (Q13 Z r0 p2 kA x0 x1 x2 x3 h0 n0) 0 0 28 #[.val (.ref r0), .val (.int (3 : Int32)), .val (.int p2), .val (.int (own_one x1 (3 : Int32) p2 (1 : Int32))), .val (.int (2 : Int32)), .val (.long (own_low (3 : Int32) (2 : Int32))), .second, .val (.int (own_bey (3 : Int32) p2 (1 : Int32)))] []
              have J46_2 : ∀ (bb : Int32) (hbb : bb = (own_bey (3 : Int32) p2 (2 : Int32))), own_Go X0 (Q13 Z r0 p2 kA x0 x1 x2 x3 h0 n0) 0 0 46 #[.val (.ref r0), .val (.int (3 : Int32)), .val (.int p2), .val (.int (own_one x1 (3 : Int32) p2 (1 : Int32))), .val (.int (2 : Int32)), .val (.long (own_low (3 : Int32) (2 : Int32))), .second, .val (.int (own_bey (3 : Int32) p2 (1 : Int32)))] [(.int bb)] := by
                intro bb hbb
                subst hbb
                show own_Go X0 (Q13 Z r0 p2 kA x0 x1 x2 x3 h0 n0) 0 0 46 #[.val (.ref r0), .val (.int (3 : Int32)), .val (.int p2), .val (.int (own_one x1 (3 : Int32) p2 (1 : Int32))), .val (.int (2 : Int32)), .val (.long (own_low (3 : Int32) (2 : Int32))), .second, .val (.int (own_bey (3 : Int32) p2 (1 : Int32)))] [(.int (own_bey (3 : Int32) p2 (2 : Int32)))]
                refine own_st (fun _ k => XS.istore X0.here hx rfl (hb hby d13_46) rfl (l' := #[.val (.ref r0), .val (.int (3 : Int32)), .val (.int p2), .val (.int (own_one x1 (3 : Int32) p2 (1 : Int32))), .val (.int (2 : Int32)), .val (.long (own_low (3 : Int32) (2 : Int32))), .second, .val (.int (own_bey (3 : Int32) p2 (2 : Int32)))]) rfl k) ?_
                show own_Go X0 (Q13 Z r0 p2 kA x0 x1 x2 x3 h0 n0) 0 0 48 #[.val (.ref r0), .val (.int (3 : Int32)), .val (.int p2), .val (.int (own_one x1 (3 : Int32) p2 (1 : Int32))), .val (.int (2 : Int32)), .val (.long (own_low (3 : Int32) (2 : Int32))), .second, .val (.int (own_bey (3 : Int32) p2 (2 : Int32)))] []
                have J74_2 : ∀ (ff : Int32) (hff : ff = (own_one x2 (3 : Int32) p2 (2 : Int32))), own_Go X0 (Q13 Z r0 p2 kA x0 x1 x2 x3 h0 n0) 0 0 74 #[.val (.ref r0), .val (.int (3 : Int32)), .val (.int p2), .val (.int (own_one x1 (3 : Int32) p2 (1 : Int32))), .val (.int (2 : Int32)), .val (.long (own_low (3 : Int32) (2 : Int32))), .second, .val (.int (own_bey (3 : Int32) p2 (2 : Int32)))] [(.int ff)] := by
                  intro ff hff
                  subst hff
                  show own_Go X0 (Q13 Z r0 p2 kA x0 x1 x2 x3 h0 n0) 0 0 74 #[.val (.ref r0), .val (.int (3 : Int32)), .val (.int p2), .val (.int (own_one x1 (3 : Int32) p2 (1 : Int32))), .val (.int (2 : Int32)), .val (.long (own_low (3 : Int32) (2 : Int32))), .second, .val (.int (own_bey (3 : Int32) p2 (2 : Int32)))] [(.int (own_one x2 (3 : Int32) p2 (2 : Int32)))]
                  refine own_st (fun _ k => XS.istoreN X0.here hx rfl (hb hby d13_74) rfl (l' := #[.val (.ref r0), .val (.int (3 : Int32)), .val (.int p2), .val (.int (own_one x2 (3 : Int32) p2 (2 : Int32))), .val (.int (2 : Int32)), .val (.long (own_low (3 : Int32) (2 : Int32))), .second, .val (.int (own_bey (3 : Int32) p2 (2 : Int32)))]) rfl k) ?_
                  show own_Go X0 (Q13 Z r0 p2 kA x0 x1 x2 x3 h0 n0) 0 0 75 #[.val (.ref r0), .val (.int (3 : Int32)), .val (.int p2), .val (.int (own_one x2 (3 : Int32) p2 (2 : Int32))), .val (.int (2 : Int32)), .val (.long (own_low (3 : Int32) (2 : Int32))), .second, .val (.int (own_bey (3 : Int32) p2 (2 : Int32)))] []
                  refine own_st (fun _ k => XS.iinc X0.here hx rfl (hb hby d13_75) rfl (l' := #[.val (.ref r0), .val (.int (3 : Int32)), .val (.int p2), .val (.int (own_one x2 (3 : Int32) p2 (2 : Int32))), .val (.int (3 : Int32)), .val (.long (own_low (3 : Int32) (2 : Int32))), .second, .val (.int (own_bey (3 : Int32) p2 (2 : Int32)))]) rfl k) ?_
                  show own_Go X0 (Q13 Z r0 p2 kA x0 x1 x2 x3 h0 n0) 0 0 78 #[.val (.ref r0), .val (.int (3 : Int32)), .val (.int p2), .val (.int (own_one x2 (3 : Int32) p2 (2 : Int32))), .val (.int (3 : Int32)), .val (.long (own_low (3 : Int32) (2 : Int32))), .second, .val (.int (own_bey (3 : Int32) p2 (2 : Int32)))] []
                  refine own_st (fun _ k => XS.goto X0.here hx rfl (pc0 := 78) (pc' := 5) rfl (hb hby d13_78) (by decide) (by decide) k) ?_
                  show own_Go X0 (Q13 Z r0 p2 kA x0 x1 x2 x3 h0 n0) 0 0 5 #[.val (.ref r0), .val (.int (3 : Int32)), .val (.int p2), .val (.int (own_one x2 (3 : Int32) p2 (2 : Int32))), .val (.int (3 : Int32)), .val (.long (own_low (3 : Int32) (2 : Int32))), .second, .val (.int (own_bey (3 : Int32) p2 (2 : Int32)))] []
                  refine own_st (fun _ k => XS.iload X0.here hx rfl (hb hby d13_5) rfl k) ?_
                  show own_Go X0 (Q13 Z r0 p2 kA x0 x1 x2 x3 h0 n0) 0 0 7 #[.val (.ref r0), .val (.int (3 : Int32)), .val (.int p2), .val (.int (own_one x2 (3 : Int32) p2 (2 : Int32))), .val (.int (3 : Int32)), .val (.long (own_low (3 : Int32) (2 : Int32))), .second, .val (.int (own_bey (3 : Int32) p2 (2 : Int32)))] [(.int (3 : Int32))]
                  refine own_st (fun _ k => XS.iloadN X0.here hx rfl (hb hby d13_7) rfl k) ?_
                  show own_Go X0 (Q13 Z r0 p2 kA x0 x1 x2 x3 h0 n0) 0 0 8 #[.val (.ref r0), .val (.int (3 : Int32)), .val (.int p2), .val (.int (own_one x2 (3 : Int32) p2 (2 : Int32))), .val (.int (3 : Int32)), .val (.long (own_low (3 : Int32) (2 : Int32))), .second, .val (.int (own_bey (3 : Int32) p2 (2 : Int32)))] [(.int (3 : Int32)), (.int (3 : Int32))]
                  have c8_7 : ¬ ((3 : Int32) < (3 : Int32)) := (by decide)
                  refine own_st (fun _ k => XS.icmpYes X0.here hx rfl (pc0 := 8) (pc' := 81) rfl (hb hby d13_8) rfl (flt c8_7).2.1 (by decide) (by decide) k) ?_
                  show own_Go X0 (Q13 Z r0 p2 kA x0 x1 x2 x3 h0 n0) 0 0 81 #[.val (.ref r0), .val (.int (3 : Int32)), .val (.int p2), .val (.int (own_one x2 (3 : Int32) p2 (2 : Int32))), .val (.int (3 : Int32)), .val (.long (own_low (3 : Int32) (2 : Int32))), .second, .val (.int (own_bey (3 : Int32) p2 (2 : Int32)))] []
                  refine own_st (fun _ k => XS.iloadN X0.here hx rfl (hb hby d13_81) rfl k) ?_
                  show own_Go X0 (Q13 Z r0 p2 kA x0 x1 x2 x3 h0 n0) 0 0 82 #[.val (.ref r0), .val (.int (3 : Int32)), .val (.int p2), .val (.int (own_one x2 (3 : Int32) p2 (2 : Int32))), .val (.int (3 : Int32)), .val (.long (own_low (3 : Int32) (2 : Int32))), .second, .val (.int (own_bey (3 : Int32) p2 (2 : Int32)))] [(.int (own_one x2 (3 : Int32) p2 (2 : Int32)))]
                  refine own_retN X0 hx Bd.returns (by simp) hlk e0 (hb hby d13_82) (by decide) (by decide) ?_
                  have hr : (own_fb3 x0 x1 x2 p2) = (own_one x2 (3 : Int32) p2 (2 : Int32)) := by unfold own_fb3; rw [if_neg c12_4, if_neg c12_6]
                  exact ⟨by rw [hr]; rw [own_oneb], N0, rfl⟩
                refine own_st (fun _ k => XS.iload X0.here hx rfl (hb hby d13_48) rfl k) ?_
                show own_Go X0 (Q13 Z r0 p2 kA x0 x1 x2 x3 h0 n0) 0 0 50 #[.val (.ref r0), .val (.int (3 : Int32)), .val (.int p2), .val (.int (own_one x1 (3 : Int32) p2 (1 : Int32))), .val (.int (2 : Int32)), .val (.long (own_low (3 : Int32) (2 : Int32))), .second, .val (.int (own_bey (3 : Int32) p2 (2 : Int32)))] [(.int (own_bey (3 : Int32) p2 (2 : Int32)))]
                refine own_st (fun _ k => XS.bipush X0.here hx rfl (hb hby d13_50) k) ?_
                show own_Go X0 (Q13 Z r0 p2 kA x0 x1 x2 x3 h0 n0) 0 0 52 #[.val (.ref r0), .val (.int (3 : Int32)), .val (.int p2), .val (.int (own_one x1 (3 : Int32) p2 (1 : Int32))), .val (.int (2 : Int32)), .val (.long (own_low (3 : Int32) (2 : Int32))), .second, .val (.int (own_bey (3 : Int32) p2 (2 : Int32)))] [(.int (8 : Int32)), (.int (own_bey (3 : Int32) p2 (2 : Int32)))]
                by_cases c52_8 : (own_bey (3 : Int32) p2 (2 : Int32)) < (8 : Int32)
                · skip
                  refine own_st (fun _ k => XS.icmpNo X0.here hx rfl (hb hby d13_52) rfl (tlt c52_8).2.1 k) ?_
                  show own_Go X0 (Q13 Z r0 p2 kA x0 x1 x2 x3 h0 n0) 0 0 55 #[.val (.ref r0), .val (.int (3 : Int32)), .val (.int p2), .val (.int (own_one x1 (3 : Int32) p2 (1 : Int32))), .val (.int (2 : Int32)), .val (.long (own_low (3 : Int32) (2 : Int32))), .second, .val (.int (own_bey (3 : Int32) p2 (2 : Int32)))] []
                  refine own_st (fun _ k => XS.aloadN X0.here hx rfl (hb hby d13_55) rfl rfl k) ?_
                  show own_Go X0 (Q13 Z r0 p2 kA x0 x1 x2 x3 h0 n0) 0 0 56 #[.val (.ref r0), .val (.int (3 : Int32)), .val (.int p2), .val (.int (own_one x1 (3 : Int32) p2 (1 : Int32))), .val (.int (2 : Int32)), .val (.long (own_low (3 : Int32) (2 : Int32))), .second, .val (.int (own_bey (3 : Int32) p2 (2 : Int32)))] [(.ref r0)]
                  refine own_st (fun _ k => XS.iload X0.here hx rfl (hb hby d13_56) rfl k) ?_
                  show own_Go X0 (Q13 Z r0 p2 kA x0 x1 x2 x3 h0 n0) 0 0 58 #[.val (.ref r0), .val (.int (3 : Int32)), .val (.int p2), .val (.int (own_one x1 (3 : Int32) p2 (1 : Int32))), .val (.int (2 : Int32)), .val (.long (own_low (3 : Int32) (2 : Int32))), .second, .val (.int (own_bey (3 : Int32) p2 (2 : Int32)))] [(.int (2 : Int32)), (.ref r0)]
                  refine own_st (fun _ k => own_ldB X0 hx hZ e0 PV (j := (2 : Int32)) ⟨by decide, by decide⟩ (v := (.int x2)) rfl (g := (mkF m 58 #[.val (.ref r0), .val (.int (3 : Int32)), .val (.int p2), .val (.int (own_one x1 (3 : Int32) p2 (1 : Int32))), .val (.int (2 : Int32)), .val (.long (own_low (3 : Int32) (2 : Int32))), .second, .val (.int (own_bey (3 : Int32) p2 (2 : Int32)))] [(.int (2 : Int32)), (.ref r0)])) rfl rfl (hb hby d13_58) _ k) ?_
                  show own_Go X0 (Q13 Z r0 p2 kA x0 x1 x2 x3 h0 n0) 0 0 59 #[.val (.ref r0), .val (.int (3 : Int32)), .val (.int p2), .val (.int (own_one x1 (3 : Int32) p2 (1 : Int32))), .val (.int (2 : Int32)), .val (.long (own_low (3 : Int32) (2 : Int32))), .second, .val (.int (own_bey (3 : Int32) p2 (2 : Int32)))] [(.int x2)]
                  refine own_st (fun _ k => XS.sipush X0.here hx rfl (hb hby d13_59) k) ?_
                  show own_Go X0 (Q13 Z r0 p2 kA x0 x1 x2 x3 h0 n0) 0 0 62 #[.val (.ref r0), .val (.int (3 : Int32)), .val (.int p2), .val (.int (own_one x1 (3 : Int32) p2 (1 : Int32))), .val (.int (2 : Int32)), .val (.long (own_low (3 : Int32) (2 : Int32))), .second, .val (.int (own_bey (3 : Int32) p2 (2 : Int32)))] [(.int (255 : Int32)), (.int x2)]
                  refine own_st (fun _ k => XS.iand X0.here hx rfl (hb hby d13_62) rfl k) ?_
                  show own_Go X0 (Q13 Z r0 p2 kA x0 x1 x2 x3 h0 n0) 0 0 63 #[.val (.ref r0), .val (.int (3 : Int32)), .val (.int p2), .val (.int (own_one x1 (3 : Int32) p2 (1 : Int32))), .val (.int (2 : Int32)), .val (.long (own_low (3 : Int32) (2 : Int32))), .second, .val (.int (own_bey (3 : Int32) p2 (2 : Int32)))] [(.int (x2 &&& (255 : Int32)))]
                  refine own_st (fun _ k => XS.iload X0.here hx rfl (hb hby d13_63) rfl k) ?_
                  show own_Go X0 (Q13 Z r0 p2 kA x0 x1 x2 x3 h0 n0) 0 0 65 #[.val (.ref r0), .val (.int (3 : Int32)), .val (.int p2), .val (.int (own_one x1 (3 : Int32) p2 (1 : Int32))), .val (.int (2 : Int32)), .val (.long (own_low (3 : Int32) (2 : Int32))), .second, .val (.int (own_bey (3 : Int32) p2 (2 : Int32)))] [(.int (own_bey (3 : Int32) p2 (2 : Int32))), (.int (x2 &&& (255 : Int32)))]
                  refine own_st (fun _ k => XS.ishr X0.here hx rfl (hb hby d13_65) rfl k) ?_
                  show own_Go X0 (Q13 Z r0 p2 kA x0 x1 x2 x3 h0 n0) 0 0 66 #[.val (.ref r0), .val (.int (3 : Int32)), .val (.int p2), .val (.int (own_one x1 (3 : Int32) p2 (1 : Int32))), .val (.int (2 : Int32)), .val (.long (own_low (3 : Int32) (2 : Int32))), .second, .val (.int (own_bey (3 : Int32) p2 (2 : Int32)))] [(.int ((x2 &&& (255 : Int32)) >>> ((own_bey (3 : Int32) p2 (2 : Int32)) &&& 31)))]
                  by_cases c66_9 : ((x2 &&& (255 : Int32)) >>> ((own_bey (3 : Int32) p2 (2 : Int32)) &&& 31)) = (0 : Int32)
                  · skip
                    refine own_st (fun _ k => XS.ifNo X0.here hx rfl (hb hby d13_66) rfl ((if0 _ _).trans (teq c66_9).2) k) ?_
                    show own_Go X0 (Q13 Z r0 p2 kA x0 x1 x2 x3 h0 n0) 0 0 69 #[.val (.ref r0), .val (.int (3 : Int32)), .val (.int p2), .val (.int (own_one x1 (3 : Int32) p2 (1 : Int32))), .val (.int (2 : Int32)), .val (.long (own_low (3 : Int32) (2 : Int32))), .second, .val (.int (own_bey (3 : Int32) p2 (2 : Int32)))] []
                    refine own_st (fun _ k => XS.iconst X0.here hx rfl (hb hby d13_69) k) ?_
                    show own_Go X0 (Q13 Z r0 p2 kA x0 x1 x2 x3 h0 n0) 0 0 70 #[.val (.ref r0), .val (.int (3 : Int32)), .val (.int p2), .val (.int (own_one x1 (3 : Int32) p2 (1 : Int32))), .val (.int (2 : Int32)), .val (.long (own_low (3 : Int32) (2 : Int32))), .second, .val (.int (own_bey (3 : Int32) p2 (2 : Int32)))] [(.int (1 : Int32))]
                    refine own_st (fun _ k => XS.goto X0.here hx rfl (pc0 := 70) (pc' := 74) rfl (hb hby d13_70) (by decide) (by decide) k) ?_
                    show own_Go X0 (Q13 Z r0 p2 kA x0 x1 x2 x3 h0 n0) 0 0 74 #[.val (.ref r0), .val (.int (3 : Int32)), .val (.int p2), .val (.int (own_one x1 (3 : Int32) p2 (1 : Int32))), .val (.int (2 : Int32)), .val (.long (own_low (3 : Int32) (2 : Int32))), .second, .val (.int (own_bey (3 : Int32) p2 (2 : Int32)))] [(.int (1 : Int32))]
                    exact J74_2 _ (by unfold own_one; rw [if_pos c52_8, if_pos c66_9])
                  · skip
                    refine own_st (fun _ k => XS.ifYes X0.here hx rfl (pc0 := 66) (pc' := 73) rfl (hb hby d13_66) rfl ((if0 _ _).trans (feq c66_9).2) (by decide) (by decide) k) ?_
                    show own_Go X0 (Q13 Z r0 p2 kA x0 x1 x2 x3 h0 n0) 0 0 73 #[.val (.ref r0), .val (.int (3 : Int32)), .val (.int p2), .val (.int (own_one x1 (3 : Int32) p2 (1 : Int32))), .val (.int (2 : Int32)), .val (.long (own_low (3 : Int32) (2 : Int32))), .second, .val (.int (own_bey (3 : Int32) p2 (2 : Int32)))] []
                    refine own_st (fun _ k => XS.iconst X0.here hx rfl (hb hby d13_73) k) ?_
                    show own_Go X0 (Q13 Z r0 p2 kA x0 x1 x2 x3 h0 n0) 0 0 74 #[.val (.ref r0), .val (.int (3 : Int32)), .val (.int p2), .val (.int (own_one x1 (3 : Int32) p2 (1 : Int32))), .val (.int (2 : Int32)), .val (.long (own_low (3 : Int32) (2 : Int32))), .second, .val (.int (own_bey (3 : Int32) p2 (2 : Int32)))] [(.int (0 : Int32))]
                    exact J74_2 _ (by unfold own_one; rw [if_pos c52_8, if_neg c66_9])
                · skip
                  refine own_st (fun _ k => XS.icmpYes X0.here hx rfl (pc0 := 52) (pc' := 69) rfl (hb hby d13_52) rfl (flt c52_8).2.1 (by decide) (by decide) k) ?_
                  show own_Go X0 (Q13 Z r0 p2 kA x0 x1 x2 x3 h0 n0) 0 0 69 #[.val (.ref r0), .val (.int (3 : Int32)), .val (.int p2), .val (.int (own_one x1 (3 : Int32) p2 (1 : Int32))), .val (.int (2 : Int32)), .val (.long (own_low (3 : Int32) (2 : Int32))), .second, .val (.int (own_bey (3 : Int32) p2 (2 : Int32)))] []
                  refine own_st (fun _ k => XS.iconst X0.here hx rfl (hb hby d13_69) k) ?_
                  show own_Go X0 (Q13 Z r0 p2 kA x0 x1 x2 x3 h0 n0) 0 0 70 #[.val (.ref r0), .val (.int (3 : Int32)), .val (.int p2), .val (.int (own_one x1 (3 : Int32) p2 (1 : Int32))), .val (.int (2 : Int32)), .val (.long (own_low (3 : Int32) (2 : Int32))), .second, .val (.int (own_bey (3 : Int32) p2 (2 : Int32)))] [(.int (1 : Int32))]
                  refine own_st (fun _ k => XS.goto X0.here hx rfl (pc0 := 70) (pc' := 74) rfl (hb hby d13_70) (by decide) (by decide) k) ?_
                  show own_Go X0 (Q13 Z r0 p2 kA x0 x1 x2 x3 h0 n0) 0 0 74 #[.val (.ref r0), .val (.int (3 : Int32)), .val (.int p2), .val (.int (own_one x1 (3 : Int32) p2 (1 : Int32))), .val (.int (2 : Int32)), .val (.long (own_low (3 : Int32) (2 : Int32))), .second, .val (.int (own_bey (3 : Int32) p2 (2 : Int32)))] [(.int (1 : Int32))]
                  exact J74_2 _ (by unfold own_one; rw [if_neg c52_8])
              refine own_st (fun _ k => XS.lload X0.here hx rfl (hb hby d13_28) rfl k) ?_
              show own_Go X0 (Q13 Z r0 p2 kA x0 x1 x2 x3 h0 n0) 0 0 30 #[.val (.ref r0), .val (.int (3 : Int32)), .val (.int p2), .val (.int (own_one x1 (3 : Int32) p2 (1 : Int32))), .val (.int (2 : Int32)), .val (.long (own_low (3 : Int32) (2 : Int32))), .second, .val (.int (own_bey (3 : Int32) p2 (1 : Int32)))] [(.long (own_low (3 : Int32) (2 : Int32)))]
              refine own_st (fun _ k => XS.iloadN X0.here hx rfl (hb hby d13_30) rfl k) ?_
              show own_Go X0 (Q13 Z r0 p2 kA x0 x1 x2 x3 h0 n0) 0 0 31 #[.val (.ref r0), .val (.int (3 : Int32)), .val (.int p2), .val (.int (own_one x1 (3 : Int32) p2 (1 : Int32))), .val (.int (2 : Int32)), .val (.long (own_low (3 : Int32) (2 : Int32))), .second, .val (.int (own_bey (3 : Int32) p2 (1 : Int32)))] [(.int p2), (.long (own_low (3 : Int32) (2 : Int32)))]
              refine own_st (fun _ k => XS.i2l X0.here hx rfl (hb hby d13_31) rfl k) ?_
              show own_Go X0 (Q13 Z r0 p2 kA x0 x1 x2 x3 h0 n0) 0 0 32 #[.val (.ref r0), .val (.int (3 : Int32)), .val (.int p2), .val (.int (own_one x1 (3 : Int32) p2 (1 : Int32))), .val (.int (2 : Int32)), .val (.long (own_low (3 : Int32) (2 : Int32))), .second, .val (.int (own_bey (3 : Int32) p2 (1 : Int32)))] [(.long (p2.toInt64)), (.long (own_low (3 : Int32) (2 : Int32)))]
              refine own_st (fun _ k => XS.lcmp X0.here hx rfl (hb hby d13_32) rfl k) ?_
              show own_Go X0 (Q13 Z r0 p2 kA x0 x1 x2 x3 h0 n0) 0 0 33 #[.val (.ref r0), .val (.int (3 : Int32)), .val (.int p2), .val (.int (own_one x1 (3 : Int32) p2 (1 : Int32))), .val (.int (2 : Int32)), .val (.long (own_low (3 : Int32) (2 : Int32))), .second, .val (.int (own_bey (3 : Int32) p2 (1 : Int32)))] [(.int (lcmpW (own_low (3 : Int32) (2 : Int32)) (p2.toInt64)))]
              by_cases c33_10 : (own_low (3 : Int32) (2 : Int32)) < (p2.toInt64)
              · skip
                refine own_st (fun _ k => XS.ifYes X0.here hx rfl (pc0 := 33) (pc' := 40) rfl (hb hby d13_33) rfl ((if0 _ _).trans (tlt ((lw_lt _ _).mpr c33_10)).1) (by decide) (by decide) k) ?_
                show own_Go X0 (Q13 Z r0 p2 kA x0 x1 x2 x3 h0 n0) 0 0 40 #[.val (.ref r0), .val (.int (3 : Int32)), .val (.int p2), .val (.int (own_one x1 (3 : Int32) p2 (1 : Int32))), .val (.int (2 : Int32)), .val (.long (own_low (3 : Int32) (2 : Int32))), .second, .val (.int (own_bey (3 : Int32) p2 (1 : Int32)))] []
                refine own_st (fun _ k => XS.iloadN X0.here hx rfl (hb hby d13_40) rfl k) ?_
                show own_Go X0 (Q13 Z r0 p2 kA x0 x1 x2 x3 h0 n0) 0 0 41 #[.val (.ref r0), .val (.int (3 : Int32)), .val (.int p2), .val (.int (own_one x1 (3 : Int32) p2 (1 : Int32))), .val (.int (2 : Int32)), .val (.long (own_low (3 : Int32) (2 : Int32))), .second, .val (.int (own_bey (3 : Int32) p2 (1 : Int32)))] [(.int p2)]
                refine own_st (fun _ k => XS.i2l X0.here hx rfl (hb hby d13_41) rfl k) ?_
                show own_Go X0 (Q13 Z r0 p2 kA x0 x1 x2 x3 h0 n0) 0 0 42 #[.val (.ref r0), .val (.int (3 : Int32)), .val (.int p2), .val (.int (own_one x1 (3 : Int32) p2 (1 : Int32))), .val (.int (2 : Int32)), .val (.long (own_low (3 : Int32) (2 : Int32))), .second, .val (.int (own_bey (3 : Int32) p2 (1 : Int32)))] [(.long (p2.toInt64))]
                refine own_st (fun _ k => XS.lload X0.here hx rfl (hb hby d13_42) rfl k) ?_
                show own_Go X0 (Q13 Z r0 p2 kA x0 x1 x2 x3 h0 n0) 0 0 44 #[.val (.ref r0), .val (.int (3 : Int32)), .val (.int p2), .val (.int (own_one x1 (3 : Int32) p2 (1 : Int32))), .val (.int (2 : Int32)), .val (.long (own_low (3 : Int32) (2 : Int32))), .second, .val (.int (own_bey (3 : Int32) p2 (1 : Int32)))] [(.long (own_low (3 : Int32) (2 : Int32))), (.long (p2.toInt64))]
                refine own_st (fun _ k => XS.lsub X0.here hx rfl (hb hby d13_44) rfl k) ?_
                show own_Go X0 (Q13 Z r0 p2 kA x0 x1 x2 x3 h0 n0) 0 0 45 #[.val (.ref r0), .val (.int (3 : Int32)), .val (.int p2), .val (.int (own_one x1 (3 : Int32) p2 (1 : Int32))), .val (.int (2 : Int32)), .val (.long (own_low (3 : Int32) (2 : Int32))), .second, .val (.int (own_bey (3 : Int32) p2 (1 : Int32)))] [(.long ((p2.toInt64) - (own_low (3 : Int32) (2 : Int32))))]
                refine own_st (fun _ k => XS.l2i X0.here hx rfl (hb hby d13_45) rfl k) ?_
                show own_Go X0 (Q13 Z r0 p2 kA x0 x1 x2 x3 h0 n0) 0 0 46 #[.val (.ref r0), .val (.int (3 : Int32)), .val (.int p2), .val (.int (own_one x1 (3 : Int32) p2 (1 : Int32))), .val (.int (2 : Int32)), .val (.long (own_low (3 : Int32) (2 : Int32))), .second, .val (.int (own_bey (3 : Int32) p2 (1 : Int32)))] [(.int (((p2.toInt64) - (own_low (3 : Int32) (2 : Int32))).toInt32))]
                exact J46_2 _ (by unfold own_bey; rw [if_pos c33_10])
              · skip
                refine own_st (fun _ k => XS.ifNo X0.here hx rfl (hb hby d13_33) rfl ((if0 _ _).trans (flt (fun q => c33_10 ((lw_lt _ _).mp q))).1) k) ?_
                show own_Go X0 (Q13 Z r0 p2 kA x0 x1 x2 x3 h0 n0) 0 0 36 #[.val (.ref r0), .val (.int (3 : Int32)), .val (.int p2), .val (.int (own_one x1 (3 : Int32) p2 (1 : Int32))), .val (.int (2 : Int32)), .val (.long (own_low (3 : Int32) (2 : Int32))), .second, .val (.int (own_bey (3 : Int32) p2 (1 : Int32)))] []
                refine own_st (fun _ k => XS.iconst X0.here hx rfl (hb hby d13_36) k) ?_
                show own_Go X0 (Q13 Z r0 p2 kA x0 x1 x2 x3 h0 n0) 0 0 37 #[.val (.ref r0), .val (.int (3 : Int32)), .val (.int p2), .val (.int (own_one x1 (3 : Int32) p2 (1 : Int32))), .val (.int (2 : Int32)), .val (.long (own_low (3 : Int32) (2 : Int32))), .second, .val (.int (own_bey (3 : Int32) p2 (1 : Int32)))] [(.int (0 : Int32))]
                refine own_st (fun _ k => XS.goto X0.here hx rfl (pc0 := 37) (pc' := 46) rfl (hb hby d13_37) (by decide) (by decide) k) ?_
                show own_Go X0 (Q13 Z r0 p2 kA x0 x1 x2 x3 h0 n0) 0 0 46 #[.val (.ref r0), .val (.int (3 : Int32)), .val (.int p2), .val (.int (own_one x1 (3 : Int32) p2 (1 : Int32))), .val (.int (2 : Int32)), .val (.long (own_low (3 : Int32) (2 : Int32))), .second, .val (.int (own_bey (3 : Int32) p2 (1 : Int32)))] [(.int (0 : Int32))]
                exact J46_2 _ (by unfold own_bey; rw [if_neg c33_10])
          refine own_st (fun _ k => XS.iload X0.here hx rfl (hb hby d13_48) rfl k) ?_
          show own_Go X0 (Q13 Z r0 p2 kA x0 x1 x2 x3 h0 n0) 0 0 50 #[.val (.ref r0), .val (.int (3 : Int32)), .val (.int p2), .val (.int (own_one x0 (3 : Int32) p2 (0 : Int32))), .val (.int (1 : Int32)), .val (.long (own_low (3 : Int32) (1 : Int32))), .second, .val (.int (own_bey (3 : Int32) p2 (1 : Int32)))] [(.int (own_bey (3 : Int32) p2 (1 : Int32)))]
          refine own_st (fun _ k => XS.bipush X0.here hx rfl (hb hby d13_50) k) ?_
          show own_Go X0 (Q13 Z r0 p2 kA x0 x1 x2 x3 h0 n0) 0 0 52 #[.val (.ref r0), .val (.int (3 : Int32)), .val (.int p2), .val (.int (own_one x0 (3 : Int32) p2 (0 : Int32))), .val (.int (1 : Int32)), .val (.long (own_low (3 : Int32) (1 : Int32))), .second, .val (.int (own_bey (3 : Int32) p2 (1 : Int32)))] [(.int (8 : Int32)), (.int (own_bey (3 : Int32) p2 (1 : Int32)))]
          by_cases c52_11 : (own_bey (3 : Int32) p2 (1 : Int32)) < (8 : Int32)
          · skip
            refine own_st (fun _ k => XS.icmpNo X0.here hx rfl (hb hby d13_52) rfl (tlt c52_11).2.1 k) ?_
            show own_Go X0 (Q13 Z r0 p2 kA x0 x1 x2 x3 h0 n0) 0 0 55 #[.val (.ref r0), .val (.int (3 : Int32)), .val (.int p2), .val (.int (own_one x0 (3 : Int32) p2 (0 : Int32))), .val (.int (1 : Int32)), .val (.long (own_low (3 : Int32) (1 : Int32))), .second, .val (.int (own_bey (3 : Int32) p2 (1 : Int32)))] []
            refine own_st (fun _ k => XS.aloadN X0.here hx rfl (hb hby d13_55) rfl rfl k) ?_
            show own_Go X0 (Q13 Z r0 p2 kA x0 x1 x2 x3 h0 n0) 0 0 56 #[.val (.ref r0), .val (.int (3 : Int32)), .val (.int p2), .val (.int (own_one x0 (3 : Int32) p2 (0 : Int32))), .val (.int (1 : Int32)), .val (.long (own_low (3 : Int32) (1 : Int32))), .second, .val (.int (own_bey (3 : Int32) p2 (1 : Int32)))] [(.ref r0)]
            refine own_st (fun _ k => XS.iload X0.here hx rfl (hb hby d13_56) rfl k) ?_
            show own_Go X0 (Q13 Z r0 p2 kA x0 x1 x2 x3 h0 n0) 0 0 58 #[.val (.ref r0), .val (.int (3 : Int32)), .val (.int p2), .val (.int (own_one x0 (3 : Int32) p2 (0 : Int32))), .val (.int (1 : Int32)), .val (.long (own_low (3 : Int32) (1 : Int32))), .second, .val (.int (own_bey (3 : Int32) p2 (1 : Int32)))] [(.int (1 : Int32)), (.ref r0)]
            refine own_st (fun _ k => own_ldB X0 hx hZ e0 PV (j := (1 : Int32)) ⟨by decide, by decide⟩ (v := (.int x1)) rfl (g := (mkF m 58 #[.val (.ref r0), .val (.int (3 : Int32)), .val (.int p2), .val (.int (own_one x0 (3 : Int32) p2 (0 : Int32))), .val (.int (1 : Int32)), .val (.long (own_low (3 : Int32) (1 : Int32))), .second, .val (.int (own_bey (3 : Int32) p2 (1 : Int32)))] [(.int (1 : Int32)), (.ref r0)])) rfl rfl (hb hby d13_58) _ k) ?_
            show own_Go X0 (Q13 Z r0 p2 kA x0 x1 x2 x3 h0 n0) 0 0 59 #[.val (.ref r0), .val (.int (3 : Int32)), .val (.int p2), .val (.int (own_one x0 (3 : Int32) p2 (0 : Int32))), .val (.int (1 : Int32)), .val (.long (own_low (3 : Int32) (1 : Int32))), .second, .val (.int (own_bey (3 : Int32) p2 (1 : Int32)))] [(.int x1)]
            refine own_st (fun _ k => XS.sipush X0.here hx rfl (hb hby d13_59) k) ?_
            show own_Go X0 (Q13 Z r0 p2 kA x0 x1 x2 x3 h0 n0) 0 0 62 #[.val (.ref r0), .val (.int (3 : Int32)), .val (.int p2), .val (.int (own_one x0 (3 : Int32) p2 (0 : Int32))), .val (.int (1 : Int32)), .val (.long (own_low (3 : Int32) (1 : Int32))), .second, .val (.int (own_bey (3 : Int32) p2 (1 : Int32)))] [(.int (255 : Int32)), (.int x1)]
            refine own_st (fun _ k => XS.iand X0.here hx rfl (hb hby d13_62) rfl k) ?_
            show own_Go X0 (Q13 Z r0 p2 kA x0 x1 x2 x3 h0 n0) 0 0 63 #[.val (.ref r0), .val (.int (3 : Int32)), .val (.int p2), .val (.int (own_one x0 (3 : Int32) p2 (0 : Int32))), .val (.int (1 : Int32)), .val (.long (own_low (3 : Int32) (1 : Int32))), .second, .val (.int (own_bey (3 : Int32) p2 (1 : Int32)))] [(.int (x1 &&& (255 : Int32)))]
            refine own_st (fun _ k => XS.iload X0.here hx rfl (hb hby d13_63) rfl k) ?_
            show own_Go X0 (Q13 Z r0 p2 kA x0 x1 x2 x3 h0 n0) 0 0 65 #[.val (.ref r0), .val (.int (3 : Int32)), .val (.int p2), .val (.int (own_one x0 (3 : Int32) p2 (0 : Int32))), .val (.int (1 : Int32)), .val (.long (own_low (3 : Int32) (1 : Int32))), .second, .val (.int (own_bey (3 : Int32) p2 (1 : Int32)))] [(.int (own_bey (3 : Int32) p2 (1 : Int32))), (.int (x1 &&& (255 : Int32)))]
            refine own_st (fun _ k => XS.ishr X0.here hx rfl (hb hby d13_65) rfl k) ?_
            show own_Go X0 (Q13 Z r0 p2 kA x0 x1 x2 x3 h0 n0) 0 0 66 #[.val (.ref r0), .val (.int (3 : Int32)), .val (.int p2), .val (.int (own_one x0 (3 : Int32) p2 (0 : Int32))), .val (.int (1 : Int32)), .val (.long (own_low (3 : Int32) (1 : Int32))), .second, .val (.int (own_bey (3 : Int32) p2 (1 : Int32)))] [(.int ((x1 &&& (255 : Int32)) >>> ((own_bey (3 : Int32) p2 (1 : Int32)) &&& 31)))]
            by_cases c66_12 : ((x1 &&& (255 : Int32)) >>> ((own_bey (3 : Int32) p2 (1 : Int32)) &&& 31)) = (0 : Int32)
            · skip
              refine own_st (fun _ k => XS.ifNo X0.here hx rfl (hb hby d13_66) rfl ((if0 _ _).trans (teq c66_12).2) k) ?_
              show own_Go X0 (Q13 Z r0 p2 kA x0 x1 x2 x3 h0 n0) 0 0 69 #[.val (.ref r0), .val (.int (3 : Int32)), .val (.int p2), .val (.int (own_one x0 (3 : Int32) p2 (0 : Int32))), .val (.int (1 : Int32)), .val (.long (own_low (3 : Int32) (1 : Int32))), .second, .val (.int (own_bey (3 : Int32) p2 (1 : Int32)))] []
              refine own_st (fun _ k => XS.iconst X0.here hx rfl (hb hby d13_69) k) ?_
              show own_Go X0 (Q13 Z r0 p2 kA x0 x1 x2 x3 h0 n0) 0 0 70 #[.val (.ref r0), .val (.int (3 : Int32)), .val (.int p2), .val (.int (own_one x0 (3 : Int32) p2 (0 : Int32))), .val (.int (1 : Int32)), .val (.long (own_low (3 : Int32) (1 : Int32))), .second, .val (.int (own_bey (3 : Int32) p2 (1 : Int32)))] [(.int (1 : Int32))]
              refine own_st (fun _ k => XS.goto X0.here hx rfl (pc0 := 70) (pc' := 74) rfl (hb hby d13_70) (by decide) (by decide) k) ?_
              show own_Go X0 (Q13 Z r0 p2 kA x0 x1 x2 x3 h0 n0) 0 0 74 #[.val (.ref r0), .val (.int (3 : Int32)), .val (.int p2), .val (.int (own_one x0 (3 : Int32) p2 (0 : Int32))), .val (.int (1 : Int32)), .val (.long (own_low (3 : Int32) (1 : Int32))), .second, .val (.int (own_bey (3 : Int32) p2 (1 : Int32)))] [(.int (1 : Int32))]
              exact J74_1 _ (by unfold own_one; rw [if_pos c52_11, if_pos c66_12])
            · skip
              refine own_st (fun _ k => XS.ifYes X0.here hx rfl (pc0 := 66) (pc' := 73) rfl (hb hby d13_66) rfl ((if0 _ _).trans (feq c66_12).2) (by decide) (by decide) k) ?_
              show own_Go X0 (Q13 Z r0 p2 kA x0 x1 x2 x3 h0 n0) 0 0 73 #[.val (.ref r0), .val (.int (3 : Int32)), .val (.int p2), .val (.int (own_one x0 (3 : Int32) p2 (0 : Int32))), .val (.int (1 : Int32)), .val (.long (own_low (3 : Int32) (1 : Int32))), .second, .val (.int (own_bey (3 : Int32) p2 (1 : Int32)))] []
              refine own_st (fun _ k => XS.iconst X0.here hx rfl (hb hby d13_73) k) ?_
              show own_Go X0 (Q13 Z r0 p2 kA x0 x1 x2 x3 h0 n0) 0 0 74 #[.val (.ref r0), .val (.int (3 : Int32)), .val (.int p2), .val (.int (own_one x0 (3 : Int32) p2 (0 : Int32))), .val (.int (1 : Int32)), .val (.long (own_low (3 : Int32) (1 : Int32))), .second, .val (.int (own_bey (3 : Int32) p2 (1 : Int32)))] [(.int (0 : Int32))]
              exact J74_1 _ (by unfold own_one; rw [if_pos c52_11, if_neg c66_12])
          · skip
            refine own_st (fun _ k => XS.icmpYes X0.here hx rfl (pc0 := 52) (pc' := 69) rfl (hb hby d13_52) rfl (flt c52_11).2.1 (by decide) (by decide) k) ?_
            show own_Go X0 (Q13 Z r0 p2 kA x0 x1 x2 x3 h0 n0) 0 0 69 #[.val (.ref r0), .val (.int (3 : Int32)), .val (.int p2), .val (.int (own_one x0 (3 : Int32) p2 (0 : Int32))), .val (.int (1 : Int32)), .val (.long (own_low (3 : Int32) (1 : Int32))), .second, .val (.int (own_bey (3 : Int32) p2 (1 : Int32)))] []
            refine own_st (fun _ k => XS.iconst X0.here hx rfl (hb hby d13_69) k) ?_
            show own_Go X0 (Q13 Z r0 p2 kA x0 x1 x2 x3 h0 n0) 0 0 70 #[.val (.ref r0), .val (.int (3 : Int32)), .val (.int p2), .val (.int (own_one x0 (3 : Int32) p2 (0 : Int32))), .val (.int (1 : Int32)), .val (.long (own_low (3 : Int32) (1 : Int32))), .second, .val (.int (own_bey (3 : Int32) p2 (1 : Int32)))] [(.int (1 : Int32))]
            refine own_st (fun _ k => XS.goto X0.here hx rfl (pc0 := 70) (pc' := 74) rfl (hb hby d13_70) (by decide) (by decide) k) ?_
            show own_Go X0 (Q13 Z r0 p2 kA x0 x1 x2 x3 h0 n0) 0 0 74 #[.val (.ref r0), .val (.int (3 : Int32)), .val (.int p2), .val (.int (own_one x0 (3 : Int32) p2 (0 : Int32))), .val (.int (1 : Int32)), .val (.long (own_low (3 : Int32) (1 : Int32))), .second, .val (.int (own_bey (3 : Int32) p2 (1 : Int32)))] [(.int (1 : Int32))]
            exact J74_1 _ (by unfold own_one; rw [if_neg c52_11])
        refine own_st (fun _ k => XS.lload X0.here hx rfl (hb hby d13_28) rfl k) ?_
        show own_Go X0 (Q13 Z r0 p2 kA x0 x1 x2 x3 h0 n0) 0 0 30 #[.val (.ref r0), .val (.int (3 : Int32)), .val (.int p2), .val (.int (own_one x0 (3 : Int32) p2 (0 : Int32))), .val (.int (1 : Int32)), .val (.long (own_low (3 : Int32) (1 : Int32))), .second, .val (.int (own_bey (3 : Int32) p2 (0 : Int32)))] [(.long (own_low (3 : Int32) (1 : Int32)))]
        refine own_st (fun _ k => XS.iloadN X0.here hx rfl (hb hby d13_30) rfl k) ?_
        show own_Go X0 (Q13 Z r0 p2 kA x0 x1 x2 x3 h0 n0) 0 0 31 #[.val (.ref r0), .val (.int (3 : Int32)), .val (.int p2), .val (.int (own_one x0 (3 : Int32) p2 (0 : Int32))), .val (.int (1 : Int32)), .val (.long (own_low (3 : Int32) (1 : Int32))), .second, .val (.int (own_bey (3 : Int32) p2 (0 : Int32)))] [(.int p2), (.long (own_low (3 : Int32) (1 : Int32)))]
        refine own_st (fun _ k => XS.i2l X0.here hx rfl (hb hby d13_31) rfl k) ?_
        show own_Go X0 (Q13 Z r0 p2 kA x0 x1 x2 x3 h0 n0) 0 0 32 #[.val (.ref r0), .val (.int (3 : Int32)), .val (.int p2), .val (.int (own_one x0 (3 : Int32) p2 (0 : Int32))), .val (.int (1 : Int32)), .val (.long (own_low (3 : Int32) (1 : Int32))), .second, .val (.int (own_bey (3 : Int32) p2 (0 : Int32)))] [(.long (p2.toInt64)), (.long (own_low (3 : Int32) (1 : Int32)))]
        refine own_st (fun _ k => XS.lcmp X0.here hx rfl (hb hby d13_32) rfl k) ?_
        show own_Go X0 (Q13 Z r0 p2 kA x0 x1 x2 x3 h0 n0) 0 0 33 #[.val (.ref r0), .val (.int (3 : Int32)), .val (.int p2), .val (.int (own_one x0 (3 : Int32) p2 (0 : Int32))), .val (.int (1 : Int32)), .val (.long (own_low (3 : Int32) (1 : Int32))), .second, .val (.int (own_bey (3 : Int32) p2 (0 : Int32)))] [(.int (lcmpW (own_low (3 : Int32) (1 : Int32)) (p2.toInt64)))]
        by_cases c33_13 : (own_low (3 : Int32) (1 : Int32)) < (p2.toInt64)
        · skip
          refine own_st (fun _ k => XS.ifYes X0.here hx rfl (pc0 := 33) (pc' := 40) rfl (hb hby d13_33) rfl ((if0 _ _).trans (tlt ((lw_lt _ _).mpr c33_13)).1) (by decide) (by decide) k) ?_
          show own_Go X0 (Q13 Z r0 p2 kA x0 x1 x2 x3 h0 n0) 0 0 40 #[.val (.ref r0), .val (.int (3 : Int32)), .val (.int p2), .val (.int (own_one x0 (3 : Int32) p2 (0 : Int32))), .val (.int (1 : Int32)), .val (.long (own_low (3 : Int32) (1 : Int32))), .second, .val (.int (own_bey (3 : Int32) p2 (0 : Int32)))] []
          refine own_st (fun _ k => XS.iloadN X0.here hx rfl (hb hby d13_40) rfl k) ?_
          show own_Go X0 (Q13 Z r0 p2 kA x0 x1 x2 x3 h0 n0) 0 0 41 #[.val (.ref r0), .val (.int (3 : Int32)), .val (.int p2), .val (.int (own_one x0 (3 : Int32) p2 (0 : Int32))), .val (.int (1 : Int32)), .val (.long (own_low (3 : Int32) (1 : Int32))), .second, .val (.int (own_bey (3 : Int32) p2 (0 : Int32)))] [(.int p2)]
          refine own_st (fun _ k => XS.i2l X0.here hx rfl (hb hby d13_41) rfl k) ?_
          show own_Go X0 (Q13 Z r0 p2 kA x0 x1 x2 x3 h0 n0) 0 0 42 #[.val (.ref r0), .val (.int (3 : Int32)), .val (.int p2), .val (.int (own_one x0 (3 : Int32) p2 (0 : Int32))), .val (.int (1 : Int32)), .val (.long (own_low (3 : Int32) (1 : Int32))), .second, .val (.int (own_bey (3 : Int32) p2 (0 : Int32)))] [(.long (p2.toInt64))]
          refine own_st (fun _ k => XS.lload X0.here hx rfl (hb hby d13_42) rfl k) ?_
          show own_Go X0 (Q13 Z r0 p2 kA x0 x1 x2 x3 h0 n0) 0 0 44 #[.val (.ref r0), .val (.int (3 : Int32)), .val (.int p2), .val (.int (own_one x0 (3 : Int32) p2 (0 : Int32))), .val (.int (1 : Int32)), .val (.long (own_low (3 : Int32) (1 : Int32))), .second, .val (.int (own_bey (3 : Int32) p2 (0 : Int32)))] [(.long (own_low (3 : Int32) (1 : Int32))), (.long (p2.toInt64))]
          refine own_st (fun _ k => XS.lsub X0.here hx rfl (hb hby d13_44) rfl k) ?_
          show own_Go X0 (Q13 Z r0 p2 kA x0 x1 x2 x3 h0 n0) 0 0 45 #[.val (.ref r0), .val (.int (3 : Int32)), .val (.int p2), .val (.int (own_one x0 (3 : Int32) p2 (0 : Int32))), .val (.int (1 : Int32)), .val (.long (own_low (3 : Int32) (1 : Int32))), .second, .val (.int (own_bey (3 : Int32) p2 (0 : Int32)))] [(.long ((p2.toInt64) - (own_low (3 : Int32) (1 : Int32))))]
          refine own_st (fun _ k => XS.l2i X0.here hx rfl (hb hby d13_45) rfl k) ?_
          show own_Go X0 (Q13 Z r0 p2 kA x0 x1 x2 x3 h0 n0) 0 0 46 #[.val (.ref r0), .val (.int (3 : Int32)), .val (.int p2), .val (.int (own_one x0 (3 : Int32) p2 (0 : Int32))), .val (.int (1 : Int32)), .val (.long (own_low (3 : Int32) (1 : Int32))), .second, .val (.int (own_bey (3 : Int32) p2 (0 : Int32)))] [(.int (((p2.toInt64) - (own_low (3 : Int32) (1 : Int32))).toInt32))]
          exact J46_1 _ (by unfold own_bey; rw [if_pos c33_13])
        · skip
          refine own_st (fun _ k => XS.ifNo X0.here hx rfl (hb hby d13_33) rfl ((if0 _ _).trans (flt (fun q => c33_13 ((lw_lt _ _).mp q))).1) k) ?_
          show own_Go X0 (Q13 Z r0 p2 kA x0 x1 x2 x3 h0 n0) 0 0 36 #[.val (.ref r0), .val (.int (3 : Int32)), .val (.int p2), .val (.int (own_one x0 (3 : Int32) p2 (0 : Int32))), .val (.int (1 : Int32)), .val (.long (own_low (3 : Int32) (1 : Int32))), .second, .val (.int (own_bey (3 : Int32) p2 (0 : Int32)))] []
          refine own_st (fun _ k => XS.iconst X0.here hx rfl (hb hby d13_36) k) ?_
          show own_Go X0 (Q13 Z r0 p2 kA x0 x1 x2 x3 h0 n0) 0 0 37 #[.val (.ref r0), .val (.int (3 : Int32)), .val (.int p2), .val (.int (own_one x0 (3 : Int32) p2 (0 : Int32))), .val (.int (1 : Int32)), .val (.long (own_low (3 : Int32) (1 : Int32))), .second, .val (.int (own_bey (3 : Int32) p2 (0 : Int32)))] [(.int (0 : Int32))]
          refine own_st (fun _ k => XS.goto X0.here hx rfl (pc0 := 37) (pc' := 46) rfl (hb hby d13_37) (by decide) (by decide) k) ?_
          show own_Go X0 (Q13 Z r0 p2 kA x0 x1 x2 x3 h0 n0) 0 0 46 #[.val (.ref r0), .val (.int (3 : Int32)), .val (.int p2), .val (.int (own_one x0 (3 : Int32) p2 (0 : Int32))), .val (.int (1 : Int32)), .val (.long (own_low (3 : Int32) (1 : Int32))), .second, .val (.int (own_bey (3 : Int32) p2 (0 : Int32)))] [(.int (0 : Int32))]
          exact J46_1 _ (by unfold own_bey; rw [if_neg c33_13])
    refine own_st (fun _ k => XS.iload X0.here hx rfl (hb hby d13_48) rfl k) ?_
    show own_Go X0 (Q13 Z r0 p2 kA x0 x1 x2 x3 h0 n0) 0 0 50 #[.val (.ref r0), .val (.int (3 : Int32)), .val (.int p2), .val (.int (1 : Int32)), .val (.int (0 : Int32)), .val (.long (own_low (3 : Int32) (0 : Int32))), .second, .val (.int (own_bey (3 : Int32) p2 (0 : Int32)))] [(.int (own_bey (3 : Int32) p2 (0 : Int32)))]
    refine own_st (fun _ k => XS.bipush X0.here hx rfl (hb hby d13_50) k) ?_
    show own_Go X0 (Q13 Z r0 p2 kA x0 x1 x2 x3 h0 n0) 0 0 52 #[.val (.ref r0), .val (.int (3 : Int32)), .val (.int p2), .val (.int (1 : Int32)), .val (.int (0 : Int32)), .val (.long (own_low (3 : Int32) (0 : Int32))), .second, .val (.int (own_bey (3 : Int32) p2 (0 : Int32)))] [(.int (8 : Int32)), (.int (own_bey (3 : Int32) p2 (0 : Int32)))]
    by_cases c52_14 : (own_bey (3 : Int32) p2 (0 : Int32)) < (8 : Int32)
    · skip
      refine own_st (fun _ k => XS.icmpNo X0.here hx rfl (hb hby d13_52) rfl (tlt c52_14).2.1 k) ?_
      show own_Go X0 (Q13 Z r0 p2 kA x0 x1 x2 x3 h0 n0) 0 0 55 #[.val (.ref r0), .val (.int (3 : Int32)), .val (.int p2), .val (.int (1 : Int32)), .val (.int (0 : Int32)), .val (.long (own_low (3 : Int32) (0 : Int32))), .second, .val (.int (own_bey (3 : Int32) p2 (0 : Int32)))] []
      refine own_st (fun _ k => XS.aloadN X0.here hx rfl (hb hby d13_55) rfl rfl k) ?_
      show own_Go X0 (Q13 Z r0 p2 kA x0 x1 x2 x3 h0 n0) 0 0 56 #[.val (.ref r0), .val (.int (3 : Int32)), .val (.int p2), .val (.int (1 : Int32)), .val (.int (0 : Int32)), .val (.long (own_low (3 : Int32) (0 : Int32))), .second, .val (.int (own_bey (3 : Int32) p2 (0 : Int32)))] [(.ref r0)]
      refine own_st (fun _ k => XS.iload X0.here hx rfl (hb hby d13_56) rfl k) ?_
      show own_Go X0 (Q13 Z r0 p2 kA x0 x1 x2 x3 h0 n0) 0 0 58 #[.val (.ref r0), .val (.int (3 : Int32)), .val (.int p2), .val (.int (1 : Int32)), .val (.int (0 : Int32)), .val (.long (own_low (3 : Int32) (0 : Int32))), .second, .val (.int (own_bey (3 : Int32) p2 (0 : Int32)))] [(.int (0 : Int32)), (.ref r0)]
      refine own_st (fun _ k => own_ldB X0 hx hZ e0 PV (j := (0 : Int32)) ⟨by decide, by decide⟩ (v := (.int x0)) rfl (g := (mkF m 58 #[.val (.ref r0), .val (.int (3 : Int32)), .val (.int p2), .val (.int (1 : Int32)), .val (.int (0 : Int32)), .val (.long (own_low (3 : Int32) (0 : Int32))), .second, .val (.int (own_bey (3 : Int32) p2 (0 : Int32)))] [(.int (0 : Int32)), (.ref r0)])) rfl rfl (hb hby d13_58) _ k) ?_
      show own_Go X0 (Q13 Z r0 p2 kA x0 x1 x2 x3 h0 n0) 0 0 59 #[.val (.ref r0), .val (.int (3 : Int32)), .val (.int p2), .val (.int (1 : Int32)), .val (.int (0 : Int32)), .val (.long (own_low (3 : Int32) (0 : Int32))), .second, .val (.int (own_bey (3 : Int32) p2 (0 : Int32)))] [(.int x0)]
      refine own_st (fun _ k => XS.sipush X0.here hx rfl (hb hby d13_59) k) ?_
      show own_Go X0 (Q13 Z r0 p2 kA x0 x1 x2 x3 h0 n0) 0 0 62 #[.val (.ref r0), .val (.int (3 : Int32)), .val (.int p2), .val (.int (1 : Int32)), .val (.int (0 : Int32)), .val (.long (own_low (3 : Int32) (0 : Int32))), .second, .val (.int (own_bey (3 : Int32) p2 (0 : Int32)))] [(.int (255 : Int32)), (.int x0)]
      refine own_st (fun _ k => XS.iand X0.here hx rfl (hb hby d13_62) rfl k) ?_
      show own_Go X0 (Q13 Z r0 p2 kA x0 x1 x2 x3 h0 n0) 0 0 63 #[.val (.ref r0), .val (.int (3 : Int32)), .val (.int p2), .val (.int (1 : Int32)), .val (.int (0 : Int32)), .val (.long (own_low (3 : Int32) (0 : Int32))), .second, .val (.int (own_bey (3 : Int32) p2 (0 : Int32)))] [(.int (x0 &&& (255 : Int32)))]
      refine own_st (fun _ k => XS.iload X0.here hx rfl (hb hby d13_63) rfl k) ?_
      show own_Go X0 (Q13 Z r0 p2 kA x0 x1 x2 x3 h0 n0) 0 0 65 #[.val (.ref r0), .val (.int (3 : Int32)), .val (.int p2), .val (.int (1 : Int32)), .val (.int (0 : Int32)), .val (.long (own_low (3 : Int32) (0 : Int32))), .second, .val (.int (own_bey (3 : Int32) p2 (0 : Int32)))] [(.int (own_bey (3 : Int32) p2 (0 : Int32))), (.int (x0 &&& (255 : Int32)))]
      refine own_st (fun _ k => XS.ishr X0.here hx rfl (hb hby d13_65) rfl k) ?_
      show own_Go X0 (Q13 Z r0 p2 kA x0 x1 x2 x3 h0 n0) 0 0 66 #[.val (.ref r0), .val (.int (3 : Int32)), .val (.int p2), .val (.int (1 : Int32)), .val (.int (0 : Int32)), .val (.long (own_low (3 : Int32) (0 : Int32))), .second, .val (.int (own_bey (3 : Int32) p2 (0 : Int32)))] [(.int ((x0 &&& (255 : Int32)) >>> ((own_bey (3 : Int32) p2 (0 : Int32)) &&& 31)))]
      by_cases c66_15 : ((x0 &&& (255 : Int32)) >>> ((own_bey (3 : Int32) p2 (0 : Int32)) &&& 31)) = (0 : Int32)
      · skip
        refine own_st (fun _ k => XS.ifNo X0.here hx rfl (hb hby d13_66) rfl ((if0 _ _).trans (teq c66_15).2) k) ?_
        show own_Go X0 (Q13 Z r0 p2 kA x0 x1 x2 x3 h0 n0) 0 0 69 #[.val (.ref r0), .val (.int (3 : Int32)), .val (.int p2), .val (.int (1 : Int32)), .val (.int (0 : Int32)), .val (.long (own_low (3 : Int32) (0 : Int32))), .second, .val (.int (own_bey (3 : Int32) p2 (0 : Int32)))] []
        refine own_st (fun _ k => XS.iconst X0.here hx rfl (hb hby d13_69) k) ?_
        show own_Go X0 (Q13 Z r0 p2 kA x0 x1 x2 x3 h0 n0) 0 0 70 #[.val (.ref r0), .val (.int (3 : Int32)), .val (.int p2), .val (.int (1 : Int32)), .val (.int (0 : Int32)), .val (.long (own_low (3 : Int32) (0 : Int32))), .second, .val (.int (own_bey (3 : Int32) p2 (0 : Int32)))] [(.int (1 : Int32))]
        refine own_st (fun _ k => XS.goto X0.here hx rfl (pc0 := 70) (pc' := 74) rfl (hb hby d13_70) (by decide) (by decide) k) ?_
        show own_Go X0 (Q13 Z r0 p2 kA x0 x1 x2 x3 h0 n0) 0 0 74 #[.val (.ref r0), .val (.int (3 : Int32)), .val (.int p2), .val (.int (1 : Int32)), .val (.int (0 : Int32)), .val (.long (own_low (3 : Int32) (0 : Int32))), .second, .val (.int (own_bey (3 : Int32) p2 (0 : Int32)))] [(.int (1 : Int32))]
        exact J74_0 _ (by unfold own_one; rw [if_pos c52_14, if_pos c66_15])
      · skip
        refine own_st (fun _ k => XS.ifYes X0.here hx rfl (pc0 := 66) (pc' := 73) rfl (hb hby d13_66) rfl ((if0 _ _).trans (feq c66_15).2) (by decide) (by decide) k) ?_
        show own_Go X0 (Q13 Z r0 p2 kA x0 x1 x2 x3 h0 n0) 0 0 73 #[.val (.ref r0), .val (.int (3 : Int32)), .val (.int p2), .val (.int (1 : Int32)), .val (.int (0 : Int32)), .val (.long (own_low (3 : Int32) (0 : Int32))), .second, .val (.int (own_bey (3 : Int32) p2 (0 : Int32)))] []
        refine own_st (fun _ k => XS.iconst X0.here hx rfl (hb hby d13_73) k) ?_
        show own_Go X0 (Q13 Z r0 p2 kA x0 x1 x2 x3 h0 n0) 0 0 74 #[.val (.ref r0), .val (.int (3 : Int32)), .val (.int p2), .val (.int (1 : Int32)), .val (.int (0 : Int32)), .val (.long (own_low (3 : Int32) (0 : Int32))), .second, .val (.int (own_bey (3 : Int32) p2 (0 : Int32)))] [(.int (0 : Int32))]
        exact J74_0 _ (by unfold own_one; rw [if_pos c52_14, if_neg c66_15])
    · skip
      refine own_st (fun _ k => XS.icmpYes X0.here hx rfl (pc0 := 52) (pc' := 69) rfl (hb hby d13_52) rfl (flt c52_14).2.1 (by decide) (by decide) k) ?_
      show own_Go X0 (Q13 Z r0 p2 kA x0 x1 x2 x3 h0 n0) 0 0 69 #[.val (.ref r0), .val (.int (3 : Int32)), .val (.int p2), .val (.int (1 : Int32)), .val (.int (0 : Int32)), .val (.long (own_low (3 : Int32) (0 : Int32))), .second, .val (.int (own_bey (3 : Int32) p2 (0 : Int32)))] []
      refine own_st (fun _ k => XS.iconst X0.here hx rfl (hb hby d13_69) k) ?_
      show own_Go X0 (Q13 Z r0 p2 kA x0 x1 x2 x3 h0 n0) 0 0 70 #[.val (.ref r0), .val (.int (3 : Int32)), .val (.int p2), .val (.int (1 : Int32)), .val (.int (0 : Int32)), .val (.long (own_low (3 : Int32) (0 : Int32))), .second, .val (.int (own_bey (3 : Int32) p2 (0 : Int32)))] [(.int (1 : Int32))]
      refine own_st (fun _ k => XS.goto X0.here hx rfl (pc0 := 70) (pc' := 74) rfl (hb hby d13_70) (by decide) (by decide) k) ?_
      show own_Go X0 (Q13 Z r0 p2 kA x0 x1 x2 x3 h0 n0) 0 0 74 #[.val (.ref r0), .val (.int (3 : Int32)), .val (.int p2), .val (.int (1 : Int32)), .val (.int (0 : Int32)), .val (.long (own_low (3 : Int32) (0 : Int32))), .second, .val (.int (own_bey (3 : Int32) p2 (0 : Int32)))] [(.int (1 : Int32))]
      exact J74_0 _ (by unfold own_one; rw [if_neg c52_14])
  refine own_st (fun _ k => XS.lload X0.here hx rfl (hb hby d13_28) rfl k) ?_
  show own_Go X0 (Q13 Z r0 p2 kA x0 x1 x2 x3 h0 n0) 0 0 30 #[.val (.ref r0), .val (.int (3 : Int32)), .val (.int p2), .val (.int (1 : Int32)), .val (.int (0 : Int32)), .val (.long (own_low (3 : Int32) (0 : Int32))), .second, .unset] [(.long (own_low (3 : Int32) (0 : Int32)))]
  refine own_st (fun _ k => XS.iloadN X0.here hx rfl (hb hby d13_30) rfl k) ?_
  show own_Go X0 (Q13 Z r0 p2 kA x0 x1 x2 x3 h0 n0) 0 0 31 #[.val (.ref r0), .val (.int (3 : Int32)), .val (.int p2), .val (.int (1 : Int32)), .val (.int (0 : Int32)), .val (.long (own_low (3 : Int32) (0 : Int32))), .second, .unset] [(.int p2), (.long (own_low (3 : Int32) (0 : Int32)))]
  refine own_st (fun _ k => XS.i2l X0.here hx rfl (hb hby d13_31) rfl k) ?_
  show own_Go X0 (Q13 Z r0 p2 kA x0 x1 x2 x3 h0 n0) 0 0 32 #[.val (.ref r0), .val (.int (3 : Int32)), .val (.int p2), .val (.int (1 : Int32)), .val (.int (0 : Int32)), .val (.long (own_low (3 : Int32) (0 : Int32))), .second, .unset] [(.long (p2.toInt64)), (.long (own_low (3 : Int32) (0 : Int32)))]
  refine own_st (fun _ k => XS.lcmp X0.here hx rfl (hb hby d13_32) rfl k) ?_
  show own_Go X0 (Q13 Z r0 p2 kA x0 x1 x2 x3 h0 n0) 0 0 33 #[.val (.ref r0), .val (.int (3 : Int32)), .val (.int p2), .val (.int (1 : Int32)), .val (.int (0 : Int32)), .val (.long (own_low (3 : Int32) (0 : Int32))), .second, .unset] [(.int (lcmpW (own_low (3 : Int32) (0 : Int32)) (p2.toInt64)))]
  by_cases c33_16 : (own_low (3 : Int32) (0 : Int32)) < (p2.toInt64)
  · skip
    refine own_st (fun _ k => XS.ifYes X0.here hx rfl (pc0 := 33) (pc' := 40) rfl (hb hby d13_33) rfl ((if0 _ _).trans (tlt ((lw_lt _ _).mpr c33_16)).1) (by decide) (by decide) k) ?_
    show own_Go X0 (Q13 Z r0 p2 kA x0 x1 x2 x3 h0 n0) 0 0 40 #[.val (.ref r0), .val (.int (3 : Int32)), .val (.int p2), .val (.int (1 : Int32)), .val (.int (0 : Int32)), .val (.long (own_low (3 : Int32) (0 : Int32))), .second, .unset] []
    refine own_st (fun _ k => XS.iloadN X0.here hx rfl (hb hby d13_40) rfl k) ?_
    show own_Go X0 (Q13 Z r0 p2 kA x0 x1 x2 x3 h0 n0) 0 0 41 #[.val (.ref r0), .val (.int (3 : Int32)), .val (.int p2), .val (.int (1 : Int32)), .val (.int (0 : Int32)), .val (.long (own_low (3 : Int32) (0 : Int32))), .second, .unset] [(.int p2)]
    refine own_st (fun _ k => XS.i2l X0.here hx rfl (hb hby d13_41) rfl k) ?_
    show own_Go X0 (Q13 Z r0 p2 kA x0 x1 x2 x3 h0 n0) 0 0 42 #[.val (.ref r0), .val (.int (3 : Int32)), .val (.int p2), .val (.int (1 : Int32)), .val (.int (0 : Int32)), .val (.long (own_low (3 : Int32) (0 : Int32))), .second, .unset] [(.long (p2.toInt64))]
    refine own_st (fun _ k => XS.lload X0.here hx rfl (hb hby d13_42) rfl k) ?_
    show own_Go X0 (Q13 Z r0 p2 kA x0 x1 x2 x3 h0 n0) 0 0 44 #[.val (.ref r0), .val (.int (3 : Int32)), .val (.int p2), .val (.int (1 : Int32)), .val (.int (0 : Int32)), .val (.long (own_low (3 : Int32) (0 : Int32))), .second, .unset] [(.long (own_low (3 : Int32) (0 : Int32))), (.long (p2.toInt64))]
    refine own_st (fun _ k => XS.lsub X0.here hx rfl (hb hby d13_44) rfl k) ?_
    show own_Go X0 (Q13 Z r0 p2 kA x0 x1 x2 x3 h0 n0) 0 0 45 #[.val (.ref r0), .val (.int (3 : Int32)), .val (.int p2), .val (.int (1 : Int32)), .val (.int (0 : Int32)), .val (.long (own_low (3 : Int32) (0 : Int32))), .second, .unset] [(.long ((p2.toInt64) - (own_low (3 : Int32) (0 : Int32))))]
    refine own_st (fun _ k => XS.l2i X0.here hx rfl (hb hby d13_45) rfl k) ?_
    show own_Go X0 (Q13 Z r0 p2 kA x0 x1 x2 x3 h0 n0) 0 0 46 #[.val (.ref r0), .val (.int (3 : Int32)), .val (.int p2), .val (.int (1 : Int32)), .val (.int (0 : Int32)), .val (.long (own_low (3 : Int32) (0 : Int32))), .second, .unset] [(.int (((p2.toInt64) - (own_low (3 : Int32) (0 : Int32))).toInt32))]
    exact J46_0 _ (by unfold own_bey; rw [if_pos c33_16])
  · skip
    refine own_st (fun _ k => XS.ifNo X0.here hx rfl (hb hby d13_33) rfl ((if0 _ _).trans (flt (fun q => c33_16 ((lw_lt _ _).mp q))).1) k) ?_
    show own_Go X0 (Q13 Z r0 p2 kA x0 x1 x2 x3 h0 n0) 0 0 36 #[.val (.ref r0), .val (.int (3 : Int32)), .val (.int p2), .val (.int (1 : Int32)), .val (.int (0 : Int32)), .val (.long (own_low (3 : Int32) (0 : Int32))), .second, .unset] []
    refine own_st (fun _ k => XS.iconst X0.here hx rfl (hb hby d13_36) k) ?_
    show own_Go X0 (Q13 Z r0 p2 kA x0 x1 x2 x3 h0 n0) 0 0 37 #[.val (.ref r0), .val (.int (3 : Int32)), .val (.int p2), .val (.int (1 : Int32)), .val (.int (0 : Int32)), .val (.long (own_low (3 : Int32) (0 : Int32))), .second, .unset] [(.int (0 : Int32))]
    refine own_st (fun _ k => XS.goto X0.here hx rfl (pc0 := 37) (pc' := 46) rfl (hb hby d13_37) (by decide) (by decide) k) ?_
    show own_Go X0 (Q13 Z r0 p2 kA x0 x1 x2 x3 h0 n0) 0 0 46 #[.val (.ref r0), .val (.int (3 : Int32)), .val (.int p2), .val (.int (1 : Int32)), .val (.int (0 : Int32)), .val (.long (own_low (3 : Int32) (0 : Int32))), .second, .unset] [(.int (0 : Int32))]
    exact J46_0 _ (by unfold own_bey; rw [if_neg c33_16])
theorem d14_0 : decode prog_64_method_12_code 0 = .ok (.iconst 1, 1) := by decide +kernel
theorem d14_1 : decode prog_64_method_12_code 1 = .ok (.istore_n 3, 1) := by decide +kernel
theorem d14_2 : decode prog_64_method_12_code 2 = .ok (.iconst 0, 1) := by decide +kernel
theorem d14_3 : decode prog_64_method_12_code 3 = .ok (.istore 4, 2) := by decide +kernel
theorem d14_5 : decode prog_64_method_12_code 5 = .ok (.iload 4, 2) := by decide +kernel
theorem d14_7 : decode prog_64_method_12_code 7 = .ok (.iload_n 1, 1) := by decide +kernel
theorem d14_8 : decode prog_64_method_12_code 8 = .ok (.if_icmp .ge 73, 3) := by decide +kernel
theorem d14_11 : decode prog_64_method_12_code 11 = .ok (.iload_n 3, 1) := by decide +kernel
theorem d14_12 : decode prog_64_method_12_code 12 = .ok (.ifCond .eq 69, 3) := by decide +kernel
theorem d14_15 : decode prog_64_method_12_code 15 = .ok (.ldc2_w 112, 3) := by decide +kernel
theorem d14_18 : decode prog_64_method_12_code 18 = .ok (.iload_n 1, 1) := by decide +kernel
theorem d14_19 : decode prog_64_method_12_code 19 = .ok (.iconst 1, 1) := by decide +kernel
theorem d14_20 : decode prog_64_method_12_code 20 = .ok (.isub, 1) := by decide +kernel
theorem d14_21 : decode prog_64_method_12_code 21 = .ok (.iload 4, 2) := by decide +kernel
theorem d14_23 : decode prog_64_method_12_code 23 = .ok (.isub, 1) := by decide +kernel
theorem d14_24 : decode prog_64_method_12_code 24 = .ok (.i2l, 1) := by decide +kernel
theorem d14_25 : decode prog_64_method_12_code 25 = .ok (.lmul, 1) := by decide +kernel
theorem d14_26 : decode prog_64_method_12_code 26 = .ok (.lstore 5, 2) := by decide +kernel
theorem d14_28 : decode prog_64_method_12_code 28 = .ok (.lload 5, 2) := by decide +kernel
theorem d14_30 : decode prog_64_method_12_code 30 = .ok (.iload_n 2, 1) := by decide +kernel
theorem d14_31 : decode prog_64_method_12_code 31 = .ok (.i2l, 1) := by decide +kernel
theorem d14_32 : decode prog_64_method_12_code 32 = .ok (.lcmp, 1) := by decide +kernel
theorem d14_33 : decode prog_64_method_12_code 33 = .ok (.ifCond .lt 7, 3) := by decide +kernel
theorem d14_36 : decode prog_64_method_12_code 36 = .ok (.iconst 0, 1) := by decide +kernel
theorem d14_37 : decode prog_64_method_12_code 37 = .ok (.goto 9, 3) := by decide +kernel
theorem d14_40 : decode prog_64_method_12_code 40 = .ok (.iload_n 2, 1) := by decide +kernel
theorem d14_41 : decode prog_64_method_12_code 41 = .ok (.i2l, 1) := by decide +kernel
theorem d14_42 : decode prog_64_method_12_code 42 = .ok (.lload 5, 2) := by decide +kernel
theorem d14_44 : decode prog_64_method_12_code 44 = .ok (.lsub, 1) := by decide +kernel
theorem d14_45 : decode prog_64_method_12_code 45 = .ok (.l2i, 1) := by decide +kernel
theorem d14_46 : decode prog_64_method_12_code 46 = .ok (.istore 7, 2) := by decide +kernel
theorem d14_48 : decode prog_64_method_12_code 48 = .ok (.iload 7, 2) := by decide +kernel
theorem d14_50 : decode prog_64_method_12_code 50 = .ok (.bipush 8, 2) := by decide +kernel
theorem d14_52 : decode prog_64_method_12_code 52 = .ok (.if_icmp .ge 17, 3) := by decide +kernel
theorem d14_55 : decode prog_64_method_12_code 55 = .ok (.aload_n 0, 1) := by decide +kernel
theorem d14_56 : decode prog_64_method_12_code 56 = .ok (.iload 4, 2) := by decide +kernel
theorem d14_58 : decode prog_64_method_12_code 58 = .ok (.baload, 1) := by decide +kernel
theorem d14_59 : decode prog_64_method_12_code 59 = .ok (.sipush 255, 3) := by decide +kernel
theorem d14_62 : decode prog_64_method_12_code 62 = .ok (.iand, 1) := by decide +kernel
theorem d14_63 : decode prog_64_method_12_code 63 = .ok (.iload 7, 2) := by decide +kernel
theorem d14_65 : decode prog_64_method_12_code 65 = .ok (.ishr, 1) := by decide +kernel
theorem d14_66 : decode prog_64_method_12_code 66 = .ok (.ifCond .ne 7, 3) := by decide +kernel
theorem d14_69 : decode prog_64_method_12_code 69 = .ok (.iconst 1, 1) := by decide +kernel
theorem d14_70 : decode prog_64_method_12_code 70 = .ok (.goto 4, 3) := by decide +kernel
theorem d14_73 : decode prog_64_method_12_code 73 = .ok (.iconst 0, 1) := by decide +kernel
theorem d14_74 : decode prog_64_method_12_code 74 = .ok (.istore_n 3, 1) := by decide +kernel
theorem d14_75 : decode prog_64_method_12_code 75 = .ok (.iinc 4 1, 3) := by decide +kernel
theorem d14_78 : decode prog_64_method_12_code 78 = .ok (.goto (-73), 3) := by decide +kernel
theorem d14_81 : decode prog_64_method_12_code 81 = .ok (.iload_n 3, 1) := by decide +kernel
theorem d14_82 : decode prog_64_method_12_code 82 = .ok (.ireturn, 1) := by decide +kernel
theorem pn_14 : plainName "com/example/wide_berth/wideberth/postgres/Literals" = true := by first | (simp [plainName, overriddenIn]; done) | decide +kernel
theorem ef_14 (m : MethodId) (r0 : Addr) (p2 : Int32) : entryFrame m #[(.ref r0), (.int (4 : Int32)), (.int p2)] 8 = mkF m 0 #[.val (.ref r0), .val (.int (4 : Int32)), .val (.int p2), .unset, .unset, .unset, .unset, .unset] [] := by first | (simp [entryFrame, mkF, argsToLocals, Value.category]; done) | rfl
def Q14 (Z : State) (r0 : Addr) (p2 : Int32) (kA : ClassId) (x0 x1 x2 x3 : Int32) (h0 : Heap) (n0 : Nat) (v : Option Value) (h : Heap) (L : List Loc) : Prop := v = some (.int (own_fb4 x0 x1 x2 x3 p2)) ∧ Fr n0 L ∧ h = h0
set_option maxRecDepth 65536 in
set_option maxHeartbeats 40000000 in
theorem rm14 (l : Launch) (Z : State) (a0 : Array Value) (hw : ∀ d ∈ tables_1, d.before a0 Z = true) (ws : List Jvm.Cond) (r0 : Addr) (p2 : Int32) (kA : ClassId) (x0 x1 x2 x3 : Int32) (h0 : Heap) (n0 : Nat) (Z0 : n0 ≤ h0.size) (PV : Arv Z h0 r0 kA .byte (4 : Int32) [(.int x0), (.int x1), (.int x2), (.int x3)] (.int (0 : Int32))) :
    MetFree l (⟨"com/example/wide_berth/wideberth/postgres/Literals", "fitsBits", "([BII)Z"⟩ : MethodName) (head1 (Jvm.Cond.code (⟨"com/example/wide_berth/wideberth/postgres/Literals", "fitsBits", "([BII)Z"⟩ : MethodName) prog_64_method_12_code 8 (some .boolean) :: ws) ({ frames := 0, cells := 0, slots := 0, locals := 0 } : Room)) (fun a U => a = #[(.ref r0), (.int (4 : Int32)), (.int p2)] ∧ Z.Warmed39 U.vm ∧ U.heap = h0) (fun _ _ _ _ _ => True) (fun _ U o U' => ∃ v L, o = .returned v ∧ Q14 Z r0 p2 kA x0 x1 x2 x3 h0 n0 v U'.heap L ∧ FrameEnd U o U' L ({ frames := 0, cells := 0, slots := 0, locals := 0 } : Room).cells ({ frames := 0, cells := 0, slots := 0, locals := 0 } : Room).slots) := by
  refine MetFree.of_bodySF (plainFor_of_name pn_14) hisR ?_
  intro p e s m args below meth c s₁ Bd hml0 hP hK
  obtain ⟨rfl, hZ, hh⟩ := hP
  have hx := Bd.exec
  have hby := Bd.bytes
  have hml : c.maxLocals = 8 := hml0
  have hown : s.vm.findClass "com/example/wide_berth/wideberth/postgres/Literals" = some m.cls := findClass_of_methodNamed Bd.named
  have hnm := (name_of_methodNamed Bd.named Bd.method).1
  have hlk : meth.locks = false := Bd.notSynchronized
  have X0 : Stand p l e ({ frames := 0, cells := 0, slots := 0, locals := 0 } : Room) s m #[(.ref r0), (.int (4 : Int32)), (.int p2)] below meth c s₁ [] 0 0 := Stand.of_body Bd
  have e0 : s₁.heap = h0 := by rw [← hh, Bd.state]; rfl
  have N0 := Fr.nil n0
  refine own_cast (Q := Q14 Z r0 p2 kA x0 x1 x2 x3 h0 n0) (kc := 0) (ks := 0) (ef_14 m r0 p2) ?_
  refine own_st (fun _ k => XS.iconst X0.here hx rfl (hb hby d14_0) k) ?_
  show own_Go X0 (Q14 Z r0 p2 kA x0 x1 x2 x3 h0 n0) 0 0 1 #[.val (.ref r0), .val (.int (4 : Int32)), .val (.int p2), .unset, .unset, .unset, .unset, .unset] [(.int (1 : Int32))]
  refine own_st (fun _ k => XS.istoreN X0.here hx rfl (hb hby d14_1) rfl (l' := #[.val (.ref r0), .val (.int (4 : Int32)), .val (.int p2), .val (.int (1 : Int32)), .unset, .unset, .unset, .unset]) rfl k) ?_
  show own_Go X0 (Q14 Z r0 p2 kA x0 x1 x2 x3 h0 n0) 0 0 2 #[.val (.ref r0), .val (.int (4 : Int32)), .val (.int p2), .val (.int (1 : Int32)), .unset, .unset, .unset, .unset] []
  refine own_st (fun _ k => XS.iconst X0.here hx rfl (hb hby d14_2) k) ?_
  show own_Go X0 (Q14 Z r0 p2 kA x0 x1 x2 x3 h0 n0) 0 0 3 #[.val (.ref r0), .val (.int (4 : Int32)), .val (.int p2), .val (.int (1 : Int32)), .unset, .unset, .unset, .unset] [(.int (0 : Int32))]
  refine own_st (fun _ k => XS.istore X0.here hx rfl (hb hby d14_3) rfl (l' := #[.val (.ref r0), .val (.int (4 : Int32)), .val (.int p2), .val (.int (1 : Int32)), .val (.int (0 : Int32)), .unset, .unset, .unset]) rfl k) ?_
  show own_Go X0 (Q14 Z r0 p2 kA x0 x1 x2 x3 h0 n0) 0 0 5 #[.val (.ref r0), .val (.int (4 : Int32)), .val (.int p2), .val (.int (1 : Int32)), .val (.int (0 : Int32)), .unset, .unset, .unset] []
  refine own_st (fun _ k => XS.iload X0.here hx rfl (hb hby d14_5) rfl k) ?_
  show own_Go X0 (Q14 Z r0 p2 kA x0 x1 x2 x3 h0 n0) 0 0 7 #[.val (.ref r0), .val (.int (4 : Int32)), .val (.int p2), .val (.int (1 : Int32)), .val (.int (0 : Int32)), .unset, .unset, .unset] [(.int (0 : Int32))]
  refine own_st (fun _ k => XS.iloadN X0.here hx rfl (hb hby d14_7) rfl k) ?_
  show own_Go X0 (Q14 Z r0 p2 kA x0 x1 x2 x3 h0 n0) 0 0 8 #[.val (.ref r0), .val (.int (4 : Int32)), .val (.int p2), .val (.int (1 : Int32)), .val (.int (0 : Int32)), .unset, .unset, .unset] [(.int (4 : Int32)), (.int (0 : Int32))]
  have c8_1 : (0 : Int32) < (4 : Int32) := (by decide)
  refine own_st (fun _ k => XS.icmpNo X0.here hx rfl (hb hby d14_8) rfl (tlt c8_1).2.1 k) ?_
  show own_Go X0 (Q14 Z r0 p2 kA x0 x1 x2 x3 h0 n0) 0 0 11 #[.val (.ref r0), .val (.int (4 : Int32)), .val (.int p2), .val (.int (1 : Int32)), .val (.int (0 : Int32)), .unset, .unset, .unset] []
  refine own_st (fun _ k => XS.iloadN X0.here hx rfl (hb hby d14_11) rfl k) ?_
  show own_Go X0 (Q14 Z r0 p2 kA x0 x1 x2 x3 h0 n0) 0 0 12 #[.val (.ref r0), .val (.int (4 : Int32)), .val (.int p2), .val (.int (1 : Int32)), .val (.int (0 : Int32)), .unset, .unset, .unset] [(.int (1 : Int32))]
  have c12_2 : ¬ ((1 : Int32) = (0 : Int32)) := (by decide)
  refine own_st (fun _ k => XS.ifNo X0.here hx rfl (hb hby d14_12) rfl ((if0 _ _).trans (feq c12_2).1) k) ?_
  show own_Go X0 (Q14 Z r0 p2 kA x0 x1 x2 x3 h0 n0) 0 0 15 #[.val (.ref r0), .val (.int (4 : Int32)), .val (.int p2), .val (.int (1 : Int32)), .val (.int (0 : Int32)), .unset, .unset, .unset] []
  refine own_st (fun t k => X0.ldc2Long hx hown (mvT hZ (hw _ (List.mem_of_getElem? (i := 5) rfl))) (g := (mkF m 15 #[.val (.ref r0), .val (.int (4 : Int32)), .val (.int p2), .val (.int (1 : Int32)), .val (.int (0 : Int32)), .unset, .unset, .unset] [])) rfl (hb hby d14_15) t k) ?_
  show own_Go X0 (Q14 Z r0 p2 kA x0 x1 x2 x3 h0 n0) 0 0 18 #[.val (.ref r0), .val (.int (4 : Int32)), .val (.int p2), .val (.int (1 : Int32)), .val (.int (0 : Int32)), .unset, .unset, .unset] [(.long (8 : Int64))]
  refine own_st (fun _ k => XS.iloadN X0.here hx rfl (hb hby d14_18) rfl k) ?_
  show own_Go X0 (Q14 Z r0 p2 kA x0 x1 x2 x3 h0 n0) 0 0 19 #[.val (.ref r0), .val (.int (4 : Int32)), .val (.int p2), .val (.int (1 : Int32)), .val (.int (0 : Int32)), .unset, .unset, .unset] [(.int (4 : Int32)), (.long (8 : Int64))]
  refine own_st (fun _ k => XS.iconst X0.here hx rfl (hb hby d14_19) k) ?_
  show own_Go X0 (Q14 Z r0 p2 kA x0 x1 x2 x3 h0 n0) 0 0 20 #[.val (.ref r0), .val (.int (4 : Int32)), .val (.int p2), .val (.int (1 : Int32)), .val (.int (0 : Int32)), .unset, .unset, .unset] [(.int (1 : Int32)), (.int (4 : Int32)), (.long (8 : Int64))]
  refine own_st (fun _ k => XS.isub X0.here hx rfl (hb hby d14_20) rfl k) ?_
  show own_Go X0 (Q14 Z r0 p2 kA x0 x1 x2 x3 h0 n0) 0 0 21 #[.val (.ref r0), .val (.int (4 : Int32)), .val (.int p2), .val (.int (1 : Int32)), .val (.int (0 : Int32)), .unset, .unset, .unset] [(.int (3 : Int32)), (.long (8 : Int64))]
  refine own_st (fun _ k => XS.iload X0.here hx rfl (hb hby d14_21) rfl k) ?_
  show own_Go X0 (Q14 Z r0 p2 kA x0 x1 x2 x3 h0 n0) 0 0 23 #[.val (.ref r0), .val (.int (4 : Int32)), .val (.int p2), .val (.int (1 : Int32)), .val (.int (0 : Int32)), .unset, .unset, .unset] [(.int (0 : Int32)), (.int (3 : Int32)), (.long (8 : Int64))]
  refine own_st (fun _ k => XS.isub X0.here hx rfl (hb hby d14_23) rfl k) ?_
  show own_Go X0 (Q14 Z r0 p2 kA x0 x1 x2 x3 h0 n0) 0 0 24 #[.val (.ref r0), .val (.int (4 : Int32)), .val (.int p2), .val (.int (1 : Int32)), .val (.int (0 : Int32)), .unset, .unset, .unset] [(.int (3 : Int32)), (.long (8 : Int64))]
  refine own_st (fun _ k => XS.i2l X0.here hx rfl (hb hby d14_24) rfl k) ?_
  show own_Go X0 (Q14 Z r0 p2 kA x0 x1 x2 x3 h0 n0) 0 0 25 #[.val (.ref r0), .val (.int (4 : Int32)), .val (.int p2), .val (.int (1 : Int32)), .val (.int (0 : Int32)), .unset, .unset, .unset] [(.long ((3 : Int32).toInt64)), (.long (8 : Int64))]
  refine own_st (fun _ k => XS.lmul X0.here hx rfl (hb hby d14_25) rfl k) ?_
  show own_Go X0 (Q14 Z r0 p2 kA x0 x1 x2 x3 h0 n0) 0 0 26 #[.val (.ref r0), .val (.int (4 : Int32)), .val (.int p2), .val (.int (1 : Int32)), .val (.int (0 : Int32)), .unset, .unset, .unset] [(.long ((8 : Int64) * ((3 : Int32).toInt64)))]
  refine own_st (fun _ k => XS.lstore X0.here hx rfl (hb hby d14_26) rfl (l' := #[.val (.ref r0), .val (.int (4 : Int32)), .val (.int p2), .val (.int (1 : Int32)), .val (.int (0 : Int32)), .val (.long ((8 : Int64) * ((3 : Int32).toInt64))), .second, .unset]) rfl k) ?_
  show own_Go X0 (Q14 Z r0 p2 kA x0 x1 x2 x3 h0 n0) 0 0 28 #[.val (.ref r0), .val (.int (4 : Int32)), .val (.int p2), .val (.int (1 : Int32)), .val (.int (0 : Int32)), .val (.long ((8 : Int64) * ((3 : Int32).toInt64))), .second, .unset] []
  show own_Go X0 (Q14 Z r0 p2 kA x0 x1 x2 x3 h0 n0) 0 0 28 #[.val (.ref r0), .val (.int (4 : Int32)), .val (.int p2), .val (.int (1 : Int32)), .val (.int (0 : Int32)), .val (.long (own_low (4 : Int32) (0 : Int32))), .second, .unset] []
  have J46_0 : ∀ (bb : Int32) (hbb : bb = (own_bey (4 : Int32) p2 (0 : Int32))), own_Go X0 (Q14 Z r0 p2 kA x0 x1 x2 x3 h0 n0) 0 0 46 #[.val (.ref r0), .val (.int (4 : Int32)), .val (.int p2), .val (.int (1 : Int32)), .val (.int (0 : Int32)), .val (.long (own_low (4 : Int32) (0 : Int32))), .second, .unset] [(.int bb)] := by
    intro bb hbb
    subst hbb
    show own_Go X0 (Q14 Z r0 p2 kA x0 x1 x2 x3 h0 n0) 0 0 46 #[.val (.ref r0), .val (.int (4 : Int32)), .val (.int p2), .val (.int (1 : Int32)), .val (.int (0 : Int32)), .val (.long (own_low (4 : Int32) (0 : Int32))), .second, .unset] [(.int (own_bey (4 : Int32) p2 (0 : Int32)))]
    refine own_st (fun _ k => XS.istore X0.here hx rfl (hb hby d14_46) rfl (l' := #[.val (.ref r0), .val (.int (4 : Int32)), .val (.int p2), .val (.int (1 : Int32)), .val (.int (0 : Int32)), .val (.long (own_low (4 : Int32) (0 : Int32))), .second, .val (.int (own_bey (4 : Int32) p2 (0 : Int32)))]) rfl k) ?_
    show own_Go X0 (Q14 Z r0 p2 kA x0 x1 x2 x3 h0 n0) 0 0 48 #[.val (.ref r0), .val (.int (4 : Int32)), .val (.int p2), .val (.int (1 : Int32)), .val (.int (0 : Int32)), .val (.long (own_low (4 : Int32) (0 : Int32))), .second, .val (.int (own_bey (4 : Int32) p2 (0 : Int32)))] []
    have J74_0 : ∀ (ff : Int32) (hff : ff = (own_one x0 (4 : Int32) p2 (0 : Int32))), own_Go X0 (Q14 Z r0 p2 kA x0 x1 x2 x3 h0 n0) 0 0 74 #[.val (.ref r0), .val (.int (4 : Int32)), .val (.int p2), .val (.int (1 : Int32)), .val (.int (0 : Int32)), .val (.long (own_low (4 : Int32) (0 : Int32))), .second, .val (.int (own_bey (4 : Int32) p2 (0 : Int32)))] [(.int ff)] := by
      intro ff hff
      subst hff
      show own_Go X0 (Q14 Z r0 p2 kA x0 x1 x2 x3 h0 n0) 0 0 74 #[.val (.ref r0), .val (.int (4 : Int32)), .val (.int p2), .val (.int (1 : Int32)), .val (.int (0 : Int32)), .val (.long (own_low (4 : Int32) (0 : Int32))), .second, .val (.int (own_bey (4 : Int32) p2 (0 : Int32)))] [(.int (own_one x0 (4 : Int32) p2 (0 : Int32)))]
      refine own_st (fun _ k => XS.istoreN X0.here hx rfl (hb hby d14_74) rfl (l' := #[.val (.ref r0), .val (.int (4 : Int32)), .val (.int p2), .val (.int (own_one x0 (4 : Int32) p2 (0 : Int32))), .val (.int (0 : Int32)), .val (.long (own_low (4 : Int32) (0 : Int32))), .second, .val (.int (own_bey (4 : Int32) p2 (0 : Int32)))]) rfl k) ?_
      show own_Go X0 (Q14 Z r0 p2 kA x0 x1 x2 x3 h0 n0) 0 0 75 #[.val (.ref r0), .val (.int (4 : Int32)), .val (.int p2), .val (.int (own_one x0 (4 : Int32) p2 (0 : Int32))), .val (.int (0 : Int32)), .val (.long (own_low (4 : Int32) (0 : Int32))), .second, .val (.int (own_bey (4 : Int32) p2 (0 : Int32)))] []
      refine own_st (fun _ k => XS.iinc X0.here hx rfl (hb hby d14_75) rfl (l' := #[.val (.ref r0), .val (.int (4 : Int32)), .val (.int p2), .val (.int (own_one x0 (4 : Int32) p2 (0 : Int32))), .val (.int (1 : Int32)), .val (.long (own_low (4 : Int32) (0 : Int32))), .second, .val (.int (own_bey (4 : Int32) p2 (0 : Int32)))]) rfl k) ?_
      show own_Go X0 (Q14 Z r0 p2 kA x0 x1 x2 x3 h0 n0) 0 0 78 #[.val (.ref r0), .val (.int (4 : Int32)), .val (.int p2), .val (.int (own_one x0 (4 : Int32) p2 (0 : Int32))), .val (.int (1 : Int32)), .val (.long (own_low (4 : Int32) (0 : Int32))), .second, .val (.int (own_bey (4 : Int32) p2 (0 : Int32)))] []
      refine own_st (fun _ k => XS.goto X0.here hx rfl (pc0 := 78) (pc' := 5) rfl (hb hby d14_78) (by decide) (by decide) k) ?_
      show own_Go X0 (Q14 Z r0 p2 kA x0 x1 x2 x3 h0 n0) 0 0 5 #[.val (.ref r0), .val (.int (4 : Int32)), .val (.int p2), .val (.int (own_one x0 (4 : Int32) p2 (0 : Int32))), .val (.int (1 : Int32)), .val (.long (own_low (4 : Int32) (0 : Int32))), .second, .val (.int (own_bey (4 : Int32) p2 (0 : Int32)))] []
      refine own_st (fun _ k => XS.iload X0.here hx rfl (hb hby d14_5) rfl k) ?_
      show own_Go X0 (Q14 Z r0 p2 kA x0 x1 x2 x3 h0 n0) 0 0 7 #[.val (.ref r0), .val (.int (4 : Int32)), .val (.int p2), .val (.int (own_one x0 (4 : Int32) p2 (0 : Int32))), .val (.int (1 : Int32)), .val (.long (own_low (4 : Int32) (0 : Int32))), .second, .val (.int (own_bey (4 : Int32) p2 (0 : Int32)))] [(.int (1 : Int32))]
      refine own_st (fun _ k => XS.iloadN X0.here hx rfl (hb hby d14_7) rfl k) ?_
      show own_Go X0 (Q14 Z r0 p2 kA x0 x1 x2 x3 h0 n0) 0 0 8 #[.val (.ref r0), .val (.int (4 : Int32)), .val (.int p2), .val (.int (own_one x0 (4 : Int32) p2 (0 : Int32))), .val (.int (1 : Int32)), .val (.long (own_low (4 : Int32) (0 : Int32))), .second, .val (.int (own_bey (4 : Int32) p2 (0 : Int32)))] [(.int (4 : Int32)), (.int (1 : Int32))]
      have c8_3 : (1 : Int32) < (4 : Int32) := (by decide)
      refine own_st (fun _ k => XS.icmpNo X0.here hx rfl (hb hby d14_8) rfl (tlt c8_3).2.1 k) ?_
      show own_Go X0 (Q14 Z r0 p2 kA x0 x1 x2 x3 h0 n0) 0 0 11 #[.val (.ref r0), .val (.int (4 : Int32)), .val (.int p2), .val (.int (own_one x0 (4 : Int32) p2 (0 : Int32))), .val (.int (1 : Int32)), .val (.long (own_low (4 : Int32) (0 : Int32))), .second, .val (.int (own_bey (4 : Int32) p2 (0 : Int32)))] []
      refine own_st (fun _ k => XS.iloadN X0.here hx rfl (hb hby d14_11) rfl k) ?_
      show own_Go X0 (Q14 Z r0 p2 kA x0 x1 x2 x3 h0 n0) 0 0 12 #[.val (.ref r0), .val (.int (4 : Int32)), .val (.int p2), .val (.int (own_one x0 (4 : Int32) p2 (0 : Int32))), .val (.int (1 : Int32)), .val (.long (own_low (4 : Int32) (0 : Int32))), .second, .val (.int (own_bey (4 : Int32) p2 (0 : Int32)))] [(.int (own_one x0 (4 : Int32) p2 (0 : Int32)))]
      by_cases c12_4 : (own_one x0 (4 : Int32) p2 (0 : Int32)) = (0 : Int32)
      · skip
        refine own_st (fun _ k => XS.ifYes X0.here hx rfl (pc0 := 12) (pc' := 81) rfl (hb hby d14_12) rfl ((if0 _ _).trans (teq c12_4).1) (by decide) (by decide) k) ?_
        show own_Go X0 (Q14 Z r0 p2 kA x0 x1 x2 x3 h0 n0) 0 0 81 #[.val (.ref r0), .val (.int (4 : Int32)), .val (.int p2), .val (.int (own_one x0 (4 : Int32) p2 (0 : Int32))), .val (.int (1 : Int32)), .val (.long (own_low (4 : Int32) (0 : Int32))), .second, .val (.int (own_bey (4 : Int32) p2 (0 : Int32)))] []
        refine own_st (fun _ k => XS.iloadN X0.here hx rfl (hb hby d14_81) rfl k) ?_
        show own_Go X0 (Q14 Z r0 p2 kA x0 x1 x2 x3 h0 n0) 0 0 82 #[.val (.ref r0), .val (.int (4 : Int32)), .val (.int p2), .val (.int (own_one x0 (4 : Int32) p2 (0 : Int32))), .val (.int (1 : Int32)), .val (.long (own_low (4 : Int32) (0 : Int32))), .second, .val (.int (own_bey (4 : Int32) p2 (0 : Int32)))] [(.int (own_one x0 (4 : Int32) p2 (0 : Int32)))]
        refine own_retN X0 hx Bd.returns (by simp) hlk e0 (hb hby d14_82) (by decide) (by decide) ?_
        have hr : (own_fb4 x0 x1 x2 x3 p2) = (own_one x0 (4 : Int32) p2 (0 : Int32)) := by unfold own_fb4; rw [if_pos c12_4]; exact c12_4.symm
        exact ⟨by rw [hr]; rw [own_oneb], N0, rfl⟩
      · skip
        refine own_st (fun _ k => XS.ifNo X0.here hx rfl (hb hby d14_12) rfl ((if0 _ _).trans (feq c12_4).1) k) ?_
        show own_Go X0 (Q14 Z r0 p2 kA x0 x1 x2 x3 h0 n0) 0 0 15 #[.val (.ref r0), .val (.int (4 : Int32)), .val (.int p2), .val (.int (own_one x0 (4 : Int32) p2 (0 : Int32))), .val (.int (1 : Int32)), .val (.long (own_low (4 : Int32) (0 : Int32))), .second, .val (.int (own_bey (4 : Int32) p2 (0 : Int32)))] []
        refine own_st (fun t k => X0.ldc2Long hx hown (mvT hZ (hw _ (List.mem_of_getElem? (i := 5) rfl))) (g := (mkF m 15 #[.val (.ref r0), .val (.int (4 : Int32)), .val (.int p2), .val (.int (own_one x0 (4 : Int32) p2 (0 : Int32))), .val (.int (1 : Int32)), .val (.long (own_low (4 : Int32) (0 : Int32))), .second, .val (.int (own_bey (4 : Int32) p2 (0 : Int32)))] [])) rfl (hb hby d14_15) t k) ?_
        show own_Go X0 (Q14 Z r0 p2 kA x0 x1 x2 x3 h0 n0) 0 0 18 #[.val (.ref r0), .val (.int (4 : Int32)), .val (.int p2), .val (.int (own_one x0 (4 : Int32) p2 (0 : Int32))), .val (.int (1 : Int32)), .val (.long (own_low (4 : Int32) (0 : Int32))), .second, .val (.int (own_bey (4 : Int32) p2 (0 : Int32)))] [(.long (8 : Int64))]
        refine own_st (fun _ k => XS.iloadN X0.here hx rfl (hb hby d14_18) rfl k) ?_
        show own_Go X0 (Q14 Z r0 p2 kA x0 x1 x2 x3 h0 n0) 0 0 19 #[.val (.ref r0), .val (.int (4 : Int32)), .val (.int p2), .val (.int (own_one x0 (4 : Int32) p2 (0 : Int32))), .val (.int (1 : Int32)), .val (.long (own_low (4 : Int32) (0 : Int32))), .second, .val (.int (own_bey (4 : Int32) p2 (0 : Int32)))] [(.int (4 : Int32)), (.long (8 : Int64))]
        refine own_st (fun _ k => XS.iconst X0.here hx rfl (hb hby d14_19) k) ?_
        show own_Go X0 (Q14 Z r0 p2 kA x0 x1 x2 x3 h0 n0) 0 0 20 #[.val (.ref r0), .val (.int (4 : Int32)), .val (.int p2), .val (.int (own_one x0 (4 : Int32) p2 (0 : Int32))), .val (.int (1 : Int32)), .val (.long (own_low (4 : Int32) (0 : Int32))), .second, .val (.int (own_bey (4 : Int32) p2 (0 : Int32)))] [(.int (1 : Int32)), (.int (4 : Int32)), (.long (8 : Int64))]
        refine own_st (fun _ k => XS.isub X0.here hx rfl (hb hby d14_20) rfl k) ?_
        show own_Go X0 (Q14 Z r0 p2 kA x0 x1 x2 x3 h0 n0) 0 0 21 #[.val (.ref r0), .val (.int (4 : Int32)), .val (.int p2), .val (.int (own_one x0 (4 : Int32) p2 (0 : Int32))), .val (.int (1 : Int32)), .val (.long (own_low (4 : Int32) (0 : Int32))), .second, .val (.int (own_bey (4 : Int32) p2 (0 : Int32)))] [(.int (3 : Int32)), (.long (8 : Int64))]
        refine own_st (fun _ k => XS.iload X0.here hx rfl (hb hby d14_21) rfl k) ?_
        show own_Go X0 (Q14 Z r0 p2 kA x0 x1 x2 x3 h0 n0) 0 0 23 #[.val (.ref r0), .val (.int (4 : Int32)), .val (.int p2), .val (.int (own_one x0 (4 : Int32) p2 (0 : Int32))), .val (.int (1 : Int32)), .val (.long (own_low (4 : Int32) (0 : Int32))), .second, .val (.int (own_bey (4 : Int32) p2 (0 : Int32)))] [(.int (1 : Int32)), (.int (3 : Int32)), (.long (8 : Int64))]
        refine own_st (fun _ k => XS.isub X0.here hx rfl (hb hby d14_23) rfl k) ?_
        show own_Go X0 (Q14 Z r0 p2 kA x0 x1 x2 x3 h0 n0) 0 0 24 #[.val (.ref r0), .val (.int (4 : Int32)), .val (.int p2), .val (.int (own_one x0 (4 : Int32) p2 (0 : Int32))), .val (.int (1 : Int32)), .val (.long (own_low (4 : Int32) (0 : Int32))), .second, .val (.int (own_bey (4 : Int32) p2 (0 : Int32)))] [(.int (2 : Int32)), (.long (8 : Int64))]
        refine own_st (fun _ k => XS.i2l X0.here hx rfl (hb hby d14_24) rfl k) ?_
        show own_Go X0 (Q14 Z r0 p2 kA x0 x1 x2 x3 h0 n0) 0 0 25 #[.val (.ref r0), .val (.int (4 : Int32)), .val (.int p2), .val (.int (own_one x0 (4 : Int32) p2 (0 : Int32))), .val (.int (1 : Int32)), .val (.long (own_low (4 : Int32) (0 : Int32))), .second, .val (.int (own_bey (4 : Int32) p2 (0 : Int32)))] [(.long ((2 : Int32).toInt64)), (.long (8 : Int64))]
        refine own_st (fun _ k => XS.lmul X0.here hx rfl (hb hby d14_25) rfl k) ?_
        show own_Go X0 (Q14 Z r0 p2 kA x0 x1 x2 x3 h0 n0) 0 0 26 #[.val (.ref r0), .val (.int (4 : Int32)), .val (.int p2), .val (.int (own_one x0 (4 : Int32) p2 (0 : Int32))), .val (.int (1 : Int32)), .val (.long (own_low (4 : Int32) (0 : Int32))), .second, .val (.int (own_bey (4 : Int32) p2 (0 : Int32)))] [(.long ((8 : Int64) * ((2 : Int32).toInt64)))]
        refine own_st (fun _ k => XS.lstore X0.here hx rfl (hb hby d14_26) rfl (l' := #[.val (.ref r0), .val (.int (4 : Int32)), .val (.int p2), .val (.int (own_one x0 (4 : Int32) p2 (0 : Int32))), .val (.int (1 : Int32)), .val (.long ((8 : Int64) * ((2 : Int32).toInt64))), .second, .val (.int (own_bey (4 : Int32) p2 (0 : Int32)))]) rfl k) ?_
        show own_Go X0 (Q14 Z r0 p2 kA x0 x1 x2 x3 h0 n0) 0 0 28 #[.val (.ref r0), .val (.int (4 : Int32)), .val (.int p2), .val (.int (own_one x0 (4 : Int32) p2 (0 : Int32))), .val (.int (1 : Int32)), .val (.long ((8 : Int64) * ((2 : Int32).toInt64))), .second, .val (.int (own_bey (4 : Int32) p2 (0 : Int32)))] []
        show own_Go X0 (Q14 Z r0 p2 kA x0 x1 x2 x3 h0 n0) 0 0 28 #[.val (.ref r0), .val (.int (4 : Int32)), .val (.int p2), .val (.int (own_one x0 (4 : Int32) p2 (0 : Int32))), .val (.int (1 : Int32)), .val (.long (own_low (4 : Int32) (1 : Int32))), .second, .val (.int (own_bey (4 : Int32) p2 (0 : Int32)))] []
        have J46_1 : ∀ (bb : Int32) (hbb : bb = (own_bey (4 : Int32) p2 (1 : Int32))), own_Go X0 (Q14 Z r0 p2 kA x0 x1 x2 x3 h0 n0) 0 0 46 #[.val (.ref r0), .val (.int (4 : Int32)), .val (.int p2), .val (.int (own_one x0 (4 : Int32) p2 (0 : Int32))), .val (.int (1 : Int32)), .val (.long (own_low (4 : Int32) (1 : Int32))), .second, .val (.int (own_bey (4 : Int32) p2 (0 : Int32)))] [(.int bb)] := by
          intro bb hbb
          subst hbb
          show own_Go X0 (Q14 Z r0 p2 kA x0 x1 x2 x3 h0 n0) 0 0 46 #[.val (.ref r0), .val (.int (4 : Int32)), .val (.int p2), .val (.int (own_one x0 (4 : Int32) p2 (0 : Int32))), .val (.int (1 : Int32)), .val (.long (own_low (4 : Int32) (1 : Int32))), .second, .val (.int (own_bey (4 : Int32) p2 (0 : Int32)))] [(.int (own_bey (4 : Int32) p2 (1 : Int32)))]
          refine own_st (fun _ k => XS.istore X0.here hx rfl (hb hby d14_46) rfl (l' := #[.val (.ref r0), .val (.int (4 : Int32)), .val (.int p2), .val (.int (own_one x0 (4 : Int32) p2 (0 : Int32))), .val (.int (1 : Int32)), .val (.long (own_low (4 : Int32) (1 : Int32))), .second, .val (.int (own_bey (4 : Int32) p2 (1 : Int32)))]) rfl k) ?_
          show own_Go X0 (Q14 Z r0 p2 kA x0 x1 x2 x3 h0 n0) 0 0 48 #[.val (.ref r0), .val (.int (4 : Int32)), .val (.int p2), .val (.int (own_one x0 (4 : Int32) p2 (0 : Int32))), .val (.int (1 : Int32)), .val (.long (own_low (4 : Int32) (1 : Int32))), .second, .val (.int (own_bey (4 : Int32) p2 (1 : Int32)))] []
          have J74_1 : ∀ (ff : Int32) (hff : ff = (own_one x1 (4 : Int32) p2 (1 : Int32))), own_Go X0 (Q14 Z r0 p2 kA x0 x1 x2 x3 h0 n0) 0 0 74 #[.val (.ref r0), .val (.int (4 : Int32)), .val (.int p2), .val (.int (own_one x0 (4 : Int32) p2 (0 : Int32))), .val (.int (1 : Int32)), .val (.long (own_low (4 : Int32) (1 : Int32))), .second, .val (.int (own_bey (4 : Int32) p2 (1 : Int32)))] [(.int ff)] := by
            intro ff hff
            subst hff
            show own_Go X0 (Q14 Z r0 p2 kA x0 x1 x2 x3 h0 n0) 0 0 74 #[.val (.ref r0), .val (.int (4 : Int32)), .val (.int p2), .val (.int (own_one x0 (4 : Int32) p2 (0 : Int32))), .val (.int (1 : Int32)), .val (.long (own_low (4 : Int32) (1 : Int32))), .second, .val (.int (own_bey (4 : Int32) p2 (1 : Int32)))] [(.int (own_one x1 (4 : Int32) p2 (1 : Int32)))]
            refine own_st (fun _ k => XS.istoreN X0.here hx rfl (hb hby d14_74) rfl (l' := #[.val (.ref r0), .val (.int (4 : Int32)), .val (.int p2), .val (.int (own_one x1 (4 : Int32) p2 (1 : Int32))), .val (.int (1 : Int32)), .val (.long (own_low (4 : Int32) (1 : Int32))), .second, .val (.int (own_bey (4 : Int32) p2 (1 : Int32)))]) rfl k) ?_
            show own_Go X0 (Q14 Z r0 p2 kA x0 x1 x2 x3 h0 n0) 0 0 75 #[.val (.ref r0), .val (.int (4 : Int32)), .val (.int p2), .val (.int (own_one x1 (4 : Int32) p2 (1 : Int32))), .val (.int (1 : Int32)), .val (.long (own_low (4 : Int32) (1 : Int32))), .second, .val (.int (own_bey (4 : Int32) p2 (1 : Int32)))] []
            refine own_st (fun _ k => XS.iinc X0.here hx rfl (hb hby d14_75) rfl (l' := #[.val (.ref r0), .val (.int (4 : Int32)), .val (.int p2), .val (.int (own_one x1 (4 : Int32) p2 (1 : Int32))), .val (.int (2 : Int32)), .val (.long (own_low (4 : Int32) (1 : Int32))), .second, .val (.int (own_bey (4 : Int32) p2 (1 : Int32)))]) rfl k) ?_
            show own_Go X0 (Q14 Z r0 p2 kA x0 x1 x2 x3 h0 n0) 0 0 78 #[.val (.ref r0), .val (.int (4 : Int32)), .val (.int p2), .val (.int (own_one x1 (4 : Int32) p2 (1 : Int32))), .val (.int (2 : Int32)), .val (.long (own_low (4 : Int32) (1 : Int32))), .second, .val (.int (own_bey (4 : Int32) p2 (1 : Int32)))] []
            refine own_st (fun _ k => XS.goto X0.here hx rfl (pc0 := 78) (pc' := 5) rfl (hb hby d14_78) (by decide) (by decide) k) ?_
            show own_Go X0 (Q14 Z r0 p2 kA x0 x1 x2 x3 h0 n0) 0 0 5 #[.val (.ref r0), .val (.int (4 : Int32)), .val (.int p2), .val (.int (own_one x1 (4 : Int32) p2 (1 : Int32))), .val (.int (2 : Int32)), .val (.long (own_low (4 : Int32) (1 : Int32))), .second, .val (.int (own_bey (4 : Int32) p2 (1 : Int32)))] []
            refine own_st (fun _ k => XS.iload X0.here hx rfl (hb hby d14_5) rfl k) ?_
            show own_Go X0 (Q14 Z r0 p2 kA x0 x1 x2 x3 h0 n0) 0 0 7 #[.val (.ref r0), .val (.int (4 : Int32)), .val (.int p2), .val (.int (own_one x1 (4 : Int32) p2 (1 : Int32))), .val (.int (2 : Int32)), .val (.long (own_low (4 : Int32) (1 : Int32))), .second, .val (.int (own_bey (4 : Int32) p2 (1 : Int32)))] [(.int (2 : Int32))]
            refine own_st (fun _ k => XS.iloadN X0.here hx rfl (hb hby d14_7) rfl k) ?_
            show own_Go X0 (Q14 Z r0 p2 kA x0 x1 x2 x3 h0 n0) 0 0 8 #[.val (.ref r0), .val (.int (4 : Int32)), .val (.int p2), .val (.int (own_one x1 (4 : Int32) p2 (1 : Int32))), .val (.int (2 : Int32)), .val (.long (own_low (4 : Int32) (1 : Int32))), .second, .val (.int (own_bey (4 : Int32) p2 (1 : Int32)))] [(.int (4 : Int32)), (.int (2 : Int32))]
            have c8_5 : (2 : Int32) < (4 : Int32) := (by decide)
            refine own_st (fun _ k => XS.icmpNo X0.here hx rfl (hb hby d14_8) rfl (tlt c8_5).2.1 k) ?_
            show own_Go X0 (Q14 Z r0 p2 kA x0 x1 x2 x3 h0 n0) 0 0 11 #[.val (.ref r0), .val (.int (4 : Int32)), .val (.int p2), .val (.int (own_one x1 (4 : Int32) p2 (1 : Int32))), .val (.int (2 : Int32)), .val (.long (own_low (4 : Int32) (1 : Int32))), .second, .val (.int (own_bey (4 : Int32) p2 (1 : Int32)))] []
            refine own_st (fun _ k => XS.iloadN X0.here hx rfl (hb hby d14_11) rfl k) ?_
            show own_Go X0 (Q14 Z r0 p2 kA x0 x1 x2 x3 h0 n0) 0 0 12 #[.val (.ref r0), .val (.int (4 : Int32)), .val (.int p2), .val (.int (own_one x1 (4 : Int32) p2 (1 : Int32))), .val (.int (2 : Int32)), .val (.long (own_low (4 : Int32) (1 : Int32))), .second, .val (.int (own_bey (4 : Int32) p2 (1 : Int32)))] [(.int (own_one x1 (4 : Int32) p2 (1 : Int32)))]
            by_cases c12_6 : (own_one x1 (4 : Int32) p2 (1 : Int32)) = (0 : Int32)
            · skip
              refine own_st (fun _ k => XS.ifYes X0.here hx rfl (pc0 := 12) (pc' := 81) rfl (hb hby d14_12) rfl ((if0 _ _).trans (teq c12_6).1) (by decide) (by decide) k) ?_
              show own_Go X0 (Q14 Z r0 p2 kA x0 x1 x2 x3 h0 n0) 0 0 81 #[.val (.ref r0), .val (.int (4 : Int32)), .val (.int p2), .val (.int (own_one x1 (4 : Int32) p2 (1 : Int32))), .val (.int (2 : Int32)), .val (.long (own_low (4 : Int32) (1 : Int32))), .second, .val (.int (own_bey (4 : Int32) p2 (1 : Int32)))] []
              refine own_st (fun _ k => XS.iloadN X0.here hx rfl (hb hby d14_81) rfl k) ?_
              show own_Go X0 (Q14 Z r0 p2 kA x0 x1 x2 x3 h0 n0) 0 0 82 #[.val (.ref r0), .val (.int (4 : Int32)), .val (.int p2), .val (.int (own_one x1 (4 : Int32) p2 (1 : Int32))), .val (.int (2 : Int32)), .val (.long (own_low (4 : Int32) (1 : Int32))), .second, .val (.int (own_bey (4 : Int32) p2 (1 : Int32)))] [(.int (own_one x1 (4 : Int32) p2 (1 : Int32)))]
              refine own_retN X0 hx Bd.returns (by simp) hlk e0 (hb hby d14_82) (by decide) (by decide) ?_
              have hr : (own_fb4 x0 x1 x2 x3 p2) = (own_one x1 (4 : Int32) p2 (1 : Int32)) := by unfold own_fb4; rw [if_neg c12_4, if_pos c12_6]; exact c12_6.symm
              exact ⟨by rw [hr]; rw [own_oneb], N0, rfl⟩
            · skip
              refine own_st (fun _ k => XS.ifNo X0.here hx rfl (hb hby d14_12) rfl ((if0 _ _).trans (feq c12_6).1) k) ?_
              show own_Go X0 (Q14 Z r0 p2 kA x0 x1 x2 x3 h0 n0) 0 0 15 #[.val (.ref r0), .val (.int (4 : Int32)), .val (.int p2), .val (.int (own_one x1 (4 : Int32) p2 (1 : Int32))), .val (.int (2 : Int32)), .val (.long (own_low (4 : Int32) (1 : Int32))), .second, .val (.int (own_bey (4 : Int32) p2 (1 : Int32)))] []
              refine own_st (fun t k => X0.ldc2Long hx hown (mvT hZ (hw _ (List.mem_of_getElem? (i := 5) rfl))) (g := (mkF m 15 #[.val (.ref r0), .val (.int (4 : Int32)), .val (.int p2), .val (.int (own_one x1 (4 : Int32) p2 (1 : Int32))), .val (.int (2 : Int32)), .val (.long (own_low (4 : Int32) (1 : Int32))), .second, .val (.int (own_bey (4 : Int32) p2 (1 : Int32)))] [])) rfl (hb hby d14_15) t k) ?_
              show own_Go X0 (Q14 Z r0 p2 kA x0 x1 x2 x3 h0 n0) 0 0 18 #[.val (.ref r0), .val (.int (4 : Int32)), .val (.int p2), .val (.int (own_one x1 (4 : Int32) p2 (1 : Int32))), .val (.int (2 : Int32)), .val (.long (own_low (4 : Int32) (1 : Int32))), .second, .val (.int (own_bey (4 : Int32) p2 (1 : Int32)))] [(.long (8 : Int64))]
              refine own_st (fun _ k => XS.iloadN X0.here hx rfl (hb hby d14_18) rfl k) ?_
              show own_Go X0 (Q14 Z r0 p2 kA x0 x1 x2 x3 h0 n0) 0 0 19 #[.val (.ref r0), .val (.int (4 : Int32)), .val (.int p2), .val (.int (own_one x1 (4 : Int32) p2 (1 : Int32))), .val (.int (2 : Int32)), .val (.long (own_low (4 : Int32) (1 : Int32))), .second, .val (.int (own_bey (4 : Int32) p2 (1 : Int32)))] [(.int (4 : Int32)), (.long (8 : Int64))]
              refine own_st (fun _ k => XS.iconst X0.here hx rfl (hb hby d14_19) k) ?_
              show own_Go X0 (Q14 Z r0 p2 kA x0 x1 x2 x3 h0 n0) 0 0 20 #[.val (.ref r0), .val (.int (4 : Int32)), .val (.int p2), .val (.int (own_one x1 (4 : Int32) p2 (1 : Int32))), .val (.int (2 : Int32)), .val (.long (own_low (4 : Int32) (1 : Int32))), .second, .val (.int (own_bey (4 : Int32) p2 (1 : Int32)))] [(.int (1 : Int32)), (.int (4 : Int32)), (.long (8 : Int64))]
              refine own_st (fun _ k => XS.isub X0.here hx rfl (hb hby d14_20) rfl k) ?_
              show own_Go X0 (Q14 Z r0 p2 kA x0 x1 x2 x3 h0 n0) 0 0 21 #[.val (.ref r0), .val (.int (4 : Int32)), .val (.int p2), .val (.int (own_one x1 (4 : Int32) p2 (1 : Int32))), .val (.int (2 : Int32)), .val (.long (own_low (4 : Int32) (1 : Int32))), .second, .val (.int (own_bey (4 : Int32) p2 (1 : Int32)))] [(.int (3 : Int32)), (.long (8 : Int64))]
              refine own_st (fun _ k => XS.iload X0.here hx rfl (hb hby d14_21) rfl k) ?_
              show own_Go X0 (Q14 Z r0 p2 kA x0 x1 x2 x3 h0 n0) 0 0 23 #[.val (.ref r0), .val (.int (4 : Int32)), .val (.int p2), .val (.int (own_one x1 (4 : Int32) p2 (1 : Int32))), .val (.int (2 : Int32)), .val (.long (own_low (4 : Int32) (1 : Int32))), .second, .val (.int (own_bey (4 : Int32) p2 (1 : Int32)))] [(.int (2 : Int32)), (.int (3 : Int32)), (.long (8 : Int64))]
              refine own_st (fun _ k => XS.isub X0.here hx rfl (hb hby d14_23) rfl k) ?_
              show own_Go X0 (Q14 Z r0 p2 kA x0 x1 x2 x3 h0 n0) 0 0 24 #[.val (.ref r0), .val (.int (4 : Int32)), .val (.int p2), .val (.int (own_one x1 (4 : Int32) p2 (1 : Int32))), .val (.int (2 : Int32)), .val (.long (own_low (4 : Int32) (1 : Int32))), .second, .val (.int (own_bey (4 : Int32) p2 (1 : Int32)))] [(.int (1 : Int32)), (.long (8 : Int64))]
              refine own_st (fun _ k => XS.i2l X0.here hx rfl (hb hby d14_24) rfl k) ?_
              show own_Go X0 (Q14 Z r0 p2 kA x0 x1 x2 x3 h0 n0) 0 0 25 #[.val (.ref r0), .val (.int (4 : Int32)), .val (.int p2), .val (.int (own_one x1 (4 : Int32) p2 (1 : Int32))), .val (.int (2 : Int32)), .val (.long (own_low (4 : Int32) (1 : Int32))), .second, .val (.int (own_bey (4 : Int32) p2 (1 : Int32)))] [(.long ((1 : Int32).toInt64)), (.long (8 : Int64))]
              refine own_st (fun _ k => XS.lmul X0.here hx rfl (hb hby d14_25) rfl k) ?_
              show own_Go X0 (Q14 Z r0 p2 kA x0 x1 x2 x3 h0 n0) 0 0 26 #[.val (.ref r0), .val (.int (4 : Int32)), .val (.int p2), .val (.int (own_one x1 (4 : Int32) p2 (1 : Int32))), .val (.int (2 : Int32)), .val (.long (own_low (4 : Int32) (1 : Int32))), .second, .val (.int (own_bey (4 : Int32) p2 (1 : Int32)))] [(.long ((8 : Int64) * ((1 : Int32).toInt64)))]
              refine own_st (fun _ k => XS.lstore X0.here hx rfl (hb hby d14_26) rfl (l' := #[.val (.ref r0), .val (.int (4 : Int32)), .val (.int p2), .val (.int (own_one x1 (4 : Int32) p2 (1 : Int32))), .val (.int (2 : Int32)), .val (.long ((8 : Int64) * ((1 : Int32).toInt64))), .second, .val (.int (own_bey (4 : Int32) p2 (1 : Int32)))]) rfl k) ?_
              show own_Go X0 (Q14 Z r0 p2 kA x0 x1 x2 x3 h0 n0) 0 0 28 #[.val (.ref r0), .val (.int (4 : Int32)), .val (.int p2), .val (.int (own_one x1 (4 : Int32) p2 (1 : Int32))), .val (.int (2 : Int32)), .val (.long ((8 : Int64) * ((1 : Int32).toInt64))), .second, .val (.int (own_bey (4 : Int32) p2 (1 : Int32)))] []
              show own_Go X0 (Q14 Z r0 p2 kA x0 x1 x2 x3 h0 n0) 0 0 28 #[.val (.ref r0), .val (.int (4 : Int32)), .val (.int p2), .val (.int (own_one x1 (4 : Int32) p2 (1 : Int32))), .val (.int (2 : Int32)), .val (.long (own_low (4 : Int32) (2 : Int32))), .second, .val (.int (own_bey (4 : Int32) p2 (1 : Int32)))] []
              have J46_2 : ∀ (bb : Int32) (hbb : bb = (own_bey (4 : Int32) p2 (2 : Int32))), own_Go X0 (Q14 Z r0 p2 kA x0 x1 x2 x3 h0 n0) 0 0 46 #[.val (.ref r0), .val (.int (4 : Int32)), .val (.int p2), .val (.int (own_one x1 (4 : Int32) p2 (1 : Int32))), .val (.int (2 : Int32)), .val (.long (own_low (4 : Int32) (2 : Int32))), .second, .val (.int (own_bey (4 : Int32) p2 (1 : Int32)))] [(.int bb)] := by
                intro bb hbb
                subst hbb
                show own_Go X0 (Q14 Z r0 p2 kA x0 x1 x2 x3 h0 n0) 0 0 46 #[.val (.ref r0), .val (.int (4 : Int32)), .val (.int p2), .val (.int (own_one x1 (4 : Int32) p2 (1 : Int32))), .val (.int (2 : Int32)), .val (.long (own_low (4 : Int32) (2 : Int32))), .second, .val (.int (own_bey (4 : Int32) p2 (1 : Int32)))] [(.int (own_bey (4 : Int32) p2 (2 : Int32)))]
                refine own_st (fun _ k => XS.istore X0.here hx rfl (hb hby d14_46) rfl (l' := #[.val (.ref r0), .val (.int (4 : Int32)), .val (.int p2), .val (.int (own_one x1 (4 : Int32) p2 (1 : Int32))), .val (.int (2 : Int32)), .val (.long (own_low (4 : Int32) (2 : Int32))), .second, .val (.int (own_bey (4 : Int32) p2 (2 : Int32)))]) rfl k) ?_
                show own_Go X0 (Q14 Z r0 p2 kA x0 x1 x2 x3 h0 n0) 0 0 48 #[.val (.ref r0), .val (.int (4 : Int32)), .val (.int p2), .val (.int (own_one x1 (4 : Int32) p2 (1 : Int32))), .val (.int (2 : Int32)), .val (.long (own_low (4 : Int32) (2 : Int32))), .second, .val (.int (own_bey (4 : Int32) p2 (2 : Int32)))] []
                have J74_2 : ∀ (ff : Int32) (hff : ff = (own_one x2 (4 : Int32) p2 (2 : Int32))), own_Go X0 (Q14 Z r0 p2 kA x0 x1 x2 x3 h0 n0) 0 0 74 #[.val (.ref r0), .val (.int (4 : Int32)), .val (.int p2), .val (.int (own_one x1 (4 : Int32) p2 (1 : Int32))), .val (.int (2 : Int32)), .val (.long (own_low (4 : Int32) (2 : Int32))), .second, .val (.int (own_bey (4 : Int32) p2 (2 : Int32)))] [(.int ff)] := by
                  intro ff hff
                  subst hff
                  show own_Go X0 (Q14 Z r0 p2 kA x0 x1 x2 x3 h0 n0) 0 0 74 #[.val (.ref r0), .val (.int (4 : Int32)), .val (.int p2), .val (.int (own_one x1 (4 : Int32) p2 (1 : Int32))), .val (.int (2 : Int32)), .val (.long (own_low (4 : Int32) (2 : Int32))), .second, .val (.int (own_bey (4 : Int32) p2 (2 : Int32)))] [(.int (own_one x2 (4 : Int32) p2 (2 : Int32)))]
                  refine own_st (fun _ k => XS.istoreN X0.here hx rfl (hb hby d14_74) rfl (l' := #[.val (.ref r0), .val (.int (4 : Int32)), .val (.int p2), .val (.int (own_one x2 (4 : Int32) p2 (2 : Int32))), .val (.int (2 : Int32)), .val (.long (own_low (4 : Int32) (2 : Int32))), .second, .val (.int (own_bey (4 : Int32) p2 (2 : Int32)))]) rfl k) ?_
                  show own_Go X0 (Q14 Z r0 p2 kA x0 x1 x2 x3 h0 n0) 0 0 75 #[.val (.ref r0), .val (.int (4 : Int32)), .val (.int p2), .val (.int (own_one x2 (4 : Int32) p2 (2 : Int32))), .val (.int (2 : Int32)), .val (.long (own_low (4 : Int32) (2 : Int32))), .second, .val (.int (own_bey (4 : Int32) p2 (2 : Int32)))] []
                  refine own_st (fun _ k => XS.iinc X0.here hx rfl (hb hby d14_75) rfl (l' := #[.val (.ref r0), .val (.int (4 : Int32)), .val (.int p2), .val (.int (own_one x2 (4 : Int32) p2 (2 : Int32))), .val (.int (3 : Int32)), .val (.long (own_low (4 : Int32) (2 : Int32))), .second, .val (.int (own_bey (4 : Int32) p2 (2 : Int32)))]) rfl k) ?_
                  show own_Go X0 (Q14 Z r0 p2 kA x0 x1 x2 x3 h0 n0) 0 0 78 #[.val (.ref r0), .val (.int (4 : Int32)), .val (.int p2), .val (.int (own_one x2 (4 : Int32) p2 (2 : Int32))), .val (.int (3 : Int32)), .val (.long (own_low (4 : Int32) (2 : Int32))), .second, .val (.int (own_bey (4 : Int32) p2 (2 : Int32)))] []
                  refine own_st (fun _ k => XS.goto X0.here hx rfl (pc0 := 78) (pc' := 5) rfl (hb hby d14_78) (by decide) (by decide) k) ?_
                  show own_Go X0 (Q14 Z r0 p2 kA x0 x1 x2 x3 h0 n0) 0 0 5 #[.val (.ref r0), .val (.int (4 : Int32)), .val (.int p2), .val (.int (own_one x2 (4 : Int32) p2 (2 : Int32))), .val (.int (3 : Int32)), .val (.long (own_low (4 : Int32) (2 : Int32))), .second, .val (.int (own_bey (4 : Int32) p2 (2 : Int32)))] []
                  refine own_st (fun _ k => XS.iload X0.here hx rfl (hb hby d14_5) rfl k) ?_
                  show own_Go X0 (Q14 Z r0 p2 kA x0 x1 x2 x3 h0 n0) 0 0 7 #[.val (.ref r0), .val (.int (4 : Int32)), .val (.int p2), .val (.int (own_one x2 (4 : Int32) p2 (2 : Int32))), .val (.int (3 : Int32)), .val (.long (own_low (4 : Int32) (2 : Int32))), .second, .val (.int (own_bey (4 : Int32) p2 (2 : Int32)))] [(.int (3 : Int32))]
                  refine own_st (fun _ k => XS.iloadN X0.here hx rfl (hb hby d14_7) rfl k) ?_
                  show own_Go X0 (Q14 Z r0 p2 kA x0 x1 x2 x3 h0 n0) 0 0 8 #[.val (.ref r0), .val (.int (4 : Int32)), .val (.int p2), .val (.int (own_one x2 (4 : Int32) p2 (2 : Int32))), .val (.int (3 : Int32)), .val (.long (own_low (4 : Int32) (2 : Int32))), .second, .val (.int (own_bey (4 : Int32) p2 (2 : Int32)))] [(.int (4 : Int32)), (.int (3 : Int32))]
                  have c8_7 : (3 : Int32) < (4 : Int32) := (by decide)
                  refine own_st (fun _ k => XS.icmpNo X0.here hx rfl (hb hby d14_8) rfl (tlt c8_7).2.1 k) ?_
                  show own_Go X0 (Q14 Z r0 p2 kA x0 x1 x2 x3 h0 n0) 0 0 11 #[.val (.ref r0), .val (.int (4 : Int32)), .val (.int p2), .val (.int (own_one x2 (4 : Int32) p2 (2 : Int32))), .val (.int (3 : Int32)), .val (.long (own_low (4 : Int32) (2 : Int32))), .second, .val (.int (own_bey (4 : Int32) p2 (2 : Int32)))] []
                  refine own_st (fun _ k => XS.iloadN X0.here hx rfl (hb hby d14_11) rfl k) ?_
                  show own_Go X0 (Q14 Z r0 p2 kA x0 x1 x2 x3 h0 n0) 0 0 12 #[.val (.ref r0), .val (.int (4 : Int32)), .val (.int p2), .val (.int (own_one x2 (4 : Int32) p2 (2 : Int32))), .val (.int (3 : Int32)), .val (.long (own_low (4 : Int32) (2 : Int32))), .second, .val (.int (own_bey (4 : Int32) p2 (2 : Int32)))] [(.int (own_one x2 (4 : Int32) p2 (2 : Int32)))]
                  by_cases c12_8 : (own_one x2 (4 : Int32) p2 (2 : Int32)) = (0 : Int32)
                  · skip
                    refine own_st (fun _ k => XS.ifYes X0.here hx rfl (pc0 := 12) (pc' := 81) rfl (hb hby d14_12) rfl ((if0 _ _).trans (teq c12_8).1) (by decide) (by decide) k) ?_
                    show own_Go X0 (Q14 Z r0 p2 kA x0 x1 x2 x3 h0 n0) 0 0 81 #[.val (.ref r0), .val (.int (4 : Int32)), .val (.int p2), .val (.int (own_one x2 (4 : Int32) p2 (2 : Int32))), .val (.int (3 : Int32)), .val (.long (own_low (4 : Int32) (2 : Int32))), .second, .val (.int (own_bey (4 : Int32) p2 (2 : Int32)))] []
                    refine own_st (fun _ k => XS.iloadN X0.here hx rfl (hb hby d14_81) rfl k) ?_
                    show own_Go X0 (Q14 Z r0 p2 kA x0 x1 x2 x3 h0 n0) 0 0 82 #[.val (.ref r0), .val (.int (4 : Int32)), .val (.int p2), .val (.int (own_one x2 (4 : Int32) p2 (2 : Int32))), .val (.int (3 : Int32)), .val (.long (own_low (4 : Int32) (2 : Int32))), .second, .val (.int (own_bey (4 : Int32) p2 (2 : Int32)))] [(.int (own_one x2 (4 : Int32) p2 (2 : Int32)))]
                    refine own_retN X0 hx Bd.returns (by simp) hlk e0 (hb hby d14_82) (by decide) (by decide) ?_
                    have hr : (own_fb4 x0 x1 x2 x3 p2) = (own_one x2 (4 : Int32) p2 (2 : Int32)) := by unfold own_fb4; rw [if_neg c12_4, if_neg c12_6, if_pos c12_8]; exact c12_8.symm
                    exact ⟨by rw [hr]; rw [own_oneb], N0, rfl⟩
                  · skip
                    refine own_st (fun _ k => XS.ifNo X0.here hx rfl (hb hby d14_12) rfl ((if0 _ _).trans (feq c12_8).1) k) ?_
                    show own_Go X0 (Q14 Z r0 p2 kA x0 x1 x2 x3 h0 n0) 0 0 15 #[.val (.ref r0), .val (.int (4 : Int32)), .val (.int p2), .val (.int (own_one x2 (4 : Int32) p2 (2 : Int32))), .val (.int (3 : Int32)), .val (.long (own_low (4 : Int32) (2 : Int32))), .second, .val (.int (own_bey (4 : Int32) p2 (2 : Int32)))] []
                    refine own_st (fun t k => X0.ldc2Long hx hown (mvT hZ (hw _ (List.mem_of_getElem? (i := 5) rfl))) (g := (mkF m 15 #[.val (.ref r0), .val (.int (4 : Int32)), .val (.int p2), .val (.int (own_one x2 (4 : Int32) p2 (2 : Int32))), .val (.int (3 : Int32)), .val (.long (own_low (4 : Int32) (2 : Int32))), .second, .val (.int (own_bey (4 : Int32) p2 (2 : Int32)))] [])) rfl (hb hby d14_15) t k) ?_
                    show own_Go X0 (Q14 Z r0 p2 kA x0 x1 x2 x3 h0 n0) 0 0 18 #[.val (.ref r0), .val (.int (4 : Int32)), .val (.int p2), .val (.int (own_one x2 (4 : Int32) p2 (2 : Int32))), .val (.int (3 : Int32)), .val (.long (own_low (4 : Int32) (2 : Int32))), .second, .val (.int (own_bey (4 : Int32) p2 (2 : Int32)))] [(.long (8 : Int64))]
                    refine own_st (fun _ k => XS.iloadN X0.here hx rfl (hb hby d14_18) rfl k) ?_
                    show own_Go X0 (Q14 Z r0 p2 kA x0 x1 x2 x3 h0 n0) 0 0 19 #[.val (.ref r0), .val (.int (4 : Int32)), .val (.int p2), .val (.int (own_one x2 (4 : Int32) p2 (2 : Int32))), .val (.int (3 : Int32)), .val (.long (own_low (4 : Int32) (2 : Int32))), .second, .val (.int (own_bey (4 : Int32) p2 (2 : Int32)))] [(.int (4 : Int32)), (.long (8 : Int64))]
                    refine own_st (fun _ k => XS.iconst X0.here hx rfl (hb hby d14_19) k) ?_
                    show own_Go X0 (Q14 Z r0 p2 kA x0 x1 x2 x3 h0 n0) 0 0 20 #[.val (.ref r0), .val (.int (4 : Int32)), .val (.int p2), .val (.int (own_one x2 (4 : Int32) p2 (2 : Int32))), .val (.int (3 : Int32)), .val (.long (own_low (4 : Int32) (2 : Int32))), .second, .val (.int (own_bey (4 : Int32) p2 (2 : Int32)))] [(.int (1 : Int32)), (.int (4 : Int32)), (.long (8 : Int64))]
                    refine own_st (fun _ k => XS.isub X0.here hx rfl (hb hby d14_20) rfl k) ?_
                    show own_Go X0 (Q14 Z r0 p2 kA x0 x1 x2 x3 h0 n0) 0 0 21 #[.val (.ref r0), .val (.int (4 : Int32)), .val (.int p2), .val (.int (own_one x2 (4 : Int32) p2 (2 : Int32))), .val (.int (3 : Int32)), .val (.long (own_low (4 : Int32) (2 : Int32))), .second, .val (.int (own_bey (4 : Int32) p2 (2 : Int32)))] [(.int (3 : Int32)), (.long (8 : Int64))]
                    refine own_st (fun _ k => XS.iload X0.here hx rfl (hb hby d14_21) rfl k) ?_
                    show own_Go X0 (Q14 Z r0 p2 kA x0 x1 x2 x3 h0 n0) 0 0 23 #[.val (.ref r0), .val (.int (4 : Int32)), .val (.int p2), .val (.int (own_one x2 (4 : Int32) p2 (2 : Int32))), .val (.int (3 : Int32)), .val (.long (own_low (4 : Int32) (2 : Int32))), .second, .val (.int (own_bey (4 : Int32) p2 (2 : Int32)))] [(.int (3 : Int32)), (.int (3 : Int32)), (.long (8 : Int64))]
                    refine own_st (fun _ k => XS.isub X0.here hx rfl (hb hby d14_23) rfl k) ?_
                    show own_Go X0 (Q14 Z r0 p2 kA x0 x1 x2 x3 h0 n0) 0 0 24 #[.val (.ref r0), .val (.int (4 : Int32)), .val (.int p2), .val (.int (own_one x2 (4 : Int32) p2 (2 : Int32))), .val (.int (3 : Int32)), .val (.long (own_low (4 : Int32) (2 : Int32))), .second, .val (.int (own_bey (4 : Int32) p2 (2 : Int32)))] [(.int (0 : Int32)), (.long (8 : Int64))]
                    refine own_st (fun _ k => XS.i2l X0.here hx rfl (hb hby d14_24) rfl k) ?_
                    show own_Go X0 (Q14 Z r0 p2 kA x0 x1 x2 x3 h0 n0) 0 0 25 #[.val (.ref r0), .val (.int (4 : Int32)), .val (.int p2), .val (.int (own_one x2 (4 : Int32) p2 (2 : Int32))), .val (.int (3 : Int32)), .val (.long (own_low (4 : Int32) (2 : Int32))), .second, .val (.int (own_bey (4 : Int32) p2 (2 : Int32)))] [(.long ((0 : Int32).toInt64)), (.long (8 : Int64))]
                    refine own_st (fun _ k => XS.lmul X0.here hx rfl (hb hby d14_25) rfl k) ?_
                    show own_Go X0 (Q14 Z r0 p2 kA x0 x1 x2 x3 h0 n0) 0 0 26 #[.val (.ref r0), .val (.int (4 : Int32)), .val (.int p2), .val (.int (own_one x2 (4 : Int32) p2 (2 : Int32))), .val (.int (3 : Int32)), .val (.long (own_low (4 : Int32) (2 : Int32))), .second, .val (.int (own_bey (4 : Int32) p2 (2 : Int32)))] [(.long ((8 : Int64) * ((0 : Int32).toInt64)))]
                    refine own_st (fun _ k => XS.lstore X0.here hx rfl (hb hby d14_26) rfl (l' := #[.val (.ref r0), .val (.int (4 : Int32)), .val (.int p2), .val (.int (own_one x2 (4 : Int32) p2 (2 : Int32))), .val (.int (3 : Int32)), .val (.long ((8 : Int64) * ((0 : Int32).toInt64))), .second, .val (.int (own_bey (4 : Int32) p2 (2 : Int32)))]) rfl k) ?_
                    show own_Go X0 (Q14 Z r0 p2 kA x0 x1 x2 x3 h0 n0) 0 0 28 #[.val (.ref r0), .val (.int (4 : Int32)), .val (.int p2), .val (.int (own_one x2 (4 : Int32) p2 (2 : Int32))), .val (.int (3 : Int32)), .val (.long ((8 : Int64) * ((0 : Int32).toInt64))), .second, .val (.int (own_bey (4 : Int32) p2 (2 : Int32)))] []
                    show own_Go X0 (Q14 Z r0 p2 kA x0 x1 x2 x3 h0 n0) 0 0 28 #[.val (.ref r0), .val (.int (4 : Int32)), .val (.int p2), .val (.int (own_one x2 (4 : Int32) p2 (2 : Int32))), .val (.int (3 : Int32)), .val (.long (own_low (4 : Int32) (3 : Int32))), .second, .val (.int (own_bey (4 : Int32) p2 (2 : Int32)))] []
                    have J46_3 : ∀ (bb : Int32) (hbb : bb = (own_bey (4 : Int32) p2 (3 : Int32))), own_Go X0 (Q14 Z r0 p2 kA x0 x1 x2 x3 h0 n0) 0 0 46 #[.val (.ref r0), .val (.int (4 : Int32)), .val (.int p2), .val (.int (own_one x2 (4 : Int32) p2 (2 : Int32))), .val (.int (3 : Int32)), .val (.long (own_low (4 : Int32) (3 : Int32))), .second, .val (.int (own_bey (4 : Int32) p2 (2 : Int32)))] [(.int bb)] := by
                      intro bb hbb
                      subst hbb
                      show own_Go X0 (Q14 Z r0 p2 kA x0 x1 x2 x3 h0 n0) 0 0 46 #[.val (.ref r0), .val (.int (4 : Int32)), .val (.int p2), .val (.int (own_one x2 (4 : Int32) p2 (2 : Int32))), .val (.int (3 : Int32)), .val (.long (own_low (4 : Int32) (3 : Int32))), .second, .val (.int (own_bey (4 : Int32) p2 (2 : Int32)))] [(.int (own_bey (4 : Int32) p2 (3 : Int32)))]
                      refine own_st (fun _ k => XS.istore X0.here hx rfl (hb hby d14_46) rfl (l' := #[.val (.ref r0), .val (.int (4 : Int32)), .val (.int p2), .val (.int (own_one x2 (4 : Int32) p2 (2 : Int32))), .val (.int (3 : Int32)), .val (.long (own_low (4 : Int32) (3 : Int32))), .second, .val (.int (own_bey (4 : Int32) p2 (3 : Int32)))]) rfl k) ?_
                      show own_Go X0 (Q14 Z r0 p2 kA x0 x1 x2 x3 h0 n0) 0 0 48 #[.val (.ref r0), .val (.int (4 : Int32)), .val (.int p2), .val (.int (own_one x2 (4 : Int32) p2 (2 : Int32))), .val (.int (3 : Int32)), .val (.long (own_low (4 : Int32) (3 : Int32))), .second, .val (.int (own_bey (4 : Int32) p2 (3 : Int32)))] []
                      have J74_3 : ∀ (ff : Int32) (hff : ff = (own_one x3 (4 : Int32) p2 (3 : Int32))), own_Go X0 (Q14 Z r0 p2 kA x0 x1 x2 x3 h0 n0) 0 0 74 #[.val (.ref r0), .val (.int (4 : Int32)), .val (.int p2), .val (.int (own_one x2 (4 : Int32) p2 (2 : Int32))), .val (.int (3 : Int32)), .val (.long (own_low (4 : Int32) (3 : Int32))), .second, .val (.int (own_bey (4 : Int32) p2 (3 : Int32)))] [(.int ff)] := by
                        intro ff hff
                        subst hff
                        show own_Go X0 (Q14 Z r0 p2 kA x0 x1 x2 x3 h0 n0) 0 0 74 #[.val (.ref r0), .val (.int (4 : Int32)), .val (.int p2), .val (.int (own_one x2 (4 : Int32) p2 (2 : Int32))), .val (.int (3 : Int32)), .val (.long (own_low (4 : Int32) (3 : Int32))), .second, .val (.int (own_bey (4 : Int32) p2 (3 : Int32)))] [(.int (own_one x3 (4 : Int32) p2 (3 : Int32)))]
                        refine own_st (fun _ k => XS.istoreN X0.here hx rfl (hb hby d14_74) rfl (l' := #[.val (.ref r0), .val (.int (4 : Int32)), .val (.int p2), .val (.int (own_one x3 (4 : Int32) p2 (3 : Int32))), .val (.int (3 : Int32)), .val (.long (own_low (4 : Int32) (3 : Int32))), .second, .val (.int (own_bey (4 : Int32) p2 (3 : Int32)))]) rfl k) ?_
                        show own_Go X0 (Q14 Z r0 p2 kA x0 x1 x2 x3 h0 n0) 0 0 75 #[.val (.ref r0), .val (.int (4 : Int32)), .val (.int p2), .val (.int (own_one x3 (4 : Int32) p2 (3 : Int32))), .val (.int (3 : Int32)), .val (.long (own_low (4 : Int32) (3 : Int32))), .second, .val (.int (own_bey (4 : Int32) p2 (3 : Int32)))] []
                        refine own_st (fun _ k => XS.iinc X0.here hx rfl (hb hby d14_75) rfl (l' := #[.val (.ref r0), .val (.int (4 : Int32)), .val (.int p2), .val (.int (own_one x3 (4 : Int32) p2 (3 : Int32))), .val (.int (4 : Int32)), .val (.long (own_low (4 : Int32) (3 : Int32))), .second, .val (.int (own_bey (4 : Int32) p2 (3 : Int32)))]) rfl k) ?_
                        show own_Go X0 (Q14 Z r0 p2 kA x0 x1 x2 x3 h0 n0) 0 0 78 #[.val (.ref r0), .val (.int (4 : Int32)), .val (.int p2), .val (.int (own_one x3 (4 : Int32) p2 (3 : Int32))), .val (.int (4 : Int32)), .val (.long (own_low (4 : Int32) (3 : Int32))), .second, .val (.int (own_bey (4 : Int32) p2 (3 : Int32)))] []
                        refine own_st (fun _ k => XS.goto X0.here hx rfl (pc0 := 78) (pc' := 5) rfl (hb hby d14_78) (by decide) (by decide) k) ?_
                        show own_Go X0 (Q14 Z r0 p2 kA x0 x1 x2 x3 h0 n0) 0 0 5 #[.val (.ref r0), .val (.int (4 : Int32)), .val (.int p2), .val (.int (own_one x3 (4 : Int32) p2 (3 : Int32))), .val (.int (4 : Int32)), .val (.long (own_low (4 : Int32) (3 : Int32))), .second, .val (.int (own_bey (4 : Int32) p2 (3 : Int32)))] []
                        refine own_st (fun _ k => XS.iload X0.here hx rfl (hb hby d14_5) rfl k) ?_
                        show own_Go X0 (Q14 Z r0 p2 kA x0 x1 x2 x3 h0 n0) 0 0 7 #[.val (.ref r0), .val (.int (4 : Int32)), .val (.int p2), .val (.int (own_one x3 (4 : Int32) p2 (3 : Int32))), .val (.int (4 : Int32)), .val (.long (own_low (4 : Int32) (3 : Int32))), .second, .val (.int (own_bey (4 : Int32) p2 (3 : Int32)))] [(.int (4 : Int32))]
                        refine own_st (fun _ k => XS.iloadN X0.here hx rfl (hb hby d14_7) rfl k) ?_
                        show own_Go X0 (Q14 Z r0 p2 kA x0 x1 x2 x3 h0 n0) 0 0 8 #[.val (.ref r0), .val (.int (4 : Int32)), .val (.int p2), .val (.int (own_one x3 (4 : Int32) p2 (3 : Int32))), .val (.int (4 : Int32)), .val (.long (own_low (4 : Int32) (3 : Int32))), .second, .val (.int (own_bey (4 : Int32) p2 (3 : Int32)))] [(.int (4 : Int32)), (.int (4 : Int32))]
                        have c8_9 : ¬ ((4 : Int32) < (4 : Int32)) := (by decide)
                        refine own_st (fun _ k => XS.icmpYes X0.here hx rfl (pc0 := 8) (pc' := 81) rfl (hb hby d14_8) rfl (flt c8_9).2.1 (by decide) (by decide) k) ?_
                        show own_Go X0 (Q14 Z r0 p2 kA x0 x1 x2 x3 h0 n0) 0 0 81 #[.val (.ref r0), .val (.int (4 : Int32)), .val (.int p2), .val (.int (own_one x3 (4 : Int32) p2 (3 : Int32))), .val (.int (4 : Int32)), .val (.long (own_low (4 : Int32) (3 : Int32))), .second, .val (.int (own_bey (4 : Int32) p2 (3 : Int32)))] []
                        refine own_st (fun _ k => XS.iloadN X0.here hx rfl (hb hby d14_81) rfl k) ?_
                        show own_Go X0 (Q14 Z r0 p2 kA x0 x1 x2 x3 h0 n0) 0 0 82 #[.val (.ref r0), .val (.int (4 : Int32)), .val (.int p2), .val (.int (own_one x3 (4 : Int32) p2 (3 : Int32))), .val (.int (4 : Int32)), .val (.long (own_low (4 : Int32) (3 : Int32))), .second, .val (.int (own_bey (4 : Int32) p2 (3 : Int32)))] [(.int (own_one x3 (4 : Int32) p2 (3 : Int32)))]
                        refine own_retN X0 hx Bd.returns (by simp) hlk e0 (hb hby d14_82) (by decide) (by decide) ?_
                        have hr : (own_fb4 x0 x1 x2 x3 p2) = (own_one x3 (4 : Int32) p2 (3 : Int32)) := by unfold own_fb4; rw [if_neg c12_4, if_neg c12_6, if_neg c12_8]
                        exact ⟨by rw [hr]; rw [own_oneb], N0, rfl⟩
                      refine own_st (fun _ k => XS.iload X0.here hx rfl (hb hby d14_48) rfl k) ?_
                      show own_Go X0 (Q14 Z r0 p2 kA x0 x1 x2 x3 h0 n0) 0 0 50 #[.val (.ref r0), .val (.int (4 : Int32)), .val (.int p2), .val (.int (own_one x2 (4 : Int32) p2 (2 : Int32))), .val (.int (3 : Int32)), .val (.long (own_low (4 : Int32) (3 : Int32))), .second, .val (.int (own_bey (4 : Int32) p2 (3 : Int32)))] [(.int (own_bey (4 : Int32) p2 (3 : Int32)))]
                      refine own_st (fun _ k => XS.bipush X0.here hx rfl (hb hby d14_50) k) ?_
                      show own_Go X0 (Q14 Z r0 p2 kA x0 x1 x2 x3 h0 n0) 0 0 52 #[.val (.ref r0), .val (.int (4 : Int32)), .val (.int p2), .val (.int (own_one x2 (4 : Int32) p2 (2 : Int32))), .val (.int (3 : Int32)), .val (.long (own_low (4 : Int32) (3 : Int32))), .second, .val (.int (own_bey (4 : Int32) p2 (3 : Int32)))] [(.int (8 : Int32)), (.int (own_bey (4 : Int32) p2 (3 : Int32)))]
                      by_cases c52_10 : (own_bey (4 : Int32) p2 (3 : Int32)) < (8 : Int32)
                      · skip
                        refine own_st (fun _ k => XS.icmpNo X0.here hx rfl (hb hby d14_52) rfl (tlt c52_10).2.1 k) ?_
                        show own_Go X0 (Q14 Z r0 p2 kA x0 x1 x2 x3 h0 n0) 0 0 55 #[.val (.ref r0), .val (.int (4 : Int32)), .val (.int p2), .val (.int (own_one x2 (4 : Int32) p2 (2 : Int32))), .val (.int (3 : Int32)), .val (.long (own_low (4 : Int32) (3 : Int32))), .second, .val (.int (own_bey (4 : Int32) p2 (3 : Int32)))] []
                        refine own_st (fun _ k => XS.aloadN X0.here hx rfl (hb hby d14_55) rfl rfl k) ?_
                        show own_Go X0 (Q14 Z r0 p2 kA x0 x1 x2 x3 h0 n0) 0 0 56 #[.val (.ref r0), .val (.int (4 : Int32)), .val (.int p2), .val (.int (own_one x2 (4 : Int32) p2 (2 : Int32))), .val (.int (3 : Int32)), .val (.long (own_low (4 : Int32) (3 : Int32))), .second, .val (.int (own_bey (4 : Int32) p2 (3 : Int32)))] [(.ref r0)]
                        refine own_st (fun _ k => XS.iload X0.here hx rfl (hb hby d14_56) rfl k) ?_
                        show own_Go X0 (Q14 Z r0 p2 kA x0 x1 x2 x3 h0 n0) 0 0 58 #[.val (.ref r0), .val (.int (4 : Int32)), .val (.int p2), .val (.int (own_one x2 (4 : Int32) p2 (2 : Int32))), .val (.int (3 : Int32)), .val (.long (own_low (4 : Int32) (3 : Int32))), .second, .val (.int (own_bey (4 : Int32) p2 (3 : Int32)))] [(.int (3 : Int32)), (.ref r0)]
                        refine own_st (fun _ k => own_ldB X0 hx hZ e0 PV (j := (3 : Int32)) ⟨by decide, by decide⟩ (v := (.int x3)) rfl (g := (mkF m 58 #[.val (.ref r0), .val (.int (4 : Int32)), .val (.int p2), .val (.int (own_one x2 (4 : Int32) p2 (2 : Int32))), .val (.int (3 : Int32)), .val (.long (own_low (4 : Int32) (3 : Int32))), .second, .val (.int (own_bey (4 : Int32) p2 (3 : Int32)))] [(.int (3 : Int32)), (.ref r0)])) rfl rfl (hb hby d14_58) _ k) ?_
                        show own_Go X0 (Q14 Z r0 p2 kA x0 x1 x2 x3 h0 n0) 0 0 59 #[.val (.ref r0), .val (.int (4 : Int32)), .val (.int p2), .val (.int (own_one x2 (4 : Int32) p2 (2 : Int32))), .val (.int (3 : Int32)), .val (.long (own_low (4 : Int32) (3 : Int32))), .second, .val (.int (own_bey (4 : Int32) p2 (3 : Int32)))] [(.int x3)]
                        refine own_st (fun _ k => XS.sipush X0.here hx rfl (hb hby d14_59) k) ?_
                        show own_Go X0 (Q14 Z r0 p2 kA x0 x1 x2 x3 h0 n0) 0 0 62 #[.val (.ref r0), .val (.int (4 : Int32)), .val (.int p2), .val (.int (own_one x2 (4 : Int32) p2 (2 : Int32))), .val (.int (3 : Int32)), .val (.long (own_low (4 : Int32) (3 : Int32))), .second, .val (.int (own_bey (4 : Int32) p2 (3 : Int32)))] [(.int (255 : Int32)), (.int x3)]
                        refine own_st (fun _ k => XS.iand X0.here hx rfl (hb hby d14_62) rfl k) ?_
                        show own_Go X0 (Q14 Z r0 p2 kA x0 x1 x2 x3 h0 n0) 0 0 63 #[.val (.ref r0), .val (.int (4 : Int32)), .val (.int p2), .val (.int (own_one x2 (4 : Int32) p2 (2 : Int32))), .val (.int (3 : Int32)), .val (.long (own_low (4 : Int32) (3 : Int32))), .second, .val (.int (own_bey (4 : Int32) p2 (3 : Int32)))] [(.int (x3 &&& (255 : Int32)))]
                        refine own_st (fun _ k => XS.iload X0.here hx rfl (hb hby d14_63) rfl k) ?_
                        show own_Go X0 (Q14 Z r0 p2 kA x0 x1 x2 x3 h0 n0) 0 0 65 #[.val (.ref r0), .val (.int (4 : Int32)), .val (.int p2), .val (.int (own_one x2 (4 : Int32) p2 (2 : Int32))), .val (.int (3 : Int32)), .val (.long (own_low (4 : Int32) (3 : Int32))), .second, .val (.int (own_bey (4 : Int32) p2 (3 : Int32)))] [(.int (own_bey (4 : Int32) p2 (3 : Int32))), (.int (x3 &&& (255 : Int32)))]
                        refine own_st (fun _ k => XS.ishr X0.here hx rfl (hb hby d14_65) rfl k) ?_
                        show own_Go X0 (Q14 Z r0 p2 kA x0 x1 x2 x3 h0 n0) 0 0 66 #[.val (.ref r0), .val (.int (4 : Int32)), .val (.int p2), .val (.int (own_one x2 (4 : Int32) p2 (2 : Int32))), .val (.int (3 : Int32)), .val (.long (own_low (4 : Int32) (3 : Int32))), .second, .val (.int (own_bey (4 : Int32) p2 (3 : Int32)))] [(.int ((x3 &&& (255 : Int32)) >>> ((own_bey (4 : Int32) p2 (3 : Int32)) &&& 31)))]
                        by_cases c66_11 : ((x3 &&& (255 : Int32)) >>> ((own_bey (4 : Int32) p2 (3 : Int32)) &&& 31)) = (0 : Int32)
                        · skip
                          refine own_st (fun _ k => XS.ifNo X0.here hx rfl (hb hby d14_66) rfl ((if0 _ _).trans (teq c66_11).2) k) ?_
                          show own_Go X0 (Q14 Z r0 p2 kA x0 x1 x2 x3 h0 n0) 0 0 69 #[.val (.ref r0), .val (.int (4 : Int32)), .val (.int p2), .val (.int (own_one x2 (4 : Int32) p2 (2 : Int32))), .val (.int (3 : Int32)), .val (.long (own_low (4 : Int32) (3 : Int32))), .second, .val (.int (own_bey (4 : Int32) p2 (3 : Int32)))] []
                          refine own_st (fun _ k => XS.iconst X0.here hx rfl (hb hby d14_69) k) ?_
                          show own_Go X0 (Q14 Z r0 p2 kA x0 x1 x2 x3 h0 n0) 0 0 70 #[.val (.ref r0), .val (.int (4 : Int32)), .val (.int p2), .val (.int (own_one x2 (4 : Int32) p2 (2 : Int32))), .val (.int (3 : Int32)), .val (.long (own_low (4 : Int32) (3 : Int32))), .second, .val (.int (own_bey (4 : Int32) p2 (3 : Int32)))] [(.int (1 : Int32))]
                          refine own_st (fun _ k => XS.goto X0.here hx rfl (pc0 := 70) (pc' := 74) rfl (hb hby d14_70) (by decide) (by decide) k) ?_
                          show own_Go X0 (Q14 Z r0 p2 kA x0 x1 x2 x3 h0 n0) 0 0 74 #[.val (.ref r0), .val (.int (4 : Int32)), .val (.int p2), .val (.int (own_one x2 (4 : Int32) p2 (2 : Int32))), .val (.int (3 : Int32)), .val (.long (own_low (4 : Int32) (3 : Int32))), .second, .val (.int (own_bey (4 : Int32) p2 (3 : Int32)))] [(.int (1 : Int32))]
                          exact J74_3 _ (by unfold own_one; rw [if_pos c52_10, if_pos c66_11])
                        · skip
                          refine own_st (fun _ k => XS.ifYes X0.here hx rfl (pc0 := 66) (pc' := 73) rfl (hb hby d14_66) rfl ((if0 _ _).trans (feq c66_11).2) (by decide) (by decide) k) ?_
                          show own_Go X0 (Q14 Z r0 p2 kA x0 x1 x2 x3 h0 n0) 0 0 73 #[.val (.ref r0), .val (.int (4 : Int32)), .val (.int p2), .val (.int (own_one x2 (4 : Int32) p2 (2 : Int32))), .val (.int (3 : Int32)), .val (.long (own_low (4 : Int32) (3 : Int32))), .second, .val (.int (own_bey (4 : Int32) p2 (3 : Int32)))] []
                          refine own_st (fun _ k => XS.iconst X0.here hx rfl (hb hby d14_73) k) ?_
                          show own_Go X0 (Q14 Z r0 p2 kA x0 x1 x2 x3 h0 n0) 0 0 74 #[.val (.ref r0), .val (.int (4 : Int32)), .val (.int p2), .val (.int (own_one x2 (4 : Int32) p2 (2 : Int32))), .val (.int (3 : Int32)), .val (.long (own_low (4 : Int32) (3 : Int32))), .second, .val (.int (own_bey (4 : Int32) p2 (3 : Int32)))] [(.int (0 : Int32))]
                          exact J74_3 _ (by unfold own_one; rw [if_pos c52_10, if_neg c66_11])
                      · skip
                        refine own_st (fun _ k => XS.icmpYes X0.here hx rfl (pc0 := 52) (pc' := 69) rfl (hb hby d14_52) rfl (flt c52_10).2.1 (by decide) (by decide) k) ?_
                        show own_Go X0 (Q14 Z r0 p2 kA x0 x1 x2 x3 h0 n0) 0 0 69 #[.val (.ref r0), .val (.int (4 : Int32)), .val (.int p2), .val (.int (own_one x2 (4 : Int32) p2 (2 : Int32))), .val (.int (3 : Int32)), .val (.long (own_low (4 : Int32) (3 : Int32))), .second, .val (.int (own_bey (4 : Int32) p2 (3 : Int32)))] []
                        refine own_st (fun _ k => XS.iconst X0.here hx rfl (hb hby d14_69) k) ?_
                        show own_Go X0 (Q14 Z r0 p2 kA x0 x1 x2 x3 h0 n0) 0 0 70 #[.val (.ref r0), .val (.int (4 : Int32)), .val (.int p2), .val (.int (own_one x2 (4 : Int32) p2 (2 : Int32))), .val (.int (3 : Int32)), .val (.long (own_low (4 : Int32) (3 : Int32))), .second, .val (.int (own_bey (4 : Int32) p2 (3 : Int32)))] [(.int (1 : Int32))]
                        refine own_st (fun _ k => XS.goto X0.here hx rfl (pc0 := 70) (pc' := 74) rfl (hb hby d14_70) (by decide) (by decide) k) ?_
                        show own_Go X0 (Q14 Z r0 p2 kA x0 x1 x2 x3 h0 n0) 0 0 74 #[.val (.ref r0), .val (.int (4 : Int32)), .val (.int p2), .val (.int (own_one x2 (4 : Int32) p2 (2 : Int32))), .val (.int (3 : Int32)), .val (.long (own_low (4 : Int32) (3 : Int32))), .second, .val (.int (own_bey (4 : Int32) p2 (3 : Int32)))] [(.int (1 : Int32))]
                        exact J74_3 _ (by unfold own_one; rw [if_neg c52_10])
                    refine own_st (fun _ k => XS.lload X0.here hx rfl (hb hby d14_28) rfl k) ?_
                    show own_Go X0 (Q14 Z r0 p2 kA x0 x1 x2 x3 h0 n0) 0 0 30 #[.val (.ref r0), .val (.int (4 : Int32)), .val (.int p2), .val (.int (own_one x2 (4 : Int32) p2 (2 : Int32))), .val (.int (3 : Int32)), .val (.long (own_low (4 : Int32) (3 : Int32))), .second, .val (.int (own_bey (4 : Int32) p2 (2 : Int32)))] [(.long (own_low (4 : Int32) (3 : Int32)))]
                    refine own_st (fun _ k => XS.iloadN X0.here hx rfl (hb hby d14_30) rfl k) ?_
                    show own_Go X0 (Q14 Z r0 p2 kA x0 x1 x2 x3 h0 n0) 0 0 31 #[.val (.ref r0), .val (.int (4 : Int32)), .val (.int p2), .val (.int (own_one x2 (4 : Int32) p2 (2 : Int32))), .val (.int (3 : Int32)), .val (.long (own_low (4 : Int32) (3 : Int32))), .second, .val (.int (own_bey (4 : Int32) p2 (2 : Int32)))] [(.int p2), (.long (own_low (4 : Int32) (3 : Int32)))]
                    refine own_st (fun _ k => XS.i2l X0.here hx rfl (hb hby d14_31) rfl k) ?_
                    show own_Go X0 (Q14 Z r0 p2 kA x0 x1 x2 x3 h0 n0) 0 0 32 #[.val (.ref r0), .val (.int (4 : Int32)), .val (.int p2), .val (.int (own_one x2 (4 : Int32) p2 (2 : Int32))), .val (.int (3 : Int32)), .val (.long (own_low (4 : Int32) (3 : Int32))), .second, .val (.int (own_bey (4 : Int32) p2 (2 : Int32)))] [(.long (p2.toInt64)), (.long (own_low (4 : Int32) (3 : Int32)))]
                    refine own_st (fun _ k => XS.lcmp X0.here hx rfl (hb hby d14_32) rfl k) ?_
                    show own_Go X0 (Q14 Z r0 p2 kA x0 x1 x2 x3 h0 n0) 0 0 33 #[.val (.ref r0), .val (.int (4 : Int32)), .val (.int p2), .val (.int (own_one x2 (4 : Int32) p2 (2 : Int32))), .val (.int (3 : Int32)), .val (.long (own_low (4 : Int32) (3 : Int32))), .second, .val (.int (own_bey (4 : Int32) p2 (2 : Int32)))] [(.int (lcmpW (own_low (4 : Int32) (3 : Int32)) (p2.toInt64)))]
                    by_cases c33_12 : (own_low (4 : Int32) (3 : Int32)) < (p2.toInt64)
                    · skip
                      refine own_st (fun _ k => XS.ifYes X0.here hx rfl (pc0 := 33) (pc' := 40) rfl (hb hby d14_33) rfl ((if0 _ _).trans (tlt ((lw_lt _ _).mpr c33_12)).1) (by decide) (by decide) k) ?_
                      show own_Go X0 (Q14 Z r0 p2 kA x0 x1 x2 x3 h0 n0) 0 0 40 #[.val (.ref r0), .val (.int (4 : Int32)), .val (.int p2), .val (.int (own_one x2 (4 : Int32) p2 (2 : Int32))), .val (.int (3 : Int32)), .val (.long (own_low (4 : Int32) (3 : Int32))), .second, .val (.int (own_bey (4 : Int32) p2 (2 : Int32)))] []
                      refine own_st (fun _ k => XS.iloadN X0.here hx rfl (hb hby d14_40) rfl k) ?_
                      show own_Go X0 (Q14 Z r0 p2 kA x0 x1 x2 x3 h0 n0) 0 0 41 #[.val (.ref r0), .val (.int (4 : Int32)), .val (.int p2), .val (.int (own_one x2 (4 : Int32) p2 (2 : Int32))), .val (.int (3 : Int32)), .val (.long (own_low (4 : Int32) (3 : Int32))), .second, .val (.int (own_bey (4 : Int32) p2 (2 : Int32)))] [(.int p2)]
                      refine own_st (fun _ k => XS.i2l X0.here hx rfl (hb hby d14_41) rfl k) ?_
                      show own_Go X0 (Q14 Z r0 p2 kA x0 x1 x2 x3 h0 n0) 0 0 42 #[.val (.ref r0), .val (.int (4 : Int32)), .val (.int p2), .val (.int (own_one x2 (4 : Int32) p2 (2 : Int32))), .val (.int (3 : Int32)), .val (.long (own_low (4 : Int32) (3 : Int32))), .second, .val (.int (own_bey (4 : Int32) p2 (2 : Int32)))] [(.long (p2.toInt64))]
                      refine own_st (fun _ k => XS.lload X0.here hx rfl (hb hby d14_42) rfl k) ?_
                      show own_Go X0 (Q14 Z r0 p2 kA x0 x1 x2 x3 h0 n0) 0 0 44 #[.val (.ref r0), .val (.int (4 : Int32)), .val (.int p2), .val (.int (own_one x2 (4 : Int32) p2 (2 : Int32))), .val (.int (3 : Int32)), .val (.long (own_low (4 : Int32) (3 : Int32))), .second, .val (.int (own_bey (4 : Int32) p2 (2 : Int32)))] [(.long (own_low (4 : Int32) (3 : Int32))), (.long (p2.toInt64))]
                      refine own_st (fun _ k => XS.lsub X0.here hx rfl (hb hby d14_44) rfl k) ?_
                      show own_Go X0 (Q14 Z r0 p2 kA x0 x1 x2 x3 h0 n0) 0 0 45 #[.val (.ref r0), .val (.int (4 : Int32)), .val (.int p2), .val (.int (own_one x2 (4 : Int32) p2 (2 : Int32))), .val (.int (3 : Int32)), .val (.long (own_low (4 : Int32) (3 : Int32))), .second, .val (.int (own_bey (4 : Int32) p2 (2 : Int32)))] [(.long ((p2.toInt64) - (own_low (4 : Int32) (3 : Int32))))]
                      refine own_st (fun _ k => XS.l2i X0.here hx rfl (hb hby d14_45) rfl k) ?_
                      show own_Go X0 (Q14 Z r0 p2 kA x0 x1 x2 x3 h0 n0) 0 0 46 #[.val (.ref r0), .val (.int (4 : Int32)), .val (.int p2), .val (.int (own_one x2 (4 : Int32) p2 (2 : Int32))), .val (.int (3 : Int32)), .val (.long (own_low (4 : Int32) (3 : Int32))), .second, .val (.int (own_bey (4 : Int32) p2 (2 : Int32)))] [(.int (((p2.toInt64) - (own_low (4 : Int32) (3 : Int32))).toInt32))]
                      exact J46_3 _ (by unfold own_bey; rw [if_pos c33_12])
                    · skip
                      refine own_st (fun _ k => XS.ifNo X0.here hx rfl (hb hby d14_33) rfl ((if0 _ _).trans (flt (fun q => c33_12 ((lw_lt _ _).mp q))).1) k) ?_
                      show own_Go X0 (Q14 Z r0 p2 kA x0 x1 x2 x3 h0 n0) 0 0 36 #[.val (.ref r0), .val (.int (4 : Int32)), .val (.int p2), .val (.int (own_one x2 (4 : Int32) p2 (2 : Int32))), .val (.int (3 : Int32)), .val (.long (own_low (4 : Int32) (3 : Int32))), .second, .val (.int (own_bey (4 : Int32) p2 (2 : Int32)))] []
                      refine own_st (fun _ k => XS.iconst X0.here hx rfl (hb hby d14_36) k) ?_
                      show own_Go X0 (Q14 Z r0 p2 kA x0 x1 x2 x3 h0 n0) 0 0 37 #[.val (.ref r0), .val (.int (4 : Int32)), .val (.int p2), .val (.int (own_one x2 (4 : Int32) p2 (2 : Int32))), .val (.int (3 : Int32)), .val (.long (own_low (4 : Int32) (3 : Int32))), .second, .val (.int (own_bey (4 : Int32) p2 (2 : Int32)))] [(.int (0 : Int32))]
                      refine own_st (fun _ k => XS.goto X0.here hx rfl (pc0 := 37) (pc' := 46) rfl (hb hby d14_37) (by decide) (by decide) k) ?_
                      show own_Go X0 (Q14 Z r0 p2 kA x0 x1 x2 x3 h0 n0) 0 0 46 #[.val (.ref r0), .val (.int (4 : Int32)), .val (.int p2), .val (.int (own_one x2 (4 : Int32) p2 (2 : Int32))), .val (.int (3 : Int32)), .val (.long (own_low (4 : Int32) (3 : Int32))), .second, .val (.int (own_bey (4 : Int32) p2 (2 : Int32)))] [(.int (0 : Int32))]
                      exact J46_3 _ (by unfold own_bey; rw [if_neg c33_12])
                refine own_st (fun _ k => XS.iload X0.here hx rfl (hb hby d14_48) rfl k) ?_
                show own_Go X0 (Q14 Z r0 p2 kA x0 x1 x2 x3 h0 n0) 0 0 50 #[.val (.ref r0), .val (.int (4 : Int32)), .val (.int p2), .val (.int (own_one x1 (4 : Int32) p2 (1 : Int32))), .val (.int (2 : Int32)), .val (.long (own_low (4 : Int32) (2 : Int32))), .second, .val (.int (own_bey (4 : Int32) p2 (2 : Int32)))] [(.int (own_bey (4 : Int32) p2 (2 : Int32)))]
                refine own_st (fun _ k => XS.bipush X0.here hx rfl (hb hby d14_50) k) ?_
                show own_Go X0 (Q14 Z r0 p2 kA x0 x1 x2 x3 h0 n0) 0 0 52 #[.val (.ref r0), .val (.int (4 : Int32)), .val (.int p2), .val (.int (own_one x1 (4 : Int32) p2 (1 : Int32))), .val (.int (2 : Int32)), .val (.long (own_low (4 : Int32) (2 : Int32))), .second, .val (.int (own_bey (4 : Int32) p2 (2 : Int32)))] [(.int (8 : Int32)), (.int (own_bey (4 : Int32) p2 (2 : Int32)))]
                by_cases c52_13 : (own_bey (4 : Int32) p2 (2 : Int32)) < (8 : Int32)
                · skip
                  refine own_st (fun _ k => XS.icmpNo X0.here hx rfl (hb hby d14_52) rfl (tlt c52_13).2.1 k) ?_
                  show own_Go X0 (Q14 Z r0 p2 kA x0 x1 x2 x3 h0 n0) 0 0 55 #[.val (.ref r0), .val (.int (4 : Int32)), .val (.int p2), .val (.int (own_one x1 (4 : Int32) p2 (1 : Int32))), .val (.int (2 : Int32)), .val (.long (own_low (4 : Int32) (2 : Int32))), .second, .val (.int (own_bey (4 : Int32) p2 (2 : Int32)))] []
                  refine own_st (fun _ k => XS.aloadN X0.here hx rfl (hb hby d14_55) rfl rfl k) ?_
                  show own_Go X0 (Q14 Z r0 p2 kA x0 x1 x2 x3 h0 n0) 0 0 56 #[.val (.ref r0), .val (.int (4 : Int32)), .val (.int p2), .val (.int (own_one x1 (4 : Int32) p2 (1 : Int32))), .val (.int (2 : Int32)), .val (.long (own_low (4 : Int32) (2 : Int32))), .second, .val (.int (own_bey (4 : Int32) p2 (2 : Int32)))] [(.ref r0)]
                  refine own_st (fun _ k => XS.iload X0.here hx rfl (hb hby d14_56) rfl k) ?_
                  show own_Go X0 (Q14 Z r0 p2 kA x0 x1 x2 x3 h0 n0) 0 0 58 #[.val (.ref r0), .val (.int (4 : Int32)), .val (.int p2), .val (.int (own_one x1 (4 : Int32) p2 (1 : Int32))), .val (.int (2 : Int32)), .val (.long (own_low (4 : Int32) (2 : Int32))), .second, .val (.int (own_bey (4 : Int32) p2 (2 : Int32)))] [(.int (2 : Int32)), (.ref r0)]
                  refine own_st (fun _ k => own_ldB X0 hx hZ e0 PV (j := (2 : Int32)) ⟨by decide, by decide⟩ (v := (.int x2)) rfl (g := (mkF m 58 #[.val (.ref r0), .val (.int (4 : Int32)), .val (.int p2), .val (.int (own_one x1 (4 : Int32) p2 (1 : Int32))), .val (.int (2 : Int32)), .val (.long (own_low (4 : Int32) (2 : Int32))), .second, .val (.int (own_bey (4 : Int32) p2 (2 : Int32)))] [(.int (2 : Int32)), (.ref r0)])) rfl rfl (hb hby d14_58) _ k) ?_
                  show own_Go X0 (Q14 Z r0 p2 kA x0 x1 x2 x3 h0 n0) 0 0 59 #[.val (.ref r0), .val (.int (4 : Int32)), .val (.int p2), .val (.int (own_one x1 (4 : Int32) p2 (1 : Int32))), .val (.int (2 : Int32)), .val (.long (own_low (4 : Int32) (2 : Int32))), .second, .val (.int (own_bey (4 : Int32) p2 (2 : Int32)))] [(.int x2)]
                  refine own_st (fun _ k => XS.sipush X0.here hx rfl (hb hby d14_59) k) ?_
                  show own_Go X0 (Q14 Z r0 p2 kA x0 x1 x2 x3 h0 n0) 0 0 62 #[.val (.ref r0), .val (.int (4 : Int32)), .val (.int p2), .val (.int (own_one x1 (4 : Int32) p2 (1 : Int32))), .val (.int (2 : Int32)), .val (.long (own_low (4 : Int32) (2 : Int32))), .second, .val (.int (own_bey (4 : Int32) p2 (2 : Int32)))] [(.int (255 : Int32)), (.int x2)]
                  refine own_st (fun _ k => XS.iand X0.here hx rfl (hb hby d14_62) rfl k) ?_
                  show own_Go X0 (Q14 Z r0 p2 kA x0 x1 x2 x3 h0 n0) 0 0 63 #[.val (.ref r0), .val (.int (4 : Int32)), .val (.int p2), .val (.int (own_one x1 (4 : Int32) p2 (1 : Int32))), .val (.int (2 : Int32)), .val (.long (own_low (4 : Int32) (2 : Int32))), .second, .val (.int (own_bey (4 : Int32) p2 (2 : Int32)))] [(.int (x2 &&& (255 : Int32)))]
                  refine own_st (fun _ k => XS.iload X0.here hx rfl (hb hby d14_63) rfl k) ?_
                  show own_Go X0 (Q14 Z r0 p2 kA x0 x1 x2 x3 h0 n0) 0 0 65 #[.val (.ref r0), .val (.int (4 : Int32)), .val (.int p2), .val (.int (own_one x1 (4 : Int32) p2 (1 : Int32))), .val (.int (2 : Int32)), .val (.long (own_low (4 : Int32) (2 : Int32))), .second, .val (.int (own_bey (4 : Int32) p2 (2 : Int32)))] [(.int (own_bey (4 : Int32) p2 (2 : Int32))), (.int (x2 &&& (255 : Int32)))]
                  refine own_st (fun _ k => XS.ishr X0.here hx rfl (hb hby d14_65) rfl k) ?_
                  show own_Go X0 (Q14 Z r0 p2 kA x0 x1 x2 x3 h0 n0) 0 0 66 #[.val (.ref r0), .val (.int (4 : Int32)), .val (.int p2), .val (.int (own_one x1 (4 : Int32) p2 (1 : Int32))), .val (.int (2 : Int32)), .val (.long (own_low (4 : Int32) (2 : Int32))), .second, .val (.int (own_bey (4 : Int32) p2 (2 : Int32)))] [(.int ((x2 &&& (255 : Int32)) >>> ((own_bey (4 : Int32) p2 (2 : Int32)) &&& 31)))]
                  by_cases c66_14 : ((x2 &&& (255 : Int32)) >>> ((own_bey (4 : Int32) p2 (2 : Int32)) &&& 31)) = (0 : Int32)
                  · skip
                    refine own_st (fun _ k => XS.ifNo X0.here hx rfl (hb hby d14_66) rfl ((if0 _ _).trans (teq c66_14).2) k) ?_
                    show own_Go X0 (Q14 Z r0 p2 kA x0 x1 x2 x3 h0 n0) 0 0 69 #[.val (.ref r0), .val (.int (4 : Int32)), .val (.int p2), .val (.int (own_one x1 (4 : Int32) p2 (1 : Int32))), .val (.int (2 : Int32)), .val (.long (own_low (4 : Int32) (2 : Int32))), .second, .val (.int (own_bey (4 : Int32) p2 (2 : Int32)))] []
                    refine own_st (fun _ k => XS.iconst X0.here hx rfl (hb hby d14_69) k) ?_
                    show own_Go X0 (Q14 Z r0 p2 kA x0 x1 x2 x3 h0 n0) 0 0 70 #[.val (.ref r0), .val (.int (4 : Int32)), .val (.int p2), .val (.int (own_one x1 (4 : Int32) p2 (1 : Int32))), .val (.int (2 : Int32)), .val (.long (own_low (4 : Int32) (2 : Int32))), .second, .val (.int (own_bey (4 : Int32) p2 (2 : Int32)))] [(.int (1 : Int32))]
                    refine own_st (fun _ k => XS.goto X0.here hx rfl (pc0 := 70) (pc' := 74) rfl (hb hby d14_70) (by decide) (by decide) k) ?_
                    show own_Go X0 (Q14 Z r0 p2 kA x0 x1 x2 x3 h0 n0) 0 0 74 #[.val (.ref r0), .val (.int (4 : Int32)), .val (.int p2), .val (.int (own_one x1 (4 : Int32) p2 (1 : Int32))), .val (.int (2 : Int32)), .val (.long (own_low (4 : Int32) (2 : Int32))), .second, .val (.int (own_bey (4 : Int32) p2 (2 : Int32)))] [(.int (1 : Int32))]
                    exact J74_2 _ (by unfold own_one; rw [if_pos c52_13, if_pos c66_14])
                  · skip
                    refine own_st (fun _ k => XS.ifYes X0.here hx rfl (pc0 := 66) (pc' := 73) rfl (hb hby d14_66) rfl ((if0 _ _).trans (feq c66_14).2) (by decide) (by decide) k) ?_
                    show own_Go X0 (Q14 Z r0 p2 kA x0 x1 x2 x3 h0 n0) 0 0 73 #[.val (.ref r0), .val (.int (4 : Int32)), .val (.int p2), .val (.int (own_one x1 (4 : Int32) p2 (1 : Int32))), .val (.int (2 : Int32)), .val (.long (own_low (4 : Int32) (2 : Int32))), .second, .val (.int (own_bey (4 : Int32) p2 (2 : Int32)))] []
                    refine own_st (fun _ k => XS.iconst X0.here hx rfl (hb hby d14_73) k) ?_
                    show own_Go X0 (Q14 Z r0 p2 kA x0 x1 x2 x3 h0 n0) 0 0 74 #[.val (.ref r0), .val (.int (4 : Int32)), .val (.int p2), .val (.int (own_one x1 (4 : Int32) p2 (1 : Int32))), .val (.int (2 : Int32)), .val (.long (own_low (4 : Int32) (2 : Int32))), .second, .val (.int (own_bey (4 : Int32) p2 (2 : Int32)))] [(.int (0 : Int32))]
                    exact J74_2 _ (by unfold own_one; rw [if_pos c52_13, if_neg c66_14])
                · skip
                  refine own_st (fun _ k => XS.icmpYes X0.here hx rfl (pc0 := 52) (pc' := 69) rfl (hb hby d14_52) rfl (flt c52_13).2.1 (by decide) (by decide) k) ?_
                  show own_Go X0 (Q14 Z r0 p2 kA x0 x1 x2 x3 h0 n0) 0 0 69 #[.val (.ref r0), .val (.int (4 : Int32)), .val (.int p2), .val (.int (own_one x1 (4 : Int32) p2 (1 : Int32))), .val (.int (2 : Int32)), .val (.long (own_low (4 : Int32) (2 : Int32))), .second, .val (.int (own_bey (4 : Int32) p2 (2 : Int32)))] []
                  refine own_st (fun _ k => XS.iconst X0.here hx rfl (hb hby d14_69) k) ?_
                  show own_Go X0 (Q14 Z r0 p2 kA x0 x1 x2 x3 h0 n0) 0 0 70 #[.val (.ref r0), .val (.int (4 : Int32)), .val (.int p2), .val (.int (own_one x1 (4 : Int32) p2 (1 : Int32))), .val (.int (2 : Int32)), .val (.long (own_low (4 : Int32) (2 : Int32))), .second, .val (.int (own_bey (4 : Int32) p2 (2 : Int32)))] [(.int (1 : Int32))]
                  refine own_st (fun _ k => XS.goto X0.here hx rfl (pc0 := 70) (pc' := 74) rfl (hb hby d14_70) (by decide) (by decide) k) ?_
                  show own_Go X0 (Q14 Z r0 p2 kA x0 x1 x2 x3 h0 n0) 0 0 74 #[.val (.ref r0), .val (.int (4 : Int32)), .val (.int p2), .val (.int (own_one x1 (4 : Int32) p2 (1 : Int32))), .val (.int (2 : Int32)), .val (.long (own_low (4 : Int32) (2 : Int32))), .second, .val (.int (own_bey (4 : Int32) p2 (2 : Int32)))] [(.int (1 : Int32))]
                  exact J74_2 _ (by unfold own_one; rw [if_neg c52_13])
              refine own_st (fun _ k => XS.lload X0.here hx rfl (hb hby d14_28) rfl k) ?_
              show own_Go X0 (Q14 Z r0 p2 kA x0 x1 x2 x3 h0 n0) 0 0 30 #[.val (.ref r0), .val (.int (4 : Int32)), .val (.int p2), .val (.int (own_one x1 (4 : Int32) p2 (1 : Int32))), .val (.int (2 : Int32)), .val (.long (own_low (4 : Int32) (2 : Int32))), .second, .val (.int (own_bey (4 : Int32) p2 (1 : Int32)))] [(.long (own_low (4 : Int32) (2 : Int32)))]
              refine own_st (fun _ k => XS.iloadN X0.here hx rfl (hb hby d14_30) rfl k) ?_
              show own_Go X0 (Q14 Z r0 p2 kA x0 x1 x2 x3 h0 n0) 0 0 31 #[.val (.ref r0), .val (.int (4 : Int32)), .val (.int p2), .val (.int (own_one x1 (4 : Int32) p2 (1 : Int32))), .val (.int (2 : Int32)), .val (.long (own_low (4 : Int32) (2 : Int32))), .second, .val (.int (own_bey (4 : Int32) p2 (1 : Int32)))] [(.int p2), (.long (own_low (4 : Int32) (2 : Int32)))]
              refine own_st (fun _ k => XS.i2l X0.here hx rfl (hb hby d14_31) rfl k) ?_
              show own_Go X0 (Q14 Z r0 p2 kA x0 x1 x2 x3 h0 n0) 0 0 32 #[.val (.ref r0), .val (.int (4 : Int32)), .val (.int p2), .val (.int (own_one x1 (4 : Int32) p2 (1 : Int32))), .val (.int (2 : Int32)), .val (.long (own_low (4 : Int32) (2 : Int32))), .second, .val (.int (own_bey (4 : Int32) p2 (1 : Int32)))] [(.long (p2.toInt64)), (.long (own_low (4 : Int32) (2 : Int32)))]
              refine own_st (fun _ k => XS.lcmp X0.here hx rfl (hb hby d14_32) rfl k) ?_
              show own_Go X0 (Q14 Z r0 p2 kA x0 x1 x2 x3 h0 n0) 0 0 33 #[.val (.ref r0), .val (.int (4 : Int32)), .val (.int p2), .val (.int (own_one x1 (4 : Int32) p2 (1 : Int32))), .val (.int (2 : Int32)), .val (.long (own_low (4 : Int32) (2 : Int32))), .second, .val (.int (own_bey (4 : Int32) p2 (1 : Int32)))] [(.int (lcmpW (own_low (4 : Int32) (2 : Int32)) (p2.toInt64)))]
              by_cases c33_15 : (own_low (4 : Int32) (2 : Int32)) < (p2.toInt64)
              · skip
                refine own_st (fun _ k => XS.ifYes X0.here hx rfl (pc0 := 33) (pc' := 40) rfl (hb hby d14_33) rfl ((if0 _ _).trans (tlt ((lw_lt _ _).mpr c33_15)).1) (by decide) (by decide) k) ?_
                show own_Go X0 (Q14 Z r0 p2 kA x0 x1 x2 x3 h0 n0) 0 0 40 #[.val (.ref r0), .val (.int (4 : Int32)), .val (.int p2), .val (.int (own_one x1 (4 : Int32) p2 (1 : Int32))), .val (.int (2 : Int32)), .val (.long (own_low (4 : Int32) (2 : Int32))), .second, .val (.int (own_bey (4 : Int32) p2 (1 : Int32)))] []
                refine own_st (fun _ k => XS.iloadN X0.here hx rfl (hb hby d14_40) rfl k) ?_
                show own_Go X0 (Q14 Z r0 p2 kA x0 x1 x2 x3 h0 n0) 0 0 41 #[.val (.ref r0), .val (.int (4 : Int32)), .val (.int p2), .val (.int (own_one x1 (4 : Int32) p2 (1 : Int32))), .val (.int (2 : Int32)), .val (.long (own_low (4 : Int32) (2 : Int32))), .second, .val (.int (own_bey (4 : Int32) p2 (1 : Int32)))] [(.int p2)]
                refine own_st (fun _ k => XS.i2l X0.here hx rfl (hb hby d14_41) rfl k) ?_
                show own_Go X0 (Q14 Z r0 p2 kA x0 x1 x2 x3 h0 n0) 0 0 42 #[.val (.ref r0), .val (.int (4 : Int32)), .val (.int p2), .val (.int (own_one x1 (4 : Int32) p2 (1 : Int32))), .val (.int (2 : Int32)), .val (.long (own_low (4 : Int32) (2 : Int32))), .second, .val (.int (own_bey (4 : Int32) p2 (1 : Int32)))] [(.long (p2.toInt64))]
                refine own_st (fun _ k => XS.lload X0.here hx rfl (hb hby d14_42) rfl k) ?_
                show own_Go X0 (Q14 Z r0 p2 kA x0 x1 x2 x3 h0 n0) 0 0 44 #[.val (.ref r0), .val (.int (4 : Int32)), .val (.int p2), .val (.int (own_one x1 (4 : Int32) p2 (1 : Int32))), .val (.int (2 : Int32)), .val (.long (own_low (4 : Int32) (2 : Int32))), .second, .val (.int (own_bey (4 : Int32) p2 (1 : Int32)))] [(.long (own_low (4 : Int32) (2 : Int32))), (.long (p2.toInt64))]
                refine own_st (fun _ k => XS.lsub X0.here hx rfl (hb hby d14_44) rfl k) ?_
                show own_Go X0 (Q14 Z r0 p2 kA x0 x1 x2 x3 h0 n0) 0 0 45 #[.val (.ref r0), .val (.int (4 : Int32)), .val (.int p2), .val (.int (own_one x1 (4 : Int32) p2 (1 : Int32))), .val (.int (2 : Int32)), .val (.long (own_low (4 : Int32) (2 : Int32))), .second, .val (.int (own_bey (4 : Int32) p2 (1 : Int32)))] [(.long ((p2.toInt64) - (own_low (4 : Int32) (2 : Int32))))]
                refine own_st (fun _ k => XS.l2i X0.here hx rfl (hb hby d14_45) rfl k) ?_
                show own_Go X0 (Q14 Z r0 p2 kA x0 x1 x2 x3 h0 n0) 0 0 46 #[.val (.ref r0), .val (.int (4 : Int32)), .val (.int p2), .val (.int (own_one x1 (4 : Int32) p2 (1 : Int32))), .val (.int (2 : Int32)), .val (.long (own_low (4 : Int32) (2 : Int32))), .second, .val (.int (own_bey (4 : Int32) p2 (1 : Int32)))] [(.int (((p2.toInt64) - (own_low (4 : Int32) (2 : Int32))).toInt32))]
                exact J46_2 _ (by unfold own_bey; rw [if_pos c33_15])
              · skip
                refine own_st (fun _ k => XS.ifNo X0.here hx rfl (hb hby d14_33) rfl ((if0 _ _).trans (flt (fun q => c33_15 ((lw_lt _ _).mp q))).1) k) ?_
                show own_Go X0 (Q14 Z r0 p2 kA x0 x1 x2 x3 h0 n0) 0 0 36 #[.val (.ref r0), .val (.int (4 : Int32)), .val (.int p2), .val (.int (own_one x1 (4 : Int32) p2 (1 : Int32))), .val (.int (2 : Int32)), .val (.long (own_low (4 : Int32) (2 : Int32))), .second, .val (.int (own_bey (4 : Int32) p2 (1 : Int32)))] []
                refine own_st (fun _ k => XS.iconst X0.here hx rfl (hb hby d14_36) k) ?_
                show own_Go X0 (Q14 Z r0 p2 kA x0 x1 x2 x3 h0 n0) 0 0 37 #[.val (.ref r0), .val (.int (4 : Int32)), .val (.int p2), .val (.int (own_one x1 (4 : Int32) p2 (1 : Int32))), .val (.int (2 : Int32)), .val (.long (own_low (4 : Int32) (2 : Int32))), .second, .val (.int (own_bey (4 : Int32) p2 (1 : Int32)))] [(.int (0 : Int32))]
                refine own_st (fun _ k => XS.goto X0.here hx rfl (pc0 := 37) (pc' := 46) rfl (hb hby d14_37) (by decide) (by decide) k) ?_
                show own_Go X0 (Q14 Z r0 p2 kA x0 x1 x2 x3 h0 n0) 0 0 46 #[.val (.ref r0), .val (.int (4 : Int32)), .val (.int p2), .val (.int (own_one x1 (4 : Int32) p2 (1 : Int32))), .val (.int (2 : Int32)), .val (.long (own_low (4 : Int32) (2 : Int32))), .second, .val (.int (own_bey (4 : Int32) p2 (1 : Int32)))] [(.int (0 : Int32))]
                exact J46_2 _ (by unfold own_bey; rw [if_neg c33_15])
          refine own_st (fun _ k => XS.iload X0.here hx rfl (hb hby d14_48) rfl k) ?_
          show own_Go X0 (Q14 Z r0 p2 kA x0 x1 x2 x3 h0 n0) 0 0 50 #[.val (.ref r0), .val (.int (4 : Int32)), .val (.int p2), .val (.int (own_one x0 (4 : Int32) p2 (0 : Int32))), .val (.int (1 : Int32)), .val (.long (own_low (4 : Int32) (1 : Int32))), .second, .val (.int (own_bey (4 : Int32) p2 (1 : Int32)))] [(.int (own_bey (4 : Int32) p2 (1 : Int32)))]
          refine own_st (fun _ k => XS.bipush X0.here hx rfl (hb hby d14_50) k) ?_
          show own_Go X0 (Q14 Z r0 p2 kA x0 x1 x2 x3 h0 n0) 0 0 52 #[.val (.ref r0), .val (.int (4 : Int32)), .val (.int p2), .val (.int (own_one x0 (4 : Int32) p2 (0 : Int32))), .val (.int (1 : Int32)), .val (.long (own_low (4 : Int32) (1 : Int32))), .second, .val (.int (own_bey (4 : Int32) p2 (1 : Int32)))] [(.int (8 : Int32)), (.int (own_bey (4 : Int32) p2 (1 : Int32)))]
          by_cases c52_16 : (own_bey (4 : Int32) p2 (1 : Int32)) < (8 : Int32)
          · skip
            refine own_st (fun _ k => XS.icmpNo X0.here hx rfl (hb hby d14_52) rfl (tlt c52_16).2.1 k) ?_
            show own_Go X0 (Q14 Z r0 p2 kA x0 x1 x2 x3 h0 n0) 0 0 55 #[.val (.ref r0), .val (.int (4 : Int32)), .val (.int p2), .val (.int (own_one x0 (4 : Int32) p2 (0 : Int32))), .val (.int (1 : Int32)), .val (.long (own_low (4 : Int32) (1 : Int32))), .second, .val (.int (own_bey (4 : Int32) p2 (1 : Int32)))] []
            refine own_st (fun _ k => XS.aloadN X0.here hx rfl (hb hby d14_55) rfl rfl k) ?_
            show own_Go X0 (Q14 Z r0 p2 kA x0 x1 x2 x3 h0 n0) 0 0 56 #[.val (.ref r0), .val (.int (4 : Int32)), .val (.int p2), .val (.int (own_one x0 (4 : Int32) p2 (0 : Int32))), .val (.int (1 : Int32)), .val (.long (own_low (4 : Int32) (1 : Int32))), .second, .val (.int (own_bey (4 : Int32) p2 (1 : Int32)))] [(.ref r0)]
            refine own_st (fun _ k => XS.iload X0.here hx rfl (hb hby d14_56) rfl k) ?_
            show own_Go X0 (Q14 Z r0 p2 kA x0 x1 x2 x3 h0 n0) 0 0 58 #[.val (.ref r0), .val (.int (4 : Int32)), .val (.int p2), .val (.int (own_one x0 (4 : Int32) p2 (0 : Int32))), .val (.int (1 : Int32)), .val (.long (own_low (4 : Int32) (1 : Int32))), .second, .val (.int (own_bey (4 : Int32) p2 (1 : Int32)))] [(.int (1 : Int32)), (.ref r0)]
            refine own_st (fun _ k => own_ldB X0 hx hZ e0 PV (j := (1 : Int32)) ⟨by decide, by decide⟩ (v := (.int x1)) rfl (g := (mkF m 58 #[.val (.ref r0), .val (.int (4 : Int32)), .val (.int p2), .val (.int (own_one x0 (4 : Int32) p2 (0 : Int32))), .val (.int (1 : Int32)), .val (.long (own_low (4 : Int32) (1 : Int32))), .second, .val (.int (own_bey (4 : Int32) p2 (1 : Int32)))] [(.int (1 : Int32)), (.ref r0)])) rfl rfl (hb hby d14_58) _ k) ?_
            show own_Go X0 (Q14 Z r0 p2 kA x0 x1 x2 x3 h0 n0) 0 0 59 #[.val (.ref r0), .val (.int (4 : Int32)), .val (.int p2), .val (.int (own_one x0 (4 : Int32) p2 (0 : Int32))), .val (.int (1 : Int32)), .val (.long (own_low (4 : Int32) (1 : Int32))), .second, .val (.int (own_bey (4 : Int32) p2 (1 : Int32)))] [(.int x1)]
            refine own_st (fun _ k => XS.sipush X0.here hx rfl (hb hby d14_59) k) ?_
            show own_Go X0 (Q14 Z r0 p2 kA x0 x1 x2 x3 h0 n0) 0 0 62 #[.val (.ref r0), .val (.int (4 : Int32)), .val (.int p2), .val (.int (own_one x0 (4 : Int32) p2 (0 : Int32))), .val (.int (1 : Int32)), .val (.long (own_low (4 : Int32) (1 : Int32))), .second, .val (.int (own_bey (4 : Int32) p2 (1 : Int32)))] [(.int (255 : Int32)), (.int x1)]
            refine own_st (fun _ k => XS.iand X0.here hx rfl (hb hby d14_62) rfl k) ?_
            show own_Go X0 (Q14 Z r0 p2 kA x0 x1 x2 x3 h0 n0) 0 0 63 #[.val (.ref r0), .val (.int (4 : Int32)), .val (.int p2), .val (.int (own_one x0 (4 : Int32) p2 (0 : Int32))), .val (.int (1 : Int32)), .val (.long (own_low (4 : Int32) (1 : Int32))), .second, .val (.int (own_bey (4 : Int32) p2 (1 : Int32)))] [(.int (x1 &&& (255 : Int32)))]
            refine own_st (fun _ k => XS.iload X0.here hx rfl (hb hby d14_63) rfl k) ?_
            show own_Go X0 (Q14 Z r0 p2 kA x0 x1 x2 x3 h0 n0) 0 0 65 #[.val (.ref r0), .val (.int (4 : Int32)), .val (.int p2), .val (.int (own_one x0 (4 : Int32) p2 (0 : Int32))), .val (.int (1 : Int32)), .val (.long (own_low (4 : Int32) (1 : Int32))), .second, .val (.int (own_bey (4 : Int32) p2 (1 : Int32)))] [(.int (own_bey (4 : Int32) p2 (1 : Int32))), (.int (x1 &&& (255 : Int32)))]
            refine own_st (fun _ k => XS.ishr X0.here hx rfl (hb hby d14_65) rfl k) ?_
            show own_Go X0 (Q14 Z r0 p2 kA x0 x1 x2 x3 h0 n0) 0 0 66 #[.val (.ref r0), .val (.int (4 : Int32)), .val (.int p2), .val (.int (own_one x0 (4 : Int32) p2 (0 : Int32))), .val (.int (1 : Int32)), .val (.long (own_low (4 : Int32) (1 : Int32))), .second, .val (.int (own_bey (4 : Int32) p2 (1 : Int32)))] [(.int ((x1 &&& (255 : Int32)) >>> ((own_bey (4 : Int32) p2 (1 : Int32)) &&& 31)))]
            by_cases c66_17 : ((x1 &&& (255 : Int32)) >>> ((own_bey (4 : Int32) p2 (1 : Int32)) &&& 31)) = (0 : Int32)
            · skip
              refine own_st (fun _ k => XS.ifNo X0.here hx rfl (hb hby d14_66) rfl ((if0 _ _).trans (teq c66_17).2) k) ?_
              show own_Go X0 (Q14 Z r0 p2 kA x0 x1 x2 x3 h0 n0) 0 0 69 #[.val (.ref r0), .val (.int (4 : Int32)), .val (.int p2), .val (.int (own_one x0 (4 : Int32) p2 (0 : Int32))), .val (.int (1 : Int32)), .val (.long (own_low (4 : Int32) (1 : Int32))), .second, .val (.int (own_bey (4 : Int32) p2 (1 : Int32)))] []
              refine own_st (fun _ k => XS.iconst X0.here hx rfl (hb hby d14_69) k) ?_
              show own_Go X0 (Q14 Z r0 p2 kA x0 x1 x2 x3 h0 n0) 0 0 70 #[.val (.ref r0), .val (.int (4 : Int32)), .val (.int p2), .val (.int (own_one x0 (4 : Int32) p2 (0 : Int32))), .val (.int (1 : Int32)), .val (.long (own_low (4 : Int32) (1 : Int32))), .second, .val (.int (own_bey (4 : Int32) p2 (1 : Int32)))] [(.int (1 : Int32))]
              refine own_st (fun _ k => XS.goto X0.here hx rfl (pc0 := 70) (pc' := 74) rfl (hb hby d14_70) (by decide) (by decide) k) ?_
              show own_Go X0 (Q14 Z r0 p2 kA x0 x1 x2 x3 h0 n0) 0 0 74 #[.val (.ref r0), .val (.int (4 : Int32)), .val (.int p2), .val (.int (own_one x0 (4 : Int32) p2 (0 : Int32))), .val (.int (1 : Int32)), .val (.long (own_low (4 : Int32) (1 : Int32))), .second, .val (.int (own_bey (4 : Int32) p2 (1 : Int32)))] [(.int (1 : Int32))]
              exact J74_1 _ (by unfold own_one; rw [if_pos c52_16, if_pos c66_17])
            · skip
              refine own_st (fun _ k => XS.ifYes X0.here hx rfl (pc0 := 66) (pc' := 73) rfl (hb hby d14_66) rfl ((if0 _ _).trans (feq c66_17).2) (by decide) (by decide) k) ?_
              show own_Go X0 (Q14 Z r0 p2 kA x0 x1 x2 x3 h0 n0) 0 0 73 #[.val (.ref r0), .val (.int (4 : Int32)), .val (.int p2), .val (.int (own_one x0 (4 : Int32) p2 (0 : Int32))), .val (.int (1 : Int32)), .val (.long (own_low (4 : Int32) (1 : Int32))), .second, .val (.int (own_bey (4 : Int32) p2 (1 : Int32)))] []
              refine own_st (fun _ k => XS.iconst X0.here hx rfl (hb hby d14_73) k) ?_
              show own_Go X0 (Q14 Z r0 p2 kA x0 x1 x2 x3 h0 n0) 0 0 74 #[.val (.ref r0), .val (.int (4 : Int32)), .val (.int p2), .val (.int (own_one x0 (4 : Int32) p2 (0 : Int32))), .val (.int (1 : Int32)), .val (.long (own_low (4 : Int32) (1 : Int32))), .second, .val (.int (own_bey (4 : Int32) p2 (1 : Int32)))] [(.int (0 : Int32))]
              exact J74_1 _ (by unfold own_one; rw [if_pos c52_16, if_neg c66_17])
          · skip
            refine own_st (fun _ k => XS.icmpYes X0.here hx rfl (pc0 := 52) (pc' := 69) rfl (hb hby d14_52) rfl (flt c52_16).2.1 (by decide) (by decide) k) ?_
            show own_Go X0 (Q14 Z r0 p2 kA x0 x1 x2 x3 h0 n0) 0 0 69 #[.val (.ref r0), .val (.int (4 : Int32)), .val (.int p2), .val (.int (own_one x0 (4 : Int32) p2 (0 : Int32))), .val (.int (1 : Int32)), .val (.long (own_low (4 : Int32) (1 : Int32))), .second, .val (.int (own_bey (4 : Int32) p2 (1 : Int32)))] []
            refine own_st (fun _ k => XS.iconst X0.here hx rfl (hb hby d14_69) k) ?_
            show own_Go X0 (Q14 Z r0 p2 kA x0 x1 x2 x3 h0 n0) 0 0 70 #[.val (.ref r0), .val (.int (4 : Int32)), .val (.int p2), .val (.int (own_one x0 (4 : Int32) p2 (0 : Int32))), .val (.int (1 : Int32)), .val (.long (own_low (4 : Int32) (1 : Int32))), .second, .val (.int (own_bey (4 : Int32) p2 (1 : Int32)))] [(.int (1 : Int32))]
            refine own_st (fun _ k => XS.goto X0.here hx rfl (pc0 := 70) (pc' := 74) rfl (hb hby d14_70) (by decide) (by decide) k) ?_
            show own_Go X0 (Q14 Z r0 p2 kA x0 x1 x2 x3 h0 n0) 0 0 74 #[.val (.ref r0), .val (.int (4 : Int32)), .val (.int p2), .val (.int (own_one x0 (4 : Int32) p2 (0 : Int32))), .val (.int (1 : Int32)), .val (.long (own_low (4 : Int32) (1 : Int32))), .second, .val (.int (own_bey (4 : Int32) p2 (1 : Int32)))] [(.int (1 : Int32))]
            exact J74_1 _ (by unfold own_one; rw [if_neg c52_16])
        refine own_st (fun _ k => XS.lload X0.here hx rfl (hb hby d14_28) rfl k) ?_
        show own_Go X0 (Q14 Z r0 p2 kA x0 x1 x2 x3 h0 n0) 0 0 30 #[.val (.ref r0), .val (.int (4 : Int32)), .val (.int p2), .val (.int (own_one x0 (4 : Int32) p2 (0 : Int32))), .val (.int (1 : Int32)), .val (.long (own_low (4 : Int32) (1 : Int32))), .second, .val (.int (own_bey (4 : Int32) p2 (0 : Int32)))] [(.long (own_low (4 : Int32) (1 : Int32)))]
        refine own_st (fun _ k => XS.iloadN X0.here hx rfl (hb hby d14_30) rfl k) ?_
        show own_Go X0 (Q14 Z r0 p2 kA x0 x1 x2 x3 h0 n0) 0 0 31 #[.val (.ref r0), .val (.int (4 : Int32)), .val (.int p2), .val (.int (own_one x0 (4 : Int32) p2 (0 : Int32))), .val (.int (1 : Int32)), .val (.long (own_low (4 : Int32) (1 : Int32))), .second, .val (.int (own_bey (4 : Int32) p2 (0 : Int32)))] [(.int p2), (.long (own_low (4 : Int32) (1 : Int32)))]
        refine own_st (fun _ k => XS.i2l X0.here hx rfl (hb hby d14_31) rfl k) ?_
        show own_Go X0 (Q14 Z r0 p2 kA x0 x1 x2 x3 h0 n0) 0 0 32 #[.val (.ref r0), .val (.int (4 : Int32)), .val (.int p2), .val (.int (own_one x0 (4 : Int32) p2 (0 : Int32))), .val (.int (1 : Int32)), .val (.long (own_low (4 : Int32) (1 : Int32))), .second, .val (.int (own_bey (4 : Int32) p2 (0 : Int32)))] [(.long (p2.toInt64)), (.long (own_low (4 : Int32) (1 : Int32)))]
        refine own_st (fun _ k => XS.lcmp X0.here hx rfl (hb hby d14_32) rfl k) ?_
        show own_Go X0 (Q14 Z r0 p2 kA x0 x1 x2 x3 h0 n0) 0 0 33 #[.val (.ref r0), .val (.int (4 : Int32)), .val (.int p2), .val (.int (own_one x0 (4 : Int32) p2 (0 : Int32))), .val (.int (1 : Int32)), .val (.long (own_low (4 : Int32) (1 : Int32))), .second, .val (.int (own_bey (4 : Int32) p2 (0 : Int32)))] [(.int (lcmpW (own_low (4 : Int32) (1 : Int32)) (p2.toInt64)))]
        by_cases c33_18 : (own_low (4 : Int32) (1 : Int32)) < (p2.toInt64)
        · skip
          refine own_st (fun _ k => XS.ifYes X0.here hx rfl (pc0 := 33) (pc' := 40) rfl (hb hby d14_33) rfl ((if0 _ _).trans (tlt ((lw_lt _ _).mpr c33_18)).1) (by decide) (by decide) k) ?_
          show own_Go X0 (Q14 Z r0 p2 kA x0 x1 x2 x3 h0 n0) 0 0 40 #[.val (.ref r0), .val (.int (4 : Int32)), .val (.int p2), .val (.int (own_one x0 (4 : Int32) p2 (0 : Int32))), .val (.int (1 : Int32)), .val (.long (own_low (4 : Int32) (1 : Int32))), .second, .val (.int (own_bey (4 : Int32) p2 (0 : Int32)))] []
          refine own_st (fun _ k => XS.iloadN X0.here hx rfl (hb hby d14_40) rfl k) ?_
          show own_Go X0 (Q14 Z r0 p2 kA x0 x1 x2 x3 h0 n0) 0 0 41 #[.val (.ref r0), .val (.int (4 : Int32)), .val (.int p2), .val (.int (own_one x0 (4 : Int32) p2 (0 : Int32))), .val (.int (1 : Int32)), .val (.long (own_low (4 : Int32) (1 : Int32))), .second, .val (.int (own_bey (4 : Int32) p2 (0 : Int32)))] [(.int p2)]
          refine own_st (fun _ k => XS.i2l X0.here hx rfl (hb hby d14_41) rfl k) ?_
          show own_Go X0 (Q14 Z r0 p2 kA x0 x1 x2 x3 h0 n0) 0 0 42 #[.val (.ref r0), .val (.int (4 : Int32)), .val (.int p2), .val (.int (own_one x0 (4 : Int32) p2 (0 : Int32))), .val (.int (1 : Int32)), .val (.long (own_low (4 : Int32) (1 : Int32))), .second, .val (.int (own_bey (4 : Int32) p2 (0 : Int32)))] [(.long (p2.toInt64))]
          refine own_st (fun _ k => XS.lload X0.here hx rfl (hb hby d14_42) rfl k) ?_
          show own_Go X0 (Q14 Z r0 p2 kA x0 x1 x2 x3 h0 n0) 0 0 44 #[.val (.ref r0), .val (.int (4 : Int32)), .val (.int p2), .val (.int (own_one x0 (4 : Int32) p2 (0 : Int32))), .val (.int (1 : Int32)), .val (.long (own_low (4 : Int32) (1 : Int32))), .second, .val (.int (own_bey (4 : Int32) p2 (0 : Int32)))] [(.long (own_low (4 : Int32) (1 : Int32))), (.long (p2.toInt64))]
          refine own_st (fun _ k => XS.lsub X0.here hx rfl (hb hby d14_44) rfl k) ?_
          show own_Go X0 (Q14 Z r0 p2 kA x0 x1 x2 x3 h0 n0) 0 0 45 #[.val (.ref r0), .val (.int (4 : Int32)), .val (.int p2), .val (.int (own_one x0 (4 : Int32) p2 (0 : Int32))), .val (.int (1 : Int32)), .val (.long (own_low (4 : Int32) (1 : Int32))), .second, .val (.int (own_bey (4 : Int32) p2 (0 : Int32)))] [(.long ((p2.toInt64) - (own_low (4 : Int32) (1 : Int32))))]
          refine own_st (fun _ k => XS.l2i X0.here hx rfl (hb hby d14_45) rfl k) ?_
          show own_Go X0 (Q14 Z r0 p2 kA x0 x1 x2 x3 h0 n0) 0 0 46 #[.val (.ref r0), .val (.int (4 : Int32)), .val (.int p2), .val (.int (own_one x0 (4 : Int32) p2 (0 : Int32))), .val (.int (1 : Int32)), .val (.long (own_low (4 : Int32) (1 : Int32))), .second, .val (.int (own_bey (4 : Int32) p2 (0 : Int32)))] [(.int (((p2.toInt64) - (own_low (4 : Int32) (1 : Int32))).toInt32))]
          exact J46_1 _ (by unfold own_bey; rw [if_pos c33_18])
        · skip
          refine own_st (fun _ k => XS.ifNo X0.here hx rfl (hb hby d14_33) rfl ((if0 _ _).trans (flt (fun q => c33_18 ((lw_lt _ _).mp q))).1) k) ?_
          show own_Go X0 (Q14 Z r0 p2 kA x0 x1 x2 x3 h0 n0) 0 0 36 #[.val (.ref r0), .val (.int (4 : Int32)), .val (.int p2), .val (.int (own_one x0 (4 : Int32) p2 (0 : Int32))), .val (.int (1 : Int32)), .val (.long (own_low (4 : Int32) (1 : Int32))), .second, .val (.int (own_bey (4 : Int32) p2 (0 : Int32)))] []
          refine own_st (fun _ k => XS.iconst X0.here hx rfl (hb hby d14_36) k) ?_
          show own_Go X0 (Q14 Z r0 p2 kA x0 x1 x2 x3 h0 n0) 0 0 37 #[.val (.ref r0), .val (.int (4 : Int32)), .val (.int p2), .val (.int (own_one x0 (4 : Int32) p2 (0 : Int32))), .val (.int (1 : Int32)), .val (.long (own_low (4 : Int32) (1 : Int32))), .second, .val (.int (own_bey (4 : Int32) p2 (0 : Int32)))] [(.int (0 : Int32))]
          refine own_st (fun _ k => XS.goto X0.here hx rfl (pc0 := 37) (pc' := 46) rfl (hb hby d14_37) (by decide) (by decide) k) ?_
          show own_Go X0 (Q14 Z r0 p2 kA x0 x1 x2 x3 h0 n0) 0 0 46 #[.val (.ref r0), .val (.int (4 : Int32)), .val (.int p2), .val (.int (own_one x0 (4 : Int32) p2 (0 : Int32))), .val (.int (1 : Int32)), .val (.long (own_low (4 : Int32) (1 : Int32))), .second, .val (.int (own_bey (4 : Int32) p2 (0 : Int32)))] [(.int (0 : Int32))]
          exact J46_1 _ (by unfold own_bey; rw [if_neg c33_18])
    refine own_st (fun _ k => XS.iload X0.here hx rfl (hb hby d14_48) rfl k) ?_
    show own_Go X0 (Q14 Z r0 p2 kA x0 x1 x2 x3 h0 n0) 0 0 50 #[.val (.ref r0), .val (.int (4 : Int32)), .val (.int p2), .val (.int (1 : Int32)), .val (.int (0 : Int32)), .val (.long (own_low (4 : Int32) (0 : Int32))), .second, .val (.int (own_bey (4 : Int32) p2 (0 : Int32)))] [(.int (own_bey (4 : Int32) p2 (0 : Int32)))]
    refine own_st (fun _ k => XS.bipush X0.here hx rfl (hb hby d14_50) k) ?_
    show own_Go X0 (Q14 Z r0 p2 kA x0 x1 x2 x3 h0 n0) 0 0 52 #[.val (.ref r0), .val (.int (4 : Int32)), .val (.int p2), .val (.int (1 : Int32)), .val (.int (0 : Int32)), .val (.long (own_low (4 : Int32) (0 : Int32))), .second, .val (.int (own_bey (4 : Int32) p2 (0 : Int32)))] [(.int (8 : Int32)), (.int (own_bey (4 : Int32) p2 (0 : Int32)))]
    by_cases c52_19 : (own_bey (4 : Int32) p2 (0 : Int32)) < (8 : Int32)
    · skip
      refine own_st (fun _ k => XS.icmpNo X0.here hx rfl (hb hby d14_52) rfl (tlt c52_19).2.1 k) ?_
      show own_Go X0 (Q14 Z r0 p2 kA x0 x1 x2 x3 h0 n0) 0 0 55 #[.val (.ref r0), .val (.int (4 : Int32)), .val (.int p2), .val (.int (1 : Int32)), .val (.int (0 : Int32)), .val (.long (own_low (4 : Int32) (0 : Int32))), .second, .val (.int (own_bey (4 : Int32) p2 (0 : Int32)))] []
      refine own_st (fun _ k => XS.aloadN X0.here hx rfl (hb hby d14_55) rfl rfl k) ?_
      show own_Go X0 (Q14 Z r0 p2 kA x0 x1 x2 x3 h0 n0) 0 0 56 #[.val (.ref r0), .val (.int (4 : Int32)), .val (.int p2), .val (.int (1 : Int32)), .val (.int (0 : Int32)), .val (.long (own_low (4 : Int32) (0 : Int32))), .second, .val (.int (own_bey (4 : Int32) p2 (0 : Int32)))] [(.ref r0)]
      refine own_st (fun _ k => XS.iload X0.here hx rfl (hb hby d14_56) rfl k) ?_
      show own_Go X0 (Q14 Z r0 p2 kA x0 x1 x2 x3 h0 n0) 0 0 58 #[.val (.ref r0), .val (.int (4 : Int32)), .val (.int p2), .val (.int (1 : Int32)), .val (.int (0 : Int32)), .val (.long (own_low (4 : Int32) (0 : Int32))), .second, .val (.int (own_bey (4 : Int32) p2 (0 : Int32)))] [(.int (0 : Int32)), (.ref r0)]
      refine own_st (fun _ k => own_ldB X0 hx hZ e0 PV (j := (0 : Int32)) ⟨by decide, by decide⟩ (v := (.int x0)) rfl (g := (mkF m 58 #[.val (.ref r0), .val (.int (4 : Int32)), .val (.int p2), .val (.int (1 : Int32)), .val (.int (0 : Int32)), .val (.long (own_low (4 : Int32) (0 : Int32))), .second, .val (.int (own_bey (4 : Int32) p2 (0 : Int32)))] [(.int (0 : Int32)), (.ref r0)])) rfl rfl (hb hby d14_58) _ k) ?_
      show own_Go X0 (Q14 Z r0 p2 kA x0 x1 x2 x3 h0 n0) 0 0 59 #[.val (.ref r0), .val (.int (4 : Int32)), .val (.int p2), .val (.int (1 : Int32)), .val (.int (0 : Int32)), .val (.long (own_low (4 : Int32) (0 : Int32))), .second, .val (.int (own_bey (4 : Int32) p2 (0 : Int32)))] [(.int x0)]
      refine own_st (fun _ k => XS.sipush X0.here hx rfl (hb hby d14_59) k) ?_
      show own_Go X0 (Q14 Z r0 p2 kA x0 x1 x2 x3 h0 n0) 0 0 62 #[.val (.ref r0), .val (.int (4 : Int32)), .val (.int p2), .val (.int (1 : Int32)), .val (.int (0 : Int32)), .val (.long (own_low (4 : Int32) (0 : Int32))), .second, .val (.int (own_bey (4 : Int32) p2 (0 : Int32)))] [(.int (255 : Int32)), (.int x0)]
      refine own_st (fun _ k => XS.iand X0.here hx rfl (hb hby d14_62) rfl k) ?_
      show own_Go X0 (Q14 Z r0 p2 kA x0 x1 x2 x3 h0 n0) 0 0 63 #[.val (.ref r0), .val (.int (4 : Int32)), .val (.int p2), .val (.int (1 : Int32)), .val (.int (0 : Int32)), .val (.long (own_low (4 : Int32) (0 : Int32))), .second, .val (.int (own_bey (4 : Int32) p2 (0 : Int32)))] [(.int (x0 &&& (255 : Int32)))]
      refine own_st (fun _ k => XS.iload X0.here hx rfl (hb hby d14_63) rfl k) ?_
      show own_Go X0 (Q14 Z r0 p2 kA x0 x1 x2 x3 h0 n0) 0 0 65 #[.val (.ref r0), .val (.int (4 : Int32)), .val (.int p2), .val (.int (1 : Int32)), .val (.int (0 : Int32)), .val (.long (own_low (4 : Int32) (0 : Int32))), .second, .val (.int (own_bey (4 : Int32) p2 (0 : Int32)))] [(.int (own_bey (4 : Int32) p2 (0 : Int32))), (.int (x0 &&& (255 : Int32)))]
      refine own_st (fun _ k => XS.ishr X0.here hx rfl (hb hby d14_65) rfl k) ?_
      show own_Go X0 (Q14 Z r0 p2 kA x0 x1 x2 x3 h0 n0) 0 0 66 #[.val (.ref r0), .val (.int (4 : Int32)), .val (.int p2), .val (.int (1 : Int32)), .val (.int (0 : Int32)), .val (.long (own_low (4 : Int32) (0 : Int32))), .second, .val (.int (own_bey (4 : Int32) p2 (0 : Int32)))] [(.int ((x0 &&& (255 : Int32)) >>> ((own_bey (4 : Int32) p2 (0 : Int32)) &&& 31)))]
      by_cases c66_20 : ((x0 &&& (255 : Int32)) >>> ((own_bey (4 : Int32) p2 (0 : Int32)) &&& 31)) = (0 : Int32)
      · skip
        refine own_st (fun _ k => XS.ifNo X0.here hx rfl (hb hby d14_66) rfl ((if0 _ _).trans (teq c66_20).2) k) ?_
        show own_Go X0 (Q14 Z r0 p2 kA x0 x1 x2 x3 h0 n0) 0 0 69 #[.val (.ref r0), .val (.int (4 : Int32)), .val (.int p2), .val (.int (1 : Int32)), .val (.int (0 : Int32)), .val (.long (own_low (4 : Int32) (0 : Int32))), .second, .val (.int (own_bey (4 : Int32) p2 (0 : Int32)))] []
        refine own_st (fun _ k => XS.iconst X0.here hx rfl (hb hby d14_69) k) ?_
        show own_Go X0 (Q14 Z r0 p2 kA x0 x1 x2 x3 h0 n0) 0 0 70 #[.val (.ref r0), .val (.int (4 : Int32)), .val (.int p2), .val (.int (1 : Int32)), .val (.int (0 : Int32)), .val (.long (own_low (4 : Int32) (0 : Int32))), .second, .val (.int (own_bey (4 : Int32) p2 (0 : Int32)))] [(.int (1 : Int32))]
        refine own_st (fun _ k => XS.goto X0.here hx rfl (pc0 := 70) (pc' := 74) rfl (hb hby d14_70) (by decide) (by decide) k) ?_
        show own_Go X0 (Q14 Z r0 p2 kA x0 x1 x2 x3 h0 n0) 0 0 74 #[.val (.ref r0), .val (.int (4 : Int32)), .val (.int p2), .val (.int (1 : Int32)), .val (.int (0 : Int32)), .val (.long (own_low (4 : Int32) (0 : Int32))), .second, .val (.int (own_bey (4 : Int32) p2 (0 : Int32)))] [(.int (1 : Int32))]
        exact J74_0 _ (by unfold own_one; rw [if_pos c52_19, if_pos c66_20])
      · skip
        refine own_st (fun _ k => XS.ifYes X0.here hx rfl (pc0 := 66) (pc' := 73) rfl (hb hby d14_66) rfl ((if0 _ _).trans (feq c66_20).2) (by decide) (by decide) k) ?_
        show own_Go X0 (Q14 Z r0 p2 kA x0 x1 x2 x3 h0 n0) 0 0 73 #[.val (.ref r0), .val (.int (4 : Int32)), .val (.int p2), .val (.int (1 : Int32)), .val (.int (0 : Int32)), .val (.long (own_low (4 : Int32) (0 : Int32))), .second, .val (.int (own_bey (4 : Int32) p2 (0 : Int32)))] []
        refine own_st (fun _ k => XS.iconst X0.here hx rfl (hb hby d14_73) k) ?_
        show own_Go X0 (Q14 Z r0 p2 kA x0 x1 x2 x3 h0 n0) 0 0 74 #[.val (.ref r0), .val (.int (4 : Int32)), .val (.int p2), .val (.int (1 : Int32)), .val (.int (0 : Int32)), .val (.long (own_low (4 : Int32) (0 : Int32))), .second, .val (.int (own_bey (4 : Int32) p2 (0 : Int32)))] [(.int (0 : Int32))]
        exact J74_0 _ (by unfold own_one; rw [if_pos c52_19, if_neg c66_20])
    · skip
      refine own_st (fun _ k => XS.icmpYes X0.here hx rfl (pc0 := 52) (pc' := 69) rfl (hb hby d14_52) rfl (flt c52_19).2.1 (by decide) (by decide) k) ?_
      show own_Go X0 (Q14 Z r0 p2 kA x0 x1 x2 x3 h0 n0) 0 0 69 #[.val (.ref r0), .val (.int (4 : Int32)), .val (.int p2), .val (.int (1 : Int32)), .val (.int (0 : Int32)), .val (.long (own_low (4 : Int32) (0 : Int32))), .second, .val (.int (own_bey (4 : Int32) p2 (0 : Int32)))] []
      refine own_st (fun _ k => XS.iconst X0.here hx rfl (hb hby d14_69) k) ?_
      show own_Go X0 (Q14 Z r0 p2 kA x0 x1 x2 x3 h0 n0) 0 0 70 #[.val (.ref r0), .val (.int (4 : Int32)), .val (.int p2), .val (.int (1 : Int32)), .val (.int (0 : Int32)), .val (.long (own_low (4 : Int32) (0 : Int32))), .second, .val (.int (own_bey (4 : Int32) p2 (0 : Int32)))] [(.int (1 : Int32))]
      refine own_st (fun _ k => XS.goto X0.here hx rfl (pc0 := 70) (pc' := 74) rfl (hb hby d14_70) (by decide) (by decide) k) ?_
      show own_Go X0 (Q14 Z r0 p2 kA x0 x1 x2 x3 h0 n0) 0 0 74 #[.val (.ref r0), .val (.int (4 : Int32)), .val (.int p2), .val (.int (1 : Int32)), .val (.int (0 : Int32)), .val (.long (own_low (4 : Int32) (0 : Int32))), .second, .val (.int (own_bey (4 : Int32) p2 (0 : Int32)))] [(.int (1 : Int32))]
      exact J74_0 _ (by unfold own_one; rw [if_neg c52_19])
  refine own_st (fun _ k => XS.lload X0.here hx rfl (hb hby d14_28) rfl k) ?_
  show own_Go X0 (Q14 Z r0 p2 kA x0 x1 x2 x3 h0 n0) 0 0 30 #[.val (.ref r0), .val (.int (4 : Int32)), .val (.int p2), .val (.int (1 : Int32)), .val (.int (0 : Int32)), .val (.long (own_low (4 : Int32) (0 : Int32))), .second, .unset] [(.long (own_low (4 : Int32) (0 : Int32)))]
  refine own_st (fun _ k => XS.iloadN X0.here hx rfl (hb hby d14_30) rfl k) ?_
  show own_Go X0 (Q14 Z r0 p2 kA x0 x1 x2 x3 h0 n0) 0 0 31 #[.val (.ref r0), .val (.int (4 : Int32)), .val (.int p2), .val (.int (1 : Int32)), .val (.int (0 : Int32)), .val (.long (own_low (4 : Int32) (0 : Int32))), .second, .unset] [(.int p2), (.long (own_low (4 : Int32) (0 : Int32)))]
  refine own_st (fun _ k => XS.i2l X0.here hx rfl (hb hby d14_31) rfl k) ?_
  show own_Go X0 (Q14 Z r0 p2 kA x0 x1 x2 x3 h0 n0) 0 0 32 #[.val (.ref r0), .val (.int (4 : Int32)), .val (.int p2), .val (.int (1 : Int32)), .val (.int (0 : Int32)), .val (.long (own_low (4 : Int32) (0 : Int32))), .second, .unset] [(.long (p2.toInt64)), (.long (own_low (4 : Int32) (0 : Int32)))]
  refine own_st (fun _ k => XS.lcmp X0.here hx rfl (hb hby d14_32) rfl k) ?_
  show own_Go X0 (Q14 Z r0 p2 kA x0 x1 x2 x3 h0 n0) 0 0 33 #[.val (.ref r0), .val (.int (4 : Int32)), .val (.int p2), .val (.int (1 : Int32)), .val (.int (0 : Int32)), .val (.long (own_low (4 : Int32) (0 : Int32))), .second, .unset] [(.int (lcmpW (own_low (4 : Int32) (0 : Int32)) (p2.toInt64)))]
  by_cases c33_21 : (own_low (4 : Int32) (0 : Int32)) < (p2.toInt64)
  · skip
    refine own_st (fun _ k => XS.ifYes X0.here hx rfl (pc0 := 33) (pc' := 40) rfl (hb hby d14_33) rfl ((if0 _ _).trans (tlt ((lw_lt _ _).mpr c33_21)).1) (by decide) (by decide) k) ?_
    show own_Go X0 (Q14 Z r0 p2 kA x0 x1 x2 x3 h0 n0) 0 0 40 #[.val (.ref r0), .val (.int (4 : Int32)), .val (.int p2), .val (.int (1 : Int32)), .val (.int (0 : Int32)), .val (.long (own_low (4 : Int32) (0 : Int32))), .second, .unset] []
    refine own_st (fun _ k => XS.iloadN X0.here hx rfl (hb hby d14_40) rfl k) ?_
    show own_Go X0 (Q14 Z r0 p2 kA x0 x1 x2 x3 h0 n0) 0 0 41 #[.val (.ref r0), .val (.int (4 : Int32)), .val (.int p2), .val (.int (1 : Int32)), .val (.int (0 : Int32)), .val (.long (own_low (4 : Int32) (0 : Int32))), .second, .unset] [(.int p2)]
    refine own_st (fun _ k => XS.i2l X0.here hx rfl (hb hby d14_41) rfl k) ?_
    show own_Go X0 (Q14 Z r0 p2 kA x0 x1 x2 x3 h0 n0) 0 0 42 #[.val (.ref r0), .val (.int (4 : Int32)), .val (.int p2), .val (.int (1 : Int32)), .val (.int (0 : Int32)), .val (.long (own_low (4 : Int32) (0 : Int32))), .second, .unset] [(.long (p2.toInt64))]
    refine own_st (fun _ k => XS.lload X0.here hx rfl (hb hby d14_42) rfl k) ?_
    show own_Go X0 (Q14 Z r0 p2 kA x0 x1 x2 x3 h0 n0) 0 0 44 #[.val (.ref r0), .val (.int (4 : Int32)), .val (.int p2), .val (.int (1 : Int32)), .val (.int (0 : Int32)), .val (.long (own_low (4 : Int32) (0 : Int32))), .second, .unset] [(.long (own_low (4 : Int32) (0 : Int32))), (.long (p2.toInt64))]
    refine own_st (fun _ k => XS.lsub X0.here hx rfl (hb hby d14_44) rfl k) ?_
    show own_Go X0 (Q14 Z r0 p2 kA x0 x1 x2 x3 h0 n0) 0 0 45 #[.val (.ref r0), .val (.int (4 : Int32)), .val (.int p2), .val (.int (1 : Int32)), .val (.int (0 : Int32)), .val (.long (own_low (4 : Int32) (0 : Int32))), .second, .unset] [(.long ((p2.toInt64) - (own_low (4 : Int32) (0 : Int32))))]
    refine own_st (fun _ k => XS.l2i X0.here hx rfl (hb hby d14_45) rfl k) ?_
    show own_Go X0 (Q14 Z r0 p2 kA x0 x1 x2 x3 h0 n0) 0 0 46 #[.val (.ref r0), .val (.int (4 : Int32)), .val (.int p2), .val (.int (1 : Int32)), .val (.int (0 : Int32)), .val (.long (own_low (4 : Int32) (0 : Int32))), .second, .unset] [(.int (((p2.toInt64) - (own_low (4 : Int32) (0 : Int32))).toInt32))]
    exact J46_0 _ (by unfold own_bey; rw [if_pos c33_21])
  · skip
    refine own_st (fun _ k => XS.ifNo X0.here hx rfl (hb hby d14_33) rfl ((if0 _ _).trans (flt (fun q => c33_21 ((lw_lt _ _).mp q))).1) k) ?_
    show own_Go X0 (Q14 Z r0 p2 kA x0 x1 x2 x3 h0 n0) 0 0 36 #[.val (.ref r0), .val (.int (4 : Int32)), .val (.int p2), .val (.int (1 : Int32)), .val (.int (0 : Int32)), .val (.long (own_low (4 : Int32) (0 : Int32))), .second, .unset] []
    refine own_st (fun _ k => XS.iconst X0.here hx rfl (hb hby d14_36) k) ?_
    show own_Go X0 (Q14 Z r0 p2 kA x0 x1 x2 x3 h0 n0) 0 0 37 #[.val (.ref r0), .val (.int (4 : Int32)), .val (.int p2), .val (.int (1 : Int32)), .val (.int (0 : Int32)), .val (.long (own_low (4 : Int32) (0 : Int32))), .second, .unset] [(.int (0 : Int32))]
    refine own_st (fun _ k => XS.goto X0.here hx rfl (pc0 := 37) (pc' := 46) rfl (hb hby d14_37) (by decide) (by decide) k) ?_
    show own_Go X0 (Q14 Z r0 p2 kA x0 x1 x2 x3 h0 n0) 0 0 46 #[.val (.ref r0), .val (.int (4 : Int32)), .val (.int p2), .val (.int (1 : Int32)), .val (.int (0 : Int32)), .val (.long (own_low (4 : Int32) (0 : Int32))), .second, .unset] [(.int (0 : Int32))]
    exact J46_0 _ (by unfold own_bey; rw [if_neg c33_21])
theorem pn_0 : plainName "com/example/wide_berth/wideberth/postgres/LiteralsFitsBitsPinLaw" = true := by first | (simp [plainName, overriddenIn]; done) | decide +kernel
theorem pd_0_0 : parseMethodDescriptor "([BII)Z" = some ⟨[(.array .byte), .int, .int], some .boolean⟩ := by decide +kernel
theorem ef_0 (m : MethodId) (p0 : Int32) (p1 : Int32) (p2 : Int32) : entryFrame m #[(.int p0), (.int p1), (.int p2)] maxLocals = mkF m 0 #[.val (.int p0), .val (.int p1), .val (.int p2), .unset, .unset, .unset, .unset, .unset] [] := by first | (simp [entryFrame, mkF, argsToLocals, Value.category, maxLocals]; done) | rfl
def Q0 (Z : State) (p0 : Int32) (p1 : Int32) (p2 : Int32)  (h0 : Heap) (n0 : Nat) (v : Option Value) (h : Heap) (L : List Loc) : Prop := v = some (.int 1) ∧ Fr n0 L
set_option maxRecDepth 65536 in
set_option maxHeartbeats 40000000 in
theorem rm0 (l : Launch) (Z : State) (a0 : Array Value) (hw : ∀ d ∈ tables_1, d.before a0 Z = true) (ws : List Jvm.Cond) (p0 : Int32) (p1 : Int32) (p2 : Int32)  (h0 : Heap) (n0 : Nat) (Z0 : n0 ≤ h0.size)  :
    MetFree l x (head1 (Jvm.Cond.code x code maxLocals ret :: ws) room_1) (fun a U => a = #[(.int p0), (.int p1), (.int p2)] ∧ Z.Warmed39 U.vm ∧ U.heap = h0) (fun _ _ _ _ _ => True) (fun _ U o U' => ∃ v L, o = .returned v ∧ Q0 Z p0 p1 p2 h0 n0 v U'.heap L ∧ FrameEnd U o U' L 1 4) := by
  refine MetFree.of_bodySF (plainFor_of_name pn_0) hisR ?_
  intro p e s m args below meth c s₁ Bd hml0 hP hK
  obtain ⟨rfl, hZ, hh⟩ := hP
  have hx := Bd.exec
  have hby := Bd.bytes
  have hml : c.maxLocals = 8 := hml0
  have hown : s.vm.findClass "com/example/wide_berth/wideberth/postgres/LiteralsFitsBitsPinLaw" = some m.cls := findClass_of_methodNamed Bd.named
  have hnm := (name_of_methodNamed Bd.named Bd.method).1
  have hlk : meth.locks = false := Bd.notSynchronized
  have X0 : Stand p l e room_1 s m #[(.int p0), (.int p1), (.int p2)] below meth c s₁ [] 0 0 := Stand.of_body Bd
  have e0 : s₁.heap = h0 := by rw [← hh, Bd.state]; rfl
  have N0 := Fr.nil n0
  refine own_cast (Q := Q0 Z p0 p1 p2 h0 n0) (kc := 1) (ks := 4) (ef_0 m p0 p1 p2) ?_
  refine own_st (fun _ k => XS.iloadN X0.here hx rfl (hb hby at_0) rfl k) ?_
  show own_Go X0 (Q0 Z p0 p1 p2 h0 n0) 1 4 1 #[.val (.int p0), .val (.int p1), .val (.int p2), .unset, .unset, .unset, .unset, .unset] [(.int p1)]
  refine own_st (fun _ k => XS.bipush X0.here hx rfl (hb hby at_1) k) ?_
  show own_Go X0 (Q0 Z p0 p1 p2 h0 n0) 1 4 3 #[.val (.int p0), .val (.int p1), .val (.int p2), .unset, .unset, .unset, .unset, .unset] [(.int (7 : Int32)), (.int p1)]
  refine own_st (fun _ k => XS.iand X0.here hx rfl (hb hby at_3) rfl k) ?_
  show own_Go X0 (Q0 Z p0 p1 p2 h0 n0) 1 4 4 #[.val (.int p0), .val (.int p1), .val (.int p2), .unset, .unset, .unset, .unset, .unset] [(.int (p1 &&& (7 : Int32)))]
  refine own_st (fun _ k => XS.iconst X0.here hx rfl (hb hby at_4) k) ?_
  show own_Go X0 (Q0 Z p0 p1 p2 h0 n0) 1 4 5 #[.val (.int p0), .val (.int p1), .val (.int p2), .unset, .unset, .unset, .unset, .unset] [(.int (5 : Int32)), (.int (p1 &&& (7 : Int32)))]
  refine own_st (fun _ k => iremM X0 hx rfl (hb hby at_5) rfl (by decide) k) ?_
  show own_Go X0 (Q0 Z p0 p1 p2 h0 n0) 1 4 6 #[.val (.int p0), .val (.int p1), .val (.int p2), .unset, .unset, .unset, .unset, .unset] [(.int ((p1 &&& (7 : Int32)) % (5 : Int32)))]
  refine own_st (fun _ k => XS.istoreN X0.here hx rfl (hb hby at_6) rfl (l' := #[.val (.int p0), .val (.int p1), .val (.int p2), .val (.int ((p1 &&& (7 : Int32)) % (5 : Int32))), .unset, .unset, .unset, .unset]) rfl k) ?_
  show own_Go X0 (Q0 Z p0 p1 p2 h0 n0) 1 4 7 #[.val (.int p0), .val (.int p1), .val (.int p2), .val (.int ((p1 &&& (7 : Int32)) % (5 : Int32))), .unset, .unset, .unset, .unset] []
  generalize hln : ((p1 &&& (7 : Int32)) % (5 : Int32)) = ln
  show own_Go X0 (Q0 Z p0 p1 p2 h0 n0) 1 4 7 #[.val (.int p0), .val (.int p1), .val (.int p2), .val (.int ln), .unset, .unset, .unset, .unset] []
  refine own_st (fun _ k => XS.iconst X0.here hx rfl (hb hby at_7) k) ?_
  show own_Go X0 (Q0 Z p0 p1 p2 h0 n0) 1 4 8 #[.val (.int p0), .val (.int p1), .val (.int p2), .val (.int ln), .unset, .unset, .unset, .unset] [(.int (4 : Int32))]
  obtain ⟨T1, h1, k1, X1, e1, E1, A1, st1⟩ := newP X0 hx hZ (hw _ (List.mem_of_getElem? (i := 0) rfl)) e0 (g := (mkF m 8 #[.val (.int p0), .val (.int p1), .val (.int p2), .val (.int ln), .unset, .unset, .unset, .unset] [(.int (4 : Int32))])) rfl (hb hby at_8) rfl (by decide) (cap := 4) (by decide) (by decide) (by decide) (by decide)
  obtain ⟨b1, g1⟩ : ∃ z, z = h0.size := ⟨_, rfl⟩
  rw [← g1] at A1 st1
  refine own_st st1 ?_
  have G_2 := Nat.le_trans Z0 (Nat.le_of_eq g1.symm)
  have Z_3 := Nat.le_trans Z0 E1.1
  have V1 : Arv Z h1 b1 k1 .byte (4 : Int32) [(.int (0 : Int32)), (.int (0 : Int32)), (.int (0 : Int32)), (.int (0 : Int32))] (.int (0 : Int32)) := (Arv.new A1 (by decide)).pad (pad_rep [] (.int (0 : Int32)) 4)
  show own_Go X1 (Q0 Z p0 p1 p2 h0 n0) 1 4 10 #[.val (.int p0), .val (.int p1), .val (.int p2), .val (.int ln), .unset, .unset, .unset, .unset] [(.ref b1)]
  refine own_st (fun _ k => XS.astore X1.here hx rfl (hb hby at_10) rfl rfl (l' := #[.val (.int p0), .val (.int p1), .val (.int p2), .val (.int ln), .val (.ref b1), .unset, .unset, .unset]) rfl k) ?_
  show own_Go X1 (Q0 Z p0 p1 p2 h0 n0) 1 4 12 #[.val (.int p0), .val (.int p1), .val (.int p2), .val (.int ln), .val (.ref b1), .unset, .unset, .unset] []
  refine own_st (fun _ k => XS.aload X1.here hx rfl (hb hby at_12) rfl rfl k) ?_
  show own_Go X1 (Q0 Z p0 p1 p2 h0 n0) 1 4 14 #[.val (.int p0), .val (.int p1), .val (.int p2), .val (.int ln), .val (.ref b1), .unset, .unset, .unset] [(.ref b1)]
  refine own_st (fun _ k => XS.iconst X1.here hx rfl (hb hby at_14) k) ?_
  show own_Go X1 (Q0 Z p0 p1 p2 h0 n0) 1 4 15 #[.val (.int p0), .val (.int p1), .val (.int p2), .val (.int ln), .val (.ref b1), .unset, .unset, .unset] [(.int (0 : Int32)), (.ref b1)]
  refine own_st (fun _ k => XS.iloadN X1.here hx rfl (hb hby at_15) rfl k) ?_
  show own_Go X1 (Q0 Z p0 p1 p2 h0 n0) 1 4 16 #[.val (.int p0), .val (.int p1), .val (.int p2), .val (.int ln), .val (.ref b1), .unset, .unset, .unset] [(.int p0), (.int (0 : Int32)), (.ref b1)]
  refine own_st (fun _ k => XS.bipush X1.here hx rfl (hb hby at_16) k) ?_
  show own_Go X1 (Q0 Z p0 p1 p2 h0 n0) 1 4 18 #[.val (.int p0), .val (.int p1), .val (.int p2), .val (.int ln), .val (.ref b1), .unset, .unset, .unset] [(.int (24 : Int32)), (.int p0), (.int (0 : Int32)), (.ref b1)]
  refine own_st (fun _ k => XS.iushr X1.here hx rfl (hb hby at_18) rfl k) ?_
  show own_Go X1 (Q0 Z p0 p1 p2 h0 n0) 1 4 19 #[.val (.int p0), .val (.int p1), .val (.int p2), .val (.int ln), .val (.ref b1), .unset, .unset, .unset] [(.int ((p0.toUInt32 >>> ((24 : Int32) &&& 31).toUInt32).toInt32)), (.int (0 : Int32)), (.ref b1)]
  refine own_st (fun _ k => XS.i2b X1.here hx rfl (hb hby at_19) rfl k) ?_
  show own_Go X1 (Q0 Z p0 p1 p2 h0 n0) 1 4 20 #[.val (.int p0), .val (.int p1), .val (.int p2), .val (.int ln), .val (.ref b1), .unset, .unset, .unset] [(.int (((p0.toUInt32 >>> ((24 : Int32) &&& 31).toUInt32).toInt32).toInt8.toInt32)), (.int (0 : Int32)), (.ref b1)]
  obtain ⟨T4, h4, X4, e4, W4, V4, st4⟩ := own_stB X1 hx hZ e1 V1 (j := (0 : Int32)) ⟨by decide, by decide⟩ (Nat.le_of_ble_eq_true rfl) (g := (mkF m 20 #[.val (.int p0), .val (.int p1), .val (.int p2), .val (.int ln), .val (.ref b1), .unset, .unset, .unset] [(.int (((p0.toUInt32 >>> ((24 : Int32) &&& 31).toUInt32).toInt32).toInt8.toInt32)), (.int (0 : Int32)), (.ref b1)])) rfl rfl (hb hby at_20)
  refine own_st st4 ?_
  have Z_5 := Nat.le_trans Z_3 (Nat.le_of_eq W4.size.symm)
  have U4 : Arv Z h4 b1 k1 .byte (4 : Int32) [(.int (((p0.toUInt32 >>> ((24 : Int32) &&& 31).toUInt32).toInt32).toInt8.toInt32).toInt8.toInt32), (.int (0 : Int32)), (.int (0 : Int32)), (.int (0 : Int32))] (.int (0 : Int32)) := V4
  have N_6 := Fr.snoc X4 N0 G_2
  show own_Go X4 (Q0 Z p0 p1 p2 h0 n0) 1 4 21 #[.val (.int p0), .val (.int p1), .val (.int p2), .val (.int ln), .val (.ref b1), .unset, .unset, .unset] []
  refine own_st (fun _ k => XS.aload X4.here hx rfl (hb hby at_21) rfl rfl k) ?_
  show own_Go X4 (Q0 Z p0 p1 p2 h0 n0) 1 4 23 #[.val (.int p0), .val (.int p1), .val (.int p2), .val (.int ln), .val (.ref b1), .unset, .unset, .unset] [(.ref b1)]
  refine own_st (fun _ k => XS.iconst X4.here hx rfl (hb hby at_23) k) ?_
  show own_Go X4 (Q0 Z p0 p1 p2 h0 n0) 1 4 24 #[.val (.int p0), .val (.int p1), .val (.int p2), .val (.int ln), .val (.ref b1), .unset, .unset, .unset] [(.int (1 : Int32)), (.ref b1)]
  refine own_st (fun _ k => XS.iloadN X4.here hx rfl (hb hby at_24) rfl k) ?_
  show own_Go X4 (Q0 Z p0 p1 p2 h0 n0) 1 4 25 #[.val (.int p0), .val (.int p1), .val (.int p2), .val (.int ln), .val (.ref b1), .unset, .unset, .unset] [(.int p0), (.int (1 : Int32)), (.ref b1)]
  refine own_st (fun _ k => XS.bipush X4.here hx rfl (hb hby at_25) k) ?_
  show own_Go X4 (Q0 Z p0 p1 p2 h0 n0) 1 4 27 #[.val (.int p0), .val (.int p1), .val (.int p2), .val (.int ln), .val (.ref b1), .unset, .unset, .unset] [(.int (16 : Int32)), (.int p0), (.int (1 : Int32)), (.ref b1)]
  refine own_st (fun _ k => XS.iushr X4.here hx rfl (hb hby at_27) rfl k) ?_
  show own_Go X4 (Q0 Z p0 p1 p2 h0 n0) 1 4 28 #[.val (.int p0), .val (.int p1), .val (.int p2), .val (.int ln), .val (.ref b1), .unset, .unset, .unset] [(.int ((p0.toUInt32 >>> ((16 : Int32) &&& 31).toUInt32).toInt32)), (.int (1 : Int32)), (.ref b1)]
  refine own_st (fun _ k => XS.i2b X4.here hx rfl (hb hby at_28) rfl k) ?_
  show own_Go X4 (Q0 Z p0 p1 p2 h0 n0) 1 4 29 #[.val (.int p0), .val (.int p1), .val (.int p2), .val (.int ln), .val (.ref b1), .unset, .unset, .unset] [(.int (((p0.toUInt32 >>> ((16 : Int32) &&& 31).toUInt32).toInt32).toInt8.toInt32)), (.int (1 : Int32)), (.ref b1)]
  obtain ⟨T7, h7, X7, e7, W7, V7, st7⟩ := own_stB X4 hx hZ e4 U4 (j := (1 : Int32)) ⟨by decide, by decide⟩ (Nat.le_of_ble_eq_true rfl) (g := (mkF m 29 #[.val (.int p0), .val (.int p1), .val (.int p2), .val (.int ln), .val (.ref b1), .unset, .unset, .unset] [(.int (((p0.toUInt32 >>> ((16 : Int32) &&& 31).toUInt32).toInt32).toInt8.toInt32)), (.int (1 : Int32)), (.ref b1)])) rfl rfl (hb hby at_29)
  refine own_st st7 ?_
  have Z_8 := Nat.le_trans Z_5 (Nat.le_of_eq W7.size.symm)
  have U7 : Arv Z h7 b1 k1 .byte (4 : Int32) [(.int (((p0.toUInt32 >>> ((24 : Int32) &&& 31).toUInt32).toInt32).toInt8.toInt32).toInt8.toInt32), (.int (((p0.toUInt32 >>> ((16 : Int32) &&& 31).toUInt32).toInt32).toInt8.toInt32).toInt8.toInt32), (.int (0 : Int32)), (.int (0 : Int32))] (.int (0 : Int32)) := V7
  have N_9 := Fr.snoc X7 N_6 G_2
  show own_Go X7 (Q0 Z p0 p1 p2 h0 n0) 1 4 30 #[.val (.int p0), .val (.int p1), .val (.int p2), .val (.int ln), .val (.ref b1), .unset, .unset, .unset] []
  refine own_st (fun _ k => XS.aload X7.here hx rfl (hb hby at_30) rfl rfl k) ?_
  show own_Go X7 (Q0 Z p0 p1 p2 h0 n0) 1 4 32 #[.val (.int p0), .val (.int p1), .val (.int p2), .val (.int ln), .val (.ref b1), .unset, .unset, .unset] [(.ref b1)]
  refine own_st (fun _ k => XS.iconst X7.here hx rfl (hb hby at_32) k) ?_
  show own_Go X7 (Q0 Z p0 p1 p2 h0 n0) 1 4 33 #[.val (.int p0), .val (.int p1), .val (.int p2), .val (.int ln), .val (.ref b1), .unset, .unset, .unset] [(.int (2 : Int32)), (.ref b1)]
  refine own_st (fun _ k => XS.iloadN X7.here hx rfl (hb hby at_33) rfl k) ?_
  show own_Go X7 (Q0 Z p0 p1 p2 h0 n0) 1 4 34 #[.val (.int p0), .val (.int p1), .val (.int p2), .val (.int ln), .val (.ref b1), .unset, .unset, .unset] [(.int p0), (.int (2 : Int32)), (.ref b1)]
  refine own_st (fun _ k => XS.bipush X7.here hx rfl (hb hby at_34) k) ?_
  show own_Go X7 (Q0 Z p0 p1 p2 h0 n0) 1 4 36 #[.val (.int p0), .val (.int p1), .val (.int p2), .val (.int ln), .val (.ref b1), .unset, .unset, .unset] [(.int (8 : Int32)), (.int p0), (.int (2 : Int32)), (.ref b1)]
  refine own_st (fun _ k => XS.iushr X7.here hx rfl (hb hby at_36) rfl k) ?_
  show own_Go X7 (Q0 Z p0 p1 p2 h0 n0) 1 4 37 #[.val (.int p0), .val (.int p1), .val (.int p2), .val (.int ln), .val (.ref b1), .unset, .unset, .unset] [(.int ((p0.toUInt32 >>> ((8 : Int32) &&& 31).toUInt32).toInt32)), (.int (2 : Int32)), (.ref b1)]
  refine own_st (fun _ k => XS.i2b X7.here hx rfl (hb hby at_37) rfl k) ?_
  show own_Go X7 (Q0 Z p0 p1 p2 h0 n0) 1 4 38 #[.val (.int p0), .val (.int p1), .val (.int p2), .val (.int ln), .val (.ref b1), .unset, .unset, .unset] [(.int (((p0.toUInt32 >>> ((8 : Int32) &&& 31).toUInt32).toInt32).toInt8.toInt32)), (.int (2 : Int32)), (.ref b1)]
  obtain ⟨T10, h10, X10, e10, W10, V10, st10⟩ := own_stB X7 hx hZ e7 U7 (j := (2 : Int32)) ⟨by decide, by decide⟩ (Nat.le_of_ble_eq_true rfl) (g := (mkF m 38 #[.val (.int p0), .val (.int p1), .val (.int p2), .val (.int ln), .val (.ref b1), .unset, .unset, .unset] [(.int (((p0.toUInt32 >>> ((8 : Int32) &&& 31).toUInt32).toInt32).toInt8.toInt32)), (.int (2 : Int32)), (.ref b1)])) rfl rfl (hb hby at_38)
  refine own_st st10 ?_
  have Z_11 := Nat.le_trans Z_8 (Nat.le_of_eq W10.size.symm)
  have U10 : Arv Z h10 b1 k1 .byte (4 : Int32) [(.int (((p0.toUInt32 >>> ((24 : Int32) &&& 31).toUInt32).toInt32).toInt8.toInt32).toInt8.toInt32), (.int (((p0.toUInt32 >>> ((16 : Int32) &&& 31).toUInt32).toInt32).toInt8.toInt32).toInt8.toInt32), (.int (((p0.toUInt32 >>> ((8 : Int32) &&& 31).toUInt32).toInt32).toInt8.toInt32).toInt8.toInt32), (.int (0 : Int32))] (.int (0 : Int32)) := V10
  have N_12 := Fr.snoc X10 N_9 G_2
  show own_Go X10 (Q0 Z p0 p1 p2 h0 n0) 1 4 39 #[.val (.int p0), .val (.int p1), .val (.int p2), .val (.int ln), .val (.ref b1), .unset, .unset, .unset] []
  refine own_st (fun _ k => XS.aload X10.here hx rfl (hb hby at_39) rfl rfl k) ?_
  show own_Go X10 (Q0 Z p0 p1 p2 h0 n0) 1 4 41 #[.val (.int p0), .val (.int p1), .val (.int p2), .val (.int ln), .val (.ref b1), .unset, .unset, .unset] [(.ref b1)]
  refine own_st (fun _ k => XS.iconst X10.here hx rfl (hb hby at_41) k) ?_
  show own_Go X10 (Q0 Z p0 p1 p2 h0 n0) 1 4 42 #[.val (.int p0), .val (.int p1), .val (.int p2), .val (.int ln), .val (.ref b1), .unset, .unset, .unset] [(.int (3 : Int32)), (.ref b1)]
  refine own_st (fun _ k => XS.iloadN X10.here hx rfl (hb hby at_42) rfl k) ?_
  show own_Go X10 (Q0 Z p0 p1 p2 h0 n0) 1 4 43 #[.val (.int p0), .val (.int p1), .val (.int p2), .val (.int ln), .val (.ref b1), .unset, .unset, .unset] [(.int p0), (.int (3 : Int32)), (.ref b1)]
  refine own_st (fun _ k => XS.i2b X10.here hx rfl (hb hby at_43) rfl k) ?_
  show own_Go X10 (Q0 Z p0 p1 p2 h0 n0) 1 4 44 #[.val (.int p0), .val (.int p1), .val (.int p2), .val (.int ln), .val (.ref b1), .unset, .unset, .unset] [(.int (p0.toInt8.toInt32)), (.int (3 : Int32)), (.ref b1)]
  obtain ⟨T13, h13, X13, e13, W13, V13, st13⟩ := own_stB X10 hx hZ e10 U10 (j := (3 : Int32)) ⟨by decide, by decide⟩ (Nat.le_of_ble_eq_true rfl) (g := (mkF m 44 #[.val (.int p0), .val (.int p1), .val (.int p2), .val (.int ln), .val (.ref b1), .unset, .unset, .unset] [(.int (p0.toInt8.toInt32)), (.int (3 : Int32)), (.ref b1)])) rfl rfl (hb hby at_44)
  refine own_st st13 ?_
  have Z_14 := Nat.le_trans Z_11 (Nat.le_of_eq W13.size.symm)
  have U13 : Arv Z h13 b1 k1 .byte (4 : Int32) [(.int (((p0.toUInt32 >>> ((24 : Int32) &&& 31).toUInt32).toInt32).toInt8.toInt32).toInt8.toInt32), (.int (((p0.toUInt32 >>> ((16 : Int32) &&& 31).toUInt32).toInt32).toInt8.toInt32).toInt8.toInt32), (.int (((p0.toUInt32 >>> ((8 : Int32) &&& 31).toUInt32).toInt32).toInt8.toInt32).toInt8.toInt32), (.int (p0.toInt8.toInt32).toInt8.toInt32)] (.int (0 : Int32)) := V13
  have N_15 := Fr.snoc X13 N_12 G_2
  show own_Go X13 (Q0 Z p0 p1 p2 h0 n0) 1 4 45 #[.val (.int p0), .val (.int p1), .val (.int p2), .val (.int ln), .val (.ref b1), .unset, .unset, .unset] []
  obtain ⟨y0, hy0⟩ : ∃ z, z = (((p0.toUInt32 >>> ((24 : Int32) &&& 31).toUInt32).toInt32).toInt8.toInt32).toInt8.toInt32 := ⟨_, rfl⟩
  obtain ⟨y1, hy1⟩ : ∃ z, z = (((p0.toUInt32 >>> ((16 : Int32) &&& 31).toUInt32).toInt32).toInt8.toInt32).toInt8.toInt32 := ⟨_, rfl⟩
  obtain ⟨y2, hy2⟩ : ∃ z, z = (((p0.toUInt32 >>> ((8 : Int32) &&& 31).toUInt32).toInt32).toInt8.toInt32).toInt8.toInt32 := ⟨_, rfl⟩
  obtain ⟨y3, hy3⟩ : ∃ z, z = (p0.toInt8.toInt32).toInt8.toInt32 := ⟨_, rfl⟩
  have VR : Arv Z h13 b1 k1 .byte (4 : Int32) [(.int y0), (.int y1), (.int y2), (.int y3)] (.int (0 : Int32)) := by rw [hy0, hy1, hy2, hy3]; exact U13
  obtain ⟨B0, z0⟩ : ∃ B : Nat, (y0 &&& (255 : Int32)).toInt = B := ⟨(y0 &&& (255 : Int32)).toInt.toNat, by have := own_255 y0; omega⟩
  have ky0 := own_255 y0
  obtain ⟨B1, z1⟩ : ∃ B : Nat, (y1 &&& (255 : Int32)).toInt = B := ⟨(y1 &&& (255 : Int32)).toInt.toNat, by have := own_255 y1; omega⟩
  have ky1 := own_255 y1
  obtain ⟨B2, z2⟩ : ∃ B : Nat, (y2 &&& (255 : Int32)).toInt = B := ⟨(y2 &&& (255 : Int32)).toInt.toNat, by have := own_255 y2; omega⟩
  have ky2 := own_255 y2
  obtain ⟨B3, z3⟩ : ∃ B : Nat, (y3 &&& (255 : Int32)).toInt = B := ⟨(y3 &&& (255 : Int32)).toInt.toNat, by have := own_255 y3; omega⟩
  have ky3 := own_255 y3
  refine own_st (fun _ k => XS.lconst X13.here hx rfl (hb hby at_45) k) ?_
  show own_Go X13 (Q0 Z p0 p1 p2 h0 n0) 1 4 46 #[.val (.int p0), .val (.int p1), .val (.int p2), .val (.int ln), .val (.ref b1), .unset, .unset, .unset] [(.long (0 : Int64))]
  refine own_st (fun _ k => XS.lstore X13.here hx rfl (hb hby at_46) rfl (l' := #[.val (.int p0), .val (.int p1), .val (.int p2), .val (.int ln), .val (.ref b1), .val (.long (0 : Int64)), .second, .unset]) rfl k) ?_
  show own_Go X13 (Q0 Z p0 p1 p2 h0 n0) 1 4 48 #[.val (.int p0), .val (.int p1), .val (.int p2), .val (.int ln), .val (.ref b1), .val (.long (0 : Int64)), .second, .unset] []
  rcases own_len5 hln with rfl | rfl | rfl | rfl | rfl
  · skip
    show own_Go X13 (Q0 Z p0 p1 p2 h0 n0) 1 4 48 #[.val (.int p0), .val (.int p1), .val (.int p2), .val (.int (0 : Int32)), .val (.ref b1), .val (.long (0 : Int64)), .second, .unset] []
    refine own_st (fun _ k => XS.iloadN X13.here hx rfl (hb hby at_48) rfl k) ?_
    show own_Go X13 (Q0 Z p0 p1 p2 h0 n0) 1 4 49 #[.val (.int p0), .val (.int p1), .val (.int p2), .val (.int (0 : Int32)), .val (.ref b1), .val (.long (0 : Int64)), .second, .unset] [(.int (0 : Int32))]
    have c49_16 : ¬ ((0 : Int32) < (0 : Int32)) := (by decide)
    refine own_st (fun _ k => XS.ifYes X13.here hx rfl (pc0 := 49) (pc' := 63) rfl (hb hby at_49) rfl ((if0 _ _).trans (flt c49_16).2.2.2) (by decide) (by decide) k) ?_
    show own_Go X13 (Q0 Z p0 p1 p2 h0 n0) 1 4 63 #[.val (.int p0), .val (.int p1), .val (.int p2), .val (.int (0 : Int32)), .val (.ref b1), .val (.long (0 : Int64)), .second, .unset] []
    refine own_st (fun _ k => XS.iloadN X13.here hx rfl (hb hby at_63) rfl k) ?_
    show own_Go X13 (Q0 Z p0 p1 p2 h0 n0) 1 4 64 #[.val (.int p0), .val (.int p1), .val (.int p2), .val (.int (0 : Int32)), .val (.ref b1), .val (.long (0 : Int64)), .second, .unset] [(.int (0 : Int32))]
    refine own_st (fun _ k => XS.iconst X13.here hx rfl (hb hby at_64) k) ?_
    show own_Go X13 (Q0 Z p0 p1 p2 h0 n0) 1 4 65 #[.val (.int p0), .val (.int p1), .val (.int p2), .val (.int (0 : Int32)), .val (.ref b1), .val (.long (0 : Int64)), .second, .unset] [(.int (1 : Int32)), (.int (0 : Int32))]
    have c65_17 : ¬ ((1 : Int32) < (0 : Int32)) := (by decide)
    refine own_st (fun _ k => XS.icmpYes X13.here hx rfl (pc0 := 65) (pc' := 85) rfl (hb hby at_65) rfl (flt c65_17).2.2.2 (by decide) (by decide) k) ?_
    show own_Go X13 (Q0 Z p0 p1 p2 h0 n0) 1 4 85 #[.val (.int p0), .val (.int p1), .val (.int p2), .val (.int (0 : Int32)), .val (.ref b1), .val (.long (0 : Int64)), .second, .unset] []
    refine own_st (fun _ k => XS.iloadN X13.here hx rfl (hb hby at_85) rfl k) ?_
    show own_Go X13 (Q0 Z p0 p1 p2 h0 n0) 1 4 86 #[.val (.int p0), .val (.int p1), .val (.int p2), .val (.int (0 : Int32)), .val (.ref b1), .val (.long (0 : Int64)), .second, .unset] [(.int (0 : Int32))]
    refine own_st (fun _ k => XS.iconst X13.here hx rfl (hb hby at_86) k) ?_
    show own_Go X13 (Q0 Z p0 p1 p2 h0 n0) 1 4 87 #[.val (.int p0), .val (.int p1), .val (.int p2), .val (.int (0 : Int32)), .val (.ref b1), .val (.long (0 : Int64)), .second, .unset] [(.int (2 : Int32)), (.int (0 : Int32))]
    have c87_18 : ¬ ((2 : Int32) < (0 : Int32)) := (by decide)
    refine own_st (fun _ k => XS.icmpYes X13.here hx rfl (pc0 := 87) (pc' := 107) rfl (hb hby at_87) rfl (flt c87_18).2.2.2 (by decide) (by decide) k) ?_
    show own_Go X13 (Q0 Z p0 p1 p2 h0 n0) 1 4 107 #[.val (.int p0), .val (.int p1), .val (.int p2), .val (.int (0 : Int32)), .val (.ref b1), .val (.long (0 : Int64)), .second, .unset] []
    refine own_st (fun _ k => XS.iloadN X13.here hx rfl (hb hby at_107) rfl k) ?_
    show own_Go X13 (Q0 Z p0 p1 p2 h0 n0) 1 4 108 #[.val (.int p0), .val (.int p1), .val (.int p2), .val (.int (0 : Int32)), .val (.ref b1), .val (.long (0 : Int64)), .second, .unset] [(.int (0 : Int32))]
    refine own_st (fun _ k => XS.iconst X13.here hx rfl (hb hby at_108) k) ?_
    show own_Go X13 (Q0 Z p0 p1 p2 h0 n0) 1 4 109 #[.val (.int p0), .val (.int p1), .val (.int p2), .val (.int (0 : Int32)), .val (.ref b1), .val (.long (0 : Int64)), .second, .unset] [(.int (3 : Int32)), (.int (0 : Int32))]
    have c109_19 : ¬ ((3 : Int32) < (0 : Int32)) := (by decide)
    refine own_st (fun _ k => XS.icmpYes X13.here hx rfl (pc0 := 109) (pc' := 129) rfl (hb hby at_109) rfl (flt c109_19).2.2.2 (by decide) (by decide) k) ?_
    show own_Go X13 (Q0 Z p0 p1 p2 h0 n0) 1 4 129 #[.val (.int p0), .val (.int p1), .val (.int p2), .val (.int (0 : Int32)), .val (.ref b1), .val (.long (0 : Int64)), .second, .unset] []
    generalize hvv : (0 : Int64) = vv
    show own_Go X13 (Q0 Z p0 p1 p2 h0 n0) 1 4 129 #[.val (.int p0), .val (.int p1), .val (.int p2), .val (.int (0 : Int32)), .val (.ref b1), .val (.long vv), .second, .unset] []
    obtain ⟨U, hU⟩ : ∃ U : Nat, U = 0 := ⟨_, rfl⟩
    have hvU : vv.toInt = U := by rw [← hvv, hU]; decide
    have hU32 : U < 4294967296 := by omega
    refine own_st (fun _ k => XS.iloadN X13.here hx rfl (hb hby at_129) rfl k) ?_
    show own_Go X13 (Q0 Z p0 p1 p2 h0 n0) 1 4 130 #[.val (.int p0), .val (.int p1), .val (.int p2), .val (.int (0 : Int32)), .val (.ref b1), .val (.long vv), .second, .unset] [(.int p2)]
    by_cases c130_20 : (0 : Int32) < p2
    · skip
      refine own_st (fun _ k => XS.ifYes X13.here hx rfl (pc0 := 130) (pc' := 150) rfl (hb hby at_130) rfl ((if0 _ _).trans (tlt c130_20).2.2.1) (by decide) (by decide) k) ?_
      show own_Go X13 (Q0 Z p0 p1 p2 h0 n0) 1 4 150 #[.val (.int p0), .val (.int p1), .val (.int p2), .val (.int (0 : Int32)), .val (.ref b1), .val (.long vv), .second, .unset] []
      refine own_st (fun _ k => XS.iloadN X13.here hx rfl (hb hby at_150) rfl k) ?_
      show own_Go X13 (Q0 Z p0 p1 p2 h0 n0) 1 4 151 #[.val (.int p0), .val (.int p1), .val (.int p2), .val (.int (0 : Int32)), .val (.ref b1), .val (.long vv), .second, .unset] [(.int p2)]
      refine own_st (fun _ k => XS.bipush X13.here hx rfl (hb hby at_151) k) ?_
      show own_Go X13 (Q0 Z p0 p1 p2 h0 n0) 1 4 153 #[.val (.int p0), .val (.int p1), .val (.int p2), .val (.int (0 : Int32)), .val (.ref b1), .val (.long vv), .second, .unset] [(.int (40 : Int32)), (.int p2)]
      by_cases c153_21 : p2 < (40 : Int32)
      · skip
        refine own_st (fun _ k => XS.icmpYes X13.here hx rfl (pc0 := 153) (pc' := 162) rfl (hb hby at_153) rfl (tlt c153_21).1 (by decide) (by decide) k) ?_
        show own_Go X13 (Q0 Z p0 p1 p2 h0 n0) 1 4 162 #[.val (.int p0), .val (.int p1), .val (.int p2), .val (.int (0 : Int32)), .val (.ref b1), .val (.long vv), .second, .unset] []
        refine own_st (fun _ k => XS.lload X13.here hx rfl (hb hby at_162) rfl k) ?_
        show own_Go X13 (Q0 Z p0 p1 p2 h0 n0) 1 4 164 #[.val (.int p0), .val (.int p1), .val (.int p2), .val (.int (0 : Int32)), .val (.ref b1), .val (.long vv), .second, .unset] [(.long vv)]
        refine own_st (fun _ k => XS.iloadN X13.here hx rfl (hb hby at_164) rfl k) ?_
        show own_Go X13 (Q0 Z p0 p1 p2 h0 n0) 1 4 165 #[.val (.int p0), .val (.int p1), .val (.int p2), .val (.int (0 : Int32)), .val (.ref b1), .val (.long vv), .second, .unset] [(.int p2), (.long vv)]
        refine own_st (fun _ k => XS.lushr X13.here hx rfl (hb hby at_165) rfl k) ?_
        show own_Go X13 (Q0 Z p0 p1 p2 h0 n0) 1 4 166 #[.val (.int p0), .val (.int p1), .val (.int p2), .val (.int (0 : Int32)), .val (.ref b1), .val (.long vv), .second, .unset] [(.long ((vv.toUInt64 >>> (p2 &&& 0x3f).toInt64.toUInt64).toInt64))]
        refine own_st (fun _ k => XS.lconst X13.here hx rfl (hb hby at_166) k) ?_
        show own_Go X13 (Q0 Z p0 p1 p2 h0 n0) 1 4 167 #[.val (.int p0), .val (.int p1), .val (.int p2), .val (.int (0 : Int32)), .val (.ref b1), .val (.long vv), .second, .unset] [(.long (0 : Int64)), (.long ((vv.toUInt64 >>> (p2 &&& 0x3f).toInt64.toUInt64).toInt64))]
        refine own_st (fun _ k => XS.lcmp X13.here hx rfl (hb hby at_167) rfl k) ?_
        show own_Go X13 (Q0 Z p0 p1 p2 h0 n0) 1 4 168 #[.val (.int p0), .val (.int p1), .val (.int p2), .val (.int (0 : Int32)), .val (.ref b1), .val (.long vv), .second, .unset] [(.int (lcmpW ((vv.toUInt64 >>> (p2 &&& 0x3f).toInt64.toUInt64).toInt64) (0 : Int64)))]
        by_cases c168_22 : ((vv.toUInt64 >>> (p2 &&& 0x3f).toInt64.toUInt64).toInt64) = (0 : Int64)
        · skip
          refine own_st (fun _ k => XS.ifNo X13.here hx rfl (hb hby at_168) rfl ((if0 _ _).trans (teq ((lw_eq _ _).mpr c168_22)).2) k) ?_
          show own_Go X13 (Q0 Z p0 p1 p2 h0 n0) 1 4 171 #[.val (.int p0), .val (.int p1), .val (.int p2), .val (.int (0 : Int32)), .val (.ref b1), .val (.long vv), .second, .unset] []
          refine own_st (fun _ k => XS.iconst X13.here hx rfl (hb hby at_171) k) ?_
          show own_Go X13 (Q0 Z p0 p1 p2 h0 n0) 1 4 172 #[.val (.int p0), .val (.int p1), .val (.int p2), .val (.int (0 : Int32)), .val (.ref b1), .val (.long vv), .second, .unset] [(.int (1 : Int32))]
          refine own_st (fun _ k => XS.goto X13.here hx rfl (pc0 := 172) (pc' := 176) rfl (hb hby at_172) (by decide) (by decide) k) ?_
          show own_Go X13 (Q0 Z p0 p1 p2 h0 n0) 1 4 176 #[.val (.int p0), .val (.int p1), .val (.int p2), .val (.int (0 : Int32)), .val (.ref b1), .val (.long vv), .second, .unset] [(.int (1 : Int32))]
          refine own_st (fun _ k => XS.istore X13.here hx rfl (hb hby at_176) rfl (l' := #[.val (.int p0), .val (.int p1), .val (.int p2), .val (.int (0 : Int32)), .val (.ref b1), .val (.long vv), .second, .val (.int (1 : Int32))]) rfl k) ?_
          show own_Go X13 (Q0 Z p0 p1 p2 h0 n0) 1 4 178 #[.val (.int p0), .val (.int p1), .val (.int p2), .val (.int (0 : Int32)), .val (.ref b1), .val (.long vv), .second, .val (.int (1 : Int32))] []
          refine own_st (fun _ k => XS.aload X13.here hx rfl (hb hby at_178) rfl rfl k) ?_
          show own_Go X13 (Q0 Z p0 p1 p2 h0 n0) 1 4 180 #[.val (.int p0), .val (.int p1), .val (.int p2), .val (.int (0 : Int32)), .val (.ref b1), .val (.long vv), .second, .val (.int (1 : Int32))] [(.ref b1)]
          refine own_st (fun _ k => XS.iloadN X13.here hx rfl (hb hby at_180) rfl k) ?_
          show own_Go X13 (Q0 Z p0 p1 p2 h0 n0) 1 4 181 #[.val (.int p0), .val (.int p1), .val (.int p2), .val (.int (0 : Int32)), .val (.ref b1), .val (.long vv), .second, .val (.int (1 : Int32))] [(.int (0 : Int32)), (.ref b1)]
          refine own_st (fun _ k => XS.iloadN X13.here hx rfl (hb hby at_181) rfl k) ?_
          show own_Go X13 (Q0 Z p0 p1 p2 h0 n0) 1 4 182 #[.val (.int p0), .val (.int p1), .val (.int p2), .val (.int (0 : Int32)), .val (.ref b1), .val (.long vv), .second, .val (.int (1 : Int32))] [(.int p2), (.int (0 : Int32)), (.ref b1)]
          refine own_callS (W := 0) X13 hx hZ hown (hw _ (List.mem_of_getElem? (i := 1) rfl)) (hw _ (List.mem_of_getElem? (i := 2) rfl)) (hw _ (List.mem_of_getElem? (i := 3) rfl)) (hw _ (List.mem_of_getElem? (i := 4) rfl)) (by decide) (rm10 l Z a0 hw [] b1 p2 k1 y0 y1 y2 y3 h13 n0 Z_14 VR) (by decide) (by decide) (by rw [hml]; rfl) [(.ref b1), (.int (0 : Int32)), (.int p2)] [] (lenOf pd_0_0 rfl) rfl rfl (Nat.le_of_ble_eq_true rfl) (hb hby at_182) e13 (by decide) (by decide) ?_
          rintro _ T23 L23 X23 ⟨rfl, N23q, e23⟩
          have N_24 := Fr.app N_15 N23q
          show own_Go X23 (Q0 Z p0 p1 p2 h0 n0) 1 4 185 #[.val (.int p0), .val (.int p1), .val (.int p2), .val (.int (0 : Int32)), .val (.ref b1), .val (.long vv), .second, .val (.int (1 : Int32))] [(.int (own_fb0 p2))]
          refine own_st (fun _ k => XS.iload X23.here hx rfl (hb hby at_185) rfl k) ?_
          show own_Go X23 (Q0 Z p0 p1 p2 h0 n0) 1 4 187 #[.val (.int p0), .val (.int p1), .val (.int p2), .val (.int (0 : Int32)), .val (.ref b1), .val (.long vv), .second, .val (.int (1 : Int32))] [(.int (1 : Int32)), (.int (own_fb0 p2))]
          have c187_25 : (own_fb0 p2) = (1 : Int32) := rfl
          refine own_st (fun _ k => XS.icmpNo X23.here hx rfl (hb hby at_187) rfl (teq c187_25).2 k) ?_
          show own_Go X23 (Q0 Z p0 p1 p2 h0 n0) 1 4 190 #[.val (.int p0), .val (.int p1), .val (.int p2), .val (.int (0 : Int32)), .val (.ref b1), .val (.long vv), .second, .val (.int (1 : Int32))] []
          refine own_st (fun _ k => XS.iconst X23.here hx rfl (hb hby at_190) k) ?_
          show own_Go X23 (Q0 Z p0 p1 p2 h0 n0) 1 4 191 #[.val (.int p0), .val (.int p1), .val (.int p2), .val (.int (0 : Int32)), .val (.ref b1), .val (.long vv), .second, .val (.int (1 : Int32))] [(.int (1 : Int32))]
          refine own_st (fun _ k => XS.goto X23.here hx rfl (pc0 := 191) (pc' := 195) rfl (hb hby at_191) (by decide) (by decide) k) ?_
          show own_Go X23 (Q0 Z p0 p1 p2 h0 n0) 1 4 195 #[.val (.int p0), .val (.int p1), .val (.int p2), .val (.int (0 : Int32)), .val (.ref b1), .val (.long vv), .second, .val (.int (1 : Int32))] [(.int (1 : Int32))]
          refine own_retN X23 hx Bd.returns (by simp) hlk e23 (hb hby at_195) (by decide) (by decide) ?_
          exact ⟨rfl, N_24⟩
        · skip
          refine own_st (fun _ k => XS.ifYes X13.here hx rfl (pc0 := 168) (pc' := 175) rfl (hb hby at_168) rfl ((if0 _ _).trans (feq (fun q => c168_22 ((lw_eq _ _).mp q))).2) (by decide) (by decide) k) ?_
          show own_Go X13 (Q0 Z p0 p1 p2 h0 n0) 1 4 175 #[.val (.int p0), .val (.int p1), .val (.int p2), .val (.int (0 : Int32)), .val (.ref b1), .val (.long vv), .second, .unset] []
          refine own_st (fun _ k => XS.iconst X13.here hx rfl (hb hby at_175) k) ?_
          show own_Go X13 (Q0 Z p0 p1 p2 h0 n0) 1 4 176 #[.val (.int p0), .val (.int p1), .val (.int p2), .val (.int (0 : Int32)), .val (.ref b1), .val (.long vv), .second, .unset] [(.int (0 : Int32))]
          refine own_st (fun _ k => XS.istore X13.here hx rfl (hb hby at_176) rfl (l' := #[.val (.int p0), .val (.int p1), .val (.int p2), .val (.int (0 : Int32)), .val (.ref b1), .val (.long vv), .second, .val (.int (0 : Int32))]) rfl k) ?_
          show own_Go X13 (Q0 Z p0 p1 p2 h0 n0) 1 4 178 #[.val (.int p0), .val (.int p1), .val (.int p2), .val (.int (0 : Int32)), .val (.ref b1), .val (.long vv), .second, .val (.int (0 : Int32))] []
          refine own_st (fun _ k => XS.aload X13.here hx rfl (hb hby at_178) rfl rfl k) ?_
          show own_Go X13 (Q0 Z p0 p1 p2 h0 n0) 1 4 180 #[.val (.int p0), .val (.int p1), .val (.int p2), .val (.int (0 : Int32)), .val (.ref b1), .val (.long vv), .second, .val (.int (0 : Int32))] [(.ref b1)]
          refine own_st (fun _ k => XS.iloadN X13.here hx rfl (hb hby at_180) rfl k) ?_
          show own_Go X13 (Q0 Z p0 p1 p2 h0 n0) 1 4 181 #[.val (.int p0), .val (.int p1), .val (.int p2), .val (.int (0 : Int32)), .val (.ref b1), .val (.long vv), .second, .val (.int (0 : Int32))] [(.int (0 : Int32)), (.ref b1)]
          refine own_st (fun _ k => XS.iloadN X13.here hx rfl (hb hby at_181) rfl k) ?_
          show own_Go X13 (Q0 Z p0 p1 p2 h0 n0) 1 4 182 #[.val (.int p0), .val (.int p1), .val (.int p2), .val (.int (0 : Int32)), .val (.ref b1), .val (.long vv), .second, .val (.int (0 : Int32))] [(.int p2), (.int (0 : Int32)), (.ref b1)]
          refine own_callS (W := 0) X13 hx hZ hown (hw _ (List.mem_of_getElem? (i := 1) rfl)) (hw _ (List.mem_of_getElem? (i := 2) rfl)) (hw _ (List.mem_of_getElem? (i := 3) rfl)) (hw _ (List.mem_of_getElem? (i := 4) rfl)) (by decide) (rm10 l Z a0 hw [] b1 p2 k1 y0 y1 y2 y3 h13 n0 Z_14 VR) (by decide) (by decide) (by rw [hml]; rfl) [(.ref b1), (.int (0 : Int32)), (.int p2)] [] (lenOf pd_0_0 rfl) rfl rfl (Nat.le_of_ble_eq_true rfl) (hb hby at_182) e13 (by decide) (by decide) ?_
          rintro _ T26 L26 X26 ⟨rfl, N26q, e26⟩
          have N_27 := Fr.app N_15 N26q
          show own_Go X26 (Q0 Z p0 p1 p2 h0 n0) 1 4 185 #[.val (.int p0), .val (.int p1), .val (.int p2), .val (.int (0 : Int32)), .val (.ref b1), .val (.long vv), .second, .val (.int (0 : Int32))] [(.int (own_fb0 p2))]
          refine own_st (fun _ k => XS.iload X26.here hx rfl (hb hby at_185) rfl k) ?_
          show own_Go X26 (Q0 Z p0 p1 p2 h0 n0) 1 4 187 #[.val (.int p0), .val (.int p1), .val (.int p2), .val (.int (0 : Int32)), .val (.ref b1), .val (.long vv), .second, .val (.int (0 : Int32))] [(.int (0 : Int32)), (.int (own_fb0 p2))]
          have c187_28 : (own_fb0 p2) = (0 : Int32) := absurd (show U < 2 ^ p2.toInt.toNat from by rw [hU]; exact Nat.pow_pos (by decide)) (fun z => c168_22 ((own_mid hvU hU32 c130_20 c153_21).mp z))
          refine own_st (fun _ k => XS.icmpNo X26.here hx rfl (hb hby at_187) rfl (teq c187_28).2 k) ?_
          show own_Go X26 (Q0 Z p0 p1 p2 h0 n0) 1 4 190 #[.val (.int p0), .val (.int p1), .val (.int p2), .val (.int (0 : Int32)), .val (.ref b1), .val (.long vv), .second, .val (.int (0 : Int32))] []
          refine own_st (fun _ k => XS.iconst X26.here hx rfl (hb hby at_190) k) ?_
          show own_Go X26 (Q0 Z p0 p1 p2 h0 n0) 1 4 191 #[.val (.int p0), .val (.int p1), .val (.int p2), .val (.int (0 : Int32)), .val (.ref b1), .val (.long vv), .second, .val (.int (0 : Int32))] [(.int (1 : Int32))]
          refine own_st (fun _ k => XS.goto X26.here hx rfl (pc0 := 191) (pc' := 195) rfl (hb hby at_191) (by decide) (by decide) k) ?_
          show own_Go X26 (Q0 Z p0 p1 p2 h0 n0) 1 4 195 #[.val (.int p0), .val (.int p1), .val (.int p2), .val (.int (0 : Int32)), .val (.ref b1), .val (.long vv), .second, .val (.int (0 : Int32))] [(.int (1 : Int32))]
          refine own_retN X26 hx Bd.returns (by simp) hlk e26 (hb hby at_195) (by decide) (by decide) ?_
          exact ⟨rfl, N_27⟩
      · skip
        refine own_st (fun _ k => XS.icmpNo X13.here hx rfl (hb hby at_153) rfl (flt c153_21).1 k) ?_
        show own_Go X13 (Q0 Z p0 p1 p2 h0 n0) 1 4 156 #[.val (.int p0), .val (.int p1), .val (.int p2), .val (.int (0 : Int32)), .val (.ref b1), .val (.long vv), .second, .unset] []
        refine own_st (fun _ k => XS.iconst X13.here hx rfl (hb hby at_156) k) ?_
        show own_Go X13 (Q0 Z p0 p1 p2 h0 n0) 1 4 157 #[.val (.int p0), .val (.int p1), .val (.int p2), .val (.int (0 : Int32)), .val (.ref b1), .val (.long vv), .second, .unset] [(.int (1 : Int32))]
        refine own_st (fun _ k => XS.istore X13.here hx rfl (hb hby at_157) rfl (l' := #[.val (.int p0), .val (.int p1), .val (.int p2), .val (.int (0 : Int32)), .val (.ref b1), .val (.long vv), .second, .val (.int (1 : Int32))]) rfl k) ?_
        show own_Go X13 (Q0 Z p0 p1 p2 h0 n0) 1 4 159 #[.val (.int p0), .val (.int p1), .val (.int p2), .val (.int (0 : Int32)), .val (.ref b1), .val (.long vv), .second, .val (.int (1 : Int32))] []
        refine own_st (fun _ k => XS.goto X13.here hx rfl (pc0 := 159) (pc' := 178) rfl (hb hby at_159) (by decide) (by decide) k) ?_
        show own_Go X13 (Q0 Z p0 p1 p2 h0 n0) 1 4 178 #[.val (.int p0), .val (.int p1), .val (.int p2), .val (.int (0 : Int32)), .val (.ref b1), .val (.long vv), .second, .val (.int (1 : Int32))] []
        refine own_st (fun _ k => XS.aload X13.here hx rfl (hb hby at_178) rfl rfl k) ?_
        show own_Go X13 (Q0 Z p0 p1 p2 h0 n0) 1 4 180 #[.val (.int p0), .val (.int p1), .val (.int p2), .val (.int (0 : Int32)), .val (.ref b1), .val (.long vv), .second, .val (.int (1 : Int32))] [(.ref b1)]
        refine own_st (fun _ k => XS.iloadN X13.here hx rfl (hb hby at_180) rfl k) ?_
        show own_Go X13 (Q0 Z p0 p1 p2 h0 n0) 1 4 181 #[.val (.int p0), .val (.int p1), .val (.int p2), .val (.int (0 : Int32)), .val (.ref b1), .val (.long vv), .second, .val (.int (1 : Int32))] [(.int (0 : Int32)), (.ref b1)]
        refine own_st (fun _ k => XS.iloadN X13.here hx rfl (hb hby at_181) rfl k) ?_
        show own_Go X13 (Q0 Z p0 p1 p2 h0 n0) 1 4 182 #[.val (.int p0), .val (.int p1), .val (.int p2), .val (.int (0 : Int32)), .val (.ref b1), .val (.long vv), .second, .val (.int (1 : Int32))] [(.int p2), (.int (0 : Int32)), (.ref b1)]
        refine own_callS (W := 0) X13 hx hZ hown (hw _ (List.mem_of_getElem? (i := 1) rfl)) (hw _ (List.mem_of_getElem? (i := 2) rfl)) (hw _ (List.mem_of_getElem? (i := 3) rfl)) (hw _ (List.mem_of_getElem? (i := 4) rfl)) (by decide) (rm10 l Z a0 hw [] b1 p2 k1 y0 y1 y2 y3 h13 n0 Z_14 VR) (by decide) (by decide) (by rw [hml]; rfl) [(.ref b1), (.int (0 : Int32)), (.int p2)] [] (lenOf pd_0_0 rfl) rfl rfl (Nat.le_of_ble_eq_true rfl) (hb hby at_182) e13 (by decide) (by decide) ?_
        rintro _ T29 L29 X29 ⟨rfl, N29q, e29⟩
        have N_30 := Fr.app N_15 N29q
        show own_Go X29 (Q0 Z p0 p1 p2 h0 n0) 1 4 185 #[.val (.int p0), .val (.int p1), .val (.int p2), .val (.int (0 : Int32)), .val (.ref b1), .val (.long vv), .second, .val (.int (1 : Int32))] [(.int (own_fb0 p2))]
        refine own_st (fun _ k => XS.iload X29.here hx rfl (hb hby at_185) rfl k) ?_
        show own_Go X29 (Q0 Z p0 p1 p2 h0 n0) 1 4 187 #[.val (.int p0), .val (.int p1), .val (.int p2), .val (.int (0 : Int32)), .val (.ref b1), .val (.long vv), .second, .val (.int (1 : Int32))] [(.int (1 : Int32)), (.int (own_fb0 p2))]
        have c187_31 : (own_fb0 p2) = (1 : Int32) := rfl
        refine own_st (fun _ k => XS.icmpNo X29.here hx rfl (hb hby at_187) rfl (teq c187_31).2 k) ?_
        show own_Go X29 (Q0 Z p0 p1 p2 h0 n0) 1 4 190 #[.val (.int p0), .val (.int p1), .val (.int p2), .val (.int (0 : Int32)), .val (.ref b1), .val (.long vv), .second, .val (.int (1 : Int32))] []
        refine own_st (fun _ k => XS.iconst X29.here hx rfl (hb hby at_190) k) ?_
        show own_Go X29 (Q0 Z p0 p1 p2 h0 n0) 1 4 191 #[.val (.int p0), .val (.int p1), .val (.int p2), .val (.int (0 : Int32)), .val (.ref b1), .val (.long vv), .second, .val (.int (1 : Int32))] [(.int (1 : Int32))]
        refine own_st (fun _ k => XS.goto X29.here hx rfl (pc0 := 191) (pc' := 195) rfl (hb hby at_191) (by decide) (by decide) k) ?_
        show own_Go X29 (Q0 Z p0 p1 p2 h0 n0) 1 4 195 #[.val (.int p0), .val (.int p1), .val (.int p2), .val (.int (0 : Int32)), .val (.ref b1), .val (.long vv), .second, .val (.int (1 : Int32))] [(.int (1 : Int32))]
        refine own_retN X29 hx Bd.returns (by simp) hlk e29 (hb hby at_195) (by decide) (by decide) ?_
        exact ⟨rfl, N_30⟩
    · skip
      refine own_st (fun _ k => XS.ifNo X13.here hx rfl (hb hby at_130) rfl ((if0 _ _).trans (flt c130_20).2.2.1) k) ?_
      show own_Go X13 (Q0 Z p0 p1 p2 h0 n0) 1 4 133 #[.val (.int p0), .val (.int p1), .val (.int p2), .val (.int (0 : Int32)), .val (.ref b1), .val (.long vv), .second, .unset] []
      refine own_st (fun _ k => XS.lload X13.here hx rfl (hb hby at_133) rfl k) ?_
      show own_Go X13 (Q0 Z p0 p1 p2 h0 n0) 1 4 135 #[.val (.int p0), .val (.int p1), .val (.int p2), .val (.int (0 : Int32)), .val (.ref b1), .val (.long vv), .second, .unset] [(.long vv)]
      refine own_st (fun _ k => XS.lconst X13.here hx rfl (hb hby at_135) k) ?_
      show own_Go X13 (Q0 Z p0 p1 p2 h0 n0) 1 4 136 #[.val (.int p0), .val (.int p1), .val (.int p2), .val (.int (0 : Int32)), .val (.ref b1), .val (.long vv), .second, .unset] [(.long (0 : Int64)), (.long vv)]
      refine own_st (fun _ k => XS.lcmp X13.here hx rfl (hb hby at_136) rfl k) ?_
      show own_Go X13 (Q0 Z p0 p1 p2 h0 n0) 1 4 137 #[.val (.int p0), .val (.int p1), .val (.int p2), .val (.int (0 : Int32)), .val (.ref b1), .val (.long vv), .second, .unset] [(.int (lcmpW vv (0 : Int64)))]
      by_cases c137_32 : vv = (0 : Int64)
      · skip
        refine own_st (fun _ k => XS.ifNo X13.here hx rfl (hb hby at_137) rfl ((if0 _ _).trans (teq ((lw_eq _ _).mpr c137_32)).2) k) ?_
        show own_Go X13 (Q0 Z p0 p1 p2 h0 n0) 1 4 140 #[.val (.int p0), .val (.int p1), .val (.int p2), .val (.int (0 : Int32)), .val (.ref b1), .val (.long vv), .second, .unset] []
        refine own_st (fun _ k => XS.iconst X13.here hx rfl (hb hby at_140) k) ?_
        show own_Go X13 (Q0 Z p0 p1 p2 h0 n0) 1 4 141 #[.val (.int p0), .val (.int p1), .val (.int p2), .val (.int (0 : Int32)), .val (.ref b1), .val (.long vv), .second, .unset] [(.int (1 : Int32))]
        refine own_st (fun _ k => XS.goto X13.here hx rfl (pc0 := 141) (pc' := 145) rfl (hb hby at_141) (by decide) (by decide) k) ?_
        show own_Go X13 (Q0 Z p0 p1 p2 h0 n0) 1 4 145 #[.val (.int p0), .val (.int p1), .val (.int p2), .val (.int (0 : Int32)), .val (.ref b1), .val (.long vv), .second, .unset] [(.int (1 : Int32))]
        refine own_st (fun _ k => XS.istore X13.here hx rfl (hb hby at_145) rfl (l' := #[.val (.int p0), .val (.int p1), .val (.int p2), .val (.int (0 : Int32)), .val (.ref b1), .val (.long vv), .second, .val (.int (1 : Int32))]) rfl k) ?_
        show own_Go X13 (Q0 Z p0 p1 p2 h0 n0) 1 4 147 #[.val (.int p0), .val (.int p1), .val (.int p2), .val (.int (0 : Int32)), .val (.ref b1), .val (.long vv), .second, .val (.int (1 : Int32))] []
        refine own_st (fun _ k => XS.goto X13.here hx rfl (pc0 := 147) (pc' := 178) rfl (hb hby at_147) (by decide) (by decide) k) ?_
        show own_Go X13 (Q0 Z p0 p1 p2 h0 n0) 1 4 178 #[.val (.int p0), .val (.int p1), .val (.int p2), .val (.int (0 : Int32)), .val (.ref b1), .val (.long vv), .second, .val (.int (1 : Int32))] []
        refine own_st (fun _ k => XS.aload X13.here hx rfl (hb hby at_178) rfl rfl k) ?_
        show own_Go X13 (Q0 Z p0 p1 p2 h0 n0) 1 4 180 #[.val (.int p0), .val (.int p1), .val (.int p2), .val (.int (0 : Int32)), .val (.ref b1), .val (.long vv), .second, .val (.int (1 : Int32))] [(.ref b1)]
        refine own_st (fun _ k => XS.iloadN X13.here hx rfl (hb hby at_180) rfl k) ?_
        show own_Go X13 (Q0 Z p0 p1 p2 h0 n0) 1 4 181 #[.val (.int p0), .val (.int p1), .val (.int p2), .val (.int (0 : Int32)), .val (.ref b1), .val (.long vv), .second, .val (.int (1 : Int32))] [(.int (0 : Int32)), (.ref b1)]
        refine own_st (fun _ k => XS.iloadN X13.here hx rfl (hb hby at_181) rfl k) ?_
        show own_Go X13 (Q0 Z p0 p1 p2 h0 n0) 1 4 182 #[.val (.int p0), .val (.int p1), .val (.int p2), .val (.int (0 : Int32)), .val (.ref b1), .val (.long vv), .second, .val (.int (1 : Int32))] [(.int p2), (.int (0 : Int32)), (.ref b1)]
        refine own_callS (W := 0) X13 hx hZ hown (hw _ (List.mem_of_getElem? (i := 1) rfl)) (hw _ (List.mem_of_getElem? (i := 2) rfl)) (hw _ (List.mem_of_getElem? (i := 3) rfl)) (hw _ (List.mem_of_getElem? (i := 4) rfl)) (by decide) (rm10 l Z a0 hw [] b1 p2 k1 y0 y1 y2 y3 h13 n0 Z_14 VR) (by decide) (by decide) (by rw [hml]; rfl) [(.ref b1), (.int (0 : Int32)), (.int p2)] [] (lenOf pd_0_0 rfl) rfl rfl (Nat.le_of_ble_eq_true rfl) (hb hby at_182) e13 (by decide) (by decide) ?_
        rintro _ T33 L33 X33 ⟨rfl, N33q, e33⟩
        have N_34 := Fr.app N_15 N33q
        show own_Go X33 (Q0 Z p0 p1 p2 h0 n0) 1 4 185 #[.val (.int p0), .val (.int p1), .val (.int p2), .val (.int (0 : Int32)), .val (.ref b1), .val (.long vv), .second, .val (.int (1 : Int32))] [(.int (own_fb0 p2))]
        refine own_st (fun _ k => XS.iload X33.here hx rfl (hb hby at_185) rfl k) ?_
        show own_Go X33 (Q0 Z p0 p1 p2 h0 n0) 1 4 187 #[.val (.int p0), .val (.int p1), .val (.int p2), .val (.int (0 : Int32)), .val (.ref b1), .val (.long vv), .second, .val (.int (1 : Int32))] [(.int (1 : Int32)), (.int (own_fb0 p2))]
        have c187_35 : (own_fb0 p2) = (1 : Int32) := rfl
        refine own_st (fun _ k => XS.icmpNo X33.here hx rfl (hb hby at_187) rfl (teq c187_35).2 k) ?_
        show own_Go X33 (Q0 Z p0 p1 p2 h0 n0) 1 4 190 #[.val (.int p0), .val (.int p1), .val (.int p2), .val (.int (0 : Int32)), .val (.ref b1), .val (.long vv), .second, .val (.int (1 : Int32))] []
        refine own_st (fun _ k => XS.iconst X33.here hx rfl (hb hby at_190) k) ?_
        show own_Go X33 (Q0 Z p0 p1 p2 h0 n0) 1 4 191 #[.val (.int p0), .val (.int p1), .val (.int p2), .val (.int (0 : Int32)), .val (.ref b1), .val (.long vv), .second, .val (.int (1 : Int32))] [(.int (1 : Int32))]
        refine own_st (fun _ k => XS.goto X33.here hx rfl (pc0 := 191) (pc' := 195) rfl (hb hby at_191) (by decide) (by decide) k) ?_
        show own_Go X33 (Q0 Z p0 p1 p2 h0 n0) 1 4 195 #[.val (.int p0), .val (.int p1), .val (.int p2), .val (.int (0 : Int32)), .val (.ref b1), .val (.long vv), .second, .val (.int (1 : Int32))] [(.int (1 : Int32))]
        refine own_retN X33 hx Bd.returns (by simp) hlk e33 (hb hby at_195) (by decide) (by decide) ?_
        exact ⟨rfl, N_34⟩
      · skip
        refine own_st (fun _ k => XS.ifYes X13.here hx rfl (pc0 := 137) (pc' := 144) rfl (hb hby at_137) rfl ((if0 _ _).trans (feq (fun q => c137_32 ((lw_eq _ _).mp q))).2) (by decide) (by decide) k) ?_
        show own_Go X13 (Q0 Z p0 p1 p2 h0 n0) 1 4 144 #[.val (.int p0), .val (.int p1), .val (.int p2), .val (.int (0 : Int32)), .val (.ref b1), .val (.long vv), .second, .unset] []
        refine own_st (fun _ k => XS.iconst X13.here hx rfl (hb hby at_144) k) ?_
        show own_Go X13 (Q0 Z p0 p1 p2 h0 n0) 1 4 145 #[.val (.int p0), .val (.int p1), .val (.int p2), .val (.int (0 : Int32)), .val (.ref b1), .val (.long vv), .second, .unset] [(.int (0 : Int32))]
        refine own_st (fun _ k => XS.istore X13.here hx rfl (hb hby at_145) rfl (l' := #[.val (.int p0), .val (.int p1), .val (.int p2), .val (.int (0 : Int32)), .val (.ref b1), .val (.long vv), .second, .val (.int (0 : Int32))]) rfl k) ?_
        show own_Go X13 (Q0 Z p0 p1 p2 h0 n0) 1 4 147 #[.val (.int p0), .val (.int p1), .val (.int p2), .val (.int (0 : Int32)), .val (.ref b1), .val (.long vv), .second, .val (.int (0 : Int32))] []
        refine own_st (fun _ k => XS.goto X13.here hx rfl (pc0 := 147) (pc' := 178) rfl (hb hby at_147) (by decide) (by decide) k) ?_
        show own_Go X13 (Q0 Z p0 p1 p2 h0 n0) 1 4 178 #[.val (.int p0), .val (.int p1), .val (.int p2), .val (.int (0 : Int32)), .val (.ref b1), .val (.long vv), .second, .val (.int (0 : Int32))] []
        refine own_st (fun _ k => XS.aload X13.here hx rfl (hb hby at_178) rfl rfl k) ?_
        show own_Go X13 (Q0 Z p0 p1 p2 h0 n0) 1 4 180 #[.val (.int p0), .val (.int p1), .val (.int p2), .val (.int (0 : Int32)), .val (.ref b1), .val (.long vv), .second, .val (.int (0 : Int32))] [(.ref b1)]
        refine own_st (fun _ k => XS.iloadN X13.here hx rfl (hb hby at_180) rfl k) ?_
        show own_Go X13 (Q0 Z p0 p1 p2 h0 n0) 1 4 181 #[.val (.int p0), .val (.int p1), .val (.int p2), .val (.int (0 : Int32)), .val (.ref b1), .val (.long vv), .second, .val (.int (0 : Int32))] [(.int (0 : Int32)), (.ref b1)]
        refine own_st (fun _ k => XS.iloadN X13.here hx rfl (hb hby at_181) rfl k) ?_
        show own_Go X13 (Q0 Z p0 p1 p2 h0 n0) 1 4 182 #[.val (.int p0), .val (.int p1), .val (.int p2), .val (.int (0 : Int32)), .val (.ref b1), .val (.long vv), .second, .val (.int (0 : Int32))] [(.int p2), (.int (0 : Int32)), (.ref b1)]
        refine own_callS (W := 0) X13 hx hZ hown (hw _ (List.mem_of_getElem? (i := 1) rfl)) (hw _ (List.mem_of_getElem? (i := 2) rfl)) (hw _ (List.mem_of_getElem? (i := 3) rfl)) (hw _ (List.mem_of_getElem? (i := 4) rfl)) (by decide) (rm10 l Z a0 hw [] b1 p2 k1 y0 y1 y2 y3 h13 n0 Z_14 VR) (by decide) (by decide) (by rw [hml]; rfl) [(.ref b1), (.int (0 : Int32)), (.int p2)] [] (lenOf pd_0_0 rfl) rfl rfl (Nat.le_of_ble_eq_true rfl) (hb hby at_182) e13 (by decide) (by decide) ?_
        rintro _ T36 L36 X36 ⟨rfl, N36q, e36⟩
        have N_37 := Fr.app N_15 N36q
        show own_Go X36 (Q0 Z p0 p1 p2 h0 n0) 1 4 185 #[.val (.int p0), .val (.int p1), .val (.int p2), .val (.int (0 : Int32)), .val (.ref b1), .val (.long vv), .second, .val (.int (0 : Int32))] [(.int (own_fb0 p2))]
        refine own_st (fun _ k => XS.iload X36.here hx rfl (hb hby at_185) rfl k) ?_
        show own_Go X36 (Q0 Z p0 p1 p2 h0 n0) 1 4 187 #[.val (.int p0), .val (.int p1), .val (.int p2), .val (.int (0 : Int32)), .val (.ref b1), .val (.long vv), .second, .val (.int (0 : Int32))] [(.int (0 : Int32)), (.int (own_fb0 p2))]
        have c187_38 : (own_fb0 p2) = (0 : Int32) := absurd (show U < 2 ^ p2.toInt.toNat from by rw [hU]; exact Nat.pow_pos (by decide)) (fun z => c137_32 ((own_le0 hvU c130_20).mp z))
        refine own_st (fun _ k => XS.icmpNo X36.here hx rfl (hb hby at_187) rfl (teq c187_38).2 k) ?_
        show own_Go X36 (Q0 Z p0 p1 p2 h0 n0) 1 4 190 #[.val (.int p0), .val (.int p1), .val (.int p2), .val (.int (0 : Int32)), .val (.ref b1), .val (.long vv), .second, .val (.int (0 : Int32))] []
        refine own_st (fun _ k => XS.iconst X36.here hx rfl (hb hby at_190) k) ?_
        show own_Go X36 (Q0 Z p0 p1 p2 h0 n0) 1 4 191 #[.val (.int p0), .val (.int p1), .val (.int p2), .val (.int (0 : Int32)), .val (.ref b1), .val (.long vv), .second, .val (.int (0 : Int32))] [(.int (1 : Int32))]
        refine own_st (fun _ k => XS.goto X36.here hx rfl (pc0 := 191) (pc' := 195) rfl (hb hby at_191) (by decide) (by decide) k) ?_
        show own_Go X36 (Q0 Z p0 p1 p2 h0 n0) 1 4 195 #[.val (.int p0), .val (.int p1), .val (.int p2), .val (.int (0 : Int32)), .val (.ref b1), .val (.long vv), .second, .val (.int (0 : Int32))] [(.int (1 : Int32))]
        refine own_retN X36 hx Bd.returns (by simp) hlk e36 (hb hby at_195) (by decide) (by decide) ?_
        exact ⟨rfl, N_37⟩
  · skip
    show own_Go X13 (Q0 Z p0 p1 p2 h0 n0) 1 4 48 #[.val (.int p0), .val (.int p1), .val (.int p2), .val (.int (1 : Int32)), .val (.ref b1), .val (.long (0 : Int64)), .second, .unset] []
    refine own_st (fun _ k => XS.iloadN X13.here hx rfl (hb hby at_48) rfl k) ?_
    show own_Go X13 (Q0 Z p0 p1 p2 h0 n0) 1 4 49 #[.val (.int p0), .val (.int p1), .val (.int p2), .val (.int (1 : Int32)), .val (.ref b1), .val (.long (0 : Int64)), .second, .unset] [(.int (1 : Int32))]
    have c49_39 : (0 : Int32) < (1 : Int32) := (by decide)
    refine own_st (fun _ k => XS.ifNo X13.here hx rfl (hb hby at_49) rfl ((if0 _ _).trans (tlt c49_39).2.2.2) k) ?_
    show own_Go X13 (Q0 Z p0 p1 p2 h0 n0) 1 4 52 #[.val (.int p0), .val (.int p1), .val (.int p2), .val (.int (1 : Int32)), .val (.ref b1), .val (.long (0 : Int64)), .second, .unset] []
    refine own_st (fun _ k => XS.aload X13.here hx rfl (hb hby at_52) rfl rfl k) ?_
    show own_Go X13 (Q0 Z p0 p1 p2 h0 n0) 1 4 54 #[.val (.int p0), .val (.int p1), .val (.int p2), .val (.int (1 : Int32)), .val (.ref b1), .val (.long (0 : Int64)), .second, .unset] [(.ref b1)]
    refine own_st (fun _ k => XS.iconst X13.here hx rfl (hb hby at_54) k) ?_
    show own_Go X13 (Q0 Z p0 p1 p2 h0 n0) 1 4 55 #[.val (.int p0), .val (.int p1), .val (.int p2), .val (.int (1 : Int32)), .val (.ref b1), .val (.long (0 : Int64)), .second, .unset] [(.int (0 : Int32)), (.ref b1)]
    refine own_st (fun _ k => own_ldB X13 hx hZ e13 VR (j := (0 : Int32)) ⟨by decide, by decide⟩ (v := (.int y0)) rfl (g := (mkF m 55 #[.val (.int p0), .val (.int p1), .val (.int p2), .val (.int (1 : Int32)), .val (.ref b1), .val (.long (0 : Int64)), .second, .unset] [(.int (0 : Int32)), (.ref b1)])) rfl rfl (hb hby at_55) _ k) ?_
    show own_Go X13 (Q0 Z p0 p1 p2 h0 n0) 1 4 56 #[.val (.int p0), .val (.int p1), .val (.int p2), .val (.int (1 : Int32)), .val (.ref b1), .val (.long (0 : Int64)), .second, .unset] [(.int y0)]
    refine own_st (fun _ k => XS.sipush X13.here hx rfl (hb hby at_56) k) ?_
    show own_Go X13 (Q0 Z p0 p1 p2 h0 n0) 1 4 59 #[.val (.int p0), .val (.int p1), .val (.int p2), .val (.int (1 : Int32)), .val (.ref b1), .val (.long (0 : Int64)), .second, .unset] [(.int (255 : Int32)), (.int y0)]
    refine own_st (fun _ k => XS.iand X13.here hx rfl (hb hby at_59) rfl k) ?_
    show own_Go X13 (Q0 Z p0 p1 p2 h0 n0) 1 4 60 #[.val (.int p0), .val (.int p1), .val (.int p2), .val (.int (1 : Int32)), .val (.ref b1), .val (.long (0 : Int64)), .second, .unset] [(.int (y0 &&& (255 : Int32)))]
    refine own_st (fun _ k => XS.i2l X13.here hx rfl (hb hby at_60) rfl k) ?_
    show own_Go X13 (Q0 Z p0 p1 p2 h0 n0) 1 4 61 #[.val (.int p0), .val (.int p1), .val (.int p2), .val (.int (1 : Int32)), .val (.ref b1), .val (.long (0 : Int64)), .second, .unset] [(.long ((y0 &&& (255 : Int32)).toInt64))]
    refine own_st (fun _ k => XS.lstore X13.here hx rfl (hb hby at_61) rfl (l' := #[.val (.int p0), .val (.int p1), .val (.int p2), .val (.int (1 : Int32)), .val (.ref b1), .val (.long ((y0 &&& (255 : Int32)).toInt64)), .second, .unset]) rfl k) ?_
    show own_Go X13 (Q0 Z p0 p1 p2 h0 n0) 1 4 63 #[.val (.int p0), .val (.int p1), .val (.int p2), .val (.int (1 : Int32)), .val (.ref b1), .val (.long ((y0 &&& (255 : Int32)).toInt64)), .second, .unset] []
    refine own_st (fun _ k => XS.iloadN X13.here hx rfl (hb hby at_63) rfl k) ?_
    show own_Go X13 (Q0 Z p0 p1 p2 h0 n0) 1 4 64 #[.val (.int p0), .val (.int p1), .val (.int p2), .val (.int (1 : Int32)), .val (.ref b1), .val (.long ((y0 &&& (255 : Int32)).toInt64)), .second, .unset] [(.int (1 : Int32))]
    refine own_st (fun _ k => XS.iconst X13.here hx rfl (hb hby at_64) k) ?_
    show own_Go X13 (Q0 Z p0 p1 p2 h0 n0) 1 4 65 #[.val (.int p0), .val (.int p1), .val (.int p2), .val (.int (1 : Int32)), .val (.ref b1), .val (.long ((y0 &&& (255 : Int32)).toInt64)), .second, .unset] [(.int (1 : Int32)), (.int (1 : Int32))]
    have c65_40 : ¬ ((1 : Int32) < (1 : Int32)) := (by decide)
    refine own_st (fun _ k => XS.icmpYes X13.here hx rfl (pc0 := 65) (pc' := 85) rfl (hb hby at_65) rfl (flt c65_40).2.2.2 (by decide) (by decide) k) ?_
    show own_Go X13 (Q0 Z p0 p1 p2 h0 n0) 1 4 85 #[.val (.int p0), .val (.int p1), .val (.int p2), .val (.int (1 : Int32)), .val (.ref b1), .val (.long ((y0 &&& (255 : Int32)).toInt64)), .second, .unset] []
    refine own_st (fun _ k => XS.iloadN X13.here hx rfl (hb hby at_85) rfl k) ?_
    show own_Go X13 (Q0 Z p0 p1 p2 h0 n0) 1 4 86 #[.val (.int p0), .val (.int p1), .val (.int p2), .val (.int (1 : Int32)), .val (.ref b1), .val (.long ((y0 &&& (255 : Int32)).toInt64)), .second, .unset] [(.int (1 : Int32))]
    refine own_st (fun _ k => XS.iconst X13.here hx rfl (hb hby at_86) k) ?_
    show own_Go X13 (Q0 Z p0 p1 p2 h0 n0) 1 4 87 #[.val (.int p0), .val (.int p1), .val (.int p2), .val (.int (1 : Int32)), .val (.ref b1), .val (.long ((y0 &&& (255 : Int32)).toInt64)), .second, .unset] [(.int (2 : Int32)), (.int (1 : Int32))]
    have c87_41 : ¬ ((2 : Int32) < (1 : Int32)) := (by decide)
    refine own_st (fun _ k => XS.icmpYes X13.here hx rfl (pc0 := 87) (pc' := 107) rfl (hb hby at_87) rfl (flt c87_41).2.2.2 (by decide) (by decide) k) ?_
    show own_Go X13 (Q0 Z p0 p1 p2 h0 n0) 1 4 107 #[.val (.int p0), .val (.int p1), .val (.int p2), .val (.int (1 : Int32)), .val (.ref b1), .val (.long ((y0 &&& (255 : Int32)).toInt64)), .second, .unset] []
    refine own_st (fun _ k => XS.iloadN X13.here hx rfl (hb hby at_107) rfl k) ?_
    show own_Go X13 (Q0 Z p0 p1 p2 h0 n0) 1 4 108 #[.val (.int p0), .val (.int p1), .val (.int p2), .val (.int (1 : Int32)), .val (.ref b1), .val (.long ((y0 &&& (255 : Int32)).toInt64)), .second, .unset] [(.int (1 : Int32))]
    refine own_st (fun _ k => XS.iconst X13.here hx rfl (hb hby at_108) k) ?_
    show own_Go X13 (Q0 Z p0 p1 p2 h0 n0) 1 4 109 #[.val (.int p0), .val (.int p1), .val (.int p2), .val (.int (1 : Int32)), .val (.ref b1), .val (.long ((y0 &&& (255 : Int32)).toInt64)), .second, .unset] [(.int (3 : Int32)), (.int (1 : Int32))]
    have c109_42 : ¬ ((3 : Int32) < (1 : Int32)) := (by decide)
    refine own_st (fun _ k => XS.icmpYes X13.here hx rfl (pc0 := 109) (pc' := 129) rfl (hb hby at_109) rfl (flt c109_42).2.2.2 (by decide) (by decide) k) ?_
    show own_Go X13 (Q0 Z p0 p1 p2 h0 n0) 1 4 129 #[.val (.int p0), .val (.int p1), .val (.int p2), .val (.int (1 : Int32)), .val (.ref b1), .val (.long ((y0 &&& (255 : Int32)).toInt64)), .second, .unset] []
    generalize hvv : ((y0 &&& (255 : Int32)).toInt64) = vv
    show own_Go X13 (Q0 Z p0 p1 p2 h0 n0) 1 4 129 #[.val (.int p0), .val (.int p1), .val (.int p2), .val (.int (1 : Int32)), .val (.ref b1), .val (.long vv), .second, .unset] []
    obtain ⟨U, hU⟩ : ∃ U : Nat, U = B0 := ⟨_, rfl⟩
    have t0 := c_i2l (y0 &&& (255 : Int32))
    have hvU : vv.toInt = U := by rw [← hvv, t0, hU]; omega
    have hU32 : U < 4294967296 := by omega
    refine own_st (fun _ k => XS.iloadN X13.here hx rfl (hb hby at_129) rfl k) ?_
    show own_Go X13 (Q0 Z p0 p1 p2 h0 n0) 1 4 130 #[.val (.int p0), .val (.int p1), .val (.int p2), .val (.int (1 : Int32)), .val (.ref b1), .val (.long vv), .second, .unset] [(.int p2)]
    by_cases c130_43 : (0 : Int32) < p2
    · skip
      refine own_st (fun _ k => XS.ifYes X13.here hx rfl (pc0 := 130) (pc' := 150) rfl (hb hby at_130) rfl ((if0 _ _).trans (tlt c130_43).2.2.1) (by decide) (by decide) k) ?_
      show own_Go X13 (Q0 Z p0 p1 p2 h0 n0) 1 4 150 #[.val (.int p0), .val (.int p1), .val (.int p2), .val (.int (1 : Int32)), .val (.ref b1), .val (.long vv), .second, .unset] []
      refine own_st (fun _ k => XS.iloadN X13.here hx rfl (hb hby at_150) rfl k) ?_
      show own_Go X13 (Q0 Z p0 p1 p2 h0 n0) 1 4 151 #[.val (.int p0), .val (.int p1), .val (.int p2), .val (.int (1 : Int32)), .val (.ref b1), .val (.long vv), .second, .unset] [(.int p2)]
      refine own_st (fun _ k => XS.bipush X13.here hx rfl (hb hby at_151) k) ?_
      show own_Go X13 (Q0 Z p0 p1 p2 h0 n0) 1 4 153 #[.val (.int p0), .val (.int p1), .val (.int p2), .val (.int (1 : Int32)), .val (.ref b1), .val (.long vv), .second, .unset] [(.int (40 : Int32)), (.int p2)]
      by_cases c153_44 : p2 < (40 : Int32)
      · skip
        refine own_st (fun _ k => XS.icmpYes X13.here hx rfl (pc0 := 153) (pc' := 162) rfl (hb hby at_153) rfl (tlt c153_44).1 (by decide) (by decide) k) ?_
        show own_Go X13 (Q0 Z p0 p1 p2 h0 n0) 1 4 162 #[.val (.int p0), .val (.int p1), .val (.int p2), .val (.int (1 : Int32)), .val (.ref b1), .val (.long vv), .second, .unset] []
        refine own_st (fun _ k => XS.lload X13.here hx rfl (hb hby at_162) rfl k) ?_
        show own_Go X13 (Q0 Z p0 p1 p2 h0 n0) 1 4 164 #[.val (.int p0), .val (.int p1), .val (.int p2), .val (.int (1 : Int32)), .val (.ref b1), .val (.long vv), .second, .unset] [(.long vv)]
        refine own_st (fun _ k => XS.iloadN X13.here hx rfl (hb hby at_164) rfl k) ?_
        show own_Go X13 (Q0 Z p0 p1 p2 h0 n0) 1 4 165 #[.val (.int p0), .val (.int p1), .val (.int p2), .val (.int (1 : Int32)), .val (.ref b1), .val (.long vv), .second, .unset] [(.int p2), (.long vv)]
        refine own_st (fun _ k => XS.lushr X13.here hx rfl (hb hby at_165) rfl k) ?_
        show own_Go X13 (Q0 Z p0 p1 p2 h0 n0) 1 4 166 #[.val (.int p0), .val (.int p1), .val (.int p2), .val (.int (1 : Int32)), .val (.ref b1), .val (.long vv), .second, .unset] [(.long ((vv.toUInt64 >>> (p2 &&& 0x3f).toInt64.toUInt64).toInt64))]
        refine own_st (fun _ k => XS.lconst X13.here hx rfl (hb hby at_166) k) ?_
        show own_Go X13 (Q0 Z p0 p1 p2 h0 n0) 1 4 167 #[.val (.int p0), .val (.int p1), .val (.int p2), .val (.int (1 : Int32)), .val (.ref b1), .val (.long vv), .second, .unset] [(.long (0 : Int64)), (.long ((vv.toUInt64 >>> (p2 &&& 0x3f).toInt64.toUInt64).toInt64))]
        refine own_st (fun _ k => XS.lcmp X13.here hx rfl (hb hby at_167) rfl k) ?_
        show own_Go X13 (Q0 Z p0 p1 p2 h0 n0) 1 4 168 #[.val (.int p0), .val (.int p1), .val (.int p2), .val (.int (1 : Int32)), .val (.ref b1), .val (.long vv), .second, .unset] [(.int (lcmpW ((vv.toUInt64 >>> (p2 &&& 0x3f).toInt64.toUInt64).toInt64) (0 : Int64)))]
        by_cases c168_45 : ((vv.toUInt64 >>> (p2 &&& 0x3f).toInt64.toUInt64).toInt64) = (0 : Int64)
        · skip
          refine own_st (fun _ k => XS.ifNo X13.here hx rfl (hb hby at_168) rfl ((if0 _ _).trans (teq ((lw_eq _ _).mpr c168_45)).2) k) ?_
          show own_Go X13 (Q0 Z p0 p1 p2 h0 n0) 1 4 171 #[.val (.int p0), .val (.int p1), .val (.int p2), .val (.int (1 : Int32)), .val (.ref b1), .val (.long vv), .second, .unset] []
          refine own_st (fun _ k => XS.iconst X13.here hx rfl (hb hby at_171) k) ?_
          show own_Go X13 (Q0 Z p0 p1 p2 h0 n0) 1 4 172 #[.val (.int p0), .val (.int p1), .val (.int p2), .val (.int (1 : Int32)), .val (.ref b1), .val (.long vv), .second, .unset] [(.int (1 : Int32))]
          refine own_st (fun _ k => XS.goto X13.here hx rfl (pc0 := 172) (pc' := 176) rfl (hb hby at_172) (by decide) (by decide) k) ?_
          show own_Go X13 (Q0 Z p0 p1 p2 h0 n0) 1 4 176 #[.val (.int p0), .val (.int p1), .val (.int p2), .val (.int (1 : Int32)), .val (.ref b1), .val (.long vv), .second, .unset] [(.int (1 : Int32))]
          refine own_st (fun _ k => XS.istore X13.here hx rfl (hb hby at_176) rfl (l' := #[.val (.int p0), .val (.int p1), .val (.int p2), .val (.int (1 : Int32)), .val (.ref b1), .val (.long vv), .second, .val (.int (1 : Int32))]) rfl k) ?_
          show own_Go X13 (Q0 Z p0 p1 p2 h0 n0) 1 4 178 #[.val (.int p0), .val (.int p1), .val (.int p2), .val (.int (1 : Int32)), .val (.ref b1), .val (.long vv), .second, .val (.int (1 : Int32))] []
          refine own_st (fun _ k => XS.aload X13.here hx rfl (hb hby at_178) rfl rfl k) ?_
          show own_Go X13 (Q0 Z p0 p1 p2 h0 n0) 1 4 180 #[.val (.int p0), .val (.int p1), .val (.int p2), .val (.int (1 : Int32)), .val (.ref b1), .val (.long vv), .second, .val (.int (1 : Int32))] [(.ref b1)]
          refine own_st (fun _ k => XS.iloadN X13.here hx rfl (hb hby at_180) rfl k) ?_
          show own_Go X13 (Q0 Z p0 p1 p2 h0 n0) 1 4 181 #[.val (.int p0), .val (.int p1), .val (.int p2), .val (.int (1 : Int32)), .val (.ref b1), .val (.long vv), .second, .val (.int (1 : Int32))] [(.int (1 : Int32)), (.ref b1)]
          refine own_st (fun _ k => XS.iloadN X13.here hx rfl (hb hby at_181) rfl k) ?_
          show own_Go X13 (Q0 Z p0 p1 p2 h0 n0) 1 4 182 #[.val (.int p0), .val (.int p1), .val (.int p2), .val (.int (1 : Int32)), .val (.ref b1), .val (.long vv), .second, .val (.int (1 : Int32))] [(.int p2), (.int (1 : Int32)), (.ref b1)]
          refine own_callS (W := 0) X13 hx hZ hown (hw _ (List.mem_of_getElem? (i := 1) rfl)) (hw _ (List.mem_of_getElem? (i := 2) rfl)) (hw _ (List.mem_of_getElem? (i := 3) rfl)) (hw _ (List.mem_of_getElem? (i := 4) rfl)) (by decide) (rm11 l Z a0 hw [] b1 p2 k1 y0 y1 y2 y3 h13 n0 Z_14 VR) (by decide) (by decide) (by rw [hml]; rfl) [(.ref b1), (.int (1 : Int32)), (.int p2)] [] (lenOf pd_0_0 rfl) rfl rfl (Nat.le_of_ble_eq_true rfl) (hb hby at_182) e13 (by decide) (by decide) ?_
          rintro _ T46 L46 X46 ⟨rfl, N46q, e46⟩
          have N_47 := Fr.app N_15 N46q
          show own_Go X46 (Q0 Z p0 p1 p2 h0 n0) 1 4 185 #[.val (.int p0), .val (.int p1), .val (.int p2), .val (.int (1 : Int32)), .val (.ref b1), .val (.long vv), .second, .val (.int (1 : Int32))] [(.int (own_fb1 y0 p2))]
          refine own_st (fun _ k => XS.iload X46.here hx rfl (hb hby at_185) rfl k) ?_
          show own_Go X46 (Q0 Z p0 p1 p2 h0 n0) 1 4 187 #[.val (.int p0), .val (.int p1), .val (.int p2), .val (.int (1 : Int32)), .val (.ref b1), .val (.long vv), .second, .val (.int (1 : Int32))] [(.int (1 : Int32)), (.int (own_fb1 y0 p2))]
          have c187_48 : (own_fb1 y0 p2) = (1 : Int32) := by rw [own_f1 z0 hU, if_pos ((own_mid hvU hU32 c130_43 c153_44).mpr c168_45)]
          refine own_st (fun _ k => XS.icmpNo X46.here hx rfl (hb hby at_187) rfl (teq c187_48).2 k) ?_
          show own_Go X46 (Q0 Z p0 p1 p2 h0 n0) 1 4 190 #[.val (.int p0), .val (.int p1), .val (.int p2), .val (.int (1 : Int32)), .val (.ref b1), .val (.long vv), .second, .val (.int (1 : Int32))] []
          refine own_st (fun _ k => XS.iconst X46.here hx rfl (hb hby at_190) k) ?_
          show own_Go X46 (Q0 Z p0 p1 p2 h0 n0) 1 4 191 #[.val (.int p0), .val (.int p1), .val (.int p2), .val (.int (1 : Int32)), .val (.ref b1), .val (.long vv), .second, .val (.int (1 : Int32))] [(.int (1 : Int32))]
          refine own_st (fun _ k => XS.goto X46.here hx rfl (pc0 := 191) (pc' := 195) rfl (hb hby at_191) (by decide) (by decide) k) ?_
          show own_Go X46 (Q0 Z p0 p1 p2 h0 n0) 1 4 195 #[.val (.int p0), .val (.int p1), .val (.int p2), .val (.int (1 : Int32)), .val (.ref b1), .val (.long vv), .second, .val (.int (1 : Int32))] [(.int (1 : Int32))]
          refine own_retN X46 hx Bd.returns (by simp) hlk e46 (hb hby at_195) (by decide) (by decide) ?_
          exact ⟨rfl, N_47⟩
        · skip
          refine own_st (fun _ k => XS.ifYes X13.here hx rfl (pc0 := 168) (pc' := 175) rfl (hb hby at_168) rfl ((if0 _ _).trans (feq (fun q => c168_45 ((lw_eq _ _).mp q))).2) (by decide) (by decide) k) ?_
          show own_Go X13 (Q0 Z p0 p1 p2 h0 n0) 1 4 175 #[.val (.int p0), .val (.int p1), .val (.int p2), .val (.int (1 : Int32)), .val (.ref b1), .val (.long vv), .second, .unset] []
          refine own_st (fun _ k => XS.iconst X13.here hx rfl (hb hby at_175) k) ?_
          show own_Go X13 (Q0 Z p0 p1 p2 h0 n0) 1 4 176 #[.val (.int p0), .val (.int p1), .val (.int p2), .val (.int (1 : Int32)), .val (.ref b1), .val (.long vv), .second, .unset] [(.int (0 : Int32))]
          refine own_st (fun _ k => XS.istore X13.here hx rfl (hb hby at_176) rfl (l' := #[.val (.int p0), .val (.int p1), .val (.int p2), .val (.int (1 : Int32)), .val (.ref b1), .val (.long vv), .second, .val (.int (0 : Int32))]) rfl k) ?_
          show own_Go X13 (Q0 Z p0 p1 p2 h0 n0) 1 4 178 #[.val (.int p0), .val (.int p1), .val (.int p2), .val (.int (1 : Int32)), .val (.ref b1), .val (.long vv), .second, .val (.int (0 : Int32))] []
          refine own_st (fun _ k => XS.aload X13.here hx rfl (hb hby at_178) rfl rfl k) ?_
          show own_Go X13 (Q0 Z p0 p1 p2 h0 n0) 1 4 180 #[.val (.int p0), .val (.int p1), .val (.int p2), .val (.int (1 : Int32)), .val (.ref b1), .val (.long vv), .second, .val (.int (0 : Int32))] [(.ref b1)]
          refine own_st (fun _ k => XS.iloadN X13.here hx rfl (hb hby at_180) rfl k) ?_
          show own_Go X13 (Q0 Z p0 p1 p2 h0 n0) 1 4 181 #[.val (.int p0), .val (.int p1), .val (.int p2), .val (.int (1 : Int32)), .val (.ref b1), .val (.long vv), .second, .val (.int (0 : Int32))] [(.int (1 : Int32)), (.ref b1)]
          refine own_st (fun _ k => XS.iloadN X13.here hx rfl (hb hby at_181) rfl k) ?_
          show own_Go X13 (Q0 Z p0 p1 p2 h0 n0) 1 4 182 #[.val (.int p0), .val (.int p1), .val (.int p2), .val (.int (1 : Int32)), .val (.ref b1), .val (.long vv), .second, .val (.int (0 : Int32))] [(.int p2), (.int (1 : Int32)), (.ref b1)]
          refine own_callS (W := 0) X13 hx hZ hown (hw _ (List.mem_of_getElem? (i := 1) rfl)) (hw _ (List.mem_of_getElem? (i := 2) rfl)) (hw _ (List.mem_of_getElem? (i := 3) rfl)) (hw _ (List.mem_of_getElem? (i := 4) rfl)) (by decide) (rm11 l Z a0 hw [] b1 p2 k1 y0 y1 y2 y3 h13 n0 Z_14 VR) (by decide) (by decide) (by rw [hml]; rfl) [(.ref b1), (.int (1 : Int32)), (.int p2)] [] (lenOf pd_0_0 rfl) rfl rfl (Nat.le_of_ble_eq_true rfl) (hb hby at_182) e13 (by decide) (by decide) ?_
          rintro _ T49 L49 X49 ⟨rfl, N49q, e49⟩
          have N_50 := Fr.app N_15 N49q
          show own_Go X49 (Q0 Z p0 p1 p2 h0 n0) 1 4 185 #[.val (.int p0), .val (.int p1), .val (.int p2), .val (.int (1 : Int32)), .val (.ref b1), .val (.long vv), .second, .val (.int (0 : Int32))] [(.int (own_fb1 y0 p2))]
          refine own_st (fun _ k => XS.iload X49.here hx rfl (hb hby at_185) rfl k) ?_
          show own_Go X49 (Q0 Z p0 p1 p2 h0 n0) 1 4 187 #[.val (.int p0), .val (.int p1), .val (.int p2), .val (.int (1 : Int32)), .val (.ref b1), .val (.long vv), .second, .val (.int (0 : Int32))] [(.int (0 : Int32)), (.int (own_fb1 y0 p2))]
          have c187_51 : (own_fb1 y0 p2) = (0 : Int32) := by rw [own_f1 z0 hU, if_neg (fun z => c168_45 ((own_mid hvU hU32 c130_43 c153_44).mp z))]
          refine own_st (fun _ k => XS.icmpNo X49.here hx rfl (hb hby at_187) rfl (teq c187_51).2 k) ?_
          show own_Go X49 (Q0 Z p0 p1 p2 h0 n0) 1 4 190 #[.val (.int p0), .val (.int p1), .val (.int p2), .val (.int (1 : Int32)), .val (.ref b1), .val (.long vv), .second, .val (.int (0 : Int32))] []
          refine own_st (fun _ k => XS.iconst X49.here hx rfl (hb hby at_190) k) ?_
          show own_Go X49 (Q0 Z p0 p1 p2 h0 n0) 1 4 191 #[.val (.int p0), .val (.int p1), .val (.int p2), .val (.int (1 : Int32)), .val (.ref b1), .val (.long vv), .second, .val (.int (0 : Int32))] [(.int (1 : Int32))]
          refine own_st (fun _ k => XS.goto X49.here hx rfl (pc0 := 191) (pc' := 195) rfl (hb hby at_191) (by decide) (by decide) k) ?_
          show own_Go X49 (Q0 Z p0 p1 p2 h0 n0) 1 4 195 #[.val (.int p0), .val (.int p1), .val (.int p2), .val (.int (1 : Int32)), .val (.ref b1), .val (.long vv), .second, .val (.int (0 : Int32))] [(.int (1 : Int32))]
          refine own_retN X49 hx Bd.returns (by simp) hlk e49 (hb hby at_195) (by decide) (by decide) ?_
          exact ⟨rfl, N_50⟩
      · skip
        refine own_st (fun _ k => XS.icmpNo X13.here hx rfl (hb hby at_153) rfl (flt c153_44).1 k) ?_
        show own_Go X13 (Q0 Z p0 p1 p2 h0 n0) 1 4 156 #[.val (.int p0), .val (.int p1), .val (.int p2), .val (.int (1 : Int32)), .val (.ref b1), .val (.long vv), .second, .unset] []
        refine own_st (fun _ k => XS.iconst X13.here hx rfl (hb hby at_156) k) ?_
        show own_Go X13 (Q0 Z p0 p1 p2 h0 n0) 1 4 157 #[.val (.int p0), .val (.int p1), .val (.int p2), .val (.int (1 : Int32)), .val (.ref b1), .val (.long vv), .second, .unset] [(.int (1 : Int32))]
        refine own_st (fun _ k => XS.istore X13.here hx rfl (hb hby at_157) rfl (l' := #[.val (.int p0), .val (.int p1), .val (.int p2), .val (.int (1 : Int32)), .val (.ref b1), .val (.long vv), .second, .val (.int (1 : Int32))]) rfl k) ?_
        show own_Go X13 (Q0 Z p0 p1 p2 h0 n0) 1 4 159 #[.val (.int p0), .val (.int p1), .val (.int p2), .val (.int (1 : Int32)), .val (.ref b1), .val (.long vv), .second, .val (.int (1 : Int32))] []
        refine own_st (fun _ k => XS.goto X13.here hx rfl (pc0 := 159) (pc' := 178) rfl (hb hby at_159) (by decide) (by decide) k) ?_
        show own_Go X13 (Q0 Z p0 p1 p2 h0 n0) 1 4 178 #[.val (.int p0), .val (.int p1), .val (.int p2), .val (.int (1 : Int32)), .val (.ref b1), .val (.long vv), .second, .val (.int (1 : Int32))] []
        refine own_st (fun _ k => XS.aload X13.here hx rfl (hb hby at_178) rfl rfl k) ?_
        show own_Go X13 (Q0 Z p0 p1 p2 h0 n0) 1 4 180 #[.val (.int p0), .val (.int p1), .val (.int p2), .val (.int (1 : Int32)), .val (.ref b1), .val (.long vv), .second, .val (.int (1 : Int32))] [(.ref b1)]
        refine own_st (fun _ k => XS.iloadN X13.here hx rfl (hb hby at_180) rfl k) ?_
        show own_Go X13 (Q0 Z p0 p1 p2 h0 n0) 1 4 181 #[.val (.int p0), .val (.int p1), .val (.int p2), .val (.int (1 : Int32)), .val (.ref b1), .val (.long vv), .second, .val (.int (1 : Int32))] [(.int (1 : Int32)), (.ref b1)]
        refine own_st (fun _ k => XS.iloadN X13.here hx rfl (hb hby at_181) rfl k) ?_
        show own_Go X13 (Q0 Z p0 p1 p2 h0 n0) 1 4 182 #[.val (.int p0), .val (.int p1), .val (.int p2), .val (.int (1 : Int32)), .val (.ref b1), .val (.long vv), .second, .val (.int (1 : Int32))] [(.int p2), (.int (1 : Int32)), (.ref b1)]
        refine own_callS (W := 0) X13 hx hZ hown (hw _ (List.mem_of_getElem? (i := 1) rfl)) (hw _ (List.mem_of_getElem? (i := 2) rfl)) (hw _ (List.mem_of_getElem? (i := 3) rfl)) (hw _ (List.mem_of_getElem? (i := 4) rfl)) (by decide) (rm11 l Z a0 hw [] b1 p2 k1 y0 y1 y2 y3 h13 n0 Z_14 VR) (by decide) (by decide) (by rw [hml]; rfl) [(.ref b1), (.int (1 : Int32)), (.int p2)] [] (lenOf pd_0_0 rfl) rfl rfl (Nat.le_of_ble_eq_true rfl) (hb hby at_182) e13 (by decide) (by decide) ?_
        rintro _ T52 L52 X52 ⟨rfl, N52q, e52⟩
        have N_53 := Fr.app N_15 N52q
        show own_Go X52 (Q0 Z p0 p1 p2 h0 n0) 1 4 185 #[.val (.int p0), .val (.int p1), .val (.int p2), .val (.int (1 : Int32)), .val (.ref b1), .val (.long vv), .second, .val (.int (1 : Int32))] [(.int (own_fb1 y0 p2))]
        refine own_st (fun _ k => XS.iload X52.here hx rfl (hb hby at_185) rfl k) ?_
        show own_Go X52 (Q0 Z p0 p1 p2 h0 n0) 1 4 187 #[.val (.int p0), .val (.int p1), .val (.int p2), .val (.int (1 : Int32)), .val (.ref b1), .val (.long vv), .second, .val (.int (1 : Int32))] [(.int (1 : Int32)), (.int (own_fb1 y0 p2))]
        have c187_54 : (own_fb1 y0 p2) = (1 : Int32) := by rw [own_f1 z0 hU, if_pos (own_ge40 hU32 c153_44)]
        refine own_st (fun _ k => XS.icmpNo X52.here hx rfl (hb hby at_187) rfl (teq c187_54).2 k) ?_
        show own_Go X52 (Q0 Z p0 p1 p2 h0 n0) 1 4 190 #[.val (.int p0), .val (.int p1), .val (.int p2), .val (.int (1 : Int32)), .val (.ref b1), .val (.long vv), .second, .val (.int (1 : Int32))] []
        refine own_st (fun _ k => XS.iconst X52.here hx rfl (hb hby at_190) k) ?_
        show own_Go X52 (Q0 Z p0 p1 p2 h0 n0) 1 4 191 #[.val (.int p0), .val (.int p1), .val (.int p2), .val (.int (1 : Int32)), .val (.ref b1), .val (.long vv), .second, .val (.int (1 : Int32))] [(.int (1 : Int32))]
        refine own_st (fun _ k => XS.goto X52.here hx rfl (pc0 := 191) (pc' := 195) rfl (hb hby at_191) (by decide) (by decide) k) ?_
        show own_Go X52 (Q0 Z p0 p1 p2 h0 n0) 1 4 195 #[.val (.int p0), .val (.int p1), .val (.int p2), .val (.int (1 : Int32)), .val (.ref b1), .val (.long vv), .second, .val (.int (1 : Int32))] [(.int (1 : Int32))]
        refine own_retN X52 hx Bd.returns (by simp) hlk e52 (hb hby at_195) (by decide) (by decide) ?_
        exact ⟨rfl, N_53⟩
    · skip
      refine own_st (fun _ k => XS.ifNo X13.here hx rfl (hb hby at_130) rfl ((if0 _ _).trans (flt c130_43).2.2.1) k) ?_
      show own_Go X13 (Q0 Z p0 p1 p2 h0 n0) 1 4 133 #[.val (.int p0), .val (.int p1), .val (.int p2), .val (.int (1 : Int32)), .val (.ref b1), .val (.long vv), .second, .unset] []
      refine own_st (fun _ k => XS.lload X13.here hx rfl (hb hby at_133) rfl k) ?_
      show own_Go X13 (Q0 Z p0 p1 p2 h0 n0) 1 4 135 #[.val (.int p0), .val (.int p1), .val (.int p2), .val (.int (1 : Int32)), .val (.ref b1), .val (.long vv), .second, .unset] [(.long vv)]
      refine own_st (fun _ k => XS.lconst X13.here hx rfl (hb hby at_135) k) ?_
      show own_Go X13 (Q0 Z p0 p1 p2 h0 n0) 1 4 136 #[.val (.int p0), .val (.int p1), .val (.int p2), .val (.int (1 : Int32)), .val (.ref b1), .val (.long vv), .second, .unset] [(.long (0 : Int64)), (.long vv)]
      refine own_st (fun _ k => XS.lcmp X13.here hx rfl (hb hby at_136) rfl k) ?_
      show own_Go X13 (Q0 Z p0 p1 p2 h0 n0) 1 4 137 #[.val (.int p0), .val (.int p1), .val (.int p2), .val (.int (1 : Int32)), .val (.ref b1), .val (.long vv), .second, .unset] [(.int (lcmpW vv (0 : Int64)))]
      by_cases c137_55 : vv = (0 : Int64)
      · skip
        refine own_st (fun _ k => XS.ifNo X13.here hx rfl (hb hby at_137) rfl ((if0 _ _).trans (teq ((lw_eq _ _).mpr c137_55)).2) k) ?_
        show own_Go X13 (Q0 Z p0 p1 p2 h0 n0) 1 4 140 #[.val (.int p0), .val (.int p1), .val (.int p2), .val (.int (1 : Int32)), .val (.ref b1), .val (.long vv), .second, .unset] []
        refine own_st (fun _ k => XS.iconst X13.here hx rfl (hb hby at_140) k) ?_
        show own_Go X13 (Q0 Z p0 p1 p2 h0 n0) 1 4 141 #[.val (.int p0), .val (.int p1), .val (.int p2), .val (.int (1 : Int32)), .val (.ref b1), .val (.long vv), .second, .unset] [(.int (1 : Int32))]
        refine own_st (fun _ k => XS.goto X13.here hx rfl (pc0 := 141) (pc' := 145) rfl (hb hby at_141) (by decide) (by decide) k) ?_
        show own_Go X13 (Q0 Z p0 p1 p2 h0 n0) 1 4 145 #[.val (.int p0), .val (.int p1), .val (.int p2), .val (.int (1 : Int32)), .val (.ref b1), .val (.long vv), .second, .unset] [(.int (1 : Int32))]
        refine own_st (fun _ k => XS.istore X13.here hx rfl (hb hby at_145) rfl (l' := #[.val (.int p0), .val (.int p1), .val (.int p2), .val (.int (1 : Int32)), .val (.ref b1), .val (.long vv), .second, .val (.int (1 : Int32))]) rfl k) ?_
        show own_Go X13 (Q0 Z p0 p1 p2 h0 n0) 1 4 147 #[.val (.int p0), .val (.int p1), .val (.int p2), .val (.int (1 : Int32)), .val (.ref b1), .val (.long vv), .second, .val (.int (1 : Int32))] []
        refine own_st (fun _ k => XS.goto X13.here hx rfl (pc0 := 147) (pc' := 178) rfl (hb hby at_147) (by decide) (by decide) k) ?_
        show own_Go X13 (Q0 Z p0 p1 p2 h0 n0) 1 4 178 #[.val (.int p0), .val (.int p1), .val (.int p2), .val (.int (1 : Int32)), .val (.ref b1), .val (.long vv), .second, .val (.int (1 : Int32))] []
        refine own_st (fun _ k => XS.aload X13.here hx rfl (hb hby at_178) rfl rfl k) ?_
        show own_Go X13 (Q0 Z p0 p1 p2 h0 n0) 1 4 180 #[.val (.int p0), .val (.int p1), .val (.int p2), .val (.int (1 : Int32)), .val (.ref b1), .val (.long vv), .second, .val (.int (1 : Int32))] [(.ref b1)]
        refine own_st (fun _ k => XS.iloadN X13.here hx rfl (hb hby at_180) rfl k) ?_
        show own_Go X13 (Q0 Z p0 p1 p2 h0 n0) 1 4 181 #[.val (.int p0), .val (.int p1), .val (.int p2), .val (.int (1 : Int32)), .val (.ref b1), .val (.long vv), .second, .val (.int (1 : Int32))] [(.int (1 : Int32)), (.ref b1)]
        refine own_st (fun _ k => XS.iloadN X13.here hx rfl (hb hby at_181) rfl k) ?_
        show own_Go X13 (Q0 Z p0 p1 p2 h0 n0) 1 4 182 #[.val (.int p0), .val (.int p1), .val (.int p2), .val (.int (1 : Int32)), .val (.ref b1), .val (.long vv), .second, .val (.int (1 : Int32))] [(.int p2), (.int (1 : Int32)), (.ref b1)]
        refine own_callS (W := 0) X13 hx hZ hown (hw _ (List.mem_of_getElem? (i := 1) rfl)) (hw _ (List.mem_of_getElem? (i := 2) rfl)) (hw _ (List.mem_of_getElem? (i := 3) rfl)) (hw _ (List.mem_of_getElem? (i := 4) rfl)) (by decide) (rm11 l Z a0 hw [] b1 p2 k1 y0 y1 y2 y3 h13 n0 Z_14 VR) (by decide) (by decide) (by rw [hml]; rfl) [(.ref b1), (.int (1 : Int32)), (.int p2)] [] (lenOf pd_0_0 rfl) rfl rfl (Nat.le_of_ble_eq_true rfl) (hb hby at_182) e13 (by decide) (by decide) ?_
        rintro _ T56 L56 X56 ⟨rfl, N56q, e56⟩
        have N_57 := Fr.app N_15 N56q
        show own_Go X56 (Q0 Z p0 p1 p2 h0 n0) 1 4 185 #[.val (.int p0), .val (.int p1), .val (.int p2), .val (.int (1 : Int32)), .val (.ref b1), .val (.long vv), .second, .val (.int (1 : Int32))] [(.int (own_fb1 y0 p2))]
        refine own_st (fun _ k => XS.iload X56.here hx rfl (hb hby at_185) rfl k) ?_
        show own_Go X56 (Q0 Z p0 p1 p2 h0 n0) 1 4 187 #[.val (.int p0), .val (.int p1), .val (.int p2), .val (.int (1 : Int32)), .val (.ref b1), .val (.long vv), .second, .val (.int (1 : Int32))] [(.int (1 : Int32)), (.int (own_fb1 y0 p2))]
        have c187_58 : (own_fb1 y0 p2) = (1 : Int32) := by rw [own_f1 z0 hU, if_pos ((own_le0 hvU c130_43).mpr c137_55)]
        refine own_st (fun _ k => XS.icmpNo X56.here hx rfl (hb hby at_187) rfl (teq c187_58).2 k) ?_
        show own_Go X56 (Q0 Z p0 p1 p2 h0 n0) 1 4 190 #[.val (.int p0), .val (.int p1), .val (.int p2), .val (.int (1 : Int32)), .val (.ref b1), .val (.long vv), .second, .val (.int (1 : Int32))] []
        refine own_st (fun _ k => XS.iconst X56.here hx rfl (hb hby at_190) k) ?_
        show own_Go X56 (Q0 Z p0 p1 p2 h0 n0) 1 4 191 #[.val (.int p0), .val (.int p1), .val (.int p2), .val (.int (1 : Int32)), .val (.ref b1), .val (.long vv), .second, .val (.int (1 : Int32))] [(.int (1 : Int32))]
        refine own_st (fun _ k => XS.goto X56.here hx rfl (pc0 := 191) (pc' := 195) rfl (hb hby at_191) (by decide) (by decide) k) ?_
        show own_Go X56 (Q0 Z p0 p1 p2 h0 n0) 1 4 195 #[.val (.int p0), .val (.int p1), .val (.int p2), .val (.int (1 : Int32)), .val (.ref b1), .val (.long vv), .second, .val (.int (1 : Int32))] [(.int (1 : Int32))]
        refine own_retN X56 hx Bd.returns (by simp) hlk e56 (hb hby at_195) (by decide) (by decide) ?_
        exact ⟨rfl, N_57⟩
      · skip
        refine own_st (fun _ k => XS.ifYes X13.here hx rfl (pc0 := 137) (pc' := 144) rfl (hb hby at_137) rfl ((if0 _ _).trans (feq (fun q => c137_55 ((lw_eq _ _).mp q))).2) (by decide) (by decide) k) ?_
        show own_Go X13 (Q0 Z p0 p1 p2 h0 n0) 1 4 144 #[.val (.int p0), .val (.int p1), .val (.int p2), .val (.int (1 : Int32)), .val (.ref b1), .val (.long vv), .second, .unset] []
        refine own_st (fun _ k => XS.iconst X13.here hx rfl (hb hby at_144) k) ?_
        show own_Go X13 (Q0 Z p0 p1 p2 h0 n0) 1 4 145 #[.val (.int p0), .val (.int p1), .val (.int p2), .val (.int (1 : Int32)), .val (.ref b1), .val (.long vv), .second, .unset] [(.int (0 : Int32))]
        refine own_st (fun _ k => XS.istore X13.here hx rfl (hb hby at_145) rfl (l' := #[.val (.int p0), .val (.int p1), .val (.int p2), .val (.int (1 : Int32)), .val (.ref b1), .val (.long vv), .second, .val (.int (0 : Int32))]) rfl k) ?_
        show own_Go X13 (Q0 Z p0 p1 p2 h0 n0) 1 4 147 #[.val (.int p0), .val (.int p1), .val (.int p2), .val (.int (1 : Int32)), .val (.ref b1), .val (.long vv), .second, .val (.int (0 : Int32))] []
        refine own_st (fun _ k => XS.goto X13.here hx rfl (pc0 := 147) (pc' := 178) rfl (hb hby at_147) (by decide) (by decide) k) ?_
        show own_Go X13 (Q0 Z p0 p1 p2 h0 n0) 1 4 178 #[.val (.int p0), .val (.int p1), .val (.int p2), .val (.int (1 : Int32)), .val (.ref b1), .val (.long vv), .second, .val (.int (0 : Int32))] []
        refine own_st (fun _ k => XS.aload X13.here hx rfl (hb hby at_178) rfl rfl k) ?_
        show own_Go X13 (Q0 Z p0 p1 p2 h0 n0) 1 4 180 #[.val (.int p0), .val (.int p1), .val (.int p2), .val (.int (1 : Int32)), .val (.ref b1), .val (.long vv), .second, .val (.int (0 : Int32))] [(.ref b1)]
        refine own_st (fun _ k => XS.iloadN X13.here hx rfl (hb hby at_180) rfl k) ?_
        show own_Go X13 (Q0 Z p0 p1 p2 h0 n0) 1 4 181 #[.val (.int p0), .val (.int p1), .val (.int p2), .val (.int (1 : Int32)), .val (.ref b1), .val (.long vv), .second, .val (.int (0 : Int32))] [(.int (1 : Int32)), (.ref b1)]
        refine own_st (fun _ k => XS.iloadN X13.here hx rfl (hb hby at_181) rfl k) ?_
        show own_Go X13 (Q0 Z p0 p1 p2 h0 n0) 1 4 182 #[.val (.int p0), .val (.int p1), .val (.int p2), .val (.int (1 : Int32)), .val (.ref b1), .val (.long vv), .second, .val (.int (0 : Int32))] [(.int p2), (.int (1 : Int32)), (.ref b1)]
        refine own_callS (W := 0) X13 hx hZ hown (hw _ (List.mem_of_getElem? (i := 1) rfl)) (hw _ (List.mem_of_getElem? (i := 2) rfl)) (hw _ (List.mem_of_getElem? (i := 3) rfl)) (hw _ (List.mem_of_getElem? (i := 4) rfl)) (by decide) (rm11 l Z a0 hw [] b1 p2 k1 y0 y1 y2 y3 h13 n0 Z_14 VR) (by decide) (by decide) (by rw [hml]; rfl) [(.ref b1), (.int (1 : Int32)), (.int p2)] [] (lenOf pd_0_0 rfl) rfl rfl (Nat.le_of_ble_eq_true rfl) (hb hby at_182) e13 (by decide) (by decide) ?_
        rintro _ T59 L59 X59 ⟨rfl, N59q, e59⟩
        have N_60 := Fr.app N_15 N59q
        show own_Go X59 (Q0 Z p0 p1 p2 h0 n0) 1 4 185 #[.val (.int p0), .val (.int p1), .val (.int p2), .val (.int (1 : Int32)), .val (.ref b1), .val (.long vv), .second, .val (.int (0 : Int32))] [(.int (own_fb1 y0 p2))]
        refine own_st (fun _ k => XS.iload X59.here hx rfl (hb hby at_185) rfl k) ?_
        show own_Go X59 (Q0 Z p0 p1 p2 h0 n0) 1 4 187 #[.val (.int p0), .val (.int p1), .val (.int p2), .val (.int (1 : Int32)), .val (.ref b1), .val (.long vv), .second, .val (.int (0 : Int32))] [(.int (0 : Int32)), (.int (own_fb1 y0 p2))]
        have c187_61 : (own_fb1 y0 p2) = (0 : Int32) := by rw [own_f1 z0 hU, if_neg (fun z => c137_55 ((own_le0 hvU c130_43).mp z))]
        refine own_st (fun _ k => XS.icmpNo X59.here hx rfl (hb hby at_187) rfl (teq c187_61).2 k) ?_
        show own_Go X59 (Q0 Z p0 p1 p2 h0 n0) 1 4 190 #[.val (.int p0), .val (.int p1), .val (.int p2), .val (.int (1 : Int32)), .val (.ref b1), .val (.long vv), .second, .val (.int (0 : Int32))] []
        refine own_st (fun _ k => XS.iconst X59.here hx rfl (hb hby at_190) k) ?_
        show own_Go X59 (Q0 Z p0 p1 p2 h0 n0) 1 4 191 #[.val (.int p0), .val (.int p1), .val (.int p2), .val (.int (1 : Int32)), .val (.ref b1), .val (.long vv), .second, .val (.int (0 : Int32))] [(.int (1 : Int32))]
        refine own_st (fun _ k => XS.goto X59.here hx rfl (pc0 := 191) (pc' := 195) rfl (hb hby at_191) (by decide) (by decide) k) ?_
        show own_Go X59 (Q0 Z p0 p1 p2 h0 n0) 1 4 195 #[.val (.int p0), .val (.int p1), .val (.int p2), .val (.int (1 : Int32)), .val (.ref b1), .val (.long vv), .second, .val (.int (0 : Int32))] [(.int (1 : Int32))]
        refine own_retN X59 hx Bd.returns (by simp) hlk e59 (hb hby at_195) (by decide) (by decide) ?_
        exact ⟨rfl, N_60⟩
  · skip
    show own_Go X13 (Q0 Z p0 p1 p2 h0 n0) 1 4 48 #[.val (.int p0), .val (.int p1), .val (.int p2), .val (.int (2 : Int32)), .val (.ref b1), .val (.long (0 : Int64)), .second, .unset] []
    refine own_st (fun _ k => XS.iloadN X13.here hx rfl (hb hby at_48) rfl k) ?_
    show own_Go X13 (Q0 Z p0 p1 p2 h0 n0) 1 4 49 #[.val (.int p0), .val (.int p1), .val (.int p2), .val (.int (2 : Int32)), .val (.ref b1), .val (.long (0 : Int64)), .second, .unset] [(.int (2 : Int32))]
    have c49_62 : (0 : Int32) < (2 : Int32) := (by decide)
    refine own_st (fun _ k => XS.ifNo X13.here hx rfl (hb hby at_49) rfl ((if0 _ _).trans (tlt c49_62).2.2.2) k) ?_
    show own_Go X13 (Q0 Z p0 p1 p2 h0 n0) 1 4 52 #[.val (.int p0), .val (.int p1), .val (.int p2), .val (.int (2 : Int32)), .val (.ref b1), .val (.long (0 : Int64)), .second, .unset] []
    refine own_st (fun _ k => XS.aload X13.here hx rfl (hb hby at_52) rfl rfl k) ?_
    show own_Go X13 (Q0 Z p0 p1 p2 h0 n0) 1 4 54 #[.val (.int p0), .val (.int p1), .val (.int p2), .val (.int (2 : Int32)), .val (.ref b1), .val (.long (0 : Int64)), .second, .unset] [(.ref b1)]
    refine own_st (fun _ k => XS.iconst X13.here hx rfl (hb hby at_54) k) ?_
    show own_Go X13 (Q0 Z p0 p1 p2 h0 n0) 1 4 55 #[.val (.int p0), .val (.int p1), .val (.int p2), .val (.int (2 : Int32)), .val (.ref b1), .val (.long (0 : Int64)), .second, .unset] [(.int (0 : Int32)), (.ref b1)]
    refine own_st (fun _ k => own_ldB X13 hx hZ e13 VR (j := (0 : Int32)) ⟨by decide, by decide⟩ (v := (.int y0)) rfl (g := (mkF m 55 #[.val (.int p0), .val (.int p1), .val (.int p2), .val (.int (2 : Int32)), .val (.ref b1), .val (.long (0 : Int64)), .second, .unset] [(.int (0 : Int32)), (.ref b1)])) rfl rfl (hb hby at_55) _ k) ?_
    show own_Go X13 (Q0 Z p0 p1 p2 h0 n0) 1 4 56 #[.val (.int p0), .val (.int p1), .val (.int p2), .val (.int (2 : Int32)), .val (.ref b1), .val (.long (0 : Int64)), .second, .unset] [(.int y0)]
    refine own_st (fun _ k => XS.sipush X13.here hx rfl (hb hby at_56) k) ?_
    show own_Go X13 (Q0 Z p0 p1 p2 h0 n0) 1 4 59 #[.val (.int p0), .val (.int p1), .val (.int p2), .val (.int (2 : Int32)), .val (.ref b1), .val (.long (0 : Int64)), .second, .unset] [(.int (255 : Int32)), (.int y0)]
    refine own_st (fun _ k => XS.iand X13.here hx rfl (hb hby at_59) rfl k) ?_
    show own_Go X13 (Q0 Z p0 p1 p2 h0 n0) 1 4 60 #[.val (.int p0), .val (.int p1), .val (.int p2), .val (.int (2 : Int32)), .val (.ref b1), .val (.long (0 : Int64)), .second, .unset] [(.int (y0 &&& (255 : Int32)))]
    refine own_st (fun _ k => XS.i2l X13.here hx rfl (hb hby at_60) rfl k) ?_
    show own_Go X13 (Q0 Z p0 p1 p2 h0 n0) 1 4 61 #[.val (.int p0), .val (.int p1), .val (.int p2), .val (.int (2 : Int32)), .val (.ref b1), .val (.long (0 : Int64)), .second, .unset] [(.long ((y0 &&& (255 : Int32)).toInt64))]
    refine own_st (fun _ k => XS.lstore X13.here hx rfl (hb hby at_61) rfl (l' := #[.val (.int p0), .val (.int p1), .val (.int p2), .val (.int (2 : Int32)), .val (.ref b1), .val (.long ((y0 &&& (255 : Int32)).toInt64)), .second, .unset]) rfl k) ?_
    show own_Go X13 (Q0 Z p0 p1 p2 h0 n0) 1 4 63 #[.val (.int p0), .val (.int p1), .val (.int p2), .val (.int (2 : Int32)), .val (.ref b1), .val (.long ((y0 &&& (255 : Int32)).toInt64)), .second, .unset] []
    refine own_st (fun _ k => XS.iloadN X13.here hx rfl (hb hby at_63) rfl k) ?_
    show own_Go X13 (Q0 Z p0 p1 p2 h0 n0) 1 4 64 #[.val (.int p0), .val (.int p1), .val (.int p2), .val (.int (2 : Int32)), .val (.ref b1), .val (.long ((y0 &&& (255 : Int32)).toInt64)), .second, .unset] [(.int (2 : Int32))]
    refine own_st (fun _ k => XS.iconst X13.here hx rfl (hb hby at_64) k) ?_
    show own_Go X13 (Q0 Z p0 p1 p2 h0 n0) 1 4 65 #[.val (.int p0), .val (.int p1), .val (.int p2), .val (.int (2 : Int32)), .val (.ref b1), .val (.long ((y0 &&& (255 : Int32)).toInt64)), .second, .unset] [(.int (1 : Int32)), (.int (2 : Int32))]
    have c65_63 : (1 : Int32) < (2 : Int32) := (by decide)
    refine own_st (fun _ k => XS.icmpNo X13.here hx rfl (hb hby at_65) rfl (tlt c65_63).2.2.2 k) ?_
    show own_Go X13 (Q0 Z p0 p1 p2 h0 n0) 1 4 68 #[.val (.int p0), .val (.int p1), .val (.int p2), .val (.int (2 : Int32)), .val (.ref b1), .val (.long ((y0 &&& (255 : Int32)).toInt64)), .second, .unset] []
    refine own_st (fun _ k => XS.lload X13.here hx rfl (hb hby at_68) rfl k) ?_
    show own_Go X13 (Q0 Z p0 p1 p2 h0 n0) 1 4 70 #[.val (.int p0), .val (.int p1), .val (.int p2), .val (.int (2 : Int32)), .val (.ref b1), .val (.long ((y0 &&& (255 : Int32)).toInt64)), .second, .unset] [(.long ((y0 &&& (255 : Int32)).toInt64))]
    refine own_st (fun _ k => XS.bipush X13.here hx rfl (hb hby at_70) k) ?_
    show own_Go X13 (Q0 Z p0 p1 p2 h0 n0) 1 4 72 #[.val (.int p0), .val (.int p1), .val (.int p2), .val (.int (2 : Int32)), .val (.ref b1), .val (.long ((y0 &&& (255 : Int32)).toInt64)), .second, .unset] [(.int (8 : Int32)), (.long ((y0 &&& (255 : Int32)).toInt64))]
    refine own_st (fun _ k => XS.lshl X13.here hx rfl (hb hby at_72) rfl k) ?_
    show own_Go X13 (Q0 Z p0 p1 p2 h0 n0) 1 4 73 #[.val (.int p0), .val (.int p1), .val (.int p2), .val (.int (2 : Int32)), .val (.ref b1), .val (.long ((y0 &&& (255 : Int32)).toInt64)), .second, .unset] [(.long (((y0 &&& (255 : Int32)).toInt64) <<< ((8 : Int32) &&& 0x3f).toInt64))]
    refine own_st (fun _ k => XS.aload X13.here hx rfl (hb hby at_73) rfl rfl k) ?_
    show own_Go X13 (Q0 Z p0 p1 p2 h0 n0) 1 4 75 #[.val (.int p0), .val (.int p1), .val (.int p2), .val (.int (2 : Int32)), .val (.ref b1), .val (.long ((y0 &&& (255 : Int32)).toInt64)), .second, .unset] [(.ref b1), (.long (((y0 &&& (255 : Int32)).toInt64) <<< ((8 : Int32) &&& 0x3f).toInt64))]
    refine own_st (fun _ k => XS.iconst X13.here hx rfl (hb hby at_75) k) ?_
    show own_Go X13 (Q0 Z p0 p1 p2 h0 n0) 1 4 76 #[.val (.int p0), .val (.int p1), .val (.int p2), .val (.int (2 : Int32)), .val (.ref b1), .val (.long ((y0 &&& (255 : Int32)).toInt64)), .second, .unset] [(.int (1 : Int32)), (.ref b1), (.long (((y0 &&& (255 : Int32)).toInt64) <<< ((8 : Int32) &&& 0x3f).toInt64))]
    refine own_st (fun _ k => own_ldB X13 hx hZ e13 VR (j := (1 : Int32)) ⟨by decide, by decide⟩ (v := (.int y1)) rfl (g := (mkF m 76 #[.val (.int p0), .val (.int p1), .val (.int p2), .val (.int (2 : Int32)), .val (.ref b1), .val (.long ((y0 &&& (255 : Int32)).toInt64)), .second, .unset] [(.int (1 : Int32)), (.ref b1), (.long (((y0 &&& (255 : Int32)).toInt64) <<< ((8 : Int32) &&& 0x3f).toInt64))])) rfl rfl (hb hby at_76) _ k) ?_
    show own_Go X13 (Q0 Z p0 p1 p2 h0 n0) 1 4 77 #[.val (.int p0), .val (.int p1), .val (.int p2), .val (.int (2 : Int32)), .val (.ref b1), .val (.long ((y0 &&& (255 : Int32)).toInt64)), .second, .unset] [(.int y1), (.long (((y0 &&& (255 : Int32)).toInt64) <<< ((8 : Int32) &&& 0x3f).toInt64))]
    refine own_st (fun _ k => XS.sipush X13.here hx rfl (hb hby at_77) k) ?_
    show own_Go X13 (Q0 Z p0 p1 p2 h0 n0) 1 4 80 #[.val (.int p0), .val (.int p1), .val (.int p2), .val (.int (2 : Int32)), .val (.ref b1), .val (.long ((y0 &&& (255 : Int32)).toInt64)), .second, .unset] [(.int (255 : Int32)), (.int y1), (.long (((y0 &&& (255 : Int32)).toInt64) <<< ((8 : Int32) &&& 0x3f).toInt64))]
    refine own_st (fun _ k => XS.iand X13.here hx rfl (hb hby at_80) rfl k) ?_
    show own_Go X13 (Q0 Z p0 p1 p2 h0 n0) 1 4 81 #[.val (.int p0), .val (.int p1), .val (.int p2), .val (.int (2 : Int32)), .val (.ref b1), .val (.long ((y0 &&& (255 : Int32)).toInt64)), .second, .unset] [(.int (y1 &&& (255 : Int32))), (.long (((y0 &&& (255 : Int32)).toInt64) <<< ((8 : Int32) &&& 0x3f).toInt64))]
    refine own_st (fun _ k => XS.i2l X13.here hx rfl (hb hby at_81) rfl k) ?_
    show own_Go X13 (Q0 Z p0 p1 p2 h0 n0) 1 4 82 #[.val (.int p0), .val (.int p1), .val (.int p2), .val (.int (2 : Int32)), .val (.ref b1), .val (.long ((y0 &&& (255 : Int32)).toInt64)), .second, .unset] [(.long ((y1 &&& (255 : Int32)).toInt64)), (.long (((y0 &&& (255 : Int32)).toInt64) <<< ((8 : Int32) &&& 0x3f).toInt64))]
    refine own_st (fun _ k => XS.lor X13.here hx rfl (hb hby at_82) rfl k) ?_
    show own_Go X13 (Q0 Z p0 p1 p2 h0 n0) 1 4 83 #[.val (.int p0), .val (.int p1), .val (.int p2), .val (.int (2 : Int32)), .val (.ref b1), .val (.long ((y0 &&& (255 : Int32)).toInt64)), .second, .unset] [(.long ((((y0 &&& (255 : Int32)).toInt64) <<< ((8 : Int32) &&& 0x3f).toInt64) ||| ((y1 &&& (255 : Int32)).toInt64)))]
    refine own_st (fun _ k => XS.lstore X13.here hx rfl (hb hby at_83) rfl (l' := #[.val (.int p0), .val (.int p1), .val (.int p2), .val (.int (2 : Int32)), .val (.ref b1), .val (.long ((((y0 &&& (255 : Int32)).toInt64) <<< ((8 : Int32) &&& 0x3f).toInt64) ||| ((y1 &&& (255 : Int32)).toInt64))), .second, .unset]) rfl k) ?_
    show own_Go X13 (Q0 Z p0 p1 p2 h0 n0) 1 4 85 #[.val (.int p0), .val (.int p1), .val (.int p2), .val (.int (2 : Int32)), .val (.ref b1), .val (.long ((((y0 &&& (255 : Int32)).toInt64) <<< ((8 : Int32) &&& 0x3f).toInt64) ||| ((y1 &&& (255 : Int32)).toInt64))), .second, .unset] []
    refine own_st (fun _ k => XS.iloadN X13.here hx rfl (hb hby at_85) rfl k) ?_
    show own_Go X13 (Q0 Z p0 p1 p2 h0 n0) 1 4 86 #[.val (.int p0), .val (.int p1), .val (.int p2), .val (.int (2 : Int32)), .val (.ref b1), .val (.long ((((y0 &&& (255 : Int32)).toInt64) <<< ((8 : Int32) &&& 0x3f).toInt64) ||| ((y1 &&& (255 : Int32)).toInt64))), .second, .unset] [(.int (2 : Int32))]
    refine own_st (fun _ k => XS.iconst X13.here hx rfl (hb hby at_86) k) ?_
    show own_Go X13 (Q0 Z p0 p1 p2 h0 n0) 1 4 87 #[.val (.int p0), .val (.int p1), .val (.int p2), .val (.int (2 : Int32)), .val (.ref b1), .val (.long ((((y0 &&& (255 : Int32)).toInt64) <<< ((8 : Int32) &&& 0x3f).toInt64) ||| ((y1 &&& (255 : Int32)).toInt64))), .second, .unset] [(.int (2 : Int32)), (.int (2 : Int32))]
    have c87_64 : ¬ ((2 : Int32) < (2 : Int32)) := (by decide)
    refine own_st (fun _ k => XS.icmpYes X13.here hx rfl (pc0 := 87) (pc' := 107) rfl (hb hby at_87) rfl (flt c87_64).2.2.2 (by decide) (by decide) k) ?_
    show own_Go X13 (Q0 Z p0 p1 p2 h0 n0) 1 4 107 #[.val (.int p0), .val (.int p1), .val (.int p2), .val (.int (2 : Int32)), .val (.ref b1), .val (.long ((((y0 &&& (255 : Int32)).toInt64) <<< ((8 : Int32) &&& 0x3f).toInt64) ||| ((y1 &&& (255 : Int32)).toInt64))), .second, .unset] []
    refine own_st (fun _ k => XS.iloadN X13.here hx rfl (hb hby at_107) rfl k) ?_
    show own_Go X13 (Q0 Z p0 p1 p2 h0 n0) 1 4 108 #[.val (.int p0), .val (.int p1), .val (.int p2), .val (.int (2 : Int32)), .val (.ref b1), .val (.long ((((y0 &&& (255 : Int32)).toInt64) <<< ((8 : Int32) &&& 0x3f).toInt64) ||| ((y1 &&& (255 : Int32)).toInt64))), .second, .unset] [(.int (2 : Int32))]
    refine own_st (fun _ k => XS.iconst X13.here hx rfl (hb hby at_108) k) ?_
    show own_Go X13 (Q0 Z p0 p1 p2 h0 n0) 1 4 109 #[.val (.int p0), .val (.int p1), .val (.int p2), .val (.int (2 : Int32)), .val (.ref b1), .val (.long ((((y0 &&& (255 : Int32)).toInt64) <<< ((8 : Int32) &&& 0x3f).toInt64) ||| ((y1 &&& (255 : Int32)).toInt64))), .second, .unset] [(.int (3 : Int32)), (.int (2 : Int32))]
    have c109_65 : ¬ ((3 : Int32) < (2 : Int32)) := (by decide)
    refine own_st (fun _ k => XS.icmpYes X13.here hx rfl (pc0 := 109) (pc' := 129) rfl (hb hby at_109) rfl (flt c109_65).2.2.2 (by decide) (by decide) k) ?_
    show own_Go X13 (Q0 Z p0 p1 p2 h0 n0) 1 4 129 #[.val (.int p0), .val (.int p1), .val (.int p2), .val (.int (2 : Int32)), .val (.ref b1), .val (.long ((((y0 &&& (255 : Int32)).toInt64) <<< ((8 : Int32) &&& 0x3f).toInt64) ||| ((y1 &&& (255 : Int32)).toInt64))), .second, .unset] []
    generalize hvv : ((((y0 &&& (255 : Int32)).toInt64) <<< ((8 : Int32) &&& 0x3f).toInt64) ||| ((y1 &&& (255 : Int32)).toInt64)) = vv
    show own_Go X13 (Q0 Z p0 p1 p2 h0 n0) 1 4 129 #[.val (.int p0), .val (.int p1), .val (.int p2), .val (.int (2 : Int32)), .val (.ref b1), .val (.long vv), .second, .unset] []
    obtain ⟨U, hU⟩ : ∃ U : Nat, U = B0 * 2 ^ 8 + B1 := ⟨_, rfl⟩
    have t0 := c_i2l (y0 &&& (255 : Int32))
    have t1 := own_hor (b := (y1 &&& (255 : Int32))) t0 (by omega) (by omega) ky1
    have hvU : vv.toInt = U := by rw [← hvv, t1, hU]; omega
    have hU32 : U < 4294967296 := by omega
    refine own_st (fun _ k => XS.iloadN X13.here hx rfl (hb hby at_129) rfl k) ?_
    show own_Go X13 (Q0 Z p0 p1 p2 h0 n0) 1 4 130 #[.val (.int p0), .val (.int p1), .val (.int p2), .val (.int (2 : Int32)), .val (.ref b1), .val (.long vv), .second, .unset] [(.int p2)]
    by_cases c130_66 : (0 : Int32) < p2
    · skip
      refine own_st (fun _ k => XS.ifYes X13.here hx rfl (pc0 := 130) (pc' := 150) rfl (hb hby at_130) rfl ((if0 _ _).trans (tlt c130_66).2.2.1) (by decide) (by decide) k) ?_
      show own_Go X13 (Q0 Z p0 p1 p2 h0 n0) 1 4 150 #[.val (.int p0), .val (.int p1), .val (.int p2), .val (.int (2 : Int32)), .val (.ref b1), .val (.long vv), .second, .unset] []
      refine own_st (fun _ k => XS.iloadN X13.here hx rfl (hb hby at_150) rfl k) ?_
      show own_Go X13 (Q0 Z p0 p1 p2 h0 n0) 1 4 151 #[.val (.int p0), .val (.int p1), .val (.int p2), .val (.int (2 : Int32)), .val (.ref b1), .val (.long vv), .second, .unset] [(.int p2)]
      refine own_st (fun _ k => XS.bipush X13.here hx rfl (hb hby at_151) k) ?_
      show own_Go X13 (Q0 Z p0 p1 p2 h0 n0) 1 4 153 #[.val (.int p0), .val (.int p1), .val (.int p2), .val (.int (2 : Int32)), .val (.ref b1), .val (.long vv), .second, .unset] [(.int (40 : Int32)), (.int p2)]
      by_cases c153_67 : p2 < (40 : Int32)
      · skip
        refine own_st (fun _ k => XS.icmpYes X13.here hx rfl (pc0 := 153) (pc' := 162) rfl (hb hby at_153) rfl (tlt c153_67).1 (by decide) (by decide) k) ?_
        show own_Go X13 (Q0 Z p0 p1 p2 h0 n0) 1 4 162 #[.val (.int p0), .val (.int p1), .val (.int p2), .val (.int (2 : Int32)), .val (.ref b1), .val (.long vv), .second, .unset] []
        refine own_st (fun _ k => XS.lload X13.here hx rfl (hb hby at_162) rfl k) ?_
        show own_Go X13 (Q0 Z p0 p1 p2 h0 n0) 1 4 164 #[.val (.int p0), .val (.int p1), .val (.int p2), .val (.int (2 : Int32)), .val (.ref b1), .val (.long vv), .second, .unset] [(.long vv)]
        refine own_st (fun _ k => XS.iloadN X13.here hx rfl (hb hby at_164) rfl k) ?_
        show own_Go X13 (Q0 Z p0 p1 p2 h0 n0) 1 4 165 #[.val (.int p0), .val (.int p1), .val (.int p2), .val (.int (2 : Int32)), .val (.ref b1), .val (.long vv), .second, .unset] [(.int p2), (.long vv)]
        refine own_st (fun _ k => XS.lushr X13.here hx rfl (hb hby at_165) rfl k) ?_
        show own_Go X13 (Q0 Z p0 p1 p2 h0 n0) 1 4 166 #[.val (.int p0), .val (.int p1), .val (.int p2), .val (.int (2 : Int32)), .val (.ref b1), .val (.long vv), .second, .unset] [(.long ((vv.toUInt64 >>> (p2 &&& 0x3f).toInt64.toUInt64).toInt64))]
        refine own_st (fun _ k => XS.lconst X13.here hx rfl (hb hby at_166) k) ?_
        show own_Go X13 (Q0 Z p0 p1 p2 h0 n0) 1 4 167 #[.val (.int p0), .val (.int p1), .val (.int p2), .val (.int (2 : Int32)), .val (.ref b1), .val (.long vv), .second, .unset] [(.long (0 : Int64)), (.long ((vv.toUInt64 >>> (p2 &&& 0x3f).toInt64.toUInt64).toInt64))]
        refine own_st (fun _ k => XS.lcmp X13.here hx rfl (hb hby at_167) rfl k) ?_
        show own_Go X13 (Q0 Z p0 p1 p2 h0 n0) 1 4 168 #[.val (.int p0), .val (.int p1), .val (.int p2), .val (.int (2 : Int32)), .val (.ref b1), .val (.long vv), .second, .unset] [(.int (lcmpW ((vv.toUInt64 >>> (p2 &&& 0x3f).toInt64.toUInt64).toInt64) (0 : Int64)))]
        by_cases c168_68 : ((vv.toUInt64 >>> (p2 &&& 0x3f).toInt64.toUInt64).toInt64) = (0 : Int64)
        · skip
          refine own_st (fun _ k => XS.ifNo X13.here hx rfl (hb hby at_168) rfl ((if0 _ _).trans (teq ((lw_eq _ _).mpr c168_68)).2) k) ?_
          show own_Go X13 (Q0 Z p0 p1 p2 h0 n0) 1 4 171 #[.val (.int p0), .val (.int p1), .val (.int p2), .val (.int (2 : Int32)), .val (.ref b1), .val (.long vv), .second, .unset] []
          refine own_st (fun _ k => XS.iconst X13.here hx rfl (hb hby at_171) k) ?_
          show own_Go X13 (Q0 Z p0 p1 p2 h0 n0) 1 4 172 #[.val (.int p0), .val (.int p1), .val (.int p2), .val (.int (2 : Int32)), .val (.ref b1), .val (.long vv), .second, .unset] [(.int (1 : Int32))]
          refine own_st (fun _ k => XS.goto X13.here hx rfl (pc0 := 172) (pc' := 176) rfl (hb hby at_172) (by decide) (by decide) k) ?_
          show own_Go X13 (Q0 Z p0 p1 p2 h0 n0) 1 4 176 #[.val (.int p0), .val (.int p1), .val (.int p2), .val (.int (2 : Int32)), .val (.ref b1), .val (.long vv), .second, .unset] [(.int (1 : Int32))]
          refine own_st (fun _ k => XS.istore X13.here hx rfl (hb hby at_176) rfl (l' := #[.val (.int p0), .val (.int p1), .val (.int p2), .val (.int (2 : Int32)), .val (.ref b1), .val (.long vv), .second, .val (.int (1 : Int32))]) rfl k) ?_
          show own_Go X13 (Q0 Z p0 p1 p2 h0 n0) 1 4 178 #[.val (.int p0), .val (.int p1), .val (.int p2), .val (.int (2 : Int32)), .val (.ref b1), .val (.long vv), .second, .val (.int (1 : Int32))] []
          refine own_st (fun _ k => XS.aload X13.here hx rfl (hb hby at_178) rfl rfl k) ?_
          show own_Go X13 (Q0 Z p0 p1 p2 h0 n0) 1 4 180 #[.val (.int p0), .val (.int p1), .val (.int p2), .val (.int (2 : Int32)), .val (.ref b1), .val (.long vv), .second, .val (.int (1 : Int32))] [(.ref b1)]
          refine own_st (fun _ k => XS.iloadN X13.here hx rfl (hb hby at_180) rfl k) ?_
          show own_Go X13 (Q0 Z p0 p1 p2 h0 n0) 1 4 181 #[.val (.int p0), .val (.int p1), .val (.int p2), .val (.int (2 : Int32)), .val (.ref b1), .val (.long vv), .second, .val (.int (1 : Int32))] [(.int (2 : Int32)), (.ref b1)]
          refine own_st (fun _ k => XS.iloadN X13.here hx rfl (hb hby at_181) rfl k) ?_
          show own_Go X13 (Q0 Z p0 p1 p2 h0 n0) 1 4 182 #[.val (.int p0), .val (.int p1), .val (.int p2), .val (.int (2 : Int32)), .val (.ref b1), .val (.long vv), .second, .val (.int (1 : Int32))] [(.int p2), (.int (2 : Int32)), (.ref b1)]
          refine own_callS (W := 0) X13 hx hZ hown (hw _ (List.mem_of_getElem? (i := 1) rfl)) (hw _ (List.mem_of_getElem? (i := 2) rfl)) (hw _ (List.mem_of_getElem? (i := 3) rfl)) (hw _ (List.mem_of_getElem? (i := 4) rfl)) (by decide) (rm12 l Z a0 hw [] b1 p2 k1 y0 y1 y2 y3 h13 n0 Z_14 VR) (by decide) (by decide) (by rw [hml]; rfl) [(.ref b1), (.int (2 : Int32)), (.int p2)] [] (lenOf pd_0_0 rfl) rfl rfl (Nat.le_of_ble_eq_true rfl) (hb hby at_182) e13 (by decide) (by decide) ?_
          rintro _ T69 L69 X69 ⟨rfl, N69q, e69⟩
          have N_70 := Fr.app N_15 N69q
          show own_Go X69 (Q0 Z p0 p1 p2 h0 n0) 1 4 185 #[.val (.int p0), .val (.int p1), .val (.int p2), .val (.int (2 : Int32)), .val (.ref b1), .val (.long vv), .second, .val (.int (1 : Int32))] [(.int (own_fb2 y0 y1 p2))]
          refine own_st (fun _ k => XS.iload X69.here hx rfl (hb hby at_185) rfl k) ?_
          show own_Go X69 (Q0 Z p0 p1 p2 h0 n0) 1 4 187 #[.val (.int p0), .val (.int p1), .val (.int p2), .val (.int (2 : Int32)), .val (.ref b1), .val (.long vv), .second, .val (.int (1 : Int32))] [(.int (1 : Int32)), (.int (own_fb2 y0 y1 p2))]
          have c187_71 : (own_fb2 y0 y1 p2) = (1 : Int32) := by rw [own_f2 z0 z1 hU, if_pos ((own_mid hvU hU32 c130_66 c153_67).mpr c168_68)]
          refine own_st (fun _ k => XS.icmpNo X69.here hx rfl (hb hby at_187) rfl (teq c187_71).2 k) ?_
          show own_Go X69 (Q0 Z p0 p1 p2 h0 n0) 1 4 190 #[.val (.int p0), .val (.int p1), .val (.int p2), .val (.int (2 : Int32)), .val (.ref b1), .val (.long vv), .second, .val (.int (1 : Int32))] []
          refine own_st (fun _ k => XS.iconst X69.here hx rfl (hb hby at_190) k) ?_
          show own_Go X69 (Q0 Z p0 p1 p2 h0 n0) 1 4 191 #[.val (.int p0), .val (.int p1), .val (.int p2), .val (.int (2 : Int32)), .val (.ref b1), .val (.long vv), .second, .val (.int (1 : Int32))] [(.int (1 : Int32))]
          refine own_st (fun _ k => XS.goto X69.here hx rfl (pc0 := 191) (pc' := 195) rfl (hb hby at_191) (by decide) (by decide) k) ?_
          show own_Go X69 (Q0 Z p0 p1 p2 h0 n0) 1 4 195 #[.val (.int p0), .val (.int p1), .val (.int p2), .val (.int (2 : Int32)), .val (.ref b1), .val (.long vv), .second, .val (.int (1 : Int32))] [(.int (1 : Int32))]
          refine own_retN X69 hx Bd.returns (by simp) hlk e69 (hb hby at_195) (by decide) (by decide) ?_
          exact ⟨rfl, N_70⟩
        · skip
          refine own_st (fun _ k => XS.ifYes X13.here hx rfl (pc0 := 168) (pc' := 175) rfl (hb hby at_168) rfl ((if0 _ _).trans (feq (fun q => c168_68 ((lw_eq _ _).mp q))).2) (by decide) (by decide) k) ?_
          show own_Go X13 (Q0 Z p0 p1 p2 h0 n0) 1 4 175 #[.val (.int p0), .val (.int p1), .val (.int p2), .val (.int (2 : Int32)), .val (.ref b1), .val (.long vv), .second, .unset] []
          refine own_st (fun _ k => XS.iconst X13.here hx rfl (hb hby at_175) k) ?_
          show own_Go X13 (Q0 Z p0 p1 p2 h0 n0) 1 4 176 #[.val (.int p0), .val (.int p1), .val (.int p2), .val (.int (2 : Int32)), .val (.ref b1), .val (.long vv), .second, .unset] [(.int (0 : Int32))]
          refine own_st (fun _ k => XS.istore X13.here hx rfl (hb hby at_176) rfl (l' := #[.val (.int p0), .val (.int p1), .val (.int p2), .val (.int (2 : Int32)), .val (.ref b1), .val (.long vv), .second, .val (.int (0 : Int32))]) rfl k) ?_
          show own_Go X13 (Q0 Z p0 p1 p2 h0 n0) 1 4 178 #[.val (.int p0), .val (.int p1), .val (.int p2), .val (.int (2 : Int32)), .val (.ref b1), .val (.long vv), .second, .val (.int (0 : Int32))] []
          refine own_st (fun _ k => XS.aload X13.here hx rfl (hb hby at_178) rfl rfl k) ?_
          show own_Go X13 (Q0 Z p0 p1 p2 h0 n0) 1 4 180 #[.val (.int p0), .val (.int p1), .val (.int p2), .val (.int (2 : Int32)), .val (.ref b1), .val (.long vv), .second, .val (.int (0 : Int32))] [(.ref b1)]
          refine own_st (fun _ k => XS.iloadN X13.here hx rfl (hb hby at_180) rfl k) ?_
          show own_Go X13 (Q0 Z p0 p1 p2 h0 n0) 1 4 181 #[.val (.int p0), .val (.int p1), .val (.int p2), .val (.int (2 : Int32)), .val (.ref b1), .val (.long vv), .second, .val (.int (0 : Int32))] [(.int (2 : Int32)), (.ref b1)]
          refine own_st (fun _ k => XS.iloadN X13.here hx rfl (hb hby at_181) rfl k) ?_
          show own_Go X13 (Q0 Z p0 p1 p2 h0 n0) 1 4 182 #[.val (.int p0), .val (.int p1), .val (.int p2), .val (.int (2 : Int32)), .val (.ref b1), .val (.long vv), .second, .val (.int (0 : Int32))] [(.int p2), (.int (2 : Int32)), (.ref b1)]
          refine own_callS (W := 0) X13 hx hZ hown (hw _ (List.mem_of_getElem? (i := 1) rfl)) (hw _ (List.mem_of_getElem? (i := 2) rfl)) (hw _ (List.mem_of_getElem? (i := 3) rfl)) (hw _ (List.mem_of_getElem? (i := 4) rfl)) (by decide) (rm12 l Z a0 hw [] b1 p2 k1 y0 y1 y2 y3 h13 n0 Z_14 VR) (by decide) (by decide) (by rw [hml]; rfl) [(.ref b1), (.int (2 : Int32)), (.int p2)] [] (lenOf pd_0_0 rfl) rfl rfl (Nat.le_of_ble_eq_true rfl) (hb hby at_182) e13 (by decide) (by decide) ?_
          rintro _ T72 L72 X72 ⟨rfl, N72q, e72⟩
          have N_73 := Fr.app N_15 N72q
          show own_Go X72 (Q0 Z p0 p1 p2 h0 n0) 1 4 185 #[.val (.int p0), .val (.int p1), .val (.int p2), .val (.int (2 : Int32)), .val (.ref b1), .val (.long vv), .second, .val (.int (0 : Int32))] [(.int (own_fb2 y0 y1 p2))]
          refine own_st (fun _ k => XS.iload X72.here hx rfl (hb hby at_185) rfl k) ?_
          show own_Go X72 (Q0 Z p0 p1 p2 h0 n0) 1 4 187 #[.val (.int p0), .val (.int p1), .val (.int p2), .val (.int (2 : Int32)), .val (.ref b1), .val (.long vv), .second, .val (.int (0 : Int32))] [(.int (0 : Int32)), (.int (own_fb2 y0 y1 p2))]
          have c187_74 : (own_fb2 y0 y1 p2) = (0 : Int32) := by rw [own_f2 z0 z1 hU, if_neg (fun z => c168_68 ((own_mid hvU hU32 c130_66 c153_67).mp z))]
          refine own_st (fun _ k => XS.icmpNo X72.here hx rfl (hb hby at_187) rfl (teq c187_74).2 k) ?_
          show own_Go X72 (Q0 Z p0 p1 p2 h0 n0) 1 4 190 #[.val (.int p0), .val (.int p1), .val (.int p2), .val (.int (2 : Int32)), .val (.ref b1), .val (.long vv), .second, .val (.int (0 : Int32))] []
          refine own_st (fun _ k => XS.iconst X72.here hx rfl (hb hby at_190) k) ?_
          show own_Go X72 (Q0 Z p0 p1 p2 h0 n0) 1 4 191 #[.val (.int p0), .val (.int p1), .val (.int p2), .val (.int (2 : Int32)), .val (.ref b1), .val (.long vv), .second, .val (.int (0 : Int32))] [(.int (1 : Int32))]
          refine own_st (fun _ k => XS.goto X72.here hx rfl (pc0 := 191) (pc' := 195) rfl (hb hby at_191) (by decide) (by decide) k) ?_
          show own_Go X72 (Q0 Z p0 p1 p2 h0 n0) 1 4 195 #[.val (.int p0), .val (.int p1), .val (.int p2), .val (.int (2 : Int32)), .val (.ref b1), .val (.long vv), .second, .val (.int (0 : Int32))] [(.int (1 : Int32))]
          refine own_retN X72 hx Bd.returns (by simp) hlk e72 (hb hby at_195) (by decide) (by decide) ?_
          exact ⟨rfl, N_73⟩
      · skip
        refine own_st (fun _ k => XS.icmpNo X13.here hx rfl (hb hby at_153) rfl (flt c153_67).1 k) ?_
        show own_Go X13 (Q0 Z p0 p1 p2 h0 n0) 1 4 156 #[.val (.int p0), .val (.int p1), .val (.int p2), .val (.int (2 : Int32)), .val (.ref b1), .val (.long vv), .second, .unset] []
        refine own_st (fun _ k => XS.iconst X13.here hx rfl (hb hby at_156) k) ?_
        show own_Go X13 (Q0 Z p0 p1 p2 h0 n0) 1 4 157 #[.val (.int p0), .val (.int p1), .val (.int p2), .val (.int (2 : Int32)), .val (.ref b1), .val (.long vv), .second, .unset] [(.int (1 : Int32))]
        refine own_st (fun _ k => XS.istore X13.here hx rfl (hb hby at_157) rfl (l' := #[.val (.int p0), .val (.int p1), .val (.int p2), .val (.int (2 : Int32)), .val (.ref b1), .val (.long vv), .second, .val (.int (1 : Int32))]) rfl k) ?_
        show own_Go X13 (Q0 Z p0 p1 p2 h0 n0) 1 4 159 #[.val (.int p0), .val (.int p1), .val (.int p2), .val (.int (2 : Int32)), .val (.ref b1), .val (.long vv), .second, .val (.int (1 : Int32))] []
        refine own_st (fun _ k => XS.goto X13.here hx rfl (pc0 := 159) (pc' := 178) rfl (hb hby at_159) (by decide) (by decide) k) ?_
        show own_Go X13 (Q0 Z p0 p1 p2 h0 n0) 1 4 178 #[.val (.int p0), .val (.int p1), .val (.int p2), .val (.int (2 : Int32)), .val (.ref b1), .val (.long vv), .second, .val (.int (1 : Int32))] []
        refine own_st (fun _ k => XS.aload X13.here hx rfl (hb hby at_178) rfl rfl k) ?_
        show own_Go X13 (Q0 Z p0 p1 p2 h0 n0) 1 4 180 #[.val (.int p0), .val (.int p1), .val (.int p2), .val (.int (2 : Int32)), .val (.ref b1), .val (.long vv), .second, .val (.int (1 : Int32))] [(.ref b1)]
        refine own_st (fun _ k => XS.iloadN X13.here hx rfl (hb hby at_180) rfl k) ?_
        show own_Go X13 (Q0 Z p0 p1 p2 h0 n0) 1 4 181 #[.val (.int p0), .val (.int p1), .val (.int p2), .val (.int (2 : Int32)), .val (.ref b1), .val (.long vv), .second, .val (.int (1 : Int32))] [(.int (2 : Int32)), (.ref b1)]
        refine own_st (fun _ k => XS.iloadN X13.here hx rfl (hb hby at_181) rfl k) ?_
        show own_Go X13 (Q0 Z p0 p1 p2 h0 n0) 1 4 182 #[.val (.int p0), .val (.int p1), .val (.int p2), .val (.int (2 : Int32)), .val (.ref b1), .val (.long vv), .second, .val (.int (1 : Int32))] [(.int p2), (.int (2 : Int32)), (.ref b1)]
        refine own_callS (W := 0) X13 hx hZ hown (hw _ (List.mem_of_getElem? (i := 1) rfl)) (hw _ (List.mem_of_getElem? (i := 2) rfl)) (hw _ (List.mem_of_getElem? (i := 3) rfl)) (hw _ (List.mem_of_getElem? (i := 4) rfl)) (by decide) (rm12 l Z a0 hw [] b1 p2 k1 y0 y1 y2 y3 h13 n0 Z_14 VR) (by decide) (by decide) (by rw [hml]; rfl) [(.ref b1), (.int (2 : Int32)), (.int p2)] [] (lenOf pd_0_0 rfl) rfl rfl (Nat.le_of_ble_eq_true rfl) (hb hby at_182) e13 (by decide) (by decide) ?_
        rintro _ T75 L75 X75 ⟨rfl, N75q, e75⟩
        have N_76 := Fr.app N_15 N75q
        show own_Go X75 (Q0 Z p0 p1 p2 h0 n0) 1 4 185 #[.val (.int p0), .val (.int p1), .val (.int p2), .val (.int (2 : Int32)), .val (.ref b1), .val (.long vv), .second, .val (.int (1 : Int32))] [(.int (own_fb2 y0 y1 p2))]
        refine own_st (fun _ k => XS.iload X75.here hx rfl (hb hby at_185) rfl k) ?_
        show own_Go X75 (Q0 Z p0 p1 p2 h0 n0) 1 4 187 #[.val (.int p0), .val (.int p1), .val (.int p2), .val (.int (2 : Int32)), .val (.ref b1), .val (.long vv), .second, .val (.int (1 : Int32))] [(.int (1 : Int32)), (.int (own_fb2 y0 y1 p2))]
        have c187_77 : (own_fb2 y0 y1 p2) = (1 : Int32) := by rw [own_f2 z0 z1 hU, if_pos (own_ge40 hU32 c153_67)]
        refine own_st (fun _ k => XS.icmpNo X75.here hx rfl (hb hby at_187) rfl (teq c187_77).2 k) ?_
        show own_Go X75 (Q0 Z p0 p1 p2 h0 n0) 1 4 190 #[.val (.int p0), .val (.int p1), .val (.int p2), .val (.int (2 : Int32)), .val (.ref b1), .val (.long vv), .second, .val (.int (1 : Int32))] []
        refine own_st (fun _ k => XS.iconst X75.here hx rfl (hb hby at_190) k) ?_
        show own_Go X75 (Q0 Z p0 p1 p2 h0 n0) 1 4 191 #[.val (.int p0), .val (.int p1), .val (.int p2), .val (.int (2 : Int32)), .val (.ref b1), .val (.long vv), .second, .val (.int (1 : Int32))] [(.int (1 : Int32))]
        refine own_st (fun _ k => XS.goto X75.here hx rfl (pc0 := 191) (pc' := 195) rfl (hb hby at_191) (by decide) (by decide) k) ?_
        show own_Go X75 (Q0 Z p0 p1 p2 h0 n0) 1 4 195 #[.val (.int p0), .val (.int p1), .val (.int p2), .val (.int (2 : Int32)), .val (.ref b1), .val (.long vv), .second, .val (.int (1 : Int32))] [(.int (1 : Int32))]
        refine own_retN X75 hx Bd.returns (by simp) hlk e75 (hb hby at_195) (by decide) (by decide) ?_
        exact ⟨rfl, N_76⟩
    · skip
      refine own_st (fun _ k => XS.ifNo X13.here hx rfl (hb hby at_130) rfl ((if0 _ _).trans (flt c130_66).2.2.1) k) ?_
      show own_Go X13 (Q0 Z p0 p1 p2 h0 n0) 1 4 133 #[.val (.int p0), .val (.int p1), .val (.int p2), .val (.int (2 : Int32)), .val (.ref b1), .val (.long vv), .second, .unset] []
      refine own_st (fun _ k => XS.lload X13.here hx rfl (hb hby at_133) rfl k) ?_
      show own_Go X13 (Q0 Z p0 p1 p2 h0 n0) 1 4 135 #[.val (.int p0), .val (.int p1), .val (.int p2), .val (.int (2 : Int32)), .val (.ref b1), .val (.long vv), .second, .unset] [(.long vv)]
      refine own_st (fun _ k => XS.lconst X13.here hx rfl (hb hby at_135) k) ?_
      show own_Go X13 (Q0 Z p0 p1 p2 h0 n0) 1 4 136 #[.val (.int p0), .val (.int p1), .val (.int p2), .val (.int (2 : Int32)), .val (.ref b1), .val (.long vv), .second, .unset] [(.long (0 : Int64)), (.long vv)]
      refine own_st (fun _ k => XS.lcmp X13.here hx rfl (hb hby at_136) rfl k) ?_
      show own_Go X13 (Q0 Z p0 p1 p2 h0 n0) 1 4 137 #[.val (.int p0), .val (.int p1), .val (.int p2), .val (.int (2 : Int32)), .val (.ref b1), .val (.long vv), .second, .unset] [(.int (lcmpW vv (0 : Int64)))]
      by_cases c137_78 : vv = (0 : Int64)
      · skip
        refine own_st (fun _ k => XS.ifNo X13.here hx rfl (hb hby at_137) rfl ((if0 _ _).trans (teq ((lw_eq _ _).mpr c137_78)).2) k) ?_
        show own_Go X13 (Q0 Z p0 p1 p2 h0 n0) 1 4 140 #[.val (.int p0), .val (.int p1), .val (.int p2), .val (.int (2 : Int32)), .val (.ref b1), .val (.long vv), .second, .unset] []
        refine own_st (fun _ k => XS.iconst X13.here hx rfl (hb hby at_140) k) ?_
        show own_Go X13 (Q0 Z p0 p1 p2 h0 n0) 1 4 141 #[.val (.int p0), .val (.int p1), .val (.int p2), .val (.int (2 : Int32)), .val (.ref b1), .val (.long vv), .second, .unset] [(.int (1 : Int32))]
        refine own_st (fun _ k => XS.goto X13.here hx rfl (pc0 := 141) (pc' := 145) rfl (hb hby at_141) (by decide) (by decide) k) ?_
        show own_Go X13 (Q0 Z p0 p1 p2 h0 n0) 1 4 145 #[.val (.int p0), .val (.int p1), .val (.int p2), .val (.int (2 : Int32)), .val (.ref b1), .val (.long vv), .second, .unset] [(.int (1 : Int32))]
        refine own_st (fun _ k => XS.istore X13.here hx rfl (hb hby at_145) rfl (l' := #[.val (.int p0), .val (.int p1), .val (.int p2), .val (.int (2 : Int32)), .val (.ref b1), .val (.long vv), .second, .val (.int (1 : Int32))]) rfl k) ?_
        show own_Go X13 (Q0 Z p0 p1 p2 h0 n0) 1 4 147 #[.val (.int p0), .val (.int p1), .val (.int p2), .val (.int (2 : Int32)), .val (.ref b1), .val (.long vv), .second, .val (.int (1 : Int32))] []
        refine own_st (fun _ k => XS.goto X13.here hx rfl (pc0 := 147) (pc' := 178) rfl (hb hby at_147) (by decide) (by decide) k) ?_
        show own_Go X13 (Q0 Z p0 p1 p2 h0 n0) 1 4 178 #[.val (.int p0), .val (.int p1), .val (.int p2), .val (.int (2 : Int32)), .val (.ref b1), .val (.long vv), .second, .val (.int (1 : Int32))] []
        refine own_st (fun _ k => XS.aload X13.here hx rfl (hb hby at_178) rfl rfl k) ?_
        show own_Go X13 (Q0 Z p0 p1 p2 h0 n0) 1 4 180 #[.val (.int p0), .val (.int p1), .val (.int p2), .val (.int (2 : Int32)), .val (.ref b1), .val (.long vv), .second, .val (.int (1 : Int32))] [(.ref b1)]
        refine own_st (fun _ k => XS.iloadN X13.here hx rfl (hb hby at_180) rfl k) ?_
        show own_Go X13 (Q0 Z p0 p1 p2 h0 n0) 1 4 181 #[.val (.int p0), .val (.int p1), .val (.int p2), .val (.int (2 : Int32)), .val (.ref b1), .val (.long vv), .second, .val (.int (1 : Int32))] [(.int (2 : Int32)), (.ref b1)]
        refine own_st (fun _ k => XS.iloadN X13.here hx rfl (hb hby at_181) rfl k) ?_
        show own_Go X13 (Q0 Z p0 p1 p2 h0 n0) 1 4 182 #[.val (.int p0), .val (.int p1), .val (.int p2), .val (.int (2 : Int32)), .val (.ref b1), .val (.long vv), .second, .val (.int (1 : Int32))] [(.int p2), (.int (2 : Int32)), (.ref b1)]
        refine own_callS (W := 0) X13 hx hZ hown (hw _ (List.mem_of_getElem? (i := 1) rfl)) (hw _ (List.mem_of_getElem? (i := 2) rfl)) (hw _ (List.mem_of_getElem? (i := 3) rfl)) (hw _ (List.mem_of_getElem? (i := 4) rfl)) (by decide) (rm12 l Z a0 hw [] b1 p2 k1 y0 y1 y2 y3 h13 n0 Z_14 VR) (by decide) (by decide) (by rw [hml]; rfl) [(.ref b1), (.int (2 : Int32)), (.int p2)] [] (lenOf pd_0_0 rfl) rfl rfl (Nat.le_of_ble_eq_true rfl) (hb hby at_182) e13 (by decide) (by decide) ?_
        rintro _ T79 L79 X79 ⟨rfl, N79q, e79⟩
        have N_80 := Fr.app N_15 N79q
        show own_Go X79 (Q0 Z p0 p1 p2 h0 n0) 1 4 185 #[.val (.int p0), .val (.int p1), .val (.int p2), .val (.int (2 : Int32)), .val (.ref b1), .val (.long vv), .second, .val (.int (1 : Int32))] [(.int (own_fb2 y0 y1 p2))]
        refine own_st (fun _ k => XS.iload X79.here hx rfl (hb hby at_185) rfl k) ?_
        show own_Go X79 (Q0 Z p0 p1 p2 h0 n0) 1 4 187 #[.val (.int p0), .val (.int p1), .val (.int p2), .val (.int (2 : Int32)), .val (.ref b1), .val (.long vv), .second, .val (.int (1 : Int32))] [(.int (1 : Int32)), (.int (own_fb2 y0 y1 p2))]
        have c187_81 : (own_fb2 y0 y1 p2) = (1 : Int32) := by rw [own_f2 z0 z1 hU, if_pos ((own_le0 hvU c130_66).mpr c137_78)]
        refine own_st (fun _ k => XS.icmpNo X79.here hx rfl (hb hby at_187) rfl (teq c187_81).2 k) ?_
        show own_Go X79 (Q0 Z p0 p1 p2 h0 n0) 1 4 190 #[.val (.int p0), .val (.int p1), .val (.int p2), .val (.int (2 : Int32)), .val (.ref b1), .val (.long vv), .second, .val (.int (1 : Int32))] []
        refine own_st (fun _ k => XS.iconst X79.here hx rfl (hb hby at_190) k) ?_
        show own_Go X79 (Q0 Z p0 p1 p2 h0 n0) 1 4 191 #[.val (.int p0), .val (.int p1), .val (.int p2), .val (.int (2 : Int32)), .val (.ref b1), .val (.long vv), .second, .val (.int (1 : Int32))] [(.int (1 : Int32))]
        refine own_st (fun _ k => XS.goto X79.here hx rfl (pc0 := 191) (pc' := 195) rfl (hb hby at_191) (by decide) (by decide) k) ?_
        show own_Go X79 (Q0 Z p0 p1 p2 h0 n0) 1 4 195 #[.val (.int p0), .val (.int p1), .val (.int p2), .val (.int (2 : Int32)), .val (.ref b1), .val (.long vv), .second, .val (.int (1 : Int32))] [(.int (1 : Int32))]
        refine own_retN X79 hx Bd.returns (by simp) hlk e79 (hb hby at_195) (by decide) (by decide) ?_
        exact ⟨rfl, N_80⟩
      · skip
        refine own_st (fun _ k => XS.ifYes X13.here hx rfl (pc0 := 137) (pc' := 144) rfl (hb hby at_137) rfl ((if0 _ _).trans (feq (fun q => c137_78 ((lw_eq _ _).mp q))).2) (by decide) (by decide) k) ?_
        show own_Go X13 (Q0 Z p0 p1 p2 h0 n0) 1 4 144 #[.val (.int p0), .val (.int p1), .val (.int p2), .val (.int (2 : Int32)), .val (.ref b1), .val (.long vv), .second, .unset] []
        refine own_st (fun _ k => XS.iconst X13.here hx rfl (hb hby at_144) k) ?_
        show own_Go X13 (Q0 Z p0 p1 p2 h0 n0) 1 4 145 #[.val (.int p0), .val (.int p1), .val (.int p2), .val (.int (2 : Int32)), .val (.ref b1), .val (.long vv), .second, .unset] [(.int (0 : Int32))]
        refine own_st (fun _ k => XS.istore X13.here hx rfl (hb hby at_145) rfl (l' := #[.val (.int p0), .val (.int p1), .val (.int p2), .val (.int (2 : Int32)), .val (.ref b1), .val (.long vv), .second, .val (.int (0 : Int32))]) rfl k) ?_
        show own_Go X13 (Q0 Z p0 p1 p2 h0 n0) 1 4 147 #[.val (.int p0), .val (.int p1), .val (.int p2), .val (.int (2 : Int32)), .val (.ref b1), .val (.long vv), .second, .val (.int (0 : Int32))] []
        refine own_st (fun _ k => XS.goto X13.here hx rfl (pc0 := 147) (pc' := 178) rfl (hb hby at_147) (by decide) (by decide) k) ?_
        show own_Go X13 (Q0 Z p0 p1 p2 h0 n0) 1 4 178 #[.val (.int p0), .val (.int p1), .val (.int p2), .val (.int (2 : Int32)), .val (.ref b1), .val (.long vv), .second, .val (.int (0 : Int32))] []
        refine own_st (fun _ k => XS.aload X13.here hx rfl (hb hby at_178) rfl rfl k) ?_
        show own_Go X13 (Q0 Z p0 p1 p2 h0 n0) 1 4 180 #[.val (.int p0), .val (.int p1), .val (.int p2), .val (.int (2 : Int32)), .val (.ref b1), .val (.long vv), .second, .val (.int (0 : Int32))] [(.ref b1)]
        refine own_st (fun _ k => XS.iloadN X13.here hx rfl (hb hby at_180) rfl k) ?_
        show own_Go X13 (Q0 Z p0 p1 p2 h0 n0) 1 4 181 #[.val (.int p0), .val (.int p1), .val (.int p2), .val (.int (2 : Int32)), .val (.ref b1), .val (.long vv), .second, .val (.int (0 : Int32))] [(.int (2 : Int32)), (.ref b1)]
        refine own_st (fun _ k => XS.iloadN X13.here hx rfl (hb hby at_181) rfl k) ?_
        show own_Go X13 (Q0 Z p0 p1 p2 h0 n0) 1 4 182 #[.val (.int p0), .val (.int p1), .val (.int p2), .val (.int (2 : Int32)), .val (.ref b1), .val (.long vv), .second, .val (.int (0 : Int32))] [(.int p2), (.int (2 : Int32)), (.ref b1)]
        refine own_callS (W := 0) X13 hx hZ hown (hw _ (List.mem_of_getElem? (i := 1) rfl)) (hw _ (List.mem_of_getElem? (i := 2) rfl)) (hw _ (List.mem_of_getElem? (i := 3) rfl)) (hw _ (List.mem_of_getElem? (i := 4) rfl)) (by decide) (rm12 l Z a0 hw [] b1 p2 k1 y0 y1 y2 y3 h13 n0 Z_14 VR) (by decide) (by decide) (by rw [hml]; rfl) [(.ref b1), (.int (2 : Int32)), (.int p2)] [] (lenOf pd_0_0 rfl) rfl rfl (Nat.le_of_ble_eq_true rfl) (hb hby at_182) e13 (by decide) (by decide) ?_
        rintro _ T82 L82 X82 ⟨rfl, N82q, e82⟩
        have N_83 := Fr.app N_15 N82q
        show own_Go X82 (Q0 Z p0 p1 p2 h0 n0) 1 4 185 #[.val (.int p0), .val (.int p1), .val (.int p2), .val (.int (2 : Int32)), .val (.ref b1), .val (.long vv), .second, .val (.int (0 : Int32))] [(.int (own_fb2 y0 y1 p2))]
        refine own_st (fun _ k => XS.iload X82.here hx rfl (hb hby at_185) rfl k) ?_
        show own_Go X82 (Q0 Z p0 p1 p2 h0 n0) 1 4 187 #[.val (.int p0), .val (.int p1), .val (.int p2), .val (.int (2 : Int32)), .val (.ref b1), .val (.long vv), .second, .val (.int (0 : Int32))] [(.int (0 : Int32)), (.int (own_fb2 y0 y1 p2))]
        have c187_84 : (own_fb2 y0 y1 p2) = (0 : Int32) := by rw [own_f2 z0 z1 hU, if_neg (fun z => c137_78 ((own_le0 hvU c130_66).mp z))]
        refine own_st (fun _ k => XS.icmpNo X82.here hx rfl (hb hby at_187) rfl (teq c187_84).2 k) ?_
        show own_Go X82 (Q0 Z p0 p1 p2 h0 n0) 1 4 190 #[.val (.int p0), .val (.int p1), .val (.int p2), .val (.int (2 : Int32)), .val (.ref b1), .val (.long vv), .second, .val (.int (0 : Int32))] []
        refine own_st (fun _ k => XS.iconst X82.here hx rfl (hb hby at_190) k) ?_
        show own_Go X82 (Q0 Z p0 p1 p2 h0 n0) 1 4 191 #[.val (.int p0), .val (.int p1), .val (.int p2), .val (.int (2 : Int32)), .val (.ref b1), .val (.long vv), .second, .val (.int (0 : Int32))] [(.int (1 : Int32))]
        refine own_st (fun _ k => XS.goto X82.here hx rfl (pc0 := 191) (pc' := 195) rfl (hb hby at_191) (by decide) (by decide) k) ?_
        show own_Go X82 (Q0 Z p0 p1 p2 h0 n0) 1 4 195 #[.val (.int p0), .val (.int p1), .val (.int p2), .val (.int (2 : Int32)), .val (.ref b1), .val (.long vv), .second, .val (.int (0 : Int32))] [(.int (1 : Int32))]
        refine own_retN X82 hx Bd.returns (by simp) hlk e82 (hb hby at_195) (by decide) (by decide) ?_
        exact ⟨rfl, N_83⟩
  · skip
    show own_Go X13 (Q0 Z p0 p1 p2 h0 n0) 1 4 48 #[.val (.int p0), .val (.int p1), .val (.int p2), .val (.int (3 : Int32)), .val (.ref b1), .val (.long (0 : Int64)), .second, .unset] []
    refine own_st (fun _ k => XS.iloadN X13.here hx rfl (hb hby at_48) rfl k) ?_
    show own_Go X13 (Q0 Z p0 p1 p2 h0 n0) 1 4 49 #[.val (.int p0), .val (.int p1), .val (.int p2), .val (.int (3 : Int32)), .val (.ref b1), .val (.long (0 : Int64)), .second, .unset] [(.int (3 : Int32))]
    have c49_85 : (0 : Int32) < (3 : Int32) := (by decide)
    refine own_st (fun _ k => XS.ifNo X13.here hx rfl (hb hby at_49) rfl ((if0 _ _).trans (tlt c49_85).2.2.2) k) ?_
    show own_Go X13 (Q0 Z p0 p1 p2 h0 n0) 1 4 52 #[.val (.int p0), .val (.int p1), .val (.int p2), .val (.int (3 : Int32)), .val (.ref b1), .val (.long (0 : Int64)), .second, .unset] []
    refine own_st (fun _ k => XS.aload X13.here hx rfl (hb hby at_52) rfl rfl k) ?_
    show own_Go X13 (Q0 Z p0 p1 p2 h0 n0) 1 4 54 #[.val (.int p0), .val (.int p1), .val (.int p2), .val (.int (3 : Int32)), .val (.ref b1), .val (.long (0 : Int64)), .second, .unset] [(.ref b1)]
    refine own_st (fun _ k => XS.iconst X13.here hx rfl (hb hby at_54) k) ?_
    show own_Go X13 (Q0 Z p0 p1 p2 h0 n0) 1 4 55 #[.val (.int p0), .val (.int p1), .val (.int p2), .val (.int (3 : Int32)), .val (.ref b1), .val (.long (0 : Int64)), .second, .unset] [(.int (0 : Int32)), (.ref b1)]
    refine own_st (fun _ k => own_ldB X13 hx hZ e13 VR (j := (0 : Int32)) ⟨by decide, by decide⟩ (v := (.int y0)) rfl (g := (mkF m 55 #[.val (.int p0), .val (.int p1), .val (.int p2), .val (.int (3 : Int32)), .val (.ref b1), .val (.long (0 : Int64)), .second, .unset] [(.int (0 : Int32)), (.ref b1)])) rfl rfl (hb hby at_55) _ k) ?_
    show own_Go X13 (Q0 Z p0 p1 p2 h0 n0) 1 4 56 #[.val (.int p0), .val (.int p1), .val (.int p2), .val (.int (3 : Int32)), .val (.ref b1), .val (.long (0 : Int64)), .second, .unset] [(.int y0)]
    refine own_st (fun _ k => XS.sipush X13.here hx rfl (hb hby at_56) k) ?_
    show own_Go X13 (Q0 Z p0 p1 p2 h0 n0) 1 4 59 #[.val (.int p0), .val (.int p1), .val (.int p2), .val (.int (3 : Int32)), .val (.ref b1), .val (.long (0 : Int64)), .second, .unset] [(.int (255 : Int32)), (.int y0)]
    refine own_st (fun _ k => XS.iand X13.here hx rfl (hb hby at_59) rfl k) ?_
    show own_Go X13 (Q0 Z p0 p1 p2 h0 n0) 1 4 60 #[.val (.int p0), .val (.int p1), .val (.int p2), .val (.int (3 : Int32)), .val (.ref b1), .val (.long (0 : Int64)), .second, .unset] [(.int (y0 &&& (255 : Int32)))]
    refine own_st (fun _ k => XS.i2l X13.here hx rfl (hb hby at_60) rfl k) ?_
    show own_Go X13 (Q0 Z p0 p1 p2 h0 n0) 1 4 61 #[.val (.int p0), .val (.int p1), .val (.int p2), .val (.int (3 : Int32)), .val (.ref b1), .val (.long (0 : Int64)), .second, .unset] [(.long ((y0 &&& (255 : Int32)).toInt64))]
    refine own_st (fun _ k => XS.lstore X13.here hx rfl (hb hby at_61) rfl (l' := #[.val (.int p0), .val (.int p1), .val (.int p2), .val (.int (3 : Int32)), .val (.ref b1), .val (.long ((y0 &&& (255 : Int32)).toInt64)), .second, .unset]) rfl k) ?_
    show own_Go X13 (Q0 Z p0 p1 p2 h0 n0) 1 4 63 #[.val (.int p0), .val (.int p1), .val (.int p2), .val (.int (3 : Int32)), .val (.ref b1), .val (.long ((y0 &&& (255 : Int32)).toInt64)), .second, .unset] []
    refine own_st (fun _ k => XS.iloadN X13.here hx rfl (hb hby at_63) rfl k) ?_
    show own_Go X13 (Q0 Z p0 p1 p2 h0 n0) 1 4 64 #[.val (.int p0), .val (.int p1), .val (.int p2), .val (.int (3 : Int32)), .val (.ref b1), .val (.long ((y0 &&& (255 : Int32)).toInt64)), .second, .unset] [(.int (3 : Int32))]
    refine own_st (fun _ k => XS.iconst X13.here hx rfl (hb hby at_64) k) ?_
    show own_Go X13 (Q0 Z p0 p1 p2 h0 n0) 1 4 65 #[.val (.int p0), .val (.int p1), .val (.int p2), .val (.int (3 : Int32)), .val (.ref b1), .val (.long ((y0 &&& (255 : Int32)).toInt64)), .second, .unset] [(.int (1 : Int32)), (.int (3 : Int32))]
    have c65_86 : (1 : Int32) < (3 : Int32) := (by decide)
    refine own_st (fun _ k => XS.icmpNo X13.here hx rfl (hb hby at_65) rfl (tlt c65_86).2.2.2 k) ?_
    show own_Go X13 (Q0 Z p0 p1 p2 h0 n0) 1 4 68 #[.val (.int p0), .val (.int p1), .val (.int p2), .val (.int (3 : Int32)), .val (.ref b1), .val (.long ((y0 &&& (255 : Int32)).toInt64)), .second, .unset] []
    refine own_st (fun _ k => XS.lload X13.here hx rfl (hb hby at_68) rfl k) ?_
    show own_Go X13 (Q0 Z p0 p1 p2 h0 n0) 1 4 70 #[.val (.int p0), .val (.int p1), .val (.int p2), .val (.int (3 : Int32)), .val (.ref b1), .val (.long ((y0 &&& (255 : Int32)).toInt64)), .second, .unset] [(.long ((y0 &&& (255 : Int32)).toInt64))]
    refine own_st (fun _ k => XS.bipush X13.here hx rfl (hb hby at_70) k) ?_
    show own_Go X13 (Q0 Z p0 p1 p2 h0 n0) 1 4 72 #[.val (.int p0), .val (.int p1), .val (.int p2), .val (.int (3 : Int32)), .val (.ref b1), .val (.long ((y0 &&& (255 : Int32)).toInt64)), .second, .unset] [(.int (8 : Int32)), (.long ((y0 &&& (255 : Int32)).toInt64))]
    refine own_st (fun _ k => XS.lshl X13.here hx rfl (hb hby at_72) rfl k) ?_
    show own_Go X13 (Q0 Z p0 p1 p2 h0 n0) 1 4 73 #[.val (.int p0), .val (.int p1), .val (.int p2), .val (.int (3 : Int32)), .val (.ref b1), .val (.long ((y0 &&& (255 : Int32)).toInt64)), .second, .unset] [(.long (((y0 &&& (255 : Int32)).toInt64) <<< ((8 : Int32) &&& 0x3f).toInt64))]
    refine own_st (fun _ k => XS.aload X13.here hx rfl (hb hby at_73) rfl rfl k) ?_
    show own_Go X13 (Q0 Z p0 p1 p2 h0 n0) 1 4 75 #[.val (.int p0), .val (.int p1), .val (.int p2), .val (.int (3 : Int32)), .val (.ref b1), .val (.long ((y0 &&& (255 : Int32)).toInt64)), .second, .unset] [(.ref b1), (.long (((y0 &&& (255 : Int32)).toInt64) <<< ((8 : Int32) &&& 0x3f).toInt64))]
    refine own_st (fun _ k => XS.iconst X13.here hx rfl (hb hby at_75) k) ?_
    show own_Go X13 (Q0 Z p0 p1 p2 h0 n0) 1 4 76 #[.val (.int p0), .val (.int p1), .val (.int p2), .val (.int (3 : Int32)), .val (.ref b1), .val (.long ((y0 &&& (255 : Int32)).toInt64)), .second, .unset] [(.int (1 : Int32)), (.ref b1), (.long (((y0 &&& (255 : Int32)).toInt64) <<< ((8 : Int32) &&& 0x3f).toInt64))]
    refine own_st (fun _ k => own_ldB X13 hx hZ e13 VR (j := (1 : Int32)) ⟨by decide, by decide⟩ (v := (.int y1)) rfl (g := (mkF m 76 #[.val (.int p0), .val (.int p1), .val (.int p2), .val (.int (3 : Int32)), .val (.ref b1), .val (.long ((y0 &&& (255 : Int32)).toInt64)), .second, .unset] [(.int (1 : Int32)), (.ref b1), (.long (((y0 &&& (255 : Int32)).toInt64) <<< ((8 : Int32) &&& 0x3f).toInt64))])) rfl rfl (hb hby at_76) _ k) ?_
    show own_Go X13 (Q0 Z p0 p1 p2 h0 n0) 1 4 77 #[.val (.int p0), .val (.int p1), .val (.int p2), .val (.int (3 : Int32)), .val (.ref b1), .val (.long ((y0 &&& (255 : Int32)).toInt64)), .second, .unset] [(.int y1), (.long (((y0 &&& (255 : Int32)).toInt64) <<< ((8 : Int32) &&& 0x3f).toInt64))]
    refine own_st (fun _ k => XS.sipush X13.here hx rfl (hb hby at_77) k) ?_
    show own_Go X13 (Q0 Z p0 p1 p2 h0 n0) 1 4 80 #[.val (.int p0), .val (.int p1), .val (.int p2), .val (.int (3 : Int32)), .val (.ref b1), .val (.long ((y0 &&& (255 : Int32)).toInt64)), .second, .unset] [(.int (255 : Int32)), (.int y1), (.long (((y0 &&& (255 : Int32)).toInt64) <<< ((8 : Int32) &&& 0x3f).toInt64))]
    refine own_st (fun _ k => XS.iand X13.here hx rfl (hb hby at_80) rfl k) ?_
    show own_Go X13 (Q0 Z p0 p1 p2 h0 n0) 1 4 81 #[.val (.int p0), .val (.int p1), .val (.int p2), .val (.int (3 : Int32)), .val (.ref b1), .val (.long ((y0 &&& (255 : Int32)).toInt64)), .second, .unset] [(.int (y1 &&& (255 : Int32))), (.long (((y0 &&& (255 : Int32)).toInt64) <<< ((8 : Int32) &&& 0x3f).toInt64))]
    refine own_st (fun _ k => XS.i2l X13.here hx rfl (hb hby at_81) rfl k) ?_
    show own_Go X13 (Q0 Z p0 p1 p2 h0 n0) 1 4 82 #[.val (.int p0), .val (.int p1), .val (.int p2), .val (.int (3 : Int32)), .val (.ref b1), .val (.long ((y0 &&& (255 : Int32)).toInt64)), .second, .unset] [(.long ((y1 &&& (255 : Int32)).toInt64)), (.long (((y0 &&& (255 : Int32)).toInt64) <<< ((8 : Int32) &&& 0x3f).toInt64))]
    refine own_st (fun _ k => XS.lor X13.here hx rfl (hb hby at_82) rfl k) ?_
    show own_Go X13 (Q0 Z p0 p1 p2 h0 n0) 1 4 83 #[.val (.int p0), .val (.int p1), .val (.int p2), .val (.int (3 : Int32)), .val (.ref b1), .val (.long ((y0 &&& (255 : Int32)).toInt64)), .second, .unset] [(.long ((((y0 &&& (255 : Int32)).toInt64) <<< ((8 : Int32) &&& 0x3f).toInt64) ||| ((y1 &&& (255 : Int32)).toInt64)))]
    refine own_st (fun _ k => XS.lstore X13.here hx rfl (hb hby at_83) rfl (l' := #[.val (.int p0), .val (.int p1), .val (.int p2), .val (.int (3 : Int32)), .val (.ref b1), .val (.long ((((y0 &&& (255 : Int32)).toInt64) <<< ((8 : Int32) &&& 0x3f).toInt64) ||| ((y1 &&& (255 : Int32)).toInt64))), .second, .unset]) rfl k) ?_
    show own_Go X13 (Q0 Z p0 p1 p2 h0 n0) 1 4 85 #[.val (.int p0), .val (.int p1), .val (.int p2), .val (.int (3 : Int32)), .val (.ref b1), .val (.long ((((y0 &&& (255 : Int32)).toInt64) <<< ((8 : Int32) &&& 0x3f).toInt64) ||| ((y1 &&& (255 : Int32)).toInt64))), .second, .unset] []
    refine own_st (fun _ k => XS.iloadN X13.here hx rfl (hb hby at_85) rfl k) ?_
    show own_Go X13 (Q0 Z p0 p1 p2 h0 n0) 1 4 86 #[.val (.int p0), .val (.int p1), .val (.int p2), .val (.int (3 : Int32)), .val (.ref b1), .val (.long ((((y0 &&& (255 : Int32)).toInt64) <<< ((8 : Int32) &&& 0x3f).toInt64) ||| ((y1 &&& (255 : Int32)).toInt64))), .second, .unset] [(.int (3 : Int32))]
    refine own_st (fun _ k => XS.iconst X13.here hx rfl (hb hby at_86) k) ?_
    show own_Go X13 (Q0 Z p0 p1 p2 h0 n0) 1 4 87 #[.val (.int p0), .val (.int p1), .val (.int p2), .val (.int (3 : Int32)), .val (.ref b1), .val (.long ((((y0 &&& (255 : Int32)).toInt64) <<< ((8 : Int32) &&& 0x3f).toInt64) ||| ((y1 &&& (255 : Int32)).toInt64))), .second, .unset] [(.int (2 : Int32)), (.int (3 : Int32))]
    have c87_87 : (2 : Int32) < (3 : Int32) := (by decide)
    refine own_st (fun _ k => XS.icmpNo X13.here hx rfl (hb hby at_87) rfl (tlt c87_87).2.2.2 k) ?_
    show own_Go X13 (Q0 Z p0 p1 p2 h0 n0) 1 4 90 #[.val (.int p0), .val (.int p1), .val (.int p2), .val (.int (3 : Int32)), .val (.ref b1), .val (.long ((((y0 &&& (255 : Int32)).toInt64) <<< ((8 : Int32) &&& 0x3f).toInt64) ||| ((y1 &&& (255 : Int32)).toInt64))), .second, .unset] []
    refine own_st (fun _ k => XS.lload X13.here hx rfl (hb hby at_90) rfl k) ?_
    show own_Go X13 (Q0 Z p0 p1 p2 h0 n0) 1 4 92 #[.val (.int p0), .val (.int p1), .val (.int p2), .val (.int (3 : Int32)), .val (.ref b1), .val (.long ((((y0 &&& (255 : Int32)).toInt64) <<< ((8 : Int32) &&& 0x3f).toInt64) ||| ((y1 &&& (255 : Int32)).toInt64))), .second, .unset] [(.long ((((y0 &&& (255 : Int32)).toInt64) <<< ((8 : Int32) &&& 0x3f).toInt64) ||| ((y1 &&& (255 : Int32)).toInt64)))]
    refine own_st (fun _ k => XS.bipush X13.here hx rfl (hb hby at_92) k) ?_
    show own_Go X13 (Q0 Z p0 p1 p2 h0 n0) 1 4 94 #[.val (.int p0), .val (.int p1), .val (.int p2), .val (.int (3 : Int32)), .val (.ref b1), .val (.long ((((y0 &&& (255 : Int32)).toInt64) <<< ((8 : Int32) &&& 0x3f).toInt64) ||| ((y1 &&& (255 : Int32)).toInt64))), .second, .unset] [(.int (8 : Int32)), (.long ((((y0 &&& (255 : Int32)).toInt64) <<< ((8 : Int32) &&& 0x3f).toInt64) ||| ((y1 &&& (255 : Int32)).toInt64)))]
    refine own_st (fun _ k => XS.lshl X13.here hx rfl (hb hby at_94) rfl k) ?_
    show own_Go X13 (Q0 Z p0 p1 p2 h0 n0) 1 4 95 #[.val (.int p0), .val (.int p1), .val (.int p2), .val (.int (3 : Int32)), .val (.ref b1), .val (.long ((((y0 &&& (255 : Int32)).toInt64) <<< ((8 : Int32) &&& 0x3f).toInt64) ||| ((y1 &&& (255 : Int32)).toInt64))), .second, .unset] [(.long (((((y0 &&& (255 : Int32)).toInt64) <<< ((8 : Int32) &&& 0x3f).toInt64) ||| ((y1 &&& (255 : Int32)).toInt64)) <<< ((8 : Int32) &&& 0x3f).toInt64))]
    refine own_st (fun _ k => XS.aload X13.here hx rfl (hb hby at_95) rfl rfl k) ?_
    show own_Go X13 (Q0 Z p0 p1 p2 h0 n0) 1 4 97 #[.val (.int p0), .val (.int p1), .val (.int p2), .val (.int (3 : Int32)), .val (.ref b1), .val (.long ((((y0 &&& (255 : Int32)).toInt64) <<< ((8 : Int32) &&& 0x3f).toInt64) ||| ((y1 &&& (255 : Int32)).toInt64))), .second, .unset] [(.ref b1), (.long (((((y0 &&& (255 : Int32)).toInt64) <<< ((8 : Int32) &&& 0x3f).toInt64) ||| ((y1 &&& (255 : Int32)).toInt64)) <<< ((8 : Int32) &&& 0x3f).toInt64))]
    refine own_st (fun _ k => XS.iconst X13.here hx rfl (hb hby at_97) k) ?_
    show own_Go X13 (Q0 Z p0 p1 p2 h0 n0) 1 4 98 #[.val (.int p0), .val (.int p1), .val (.int p2), .val (.int (3 : Int32)), .val (.ref b1), .val (.long ((((y0 &&& (255 : Int32)).toInt64) <<< ((8 : Int32) &&& 0x3f).toInt64) ||| ((y1 &&& (255 : Int32)).toInt64))), .second, .unset] [(.int (2 : Int32)), (.ref b1), (.long (((((y0 &&& (255 : Int32)).toInt64) <<< ((8 : Int32) &&& 0x3f).toInt64) ||| ((y1 &&& (255 : Int32)).toInt64)) <<< ((8 : Int32) &&& 0x3f).toInt64))]
    refine own_st (fun _ k => own_ldB X13 hx hZ e13 VR (j := (2 : Int32)) ⟨by decide, by decide⟩ (v := (.int y2)) rfl (g := (mkF m 98 #[.val (.int p0), .val (.int p1), .val (.int p2), .val (.int (3 : Int32)), .val (.ref b1), .val (.long ((((y0 &&& (255 : Int32)).toInt64) <<< ((8 : Int32) &&& 0x3f).toInt64) ||| ((y1 &&& (255 : Int32)).toInt64))), .second, .unset] [(.int (2 : Int32)), (.ref b1), (.long (((((y0 &&& (255 : Int32)).toInt64) <<< ((8 : Int32) &&& 0x3f).toInt64) ||| ((y1 &&& (255 : Int32)).toInt64)) <<< ((8 : Int32) &&& 0x3f).toInt64))])) rfl rfl (hb hby at_98) _ k) ?_
    show own_Go X13 (Q0 Z p0 p1 p2 h0 n0) 1 4 99 #[.val (.int p0), .val (.int p1), .val (.int p2), .val (.int (3 : Int32)), .val (.ref b1), .val (.long ((((y0 &&& (255 : Int32)).toInt64) <<< ((8 : Int32) &&& 0x3f).toInt64) ||| ((y1 &&& (255 : Int32)).toInt64))), .second, .unset] [(.int y2), (.long (((((y0 &&& (255 : Int32)).toInt64) <<< ((8 : Int32) &&& 0x3f).toInt64) ||| ((y1 &&& (255 : Int32)).toInt64)) <<< ((8 : Int32) &&& 0x3f).toInt64))]
    refine own_st (fun _ k => XS.sipush X13.here hx rfl (hb hby at_99) k) ?_
    show own_Go X13 (Q0 Z p0 p1 p2 h0 n0) 1 4 102 #[.val (.int p0), .val (.int p1), .val (.int p2), .val (.int (3 : Int32)), .val (.ref b1), .val (.long ((((y0 &&& (255 : Int32)).toInt64) <<< ((8 : Int32) &&& 0x3f).toInt64) ||| ((y1 &&& (255 : Int32)).toInt64))), .second, .unset] [(.int (255 : Int32)), (.int y2), (.long (((((y0 &&& (255 : Int32)).toInt64) <<< ((8 : Int32) &&& 0x3f).toInt64) ||| ((y1 &&& (255 : Int32)).toInt64)) <<< ((8 : Int32) &&& 0x3f).toInt64))]
    refine own_st (fun _ k => XS.iand X13.here hx rfl (hb hby at_102) rfl k) ?_
    show own_Go X13 (Q0 Z p0 p1 p2 h0 n0) 1 4 103 #[.val (.int p0), .val (.int p1), .val (.int p2), .val (.int (3 : Int32)), .val (.ref b1), .val (.long ((((y0 &&& (255 : Int32)).toInt64) <<< ((8 : Int32) &&& 0x3f).toInt64) ||| ((y1 &&& (255 : Int32)).toInt64))), .second, .unset] [(.int (y2 &&& (255 : Int32))), (.long (((((y0 &&& (255 : Int32)).toInt64) <<< ((8 : Int32) &&& 0x3f).toInt64) ||| ((y1 &&& (255 : Int32)).toInt64)) <<< ((8 : Int32) &&& 0x3f).toInt64))]
    refine own_st (fun _ k => XS.i2l X13.here hx rfl (hb hby at_103) rfl k) ?_
    show own_Go X13 (Q0 Z p0 p1 p2 h0 n0) 1 4 104 #[.val (.int p0), .val (.int p1), .val (.int p2), .val (.int (3 : Int32)), .val (.ref b1), .val (.long ((((y0 &&& (255 : Int32)).toInt64) <<< ((8 : Int32) &&& 0x3f).toInt64) ||| ((y1 &&& (255 : Int32)).toInt64))), .second, .unset] [(.long ((y2 &&& (255 : Int32)).toInt64)), (.long (((((y0 &&& (255 : Int32)).toInt64) <<< ((8 : Int32) &&& 0x3f).toInt64) ||| ((y1 &&& (255 : Int32)).toInt64)) <<< ((8 : Int32) &&& 0x3f).toInt64))]
    refine own_st (fun _ k => XS.lor X13.here hx rfl (hb hby at_104) rfl k) ?_
    show own_Go X13 (Q0 Z p0 p1 p2 h0 n0) 1 4 105 #[.val (.int p0), .val (.int p1), .val (.int p2), .val (.int (3 : Int32)), .val (.ref b1), .val (.long ((((y0 &&& (255 : Int32)).toInt64) <<< ((8 : Int32) &&& 0x3f).toInt64) ||| ((y1 &&& (255 : Int32)).toInt64))), .second, .unset] [(.long ((((((y0 &&& (255 : Int32)).toInt64) <<< ((8 : Int32) &&& 0x3f).toInt64) ||| ((y1 &&& (255 : Int32)).toInt64)) <<< ((8 : Int32) &&& 0x3f).toInt64) ||| ((y2 &&& (255 : Int32)).toInt64)))]
    refine own_st (fun _ k => XS.lstore X13.here hx rfl (hb hby at_105) rfl (l' := #[.val (.int p0), .val (.int p1), .val (.int p2), .val (.int (3 : Int32)), .val (.ref b1), .val (.long ((((((y0 &&& (255 : Int32)).toInt64) <<< ((8 : Int32) &&& 0x3f).toInt64) ||| ((y1 &&& (255 : Int32)).toInt64)) <<< ((8 : Int32) &&& 0x3f).toInt64) ||| ((y2 &&& (255 : Int32)).toInt64))), .second, .unset]) rfl k) ?_
    show own_Go X13 (Q0 Z p0 p1 p2 h0 n0) 1 4 107 #[.val (.int p0), .val (.int p1), .val (.int p2), .val (.int (3 : Int32)), .val (.ref b1), .val (.long ((((((y0 &&& (255 : Int32)).toInt64) <<< ((8 : Int32) &&& 0x3f).toInt64) ||| ((y1 &&& (255 : Int32)).toInt64)) <<< ((8 : Int32) &&& 0x3f).toInt64) ||| ((y2 &&& (255 : Int32)).toInt64))), .second, .unset] []
    refine own_st (fun _ k => XS.iloadN X13.here hx rfl (hb hby at_107) rfl k) ?_
    show own_Go X13 (Q0 Z p0 p1 p2 h0 n0) 1 4 108 #[.val (.int p0), .val (.int p1), .val (.int p2), .val (.int (3 : Int32)), .val (.ref b1), .val (.long ((((((y0 &&& (255 : Int32)).toInt64) <<< ((8 : Int32) &&& 0x3f).toInt64) ||| ((y1 &&& (255 : Int32)).toInt64)) <<< ((8 : Int32) &&& 0x3f).toInt64) ||| ((y2 &&& (255 : Int32)).toInt64))), .second, .unset] [(.int (3 : Int32))]
    refine own_st (fun _ k => XS.iconst X13.here hx rfl (hb hby at_108) k) ?_
    show own_Go X13 (Q0 Z p0 p1 p2 h0 n0) 1 4 109 #[.val (.int p0), .val (.int p1), .val (.int p2), .val (.int (3 : Int32)), .val (.ref b1), .val (.long ((((((y0 &&& (255 : Int32)).toInt64) <<< ((8 : Int32) &&& 0x3f).toInt64) ||| ((y1 &&& (255 : Int32)).toInt64)) <<< ((8 : Int32) &&& 0x3f).toInt64) ||| ((y2 &&& (255 : Int32)).toInt64))), .second, .unset] [(.int (3 : Int32)), (.int (3 : Int32))]
    have c109_88 : ¬ ((3 : Int32) < (3 : Int32)) := (by decide)
    refine own_st (fun _ k => XS.icmpYes X13.here hx rfl (pc0 := 109) (pc' := 129) rfl (hb hby at_109) rfl (flt c109_88).2.2.2 (by decide) (by decide) k) ?_
    show own_Go X13 (Q0 Z p0 p1 p2 h0 n0) 1 4 129 #[.val (.int p0), .val (.int p1), .val (.int p2), .val (.int (3 : Int32)), .val (.ref b1), .val (.long ((((((y0 &&& (255 : Int32)).toInt64) <<< ((8 : Int32) &&& 0x3f).toInt64) ||| ((y1 &&& (255 : Int32)).toInt64)) <<< ((8 : Int32) &&& 0x3f).toInt64) ||| ((y2 &&& (255 : Int32)).toInt64))), .second, .unset] []
    generalize hvv : ((((((y0 &&& (255 : Int32)).toInt64) <<< ((8 : Int32) &&& 0x3f).toInt64) ||| ((y1 &&& (255 : Int32)).toInt64)) <<< ((8 : Int32) &&& 0x3f).toInt64) ||| ((y2 &&& (255 : Int32)).toInt64)) = vv
    show own_Go X13 (Q0 Z p0 p1 p2 h0 n0) 1 4 129 #[.val (.int p0), .val (.int p1), .val (.int p2), .val (.int (3 : Int32)), .val (.ref b1), .val (.long vv), .second, .unset] []
    obtain ⟨U, hU⟩ : ∃ U : Nat, U = B0 * 2 ^ 16 + (B1 * 2 ^ 8 + B2) := ⟨_, rfl⟩
    have t0 := c_i2l (y0 &&& (255 : Int32))
    have t1 := own_hor (b := (y1 &&& (255 : Int32))) t0 (by omega) (by omega) ky1
    have t2 := own_hor (b := (y2 &&& (255 : Int32))) t1 (by omega) (by omega) ky2
    have hvU : vv.toInt = U := by rw [← hvv, t2, hU]; omega
    have hU32 : U < 4294967296 := by omega
    refine own_st (fun _ k => XS.iloadN X13.here hx rfl (hb hby at_129) rfl k) ?_
    show own_Go X13 (Q0 Z p0 p1 p2 h0 n0) 1 4 130 #[.val (.int p0), .val (.int p1), .val (.int p2), .val (.int (3 : Int32)), .val (.ref b1), .val (.long vv), .second, .unset] [(.int p2)]
    by_cases c130_89 : (0 : Int32) < p2
    · skip
      refine own_st (fun _ k => XS.ifYes X13.here hx rfl (pc0 := 130) (pc' := 150) rfl (hb hby at_130) rfl ((if0 _ _).trans (tlt c130_89).2.2.1) (by decide) (by decide) k) ?_
      show own_Go X13 (Q0 Z p0 p1 p2 h0 n0) 1 4 150 #[.val (.int p0), .val (.int p1), .val (.int p2), .val (.int (3 : Int32)), .val (.ref b1), .val (.long vv), .second, .unset] []
      refine own_st (fun _ k => XS.iloadN X13.here hx rfl (hb hby at_150) rfl k) ?_
      show own_Go X13 (Q0 Z p0 p1 p2 h0 n0) 1 4 151 #[.val (.int p0), .val (.int p1), .val (.int p2), .val (.int (3 : Int32)), .val (.ref b1), .val (.long vv), .second, .unset] [(.int p2)]
      refine own_st (fun _ k => XS.bipush X13.here hx rfl (hb hby at_151) k) ?_
      show own_Go X13 (Q0 Z p0 p1 p2 h0 n0) 1 4 153 #[.val (.int p0), .val (.int p1), .val (.int p2), .val (.int (3 : Int32)), .val (.ref b1), .val (.long vv), .second, .unset] [(.int (40 : Int32)), (.int p2)]
      by_cases c153_90 : p2 < (40 : Int32)
      · skip
        refine own_st (fun _ k => XS.icmpYes X13.here hx rfl (pc0 := 153) (pc' := 162) rfl (hb hby at_153) rfl (tlt c153_90).1 (by decide) (by decide) k) ?_
        show own_Go X13 (Q0 Z p0 p1 p2 h0 n0) 1 4 162 #[.val (.int p0), .val (.int p1), .val (.int p2), .val (.int (3 : Int32)), .val (.ref b1), .val (.long vv), .second, .unset] []
        refine own_st (fun _ k => XS.lload X13.here hx rfl (hb hby at_162) rfl k) ?_
        show own_Go X13 (Q0 Z p0 p1 p2 h0 n0) 1 4 164 #[.val (.int p0), .val (.int p1), .val (.int p2), .val (.int (3 : Int32)), .val (.ref b1), .val (.long vv), .second, .unset] [(.long vv)]
        refine own_st (fun _ k => XS.iloadN X13.here hx rfl (hb hby at_164) rfl k) ?_
        show own_Go X13 (Q0 Z p0 p1 p2 h0 n0) 1 4 165 #[.val (.int p0), .val (.int p1), .val (.int p2), .val (.int (3 : Int32)), .val (.ref b1), .val (.long vv), .second, .unset] [(.int p2), (.long vv)]
        refine own_st (fun _ k => XS.lushr X13.here hx rfl (hb hby at_165) rfl k) ?_
        show own_Go X13 (Q0 Z p0 p1 p2 h0 n0) 1 4 166 #[.val (.int p0), .val (.int p1), .val (.int p2), .val (.int (3 : Int32)), .val (.ref b1), .val (.long vv), .second, .unset] [(.long ((vv.toUInt64 >>> (p2 &&& 0x3f).toInt64.toUInt64).toInt64))]
        refine own_st (fun _ k => XS.lconst X13.here hx rfl (hb hby at_166) k) ?_
        show own_Go X13 (Q0 Z p0 p1 p2 h0 n0) 1 4 167 #[.val (.int p0), .val (.int p1), .val (.int p2), .val (.int (3 : Int32)), .val (.ref b1), .val (.long vv), .second, .unset] [(.long (0 : Int64)), (.long ((vv.toUInt64 >>> (p2 &&& 0x3f).toInt64.toUInt64).toInt64))]
        refine own_st (fun _ k => XS.lcmp X13.here hx rfl (hb hby at_167) rfl k) ?_
        show own_Go X13 (Q0 Z p0 p1 p2 h0 n0) 1 4 168 #[.val (.int p0), .val (.int p1), .val (.int p2), .val (.int (3 : Int32)), .val (.ref b1), .val (.long vv), .second, .unset] [(.int (lcmpW ((vv.toUInt64 >>> (p2 &&& 0x3f).toInt64.toUInt64).toInt64) (0 : Int64)))]
        by_cases c168_91 : ((vv.toUInt64 >>> (p2 &&& 0x3f).toInt64.toUInt64).toInt64) = (0 : Int64)
        · skip
          refine own_st (fun _ k => XS.ifNo X13.here hx rfl (hb hby at_168) rfl ((if0 _ _).trans (teq ((lw_eq _ _).mpr c168_91)).2) k) ?_
          show own_Go X13 (Q0 Z p0 p1 p2 h0 n0) 1 4 171 #[.val (.int p0), .val (.int p1), .val (.int p2), .val (.int (3 : Int32)), .val (.ref b1), .val (.long vv), .second, .unset] []
          refine own_st (fun _ k => XS.iconst X13.here hx rfl (hb hby at_171) k) ?_
          show own_Go X13 (Q0 Z p0 p1 p2 h0 n0) 1 4 172 #[.val (.int p0), .val (.int p1), .val (.int p2), .val (.int (3 : Int32)), .val (.ref b1), .val (.long vv), .second, .unset] [(.int (1 : Int32))]
          refine own_st (fun _ k => XS.goto X13.here hx rfl (pc0 := 172) (pc' := 176) rfl (hb hby at_172) (by decide) (by decide) k) ?_
          show own_Go X13 (Q0 Z p0 p1 p2 h0 n0) 1 4 176 #[.val (.int p0), .val (.int p1), .val (.int p2), .val (.int (3 : Int32)), .val (.ref b1), .val (.long vv), .second, .unset] [(.int (1 : Int32))]
          refine own_st (fun _ k => XS.istore X13.here hx rfl (hb hby at_176) rfl (l' := #[.val (.int p0), .val (.int p1), .val (.int p2), .val (.int (3 : Int32)), .val (.ref b1), .val (.long vv), .second, .val (.int (1 : Int32))]) rfl k) ?_
          show own_Go X13 (Q0 Z p0 p1 p2 h0 n0) 1 4 178 #[.val (.int p0), .val (.int p1), .val (.int p2), .val (.int (3 : Int32)), .val (.ref b1), .val (.long vv), .second, .val (.int (1 : Int32))] []
          refine own_st (fun _ k => XS.aload X13.here hx rfl (hb hby at_178) rfl rfl k) ?_
          show own_Go X13 (Q0 Z p0 p1 p2 h0 n0) 1 4 180 #[.val (.int p0), .val (.int p1), .val (.int p2), .val (.int (3 : Int32)), .val (.ref b1), .val (.long vv), .second, .val (.int (1 : Int32))] [(.ref b1)]
          refine own_st (fun _ k => XS.iloadN X13.here hx rfl (hb hby at_180) rfl k) ?_
          show own_Go X13 (Q0 Z p0 p1 p2 h0 n0) 1 4 181 #[.val (.int p0), .val (.int p1), .val (.int p2), .val (.int (3 : Int32)), .val (.ref b1), .val (.long vv), .second, .val (.int (1 : Int32))] [(.int (3 : Int32)), (.ref b1)]
          refine own_st (fun _ k => XS.iloadN X13.here hx rfl (hb hby at_181) rfl k) ?_
          show own_Go X13 (Q0 Z p0 p1 p2 h0 n0) 1 4 182 #[.val (.int p0), .val (.int p1), .val (.int p2), .val (.int (3 : Int32)), .val (.ref b1), .val (.long vv), .second, .val (.int (1 : Int32))] [(.int p2), (.int (3 : Int32)), (.ref b1)]
          refine own_callS (W := 0) X13 hx hZ hown (hw _ (List.mem_of_getElem? (i := 1) rfl)) (hw _ (List.mem_of_getElem? (i := 2) rfl)) (hw _ (List.mem_of_getElem? (i := 3) rfl)) (hw _ (List.mem_of_getElem? (i := 4) rfl)) (by decide) (rm13 l Z a0 hw [] b1 p2 k1 y0 y1 y2 y3 h13 n0 Z_14 VR) (by decide) (by decide) (by rw [hml]; rfl) [(.ref b1), (.int (3 : Int32)), (.int p2)] [] (lenOf pd_0_0 rfl) rfl rfl (Nat.le_of_ble_eq_true rfl) (hb hby at_182) e13 (by decide) (by decide) ?_
          rintro _ T92 L92 X92 ⟨rfl, N92q, e92⟩
          have N_93 := Fr.app N_15 N92q
          show own_Go X92 (Q0 Z p0 p1 p2 h0 n0) 1 4 185 #[.val (.int p0), .val (.int p1), .val (.int p2), .val (.int (3 : Int32)), .val (.ref b1), .val (.long vv), .second, .val (.int (1 : Int32))] [(.int (own_fb3 y0 y1 y2 p2))]
          refine own_st (fun _ k => XS.iload X92.here hx rfl (hb hby at_185) rfl k) ?_
          show own_Go X92 (Q0 Z p0 p1 p2 h0 n0) 1 4 187 #[.val (.int p0), .val (.int p1), .val (.int p2), .val (.int (3 : Int32)), .val (.ref b1), .val (.long vv), .second, .val (.int (1 : Int32))] [(.int (1 : Int32)), (.int (own_fb3 y0 y1 y2 p2))]
          have c187_94 : (own_fb3 y0 y1 y2 p2) = (1 : Int32) := by rw [own_f3 z0 z1 z2 hU, if_pos ((own_mid hvU hU32 c130_89 c153_90).mpr c168_91)]
          refine own_st (fun _ k => XS.icmpNo X92.here hx rfl (hb hby at_187) rfl (teq c187_94).2 k) ?_
          show own_Go X92 (Q0 Z p0 p1 p2 h0 n0) 1 4 190 #[.val (.int p0), .val (.int p1), .val (.int p2), .val (.int (3 : Int32)), .val (.ref b1), .val (.long vv), .second, .val (.int (1 : Int32))] []
          refine own_st (fun _ k => XS.iconst X92.here hx rfl (hb hby at_190) k) ?_
          show own_Go X92 (Q0 Z p0 p1 p2 h0 n0) 1 4 191 #[.val (.int p0), .val (.int p1), .val (.int p2), .val (.int (3 : Int32)), .val (.ref b1), .val (.long vv), .second, .val (.int (1 : Int32))] [(.int (1 : Int32))]
          refine own_st (fun _ k => XS.goto X92.here hx rfl (pc0 := 191) (pc' := 195) rfl (hb hby at_191) (by decide) (by decide) k) ?_
          show own_Go X92 (Q0 Z p0 p1 p2 h0 n0) 1 4 195 #[.val (.int p0), .val (.int p1), .val (.int p2), .val (.int (3 : Int32)), .val (.ref b1), .val (.long vv), .second, .val (.int (1 : Int32))] [(.int (1 : Int32))]
          refine own_retN X92 hx Bd.returns (by simp) hlk e92 (hb hby at_195) (by decide) (by decide) ?_
          exact ⟨rfl, N_93⟩
        · skip
          refine own_st (fun _ k => XS.ifYes X13.here hx rfl (pc0 := 168) (pc' := 175) rfl (hb hby at_168) rfl ((if0 _ _).trans (feq (fun q => c168_91 ((lw_eq _ _).mp q))).2) (by decide) (by decide) k) ?_
          show own_Go X13 (Q0 Z p0 p1 p2 h0 n0) 1 4 175 #[.val (.int p0), .val (.int p1), .val (.int p2), .val (.int (3 : Int32)), .val (.ref b1), .val (.long vv), .second, .unset] []
          refine own_st (fun _ k => XS.iconst X13.here hx rfl (hb hby at_175) k) ?_
          show own_Go X13 (Q0 Z p0 p1 p2 h0 n0) 1 4 176 #[.val (.int p0), .val (.int p1), .val (.int p2), .val (.int (3 : Int32)), .val (.ref b1), .val (.long vv), .second, .unset] [(.int (0 : Int32))]
          refine own_st (fun _ k => XS.istore X13.here hx rfl (hb hby at_176) rfl (l' := #[.val (.int p0), .val (.int p1), .val (.int p2), .val (.int (3 : Int32)), .val (.ref b1), .val (.long vv), .second, .val (.int (0 : Int32))]) rfl k) ?_
          show own_Go X13 (Q0 Z p0 p1 p2 h0 n0) 1 4 178 #[.val (.int p0), .val (.int p1), .val (.int p2), .val (.int (3 : Int32)), .val (.ref b1), .val (.long vv), .second, .val (.int (0 : Int32))] []
          refine own_st (fun _ k => XS.aload X13.here hx rfl (hb hby at_178) rfl rfl k) ?_
          show own_Go X13 (Q0 Z p0 p1 p2 h0 n0) 1 4 180 #[.val (.int p0), .val (.int p1), .val (.int p2), .val (.int (3 : Int32)), .val (.ref b1), .val (.long vv), .second, .val (.int (0 : Int32))] [(.ref b1)]
          refine own_st (fun _ k => XS.iloadN X13.here hx rfl (hb hby at_180) rfl k) ?_
          show own_Go X13 (Q0 Z p0 p1 p2 h0 n0) 1 4 181 #[.val (.int p0), .val (.int p1), .val (.int p2), .val (.int (3 : Int32)), .val (.ref b1), .val (.long vv), .second, .val (.int (0 : Int32))] [(.int (3 : Int32)), (.ref b1)]
          refine own_st (fun _ k => XS.iloadN X13.here hx rfl (hb hby at_181) rfl k) ?_
          show own_Go X13 (Q0 Z p0 p1 p2 h0 n0) 1 4 182 #[.val (.int p0), .val (.int p1), .val (.int p2), .val (.int (3 : Int32)), .val (.ref b1), .val (.long vv), .second, .val (.int (0 : Int32))] [(.int p2), (.int (3 : Int32)), (.ref b1)]
          refine own_callS (W := 0) X13 hx hZ hown (hw _ (List.mem_of_getElem? (i := 1) rfl)) (hw _ (List.mem_of_getElem? (i := 2) rfl)) (hw _ (List.mem_of_getElem? (i := 3) rfl)) (hw _ (List.mem_of_getElem? (i := 4) rfl)) (by decide) (rm13 l Z a0 hw [] b1 p2 k1 y0 y1 y2 y3 h13 n0 Z_14 VR) (by decide) (by decide) (by rw [hml]; rfl) [(.ref b1), (.int (3 : Int32)), (.int p2)] [] (lenOf pd_0_0 rfl) rfl rfl (Nat.le_of_ble_eq_true rfl) (hb hby at_182) e13 (by decide) (by decide) ?_
          rintro _ T95 L95 X95 ⟨rfl, N95q, e95⟩
          have N_96 := Fr.app N_15 N95q
          show own_Go X95 (Q0 Z p0 p1 p2 h0 n0) 1 4 185 #[.val (.int p0), .val (.int p1), .val (.int p2), .val (.int (3 : Int32)), .val (.ref b1), .val (.long vv), .second, .val (.int (0 : Int32))] [(.int (own_fb3 y0 y1 y2 p2))]
          refine own_st (fun _ k => XS.iload X95.here hx rfl (hb hby at_185) rfl k) ?_
          show own_Go X95 (Q0 Z p0 p1 p2 h0 n0) 1 4 187 #[.val (.int p0), .val (.int p1), .val (.int p2), .val (.int (3 : Int32)), .val (.ref b1), .val (.long vv), .second, .val (.int (0 : Int32))] [(.int (0 : Int32)), (.int (own_fb3 y0 y1 y2 p2))]
          have c187_97 : (own_fb3 y0 y1 y2 p2) = (0 : Int32) := by rw [own_f3 z0 z1 z2 hU, if_neg (fun z => c168_91 ((own_mid hvU hU32 c130_89 c153_90).mp z))]
          refine own_st (fun _ k => XS.icmpNo X95.here hx rfl (hb hby at_187) rfl (teq c187_97).2 k) ?_
          show own_Go X95 (Q0 Z p0 p1 p2 h0 n0) 1 4 190 #[.val (.int p0), .val (.int p1), .val (.int p2), .val (.int (3 : Int32)), .val (.ref b1), .val (.long vv), .second, .val (.int (0 : Int32))] []
          refine own_st (fun _ k => XS.iconst X95.here hx rfl (hb hby at_190) k) ?_
          show own_Go X95 (Q0 Z p0 p1 p2 h0 n0) 1 4 191 #[.val (.int p0), .val (.int p1), .val (.int p2), .val (.int (3 : Int32)), .val (.ref b1), .val (.long vv), .second, .val (.int (0 : Int32))] [(.int (1 : Int32))]
          refine own_st (fun _ k => XS.goto X95.here hx rfl (pc0 := 191) (pc' := 195) rfl (hb hby at_191) (by decide) (by decide) k) ?_
          show own_Go X95 (Q0 Z p0 p1 p2 h0 n0) 1 4 195 #[.val (.int p0), .val (.int p1), .val (.int p2), .val (.int (3 : Int32)), .val (.ref b1), .val (.long vv), .second, .val (.int (0 : Int32))] [(.int (1 : Int32))]
          refine own_retN X95 hx Bd.returns (by simp) hlk e95 (hb hby at_195) (by decide) (by decide) ?_
          exact ⟨rfl, N_96⟩
      · skip
        refine own_st (fun _ k => XS.icmpNo X13.here hx rfl (hb hby at_153) rfl (flt c153_90).1 k) ?_
        show own_Go X13 (Q0 Z p0 p1 p2 h0 n0) 1 4 156 #[.val (.int p0), .val (.int p1), .val (.int p2), .val (.int (3 : Int32)), .val (.ref b1), .val (.long vv), .second, .unset] []
        refine own_st (fun _ k => XS.iconst X13.here hx rfl (hb hby at_156) k) ?_
        show own_Go X13 (Q0 Z p0 p1 p2 h0 n0) 1 4 157 #[.val (.int p0), .val (.int p1), .val (.int p2), .val (.int (3 : Int32)), .val (.ref b1), .val (.long vv), .second, .unset] [(.int (1 : Int32))]
        refine own_st (fun _ k => XS.istore X13.here hx rfl (hb hby at_157) rfl (l' := #[.val (.int p0), .val (.int p1), .val (.int p2), .val (.int (3 : Int32)), .val (.ref b1), .val (.long vv), .second, .val (.int (1 : Int32))]) rfl k) ?_
        show own_Go X13 (Q0 Z p0 p1 p2 h0 n0) 1 4 159 #[.val (.int p0), .val (.int p1), .val (.int p2), .val (.int (3 : Int32)), .val (.ref b1), .val (.long vv), .second, .val (.int (1 : Int32))] []
        refine own_st (fun _ k => XS.goto X13.here hx rfl (pc0 := 159) (pc' := 178) rfl (hb hby at_159) (by decide) (by decide) k) ?_
        show own_Go X13 (Q0 Z p0 p1 p2 h0 n0) 1 4 178 #[.val (.int p0), .val (.int p1), .val (.int p2), .val (.int (3 : Int32)), .val (.ref b1), .val (.long vv), .second, .val (.int (1 : Int32))] []
        refine own_st (fun _ k => XS.aload X13.here hx rfl (hb hby at_178) rfl rfl k) ?_
        show own_Go X13 (Q0 Z p0 p1 p2 h0 n0) 1 4 180 #[.val (.int p0), .val (.int p1), .val (.int p2), .val (.int (3 : Int32)), .val (.ref b1), .val (.long vv), .second, .val (.int (1 : Int32))] [(.ref b1)]
        refine own_st (fun _ k => XS.iloadN X13.here hx rfl (hb hby at_180) rfl k) ?_
        show own_Go X13 (Q0 Z p0 p1 p2 h0 n0) 1 4 181 #[.val (.int p0), .val (.int p1), .val (.int p2), .val (.int (3 : Int32)), .val (.ref b1), .val (.long vv), .second, .val (.int (1 : Int32))] [(.int (3 : Int32)), (.ref b1)]
        refine own_st (fun _ k => XS.iloadN X13.here hx rfl (hb hby at_181) rfl k) ?_
        show own_Go X13 (Q0 Z p0 p1 p2 h0 n0) 1 4 182 #[.val (.int p0), .val (.int p1), .val (.int p2), .val (.int (3 : Int32)), .val (.ref b1), .val (.long vv), .second, .val (.int (1 : Int32))] [(.int p2), (.int (3 : Int32)), (.ref b1)]
        refine own_callS (W := 0) X13 hx hZ hown (hw _ (List.mem_of_getElem? (i := 1) rfl)) (hw _ (List.mem_of_getElem? (i := 2) rfl)) (hw _ (List.mem_of_getElem? (i := 3) rfl)) (hw _ (List.mem_of_getElem? (i := 4) rfl)) (by decide) (rm13 l Z a0 hw [] b1 p2 k1 y0 y1 y2 y3 h13 n0 Z_14 VR) (by decide) (by decide) (by rw [hml]; rfl) [(.ref b1), (.int (3 : Int32)), (.int p2)] [] (lenOf pd_0_0 rfl) rfl rfl (Nat.le_of_ble_eq_true rfl) (hb hby at_182) e13 (by decide) (by decide) ?_
        rintro _ T98 L98 X98 ⟨rfl, N98q, e98⟩
        have N_99 := Fr.app N_15 N98q
        show own_Go X98 (Q0 Z p0 p1 p2 h0 n0) 1 4 185 #[.val (.int p0), .val (.int p1), .val (.int p2), .val (.int (3 : Int32)), .val (.ref b1), .val (.long vv), .second, .val (.int (1 : Int32))] [(.int (own_fb3 y0 y1 y2 p2))]
        refine own_st (fun _ k => XS.iload X98.here hx rfl (hb hby at_185) rfl k) ?_
        show own_Go X98 (Q0 Z p0 p1 p2 h0 n0) 1 4 187 #[.val (.int p0), .val (.int p1), .val (.int p2), .val (.int (3 : Int32)), .val (.ref b1), .val (.long vv), .second, .val (.int (1 : Int32))] [(.int (1 : Int32)), (.int (own_fb3 y0 y1 y2 p2))]
        have c187_100 : (own_fb3 y0 y1 y2 p2) = (1 : Int32) := by rw [own_f3 z0 z1 z2 hU, if_pos (own_ge40 hU32 c153_90)]
        refine own_st (fun _ k => XS.icmpNo X98.here hx rfl (hb hby at_187) rfl (teq c187_100).2 k) ?_
        show own_Go X98 (Q0 Z p0 p1 p2 h0 n0) 1 4 190 #[.val (.int p0), .val (.int p1), .val (.int p2), .val (.int (3 : Int32)), .val (.ref b1), .val (.long vv), .second, .val (.int (1 : Int32))] []
        refine own_st (fun _ k => XS.iconst X98.here hx rfl (hb hby at_190) k) ?_
        show own_Go X98 (Q0 Z p0 p1 p2 h0 n0) 1 4 191 #[.val (.int p0), .val (.int p1), .val (.int p2), .val (.int (3 : Int32)), .val (.ref b1), .val (.long vv), .second, .val (.int (1 : Int32))] [(.int (1 : Int32))]
        refine own_st (fun _ k => XS.goto X98.here hx rfl (pc0 := 191) (pc' := 195) rfl (hb hby at_191) (by decide) (by decide) k) ?_
        show own_Go X98 (Q0 Z p0 p1 p2 h0 n0) 1 4 195 #[.val (.int p0), .val (.int p1), .val (.int p2), .val (.int (3 : Int32)), .val (.ref b1), .val (.long vv), .second, .val (.int (1 : Int32))] [(.int (1 : Int32))]
        refine own_retN X98 hx Bd.returns (by simp) hlk e98 (hb hby at_195) (by decide) (by decide) ?_
        exact ⟨rfl, N_99⟩
    · skip
      refine own_st (fun _ k => XS.ifNo X13.here hx rfl (hb hby at_130) rfl ((if0 _ _).trans (flt c130_89).2.2.1) k) ?_
      show own_Go X13 (Q0 Z p0 p1 p2 h0 n0) 1 4 133 #[.val (.int p0), .val (.int p1), .val (.int p2), .val (.int (3 : Int32)), .val (.ref b1), .val (.long vv), .second, .unset] []
      refine own_st (fun _ k => XS.lload X13.here hx rfl (hb hby at_133) rfl k) ?_
      show own_Go X13 (Q0 Z p0 p1 p2 h0 n0) 1 4 135 #[.val (.int p0), .val (.int p1), .val (.int p2), .val (.int (3 : Int32)), .val (.ref b1), .val (.long vv), .second, .unset] [(.long vv)]
      refine own_st (fun _ k => XS.lconst X13.here hx rfl (hb hby at_135) k) ?_
      show own_Go X13 (Q0 Z p0 p1 p2 h0 n0) 1 4 136 #[.val (.int p0), .val (.int p1), .val (.int p2), .val (.int (3 : Int32)), .val (.ref b1), .val (.long vv), .second, .unset] [(.long (0 : Int64)), (.long vv)]
      refine own_st (fun _ k => XS.lcmp X13.here hx rfl (hb hby at_136) rfl k) ?_
      show own_Go X13 (Q0 Z p0 p1 p2 h0 n0) 1 4 137 #[.val (.int p0), .val (.int p1), .val (.int p2), .val (.int (3 : Int32)), .val (.ref b1), .val (.long vv), .second, .unset] [(.int (lcmpW vv (0 : Int64)))]
      by_cases c137_101 : vv = (0 : Int64)
      · skip
        refine own_st (fun _ k => XS.ifNo X13.here hx rfl (hb hby at_137) rfl ((if0 _ _).trans (teq ((lw_eq _ _).mpr c137_101)).2) k) ?_
        show own_Go X13 (Q0 Z p0 p1 p2 h0 n0) 1 4 140 #[.val (.int p0), .val (.int p1), .val (.int p2), .val (.int (3 : Int32)), .val (.ref b1), .val (.long vv), .second, .unset] []
        refine own_st (fun _ k => XS.iconst X13.here hx rfl (hb hby at_140) k) ?_
        show own_Go X13 (Q0 Z p0 p1 p2 h0 n0) 1 4 141 #[.val (.int p0), .val (.int p1), .val (.int p2), .val (.int (3 : Int32)), .val (.ref b1), .val (.long vv), .second, .unset] [(.int (1 : Int32))]
        refine own_st (fun _ k => XS.goto X13.here hx rfl (pc0 := 141) (pc' := 145) rfl (hb hby at_141) (by decide) (by decide) k) ?_
        show own_Go X13 (Q0 Z p0 p1 p2 h0 n0) 1 4 145 #[.val (.int p0), .val (.int p1), .val (.int p2), .val (.int (3 : Int32)), .val (.ref b1), .val (.long vv), .second, .unset] [(.int (1 : Int32))]
        refine own_st (fun _ k => XS.istore X13.here hx rfl (hb hby at_145) rfl (l' := #[.val (.int p0), .val (.int p1), .val (.int p2), .val (.int (3 : Int32)), .val (.ref b1), .val (.long vv), .second, .val (.int (1 : Int32))]) rfl k) ?_
        show own_Go X13 (Q0 Z p0 p1 p2 h0 n0) 1 4 147 #[.val (.int p0), .val (.int p1), .val (.int p2), .val (.int (3 : Int32)), .val (.ref b1), .val (.long vv), .second, .val (.int (1 : Int32))] []
        refine own_st (fun _ k => XS.goto X13.here hx rfl (pc0 := 147) (pc' := 178) rfl (hb hby at_147) (by decide) (by decide) k) ?_
        show own_Go X13 (Q0 Z p0 p1 p2 h0 n0) 1 4 178 #[.val (.int p0), .val (.int p1), .val (.int p2), .val (.int (3 : Int32)), .val (.ref b1), .val (.long vv), .second, .val (.int (1 : Int32))] []
        refine own_st (fun _ k => XS.aload X13.here hx rfl (hb hby at_178) rfl rfl k) ?_
        show own_Go X13 (Q0 Z p0 p1 p2 h0 n0) 1 4 180 #[.val (.int p0), .val (.int p1), .val (.int p2), .val (.int (3 : Int32)), .val (.ref b1), .val (.long vv), .second, .val (.int (1 : Int32))] [(.ref b1)]
        refine own_st (fun _ k => XS.iloadN X13.here hx rfl (hb hby at_180) rfl k) ?_
        show own_Go X13 (Q0 Z p0 p1 p2 h0 n0) 1 4 181 #[.val (.int p0), .val (.int p1), .val (.int p2), .val (.int (3 : Int32)), .val (.ref b1), .val (.long vv), .second, .val (.int (1 : Int32))] [(.int (3 : Int32)), (.ref b1)]
        refine own_st (fun _ k => XS.iloadN X13.here hx rfl (hb hby at_181) rfl k) ?_
        show own_Go X13 (Q0 Z p0 p1 p2 h0 n0) 1 4 182 #[.val (.int p0), .val (.int p1), .val (.int p2), .val (.int (3 : Int32)), .val (.ref b1), .val (.long vv), .second, .val (.int (1 : Int32))] [(.int p2), (.int (3 : Int32)), (.ref b1)]
        refine own_callS (W := 0) X13 hx hZ hown (hw _ (List.mem_of_getElem? (i := 1) rfl)) (hw _ (List.mem_of_getElem? (i := 2) rfl)) (hw _ (List.mem_of_getElem? (i := 3) rfl)) (hw _ (List.mem_of_getElem? (i := 4) rfl)) (by decide) (rm13 l Z a0 hw [] b1 p2 k1 y0 y1 y2 y3 h13 n0 Z_14 VR) (by decide) (by decide) (by rw [hml]; rfl) [(.ref b1), (.int (3 : Int32)), (.int p2)] [] (lenOf pd_0_0 rfl) rfl rfl (Nat.le_of_ble_eq_true rfl) (hb hby at_182) e13 (by decide) (by decide) ?_
        rintro _ T102 L102 X102 ⟨rfl, N102q, e102⟩
        have N_103 := Fr.app N_15 N102q
        show own_Go X102 (Q0 Z p0 p1 p2 h0 n0) 1 4 185 #[.val (.int p0), .val (.int p1), .val (.int p2), .val (.int (3 : Int32)), .val (.ref b1), .val (.long vv), .second, .val (.int (1 : Int32))] [(.int (own_fb3 y0 y1 y2 p2))]
        refine own_st (fun _ k => XS.iload X102.here hx rfl (hb hby at_185) rfl k) ?_
        show own_Go X102 (Q0 Z p0 p1 p2 h0 n0) 1 4 187 #[.val (.int p0), .val (.int p1), .val (.int p2), .val (.int (3 : Int32)), .val (.ref b1), .val (.long vv), .second, .val (.int (1 : Int32))] [(.int (1 : Int32)), (.int (own_fb3 y0 y1 y2 p2))]
        have c187_104 : (own_fb3 y0 y1 y2 p2) = (1 : Int32) := by rw [own_f3 z0 z1 z2 hU, if_pos ((own_le0 hvU c130_89).mpr c137_101)]
        refine own_st (fun _ k => XS.icmpNo X102.here hx rfl (hb hby at_187) rfl (teq c187_104).2 k) ?_
        show own_Go X102 (Q0 Z p0 p1 p2 h0 n0) 1 4 190 #[.val (.int p0), .val (.int p1), .val (.int p2), .val (.int (3 : Int32)), .val (.ref b1), .val (.long vv), .second, .val (.int (1 : Int32))] []
        refine own_st (fun _ k => XS.iconst X102.here hx rfl (hb hby at_190) k) ?_
        show own_Go X102 (Q0 Z p0 p1 p2 h0 n0) 1 4 191 #[.val (.int p0), .val (.int p1), .val (.int p2), .val (.int (3 : Int32)), .val (.ref b1), .val (.long vv), .second, .val (.int (1 : Int32))] [(.int (1 : Int32))]
        refine own_st (fun _ k => XS.goto X102.here hx rfl (pc0 := 191) (pc' := 195) rfl (hb hby at_191) (by decide) (by decide) k) ?_
        show own_Go X102 (Q0 Z p0 p1 p2 h0 n0) 1 4 195 #[.val (.int p0), .val (.int p1), .val (.int p2), .val (.int (3 : Int32)), .val (.ref b1), .val (.long vv), .second, .val (.int (1 : Int32))] [(.int (1 : Int32))]
        refine own_retN X102 hx Bd.returns (by simp) hlk e102 (hb hby at_195) (by decide) (by decide) ?_
        exact ⟨rfl, N_103⟩
      · skip
        refine own_st (fun _ k => XS.ifYes X13.here hx rfl (pc0 := 137) (pc' := 144) rfl (hb hby at_137) rfl ((if0 _ _).trans (feq (fun q => c137_101 ((lw_eq _ _).mp q))).2) (by decide) (by decide) k) ?_
        show own_Go X13 (Q0 Z p0 p1 p2 h0 n0) 1 4 144 #[.val (.int p0), .val (.int p1), .val (.int p2), .val (.int (3 : Int32)), .val (.ref b1), .val (.long vv), .second, .unset] []
        refine own_st (fun _ k => XS.iconst X13.here hx rfl (hb hby at_144) k) ?_
        show own_Go X13 (Q0 Z p0 p1 p2 h0 n0) 1 4 145 #[.val (.int p0), .val (.int p1), .val (.int p2), .val (.int (3 : Int32)), .val (.ref b1), .val (.long vv), .second, .unset] [(.int (0 : Int32))]
        refine own_st (fun _ k => XS.istore X13.here hx rfl (hb hby at_145) rfl (l' := #[.val (.int p0), .val (.int p1), .val (.int p2), .val (.int (3 : Int32)), .val (.ref b1), .val (.long vv), .second, .val (.int (0 : Int32))]) rfl k) ?_
        show own_Go X13 (Q0 Z p0 p1 p2 h0 n0) 1 4 147 #[.val (.int p0), .val (.int p1), .val (.int p2), .val (.int (3 : Int32)), .val (.ref b1), .val (.long vv), .second, .val (.int (0 : Int32))] []
        refine own_st (fun _ k => XS.goto X13.here hx rfl (pc0 := 147) (pc' := 178) rfl (hb hby at_147) (by decide) (by decide) k) ?_
        show own_Go X13 (Q0 Z p0 p1 p2 h0 n0) 1 4 178 #[.val (.int p0), .val (.int p1), .val (.int p2), .val (.int (3 : Int32)), .val (.ref b1), .val (.long vv), .second, .val (.int (0 : Int32))] []
        refine own_st (fun _ k => XS.aload X13.here hx rfl (hb hby at_178) rfl rfl k) ?_
        show own_Go X13 (Q0 Z p0 p1 p2 h0 n0) 1 4 180 #[.val (.int p0), .val (.int p1), .val (.int p2), .val (.int (3 : Int32)), .val (.ref b1), .val (.long vv), .second, .val (.int (0 : Int32))] [(.ref b1)]
        refine own_st (fun _ k => XS.iloadN X13.here hx rfl (hb hby at_180) rfl k) ?_
        show own_Go X13 (Q0 Z p0 p1 p2 h0 n0) 1 4 181 #[.val (.int p0), .val (.int p1), .val (.int p2), .val (.int (3 : Int32)), .val (.ref b1), .val (.long vv), .second, .val (.int (0 : Int32))] [(.int (3 : Int32)), (.ref b1)]
        refine own_st (fun _ k => XS.iloadN X13.here hx rfl (hb hby at_181) rfl k) ?_
        show own_Go X13 (Q0 Z p0 p1 p2 h0 n0) 1 4 182 #[.val (.int p0), .val (.int p1), .val (.int p2), .val (.int (3 : Int32)), .val (.ref b1), .val (.long vv), .second, .val (.int (0 : Int32))] [(.int p2), (.int (3 : Int32)), (.ref b1)]
        refine own_callS (W := 0) X13 hx hZ hown (hw _ (List.mem_of_getElem? (i := 1) rfl)) (hw _ (List.mem_of_getElem? (i := 2) rfl)) (hw _ (List.mem_of_getElem? (i := 3) rfl)) (hw _ (List.mem_of_getElem? (i := 4) rfl)) (by decide) (rm13 l Z a0 hw [] b1 p2 k1 y0 y1 y2 y3 h13 n0 Z_14 VR) (by decide) (by decide) (by rw [hml]; rfl) [(.ref b1), (.int (3 : Int32)), (.int p2)] [] (lenOf pd_0_0 rfl) rfl rfl (Nat.le_of_ble_eq_true rfl) (hb hby at_182) e13 (by decide) (by decide) ?_
        rintro _ T105 L105 X105 ⟨rfl, N105q, e105⟩
        have N_106 := Fr.app N_15 N105q
        show own_Go X105 (Q0 Z p0 p1 p2 h0 n0) 1 4 185 #[.val (.int p0), .val (.int p1), .val (.int p2), .val (.int (3 : Int32)), .val (.ref b1), .val (.long vv), .second, .val (.int (0 : Int32))] [(.int (own_fb3 y0 y1 y2 p2))]
        refine own_st (fun _ k => XS.iload X105.here hx rfl (hb hby at_185) rfl k) ?_
        show own_Go X105 (Q0 Z p0 p1 p2 h0 n0) 1 4 187 #[.val (.int p0), .val (.int p1), .val (.int p2), .val (.int (3 : Int32)), .val (.ref b1), .val (.long vv), .second, .val (.int (0 : Int32))] [(.int (0 : Int32)), (.int (own_fb3 y0 y1 y2 p2))]
        have c187_107 : (own_fb3 y0 y1 y2 p2) = (0 : Int32) := by rw [own_f3 z0 z1 z2 hU, if_neg (fun z => c137_101 ((own_le0 hvU c130_89).mp z))]
        refine own_st (fun _ k => XS.icmpNo X105.here hx rfl (hb hby at_187) rfl (teq c187_107).2 k) ?_
        show own_Go X105 (Q0 Z p0 p1 p2 h0 n0) 1 4 190 #[.val (.int p0), .val (.int p1), .val (.int p2), .val (.int (3 : Int32)), .val (.ref b1), .val (.long vv), .second, .val (.int (0 : Int32))] []
        refine own_st (fun _ k => XS.iconst X105.here hx rfl (hb hby at_190) k) ?_
        show own_Go X105 (Q0 Z p0 p1 p2 h0 n0) 1 4 191 #[.val (.int p0), .val (.int p1), .val (.int p2), .val (.int (3 : Int32)), .val (.ref b1), .val (.long vv), .second, .val (.int (0 : Int32))] [(.int (1 : Int32))]
        refine own_st (fun _ k => XS.goto X105.here hx rfl (pc0 := 191) (pc' := 195) rfl (hb hby at_191) (by decide) (by decide) k) ?_
        show own_Go X105 (Q0 Z p0 p1 p2 h0 n0) 1 4 195 #[.val (.int p0), .val (.int p1), .val (.int p2), .val (.int (3 : Int32)), .val (.ref b1), .val (.long vv), .second, .val (.int (0 : Int32))] [(.int (1 : Int32))]
        refine own_retN X105 hx Bd.returns (by simp) hlk e105 (hb hby at_195) (by decide) (by decide) ?_
        exact ⟨rfl, N_106⟩
  · skip
    show own_Go X13 (Q0 Z p0 p1 p2 h0 n0) 1 4 48 #[.val (.int p0), .val (.int p1), .val (.int p2), .val (.int (4 : Int32)), .val (.ref b1), .val (.long (0 : Int64)), .second, .unset] []
    refine own_st (fun _ k => XS.iloadN X13.here hx rfl (hb hby at_48) rfl k) ?_
    show own_Go X13 (Q0 Z p0 p1 p2 h0 n0) 1 4 49 #[.val (.int p0), .val (.int p1), .val (.int p2), .val (.int (4 : Int32)), .val (.ref b1), .val (.long (0 : Int64)), .second, .unset] [(.int (4 : Int32))]
    have c49_108 : (0 : Int32) < (4 : Int32) := (by decide)
    refine own_st (fun _ k => XS.ifNo X13.here hx rfl (hb hby at_49) rfl ((if0 _ _).trans (tlt c49_108).2.2.2) k) ?_
    show own_Go X13 (Q0 Z p0 p1 p2 h0 n0) 1 4 52 #[.val (.int p0), .val (.int p1), .val (.int p2), .val (.int (4 : Int32)), .val (.ref b1), .val (.long (0 : Int64)), .second, .unset] []
    refine own_st (fun _ k => XS.aload X13.here hx rfl (hb hby at_52) rfl rfl k) ?_
    show own_Go X13 (Q0 Z p0 p1 p2 h0 n0) 1 4 54 #[.val (.int p0), .val (.int p1), .val (.int p2), .val (.int (4 : Int32)), .val (.ref b1), .val (.long (0 : Int64)), .second, .unset] [(.ref b1)]
    refine own_st (fun _ k => XS.iconst X13.here hx rfl (hb hby at_54) k) ?_
    show own_Go X13 (Q0 Z p0 p1 p2 h0 n0) 1 4 55 #[.val (.int p0), .val (.int p1), .val (.int p2), .val (.int (4 : Int32)), .val (.ref b1), .val (.long (0 : Int64)), .second, .unset] [(.int (0 : Int32)), (.ref b1)]
    refine own_st (fun _ k => own_ldB X13 hx hZ e13 VR (j := (0 : Int32)) ⟨by decide, by decide⟩ (v := (.int y0)) rfl (g := (mkF m 55 #[.val (.int p0), .val (.int p1), .val (.int p2), .val (.int (4 : Int32)), .val (.ref b1), .val (.long (0 : Int64)), .second, .unset] [(.int (0 : Int32)), (.ref b1)])) rfl rfl (hb hby at_55) _ k) ?_
    show own_Go X13 (Q0 Z p0 p1 p2 h0 n0) 1 4 56 #[.val (.int p0), .val (.int p1), .val (.int p2), .val (.int (4 : Int32)), .val (.ref b1), .val (.long (0 : Int64)), .second, .unset] [(.int y0)]
    refine own_st (fun _ k => XS.sipush X13.here hx rfl (hb hby at_56) k) ?_
    show own_Go X13 (Q0 Z p0 p1 p2 h0 n0) 1 4 59 #[.val (.int p0), .val (.int p1), .val (.int p2), .val (.int (4 : Int32)), .val (.ref b1), .val (.long (0 : Int64)), .second, .unset] [(.int (255 : Int32)), (.int y0)]
    refine own_st (fun _ k => XS.iand X13.here hx rfl (hb hby at_59) rfl k) ?_
    show own_Go X13 (Q0 Z p0 p1 p2 h0 n0) 1 4 60 #[.val (.int p0), .val (.int p1), .val (.int p2), .val (.int (4 : Int32)), .val (.ref b1), .val (.long (0 : Int64)), .second, .unset] [(.int (y0 &&& (255 : Int32)))]
    refine own_st (fun _ k => XS.i2l X13.here hx rfl (hb hby at_60) rfl k) ?_
    show own_Go X13 (Q0 Z p0 p1 p2 h0 n0) 1 4 61 #[.val (.int p0), .val (.int p1), .val (.int p2), .val (.int (4 : Int32)), .val (.ref b1), .val (.long (0 : Int64)), .second, .unset] [(.long ((y0 &&& (255 : Int32)).toInt64))]
    refine own_st (fun _ k => XS.lstore X13.here hx rfl (hb hby at_61) rfl (l' := #[.val (.int p0), .val (.int p1), .val (.int p2), .val (.int (4 : Int32)), .val (.ref b1), .val (.long ((y0 &&& (255 : Int32)).toInt64)), .second, .unset]) rfl k) ?_
    show own_Go X13 (Q0 Z p0 p1 p2 h0 n0) 1 4 63 #[.val (.int p0), .val (.int p1), .val (.int p2), .val (.int (4 : Int32)), .val (.ref b1), .val (.long ((y0 &&& (255 : Int32)).toInt64)), .second, .unset] []
    refine own_st (fun _ k => XS.iloadN X13.here hx rfl (hb hby at_63) rfl k) ?_
    show own_Go X13 (Q0 Z p0 p1 p2 h0 n0) 1 4 64 #[.val (.int p0), .val (.int p1), .val (.int p2), .val (.int (4 : Int32)), .val (.ref b1), .val (.long ((y0 &&& (255 : Int32)).toInt64)), .second, .unset] [(.int (4 : Int32))]
    refine own_st (fun _ k => XS.iconst X13.here hx rfl (hb hby at_64) k) ?_
    show own_Go X13 (Q0 Z p0 p1 p2 h0 n0) 1 4 65 #[.val (.int p0), .val (.int p1), .val (.int p2), .val (.int (4 : Int32)), .val (.ref b1), .val (.long ((y0 &&& (255 : Int32)).toInt64)), .second, .unset] [(.int (1 : Int32)), (.int (4 : Int32))]
    have c65_109 : (1 : Int32) < (4 : Int32) := (by decide)
    refine own_st (fun _ k => XS.icmpNo X13.here hx rfl (hb hby at_65) rfl (tlt c65_109).2.2.2 k) ?_
    show own_Go X13 (Q0 Z p0 p1 p2 h0 n0) 1 4 68 #[.val (.int p0), .val (.int p1), .val (.int p2), .val (.int (4 : Int32)), .val (.ref b1), .val (.long ((y0 &&& (255 : Int32)).toInt64)), .second, .unset] []
    refine own_st (fun _ k => XS.lload X13.here hx rfl (hb hby at_68) rfl k) ?_
    show own_Go X13 (Q0 Z p0 p1 p2 h0 n0) 1 4 70 #[.val (.int p0), .val (.int p1), .val (.int p2), .val (.int (4 : Int32)), .val (.ref b1), .val (.long ((y0 &&& (255 : Int32)).toInt64)), .second, .unset] [(.long ((y0 &&& (255 : Int32)).toInt64))]
    refine own_st (fun _ k => XS.bipush X13.here hx rfl (hb hby at_70) k) ?_
    show own_Go X13 (Q0 Z p0 p1 p2 h0 n0) 1 4 72 #[.val (.int p0), .val (.int p1), .val (.int p2), .val (.int (4 : Int32)), .val (.ref b1), .val (.long ((y0 &&& (255 : Int32)).toInt64)), .second, .unset] [(.int (8 : Int32)), (.long ((y0 &&& (255 : Int32)).toInt64))]
    refine own_st (fun _ k => XS.lshl X13.here hx rfl (hb hby at_72) rfl k) ?_
    show own_Go X13 (Q0 Z p0 p1 p2 h0 n0) 1 4 73 #[.val (.int p0), .val (.int p1), .val (.int p2), .val (.int (4 : Int32)), .val (.ref b1), .val (.long ((y0 &&& (255 : Int32)).toInt64)), .second, .unset] [(.long (((y0 &&& (255 : Int32)).toInt64) <<< ((8 : Int32) &&& 0x3f).toInt64))]
    refine own_st (fun _ k => XS.aload X13.here hx rfl (hb hby at_73) rfl rfl k) ?_
    show own_Go X13 (Q0 Z p0 p1 p2 h0 n0) 1 4 75 #[.val (.int p0), .val (.int p1), .val (.int p2), .val (.int (4 : Int32)), .val (.ref b1), .val (.long ((y0 &&& (255 : Int32)).toInt64)), .second, .unset] [(.ref b1), (.long (((y0 &&& (255 : Int32)).toInt64) <<< ((8 : Int32) &&& 0x3f).toInt64))]
    refine own_st (fun _ k => XS.iconst X13.here hx rfl (hb hby at_75) k) ?_
    show own_Go X13 (Q0 Z p0 p1 p2 h0 n0) 1 4 76 #[.val (.int p0), .val (.int p1), .val (.int p2), .val (.int (4 : Int32)), .val (.ref b1), .val (.long ((y0 &&& (255 : Int32)).toInt64)), .second, .unset] [(.int (1 : Int32)), (.ref b1), (.long (((y0 &&& (255 : Int32)).toInt64) <<< ((8 : Int32) &&& 0x3f).toInt64))]
    refine own_st (fun _ k => own_ldB X13 hx hZ e13 VR (j := (1 : Int32)) ⟨by decide, by decide⟩ (v := (.int y1)) rfl (g := (mkF m 76 #[.val (.int p0), .val (.int p1), .val (.int p2), .val (.int (4 : Int32)), .val (.ref b1), .val (.long ((y0 &&& (255 : Int32)).toInt64)), .second, .unset] [(.int (1 : Int32)), (.ref b1), (.long (((y0 &&& (255 : Int32)).toInt64) <<< ((8 : Int32) &&& 0x3f).toInt64))])) rfl rfl (hb hby at_76) _ k) ?_
    show own_Go X13 (Q0 Z p0 p1 p2 h0 n0) 1 4 77 #[.val (.int p0), .val (.int p1), .val (.int p2), .val (.int (4 : Int32)), .val (.ref b1), .val (.long ((y0 &&& (255 : Int32)).toInt64)), .second, .unset] [(.int y1), (.long (((y0 &&& (255 : Int32)).toInt64) <<< ((8 : Int32) &&& 0x3f).toInt64))]
    refine own_st (fun _ k => XS.sipush X13.here hx rfl (hb hby at_77) k) ?_
    show own_Go X13 (Q0 Z p0 p1 p2 h0 n0) 1 4 80 #[.val (.int p0), .val (.int p1), .val (.int p2), .val (.int (4 : Int32)), .val (.ref b1), .val (.long ((y0 &&& (255 : Int32)).toInt64)), .second, .unset] [(.int (255 : Int32)), (.int y1), (.long (((y0 &&& (255 : Int32)).toInt64) <<< ((8 : Int32) &&& 0x3f).toInt64))]
    refine own_st (fun _ k => XS.iand X13.here hx rfl (hb hby at_80) rfl k) ?_
    show own_Go X13 (Q0 Z p0 p1 p2 h0 n0) 1 4 81 #[.val (.int p0), .val (.int p1), .val (.int p2), .val (.int (4 : Int32)), .val (.ref b1), .val (.long ((y0 &&& (255 : Int32)).toInt64)), .second, .unset] [(.int (y1 &&& (255 : Int32))), (.long (((y0 &&& (255 : Int32)).toInt64) <<< ((8 : Int32) &&& 0x3f).toInt64))]
    refine own_st (fun _ k => XS.i2l X13.here hx rfl (hb hby at_81) rfl k) ?_
    show own_Go X13 (Q0 Z p0 p1 p2 h0 n0) 1 4 82 #[.val (.int p0), .val (.int p1), .val (.int p2), .val (.int (4 : Int32)), .val (.ref b1), .val (.long ((y0 &&& (255 : Int32)).toInt64)), .second, .unset] [(.long ((y1 &&& (255 : Int32)).toInt64)), (.long (((y0 &&& (255 : Int32)).toInt64) <<< ((8 : Int32) &&& 0x3f).toInt64))]
    refine own_st (fun _ k => XS.lor X13.here hx rfl (hb hby at_82) rfl k) ?_
    show own_Go X13 (Q0 Z p0 p1 p2 h0 n0) 1 4 83 #[.val (.int p0), .val (.int p1), .val (.int p2), .val (.int (4 : Int32)), .val (.ref b1), .val (.long ((y0 &&& (255 : Int32)).toInt64)), .second, .unset] [(.long ((((y0 &&& (255 : Int32)).toInt64) <<< ((8 : Int32) &&& 0x3f).toInt64) ||| ((y1 &&& (255 : Int32)).toInt64)))]
    refine own_st (fun _ k => XS.lstore X13.here hx rfl (hb hby at_83) rfl (l' := #[.val (.int p0), .val (.int p1), .val (.int p2), .val (.int (4 : Int32)), .val (.ref b1), .val (.long ((((y0 &&& (255 : Int32)).toInt64) <<< ((8 : Int32) &&& 0x3f).toInt64) ||| ((y1 &&& (255 : Int32)).toInt64))), .second, .unset]) rfl k) ?_
    show own_Go X13 (Q0 Z p0 p1 p2 h0 n0) 1 4 85 #[.val (.int p0), .val (.int p1), .val (.int p2), .val (.int (4 : Int32)), .val (.ref b1), .val (.long ((((y0 &&& (255 : Int32)).toInt64) <<< ((8 : Int32) &&& 0x3f).toInt64) ||| ((y1 &&& (255 : Int32)).toInt64))), .second, .unset] []
    refine own_st (fun _ k => XS.iloadN X13.here hx rfl (hb hby at_85) rfl k) ?_
    show own_Go X13 (Q0 Z p0 p1 p2 h0 n0) 1 4 86 #[.val (.int p0), .val (.int p1), .val (.int p2), .val (.int (4 : Int32)), .val (.ref b1), .val (.long ((((y0 &&& (255 : Int32)).toInt64) <<< ((8 : Int32) &&& 0x3f).toInt64) ||| ((y1 &&& (255 : Int32)).toInt64))), .second, .unset] [(.int (4 : Int32))]
    refine own_st (fun _ k => XS.iconst X13.here hx rfl (hb hby at_86) k) ?_
    show own_Go X13 (Q0 Z p0 p1 p2 h0 n0) 1 4 87 #[.val (.int p0), .val (.int p1), .val (.int p2), .val (.int (4 : Int32)), .val (.ref b1), .val (.long ((((y0 &&& (255 : Int32)).toInt64) <<< ((8 : Int32) &&& 0x3f).toInt64) ||| ((y1 &&& (255 : Int32)).toInt64))), .second, .unset] [(.int (2 : Int32)), (.int (4 : Int32))]
    have c87_110 : (2 : Int32) < (4 : Int32) := (by decide)
    refine own_st (fun _ k => XS.icmpNo X13.here hx rfl (hb hby at_87) rfl (tlt c87_110).2.2.2 k) ?_
    show own_Go X13 (Q0 Z p0 p1 p2 h0 n0) 1 4 90 #[.val (.int p0), .val (.int p1), .val (.int p2), .val (.int (4 : Int32)), .val (.ref b1), .val (.long ((((y0 &&& (255 : Int32)).toInt64) <<< ((8 : Int32) &&& 0x3f).toInt64) ||| ((y1 &&& (255 : Int32)).toInt64))), .second, .unset] []
    refine own_st (fun _ k => XS.lload X13.here hx rfl (hb hby at_90) rfl k) ?_
    show own_Go X13 (Q0 Z p0 p1 p2 h0 n0) 1 4 92 #[.val (.int p0), .val (.int p1), .val (.int p2), .val (.int (4 : Int32)), .val (.ref b1), .val (.long ((((y0 &&& (255 : Int32)).toInt64) <<< ((8 : Int32) &&& 0x3f).toInt64) ||| ((y1 &&& (255 : Int32)).toInt64))), .second, .unset] [(.long ((((y0 &&& (255 : Int32)).toInt64) <<< ((8 : Int32) &&& 0x3f).toInt64) ||| ((y1 &&& (255 : Int32)).toInt64)))]
    refine own_st (fun _ k => XS.bipush X13.here hx rfl (hb hby at_92) k) ?_
    show own_Go X13 (Q0 Z p0 p1 p2 h0 n0) 1 4 94 #[.val (.int p0), .val (.int p1), .val (.int p2), .val (.int (4 : Int32)), .val (.ref b1), .val (.long ((((y0 &&& (255 : Int32)).toInt64) <<< ((8 : Int32) &&& 0x3f).toInt64) ||| ((y1 &&& (255 : Int32)).toInt64))), .second, .unset] [(.int (8 : Int32)), (.long ((((y0 &&& (255 : Int32)).toInt64) <<< ((8 : Int32) &&& 0x3f).toInt64) ||| ((y1 &&& (255 : Int32)).toInt64)))]
    refine own_st (fun _ k => XS.lshl X13.here hx rfl (hb hby at_94) rfl k) ?_
    show own_Go X13 (Q0 Z p0 p1 p2 h0 n0) 1 4 95 #[.val (.int p0), .val (.int p1), .val (.int p2), .val (.int (4 : Int32)), .val (.ref b1), .val (.long ((((y0 &&& (255 : Int32)).toInt64) <<< ((8 : Int32) &&& 0x3f).toInt64) ||| ((y1 &&& (255 : Int32)).toInt64))), .second, .unset] [(.long (((((y0 &&& (255 : Int32)).toInt64) <<< ((8 : Int32) &&& 0x3f).toInt64) ||| ((y1 &&& (255 : Int32)).toInt64)) <<< ((8 : Int32) &&& 0x3f).toInt64))]
    refine own_st (fun _ k => XS.aload X13.here hx rfl (hb hby at_95) rfl rfl k) ?_
    show own_Go X13 (Q0 Z p0 p1 p2 h0 n0) 1 4 97 #[.val (.int p0), .val (.int p1), .val (.int p2), .val (.int (4 : Int32)), .val (.ref b1), .val (.long ((((y0 &&& (255 : Int32)).toInt64) <<< ((8 : Int32) &&& 0x3f).toInt64) ||| ((y1 &&& (255 : Int32)).toInt64))), .second, .unset] [(.ref b1), (.long (((((y0 &&& (255 : Int32)).toInt64) <<< ((8 : Int32) &&& 0x3f).toInt64) ||| ((y1 &&& (255 : Int32)).toInt64)) <<< ((8 : Int32) &&& 0x3f).toInt64))]
    refine own_st (fun _ k => XS.iconst X13.here hx rfl (hb hby at_97) k) ?_
    show own_Go X13 (Q0 Z p0 p1 p2 h0 n0) 1 4 98 #[.val (.int p0), .val (.int p1), .val (.int p2), .val (.int (4 : Int32)), .val (.ref b1), .val (.long ((((y0 &&& (255 : Int32)).toInt64) <<< ((8 : Int32) &&& 0x3f).toInt64) ||| ((y1 &&& (255 : Int32)).toInt64))), .second, .unset] [(.int (2 : Int32)), (.ref b1), (.long (((((y0 &&& (255 : Int32)).toInt64) <<< ((8 : Int32) &&& 0x3f).toInt64) ||| ((y1 &&& (255 : Int32)).toInt64)) <<< ((8 : Int32) &&& 0x3f).toInt64))]
    refine own_st (fun _ k => own_ldB X13 hx hZ e13 VR (j := (2 : Int32)) ⟨by decide, by decide⟩ (v := (.int y2)) rfl (g := (mkF m 98 #[.val (.int p0), .val (.int p1), .val (.int p2), .val (.int (4 : Int32)), .val (.ref b1), .val (.long ((((y0 &&& (255 : Int32)).toInt64) <<< ((8 : Int32) &&& 0x3f).toInt64) ||| ((y1 &&& (255 : Int32)).toInt64))), .second, .unset] [(.int (2 : Int32)), (.ref b1), (.long (((((y0 &&& (255 : Int32)).toInt64) <<< ((8 : Int32) &&& 0x3f).toInt64) ||| ((y1 &&& (255 : Int32)).toInt64)) <<< ((8 : Int32) &&& 0x3f).toInt64))])) rfl rfl (hb hby at_98) _ k) ?_
    show own_Go X13 (Q0 Z p0 p1 p2 h0 n0) 1 4 99 #[.val (.int p0), .val (.int p1), .val (.int p2), .val (.int (4 : Int32)), .val (.ref b1), .val (.long ((((y0 &&& (255 : Int32)).toInt64) <<< ((8 : Int32) &&& 0x3f).toInt64) ||| ((y1 &&& (255 : Int32)).toInt64))), .second, .unset] [(.int y2), (.long (((((y0 &&& (255 : Int32)).toInt64) <<< ((8 : Int32) &&& 0x3f).toInt64) ||| ((y1 &&& (255 : Int32)).toInt64)) <<< ((8 : Int32) &&& 0x3f).toInt64))]
    refine own_st (fun _ k => XS.sipush X13.here hx rfl (hb hby at_99) k) ?_
    show own_Go X13 (Q0 Z p0 p1 p2 h0 n0) 1 4 102 #[.val (.int p0), .val (.int p1), .val (.int p2), .val (.int (4 : Int32)), .val (.ref b1), .val (.long ((((y0 &&& (255 : Int32)).toInt64) <<< ((8 : Int32) &&& 0x3f).toInt64) ||| ((y1 &&& (255 : Int32)).toInt64))), .second, .unset] [(.int (255 : Int32)), (.int y2), (.long (((((y0 &&& (255 : Int32)).toInt64) <<< ((8 : Int32) &&& 0x3f).toInt64) ||| ((y1 &&& (255 : Int32)).toInt64)) <<< ((8 : Int32) &&& 0x3f).toInt64))]
    refine own_st (fun _ k => XS.iand X13.here hx rfl (hb hby at_102) rfl k) ?_
    show own_Go X13 (Q0 Z p0 p1 p2 h0 n0) 1 4 103 #[.val (.int p0), .val (.int p1), .val (.int p2), .val (.int (4 : Int32)), .val (.ref b1), .val (.long ((((y0 &&& (255 : Int32)).toInt64) <<< ((8 : Int32) &&& 0x3f).toInt64) ||| ((y1 &&& (255 : Int32)).toInt64))), .second, .unset] [(.int (y2 &&& (255 : Int32))), (.long (((((y0 &&& (255 : Int32)).toInt64) <<< ((8 : Int32) &&& 0x3f).toInt64) ||| ((y1 &&& (255 : Int32)).toInt64)) <<< ((8 : Int32) &&& 0x3f).toInt64))]
    refine own_st (fun _ k => XS.i2l X13.here hx rfl (hb hby at_103) rfl k) ?_
    show own_Go X13 (Q0 Z p0 p1 p2 h0 n0) 1 4 104 #[.val (.int p0), .val (.int p1), .val (.int p2), .val (.int (4 : Int32)), .val (.ref b1), .val (.long ((((y0 &&& (255 : Int32)).toInt64) <<< ((8 : Int32) &&& 0x3f).toInt64) ||| ((y1 &&& (255 : Int32)).toInt64))), .second, .unset] [(.long ((y2 &&& (255 : Int32)).toInt64)), (.long (((((y0 &&& (255 : Int32)).toInt64) <<< ((8 : Int32) &&& 0x3f).toInt64) ||| ((y1 &&& (255 : Int32)).toInt64)) <<< ((8 : Int32) &&& 0x3f).toInt64))]
    refine own_st (fun _ k => XS.lor X13.here hx rfl (hb hby at_104) rfl k) ?_
    show own_Go X13 (Q0 Z p0 p1 p2 h0 n0) 1 4 105 #[.val (.int p0), .val (.int p1), .val (.int p2), .val (.int (4 : Int32)), .val (.ref b1), .val (.long ((((y0 &&& (255 : Int32)).toInt64) <<< ((8 : Int32) &&& 0x3f).toInt64) ||| ((y1 &&& (255 : Int32)).toInt64))), .second, .unset] [(.long ((((((y0 &&& (255 : Int32)).toInt64) <<< ((8 : Int32) &&& 0x3f).toInt64) ||| ((y1 &&& (255 : Int32)).toInt64)) <<< ((8 : Int32) &&& 0x3f).toInt64) ||| ((y2 &&& (255 : Int32)).toInt64)))]
    refine own_st (fun _ k => XS.lstore X13.here hx rfl (hb hby at_105) rfl (l' := #[.val (.int p0), .val (.int p1), .val (.int p2), .val (.int (4 : Int32)), .val (.ref b1), .val (.long ((((((y0 &&& (255 : Int32)).toInt64) <<< ((8 : Int32) &&& 0x3f).toInt64) ||| ((y1 &&& (255 : Int32)).toInt64)) <<< ((8 : Int32) &&& 0x3f).toInt64) ||| ((y2 &&& (255 : Int32)).toInt64))), .second, .unset]) rfl k) ?_
    show own_Go X13 (Q0 Z p0 p1 p2 h0 n0) 1 4 107 #[.val (.int p0), .val (.int p1), .val (.int p2), .val (.int (4 : Int32)), .val (.ref b1), .val (.long ((((((y0 &&& (255 : Int32)).toInt64) <<< ((8 : Int32) &&& 0x3f).toInt64) ||| ((y1 &&& (255 : Int32)).toInt64)) <<< ((8 : Int32) &&& 0x3f).toInt64) ||| ((y2 &&& (255 : Int32)).toInt64))), .second, .unset] []
    refine own_st (fun _ k => XS.iloadN X13.here hx rfl (hb hby at_107) rfl k) ?_
    show own_Go X13 (Q0 Z p0 p1 p2 h0 n0) 1 4 108 #[.val (.int p0), .val (.int p1), .val (.int p2), .val (.int (4 : Int32)), .val (.ref b1), .val (.long ((((((y0 &&& (255 : Int32)).toInt64) <<< ((8 : Int32) &&& 0x3f).toInt64) ||| ((y1 &&& (255 : Int32)).toInt64)) <<< ((8 : Int32) &&& 0x3f).toInt64) ||| ((y2 &&& (255 : Int32)).toInt64))), .second, .unset] [(.int (4 : Int32))]
    refine own_st (fun _ k => XS.iconst X13.here hx rfl (hb hby at_108) k) ?_
    show own_Go X13 (Q0 Z p0 p1 p2 h0 n0) 1 4 109 #[.val (.int p0), .val (.int p1), .val (.int p2), .val (.int (4 : Int32)), .val (.ref b1), .val (.long ((((((y0 &&& (255 : Int32)).toInt64) <<< ((8 : Int32) &&& 0x3f).toInt64) ||| ((y1 &&& (255 : Int32)).toInt64)) <<< ((8 : Int32) &&& 0x3f).toInt64) ||| ((y2 &&& (255 : Int32)).toInt64))), .second, .unset] [(.int (3 : Int32)), (.int (4 : Int32))]
    have c109_111 : (3 : Int32) < (4 : Int32) := (by decide)
    refine own_st (fun _ k => XS.icmpNo X13.here hx rfl (hb hby at_109) rfl (tlt c109_111).2.2.2 k) ?_
    show own_Go X13 (Q0 Z p0 p1 p2 h0 n0) 1 4 112 #[.val (.int p0), .val (.int p1), .val (.int p2), .val (.int (4 : Int32)), .val (.ref b1), .val (.long ((((((y0 &&& (255 : Int32)).toInt64) <<< ((8 : Int32) &&& 0x3f).toInt64) ||| ((y1 &&& (255 : Int32)).toInt64)) <<< ((8 : Int32) &&& 0x3f).toInt64) ||| ((y2 &&& (255 : Int32)).toInt64))), .second, .unset] []
    refine own_st (fun _ k => XS.lload X13.here hx rfl (hb hby at_112) rfl k) ?_
    show own_Go X13 (Q0 Z p0 p1 p2 h0 n0) 1 4 114 #[.val (.int p0), .val (.int p1), .val (.int p2), .val (.int (4 : Int32)), .val (.ref b1), .val (.long ((((((y0 &&& (255 : Int32)).toInt64) <<< ((8 : Int32) &&& 0x3f).toInt64) ||| ((y1 &&& (255 : Int32)).toInt64)) <<< ((8 : Int32) &&& 0x3f).toInt64) ||| ((y2 &&& (255 : Int32)).toInt64))), .second, .unset] [(.long ((((((y0 &&& (255 : Int32)).toInt64) <<< ((8 : Int32) &&& 0x3f).toInt64) ||| ((y1 &&& (255 : Int32)).toInt64)) <<< ((8 : Int32) &&& 0x3f).toInt64) ||| ((y2 &&& (255 : Int32)).toInt64)))]
    refine own_st (fun _ k => XS.bipush X13.here hx rfl (hb hby at_114) k) ?_
    show own_Go X13 (Q0 Z p0 p1 p2 h0 n0) 1 4 116 #[.val (.int p0), .val (.int p1), .val (.int p2), .val (.int (4 : Int32)), .val (.ref b1), .val (.long ((((((y0 &&& (255 : Int32)).toInt64) <<< ((8 : Int32) &&& 0x3f).toInt64) ||| ((y1 &&& (255 : Int32)).toInt64)) <<< ((8 : Int32) &&& 0x3f).toInt64) ||| ((y2 &&& (255 : Int32)).toInt64))), .second, .unset] [(.int (8 : Int32)), (.long ((((((y0 &&& (255 : Int32)).toInt64) <<< ((8 : Int32) &&& 0x3f).toInt64) ||| ((y1 &&& (255 : Int32)).toInt64)) <<< ((8 : Int32) &&& 0x3f).toInt64) ||| ((y2 &&& (255 : Int32)).toInt64)))]
    refine own_st (fun _ k => XS.lshl X13.here hx rfl (hb hby at_116) rfl k) ?_
    show own_Go X13 (Q0 Z p0 p1 p2 h0 n0) 1 4 117 #[.val (.int p0), .val (.int p1), .val (.int p2), .val (.int (4 : Int32)), .val (.ref b1), .val (.long ((((((y0 &&& (255 : Int32)).toInt64) <<< ((8 : Int32) &&& 0x3f).toInt64) ||| ((y1 &&& (255 : Int32)).toInt64)) <<< ((8 : Int32) &&& 0x3f).toInt64) ||| ((y2 &&& (255 : Int32)).toInt64))), .second, .unset] [(.long (((((((y0 &&& (255 : Int32)).toInt64) <<< ((8 : Int32) &&& 0x3f).toInt64) ||| ((y1 &&& (255 : Int32)).toInt64)) <<< ((8 : Int32) &&& 0x3f).toInt64) ||| ((y2 &&& (255 : Int32)).toInt64)) <<< ((8 : Int32) &&& 0x3f).toInt64))]
    refine own_st (fun _ k => XS.aload X13.here hx rfl (hb hby at_117) rfl rfl k) ?_
    show own_Go X13 (Q0 Z p0 p1 p2 h0 n0) 1 4 119 #[.val (.int p0), .val (.int p1), .val (.int p2), .val (.int (4 : Int32)), .val (.ref b1), .val (.long ((((((y0 &&& (255 : Int32)).toInt64) <<< ((8 : Int32) &&& 0x3f).toInt64) ||| ((y1 &&& (255 : Int32)).toInt64)) <<< ((8 : Int32) &&& 0x3f).toInt64) ||| ((y2 &&& (255 : Int32)).toInt64))), .second, .unset] [(.ref b1), (.long (((((((y0 &&& (255 : Int32)).toInt64) <<< ((8 : Int32) &&& 0x3f).toInt64) ||| ((y1 &&& (255 : Int32)).toInt64)) <<< ((8 : Int32) &&& 0x3f).toInt64) ||| ((y2 &&& (255 : Int32)).toInt64)) <<< ((8 : Int32) &&& 0x3f).toInt64))]
    refine own_st (fun _ k => XS.iconst X13.here hx rfl (hb hby at_119) k) ?_
    show own_Go X13 (Q0 Z p0 p1 p2 h0 n0) 1 4 120 #[.val (.int p0), .val (.int p1), .val (.int p2), .val (.int (4 : Int32)), .val (.ref b1), .val (.long ((((((y0 &&& (255 : Int32)).toInt64) <<< ((8 : Int32) &&& 0x3f).toInt64) ||| ((y1 &&& (255 : Int32)).toInt64)) <<< ((8 : Int32) &&& 0x3f).toInt64) ||| ((y2 &&& (255 : Int32)).toInt64))), .second, .unset] [(.int (3 : Int32)), (.ref b1), (.long (((((((y0 &&& (255 : Int32)).toInt64) <<< ((8 : Int32) &&& 0x3f).toInt64) ||| ((y1 &&& (255 : Int32)).toInt64)) <<< ((8 : Int32) &&& 0x3f).toInt64) ||| ((y2 &&& (255 : Int32)).toInt64)) <<< ((8 : Int32) &&& 0x3f).toInt64))]
    refine own_st (fun _ k => own_ldB X13 hx hZ e13 VR (j := (3 : Int32)) ⟨by decide, by decide⟩ (v := (.int y3)) rfl (g := (mkF m 120 #[.val (.int p0), .val (.int p1), .val (.int p2), .val (.int (4 : Int32)), .val (.ref b1), .val (.long ((((((y0 &&& (255 : Int32)).toInt64) <<< ((8 : Int32) &&& 0x3f).toInt64) ||| ((y1 &&& (255 : Int32)).toInt64)) <<< ((8 : Int32) &&& 0x3f).toInt64) ||| ((y2 &&& (255 : Int32)).toInt64))), .second, .unset] [(.int (3 : Int32)), (.ref b1), (.long (((((((y0 &&& (255 : Int32)).toInt64) <<< ((8 : Int32) &&& 0x3f).toInt64) ||| ((y1 &&& (255 : Int32)).toInt64)) <<< ((8 : Int32) &&& 0x3f).toInt64) ||| ((y2 &&& (255 : Int32)).toInt64)) <<< ((8 : Int32) &&& 0x3f).toInt64))])) rfl rfl (hb hby at_120) _ k) ?_
    show own_Go X13 (Q0 Z p0 p1 p2 h0 n0) 1 4 121 #[.val (.int p0), .val (.int p1), .val (.int p2), .val (.int (4 : Int32)), .val (.ref b1), .val (.long ((((((y0 &&& (255 : Int32)).toInt64) <<< ((8 : Int32) &&& 0x3f).toInt64) ||| ((y1 &&& (255 : Int32)).toInt64)) <<< ((8 : Int32) &&& 0x3f).toInt64) ||| ((y2 &&& (255 : Int32)).toInt64))), .second, .unset] [(.int y3), (.long (((((((y0 &&& (255 : Int32)).toInt64) <<< ((8 : Int32) &&& 0x3f).toInt64) ||| ((y1 &&& (255 : Int32)).toInt64)) <<< ((8 : Int32) &&& 0x3f).toInt64) ||| ((y2 &&& (255 : Int32)).toInt64)) <<< ((8 : Int32) &&& 0x3f).toInt64))]
    refine own_st (fun _ k => XS.sipush X13.here hx rfl (hb hby at_121) k) ?_
    show own_Go X13 (Q0 Z p0 p1 p2 h0 n0) 1 4 124 #[.val (.int p0), .val (.int p1), .val (.int p2), .val (.int (4 : Int32)), .val (.ref b1), .val (.long ((((((y0 &&& (255 : Int32)).toInt64) <<< ((8 : Int32) &&& 0x3f).toInt64) ||| ((y1 &&& (255 : Int32)).toInt64)) <<< ((8 : Int32) &&& 0x3f).toInt64) ||| ((y2 &&& (255 : Int32)).toInt64))), .second, .unset] [(.int (255 : Int32)), (.int y3), (.long (((((((y0 &&& (255 : Int32)).toInt64) <<< ((8 : Int32) &&& 0x3f).toInt64) ||| ((y1 &&& (255 : Int32)).toInt64)) <<< ((8 : Int32) &&& 0x3f).toInt64) ||| ((y2 &&& (255 : Int32)).toInt64)) <<< ((8 : Int32) &&& 0x3f).toInt64))]
    refine own_st (fun _ k => XS.iand X13.here hx rfl (hb hby at_124) rfl k) ?_
    show own_Go X13 (Q0 Z p0 p1 p2 h0 n0) 1 4 125 #[.val (.int p0), .val (.int p1), .val (.int p2), .val (.int (4 : Int32)), .val (.ref b1), .val (.long ((((((y0 &&& (255 : Int32)).toInt64) <<< ((8 : Int32) &&& 0x3f).toInt64) ||| ((y1 &&& (255 : Int32)).toInt64)) <<< ((8 : Int32) &&& 0x3f).toInt64) ||| ((y2 &&& (255 : Int32)).toInt64))), .second, .unset] [(.int (y3 &&& (255 : Int32))), (.long (((((((y0 &&& (255 : Int32)).toInt64) <<< ((8 : Int32) &&& 0x3f).toInt64) ||| ((y1 &&& (255 : Int32)).toInt64)) <<< ((8 : Int32) &&& 0x3f).toInt64) ||| ((y2 &&& (255 : Int32)).toInt64)) <<< ((8 : Int32) &&& 0x3f).toInt64))]
    refine own_st (fun _ k => XS.i2l X13.here hx rfl (hb hby at_125) rfl k) ?_
    show own_Go X13 (Q0 Z p0 p1 p2 h0 n0) 1 4 126 #[.val (.int p0), .val (.int p1), .val (.int p2), .val (.int (4 : Int32)), .val (.ref b1), .val (.long ((((((y0 &&& (255 : Int32)).toInt64) <<< ((8 : Int32) &&& 0x3f).toInt64) ||| ((y1 &&& (255 : Int32)).toInt64)) <<< ((8 : Int32) &&& 0x3f).toInt64) ||| ((y2 &&& (255 : Int32)).toInt64))), .second, .unset] [(.long ((y3 &&& (255 : Int32)).toInt64)), (.long (((((((y0 &&& (255 : Int32)).toInt64) <<< ((8 : Int32) &&& 0x3f).toInt64) ||| ((y1 &&& (255 : Int32)).toInt64)) <<< ((8 : Int32) &&& 0x3f).toInt64) ||| ((y2 &&& (255 : Int32)).toInt64)) <<< ((8 : Int32) &&& 0x3f).toInt64))]
    refine own_st (fun _ k => XS.lor X13.here hx rfl (hb hby at_126) rfl k) ?_
    show own_Go X13 (Q0 Z p0 p1 p2 h0 n0) 1 4 127 #[.val (.int p0), .val (.int p1), .val (.int p2), .val (.int (4 : Int32)), .val (.ref b1), .val (.long ((((((y0 &&& (255 : Int32)).toInt64) <<< ((8 : Int32) &&& 0x3f).toInt64) ||| ((y1 &&& (255 : Int32)).toInt64)) <<< ((8 : Int32) &&& 0x3f).toInt64) ||| ((y2 &&& (255 : Int32)).toInt64))), .second, .unset] [(.long ((((((((y0 &&& (255 : Int32)).toInt64) <<< ((8 : Int32) &&& 0x3f).toInt64) ||| ((y1 &&& (255 : Int32)).toInt64)) <<< ((8 : Int32) &&& 0x3f).toInt64) ||| ((y2 &&& (255 : Int32)).toInt64)) <<< ((8 : Int32) &&& 0x3f).toInt64) ||| ((y3 &&& (255 : Int32)).toInt64)))]
    refine own_st (fun _ k => XS.lstore X13.here hx rfl (hb hby at_127) rfl (l' := #[.val (.int p0), .val (.int p1), .val (.int p2), .val (.int (4 : Int32)), .val (.ref b1), .val (.long ((((((((y0 &&& (255 : Int32)).toInt64) <<< ((8 : Int32) &&& 0x3f).toInt64) ||| ((y1 &&& (255 : Int32)).toInt64)) <<< ((8 : Int32) &&& 0x3f).toInt64) ||| ((y2 &&& (255 : Int32)).toInt64)) <<< ((8 : Int32) &&& 0x3f).toInt64) ||| ((y3 &&& (255 : Int32)).toInt64))), .second, .unset]) rfl k) ?_
    show own_Go X13 (Q0 Z p0 p1 p2 h0 n0) 1 4 129 #[.val (.int p0), .val (.int p1), .val (.int p2), .val (.int (4 : Int32)), .val (.ref b1), .val (.long ((((((((y0 &&& (255 : Int32)).toInt64) <<< ((8 : Int32) &&& 0x3f).toInt64) ||| ((y1 &&& (255 : Int32)).toInt64)) <<< ((8 : Int32) &&& 0x3f).toInt64) ||| ((y2 &&& (255 : Int32)).toInt64)) <<< ((8 : Int32) &&& 0x3f).toInt64) ||| ((y3 &&& (255 : Int32)).toInt64))), .second, .unset] []
    generalize hvv : ((((((((y0 &&& (255 : Int32)).toInt64) <<< ((8 : Int32) &&& 0x3f).toInt64) ||| ((y1 &&& (255 : Int32)).toInt64)) <<< ((8 : Int32) &&& 0x3f).toInt64) ||| ((y2 &&& (255 : Int32)).toInt64)) <<< ((8 : Int32) &&& 0x3f).toInt64) ||| ((y3 &&& (255 : Int32)).toInt64)) = vv
    show own_Go X13 (Q0 Z p0 p1 p2 h0 n0) 1 4 129 #[.val (.int p0), .val (.int p1), .val (.int p2), .val (.int (4 : Int32)), .val (.ref b1), .val (.long vv), .second, .unset] []
    obtain ⟨U, hU⟩ : ∃ U : Nat, U = B0 * 2 ^ 24 + (B1 * 2 ^ 16 + (B2 * 2 ^ 8 + B3)) := ⟨_, rfl⟩
    have t0 := c_i2l (y0 &&& (255 : Int32))
    have t1 := own_hor (b := (y1 &&& (255 : Int32))) t0 (by omega) (by omega) ky1
    have t2 := own_hor (b := (y2 &&& (255 : Int32))) t1 (by omega) (by omega) ky2
    have t3 := own_hor (b := (y3 &&& (255 : Int32))) t2 (by omega) (by omega) ky3
    have hvU : vv.toInt = U := by rw [← hvv, t3, hU]; omega
    have hU32 : U < 4294967296 := by omega
    refine own_st (fun _ k => XS.iloadN X13.here hx rfl (hb hby at_129) rfl k) ?_
    show own_Go X13 (Q0 Z p0 p1 p2 h0 n0) 1 4 130 #[.val (.int p0), .val (.int p1), .val (.int p2), .val (.int (4 : Int32)), .val (.ref b1), .val (.long vv), .second, .unset] [(.int p2)]
    by_cases c130_112 : (0 : Int32) < p2
    · skip
      refine own_st (fun _ k => XS.ifYes X13.here hx rfl (pc0 := 130) (pc' := 150) rfl (hb hby at_130) rfl ((if0 _ _).trans (tlt c130_112).2.2.1) (by decide) (by decide) k) ?_
      show own_Go X13 (Q0 Z p0 p1 p2 h0 n0) 1 4 150 #[.val (.int p0), .val (.int p1), .val (.int p2), .val (.int (4 : Int32)), .val (.ref b1), .val (.long vv), .second, .unset] []
      refine own_st (fun _ k => XS.iloadN X13.here hx rfl (hb hby at_150) rfl k) ?_
      show own_Go X13 (Q0 Z p0 p1 p2 h0 n0) 1 4 151 #[.val (.int p0), .val (.int p1), .val (.int p2), .val (.int (4 : Int32)), .val (.ref b1), .val (.long vv), .second, .unset] [(.int p2)]
      refine own_st (fun _ k => XS.bipush X13.here hx rfl (hb hby at_151) k) ?_
      show own_Go X13 (Q0 Z p0 p1 p2 h0 n0) 1 4 153 #[.val (.int p0), .val (.int p1), .val (.int p2), .val (.int (4 : Int32)), .val (.ref b1), .val (.long vv), .second, .unset] [(.int (40 : Int32)), (.int p2)]
      by_cases c153_113 : p2 < (40 : Int32)
      · skip
        refine own_st (fun _ k => XS.icmpYes X13.here hx rfl (pc0 := 153) (pc' := 162) rfl (hb hby at_153) rfl (tlt c153_113).1 (by decide) (by decide) k) ?_
        show own_Go X13 (Q0 Z p0 p1 p2 h0 n0) 1 4 162 #[.val (.int p0), .val (.int p1), .val (.int p2), .val (.int (4 : Int32)), .val (.ref b1), .val (.long vv), .second, .unset] []
        refine own_st (fun _ k => XS.lload X13.here hx rfl (hb hby at_162) rfl k) ?_
        show own_Go X13 (Q0 Z p0 p1 p2 h0 n0) 1 4 164 #[.val (.int p0), .val (.int p1), .val (.int p2), .val (.int (4 : Int32)), .val (.ref b1), .val (.long vv), .second, .unset] [(.long vv)]
        refine own_st (fun _ k => XS.iloadN X13.here hx rfl (hb hby at_164) rfl k) ?_
        show own_Go X13 (Q0 Z p0 p1 p2 h0 n0) 1 4 165 #[.val (.int p0), .val (.int p1), .val (.int p2), .val (.int (4 : Int32)), .val (.ref b1), .val (.long vv), .second, .unset] [(.int p2), (.long vv)]
        refine own_st (fun _ k => XS.lushr X13.here hx rfl (hb hby at_165) rfl k) ?_
        show own_Go X13 (Q0 Z p0 p1 p2 h0 n0) 1 4 166 #[.val (.int p0), .val (.int p1), .val (.int p2), .val (.int (4 : Int32)), .val (.ref b1), .val (.long vv), .second, .unset] [(.long ((vv.toUInt64 >>> (p2 &&& 0x3f).toInt64.toUInt64).toInt64))]
        refine own_st (fun _ k => XS.lconst X13.here hx rfl (hb hby at_166) k) ?_
        show own_Go X13 (Q0 Z p0 p1 p2 h0 n0) 1 4 167 #[.val (.int p0), .val (.int p1), .val (.int p2), .val (.int (4 : Int32)), .val (.ref b1), .val (.long vv), .second, .unset] [(.long (0 : Int64)), (.long ((vv.toUInt64 >>> (p2 &&& 0x3f).toInt64.toUInt64).toInt64))]
        refine own_st (fun _ k => XS.lcmp X13.here hx rfl (hb hby at_167) rfl k) ?_
        show own_Go X13 (Q0 Z p0 p1 p2 h0 n0) 1 4 168 #[.val (.int p0), .val (.int p1), .val (.int p2), .val (.int (4 : Int32)), .val (.ref b1), .val (.long vv), .second, .unset] [(.int (lcmpW ((vv.toUInt64 >>> (p2 &&& 0x3f).toInt64.toUInt64).toInt64) (0 : Int64)))]
        by_cases c168_114 : ((vv.toUInt64 >>> (p2 &&& 0x3f).toInt64.toUInt64).toInt64) = (0 : Int64)
        · skip
          refine own_st (fun _ k => XS.ifNo X13.here hx rfl (hb hby at_168) rfl ((if0 _ _).trans (teq ((lw_eq _ _).mpr c168_114)).2) k) ?_
          show own_Go X13 (Q0 Z p0 p1 p2 h0 n0) 1 4 171 #[.val (.int p0), .val (.int p1), .val (.int p2), .val (.int (4 : Int32)), .val (.ref b1), .val (.long vv), .second, .unset] []
          refine own_st (fun _ k => XS.iconst X13.here hx rfl (hb hby at_171) k) ?_
          show own_Go X13 (Q0 Z p0 p1 p2 h0 n0) 1 4 172 #[.val (.int p0), .val (.int p1), .val (.int p2), .val (.int (4 : Int32)), .val (.ref b1), .val (.long vv), .second, .unset] [(.int (1 : Int32))]
          refine own_st (fun _ k => XS.goto X13.here hx rfl (pc0 := 172) (pc' := 176) rfl (hb hby at_172) (by decide) (by decide) k) ?_
          show own_Go X13 (Q0 Z p0 p1 p2 h0 n0) 1 4 176 #[.val (.int p0), .val (.int p1), .val (.int p2), .val (.int (4 : Int32)), .val (.ref b1), .val (.long vv), .second, .unset] [(.int (1 : Int32))]
          refine own_st (fun _ k => XS.istore X13.here hx rfl (hb hby at_176) rfl (l' := #[.val (.int p0), .val (.int p1), .val (.int p2), .val (.int (4 : Int32)), .val (.ref b1), .val (.long vv), .second, .val (.int (1 : Int32))]) rfl k) ?_
          show own_Go X13 (Q0 Z p0 p1 p2 h0 n0) 1 4 178 #[.val (.int p0), .val (.int p1), .val (.int p2), .val (.int (4 : Int32)), .val (.ref b1), .val (.long vv), .second, .val (.int (1 : Int32))] []
          refine own_st (fun _ k => XS.aload X13.here hx rfl (hb hby at_178) rfl rfl k) ?_
          show own_Go X13 (Q0 Z p0 p1 p2 h0 n0) 1 4 180 #[.val (.int p0), .val (.int p1), .val (.int p2), .val (.int (4 : Int32)), .val (.ref b1), .val (.long vv), .second, .val (.int (1 : Int32))] [(.ref b1)]
          refine own_st (fun _ k => XS.iloadN X13.here hx rfl (hb hby at_180) rfl k) ?_
          show own_Go X13 (Q0 Z p0 p1 p2 h0 n0) 1 4 181 #[.val (.int p0), .val (.int p1), .val (.int p2), .val (.int (4 : Int32)), .val (.ref b1), .val (.long vv), .second, .val (.int (1 : Int32))] [(.int (4 : Int32)), (.ref b1)]
          refine own_st (fun _ k => XS.iloadN X13.here hx rfl (hb hby at_181) rfl k) ?_
          show own_Go X13 (Q0 Z p0 p1 p2 h0 n0) 1 4 182 #[.val (.int p0), .val (.int p1), .val (.int p2), .val (.int (4 : Int32)), .val (.ref b1), .val (.long vv), .second, .val (.int (1 : Int32))] [(.int p2), (.int (4 : Int32)), (.ref b1)]
          refine own_callS (W := 0) X13 hx hZ hown (hw _ (List.mem_of_getElem? (i := 1) rfl)) (hw _ (List.mem_of_getElem? (i := 2) rfl)) (hw _ (List.mem_of_getElem? (i := 3) rfl)) (hw _ (List.mem_of_getElem? (i := 4) rfl)) (by decide) (rm14 l Z a0 hw [] b1 p2 k1 y0 y1 y2 y3 h13 n0 Z_14 VR) (by decide) (by decide) (by rw [hml]; rfl) [(.ref b1), (.int (4 : Int32)), (.int p2)] [] (lenOf pd_0_0 rfl) rfl rfl (Nat.le_of_ble_eq_true rfl) (hb hby at_182) e13 (by decide) (by decide) ?_
          rintro _ T115 L115 X115 ⟨rfl, N115q, e115⟩
          have N_116 := Fr.app N_15 N115q
          show own_Go X115 (Q0 Z p0 p1 p2 h0 n0) 1 4 185 #[.val (.int p0), .val (.int p1), .val (.int p2), .val (.int (4 : Int32)), .val (.ref b1), .val (.long vv), .second, .val (.int (1 : Int32))] [(.int (own_fb4 y0 y1 y2 y3 p2))]
          refine own_st (fun _ k => XS.iload X115.here hx rfl (hb hby at_185) rfl k) ?_
          show own_Go X115 (Q0 Z p0 p1 p2 h0 n0) 1 4 187 #[.val (.int p0), .val (.int p1), .val (.int p2), .val (.int (4 : Int32)), .val (.ref b1), .val (.long vv), .second, .val (.int (1 : Int32))] [(.int (1 : Int32)), (.int (own_fb4 y0 y1 y2 y3 p2))]
          have c187_117 : (own_fb4 y0 y1 y2 y3 p2) = (1 : Int32) := by rw [own_f4 z0 z1 z2 z3 hU, if_pos ((own_mid hvU hU32 c130_112 c153_113).mpr c168_114)]
          refine own_st (fun _ k => XS.icmpNo X115.here hx rfl (hb hby at_187) rfl (teq c187_117).2 k) ?_
          show own_Go X115 (Q0 Z p0 p1 p2 h0 n0) 1 4 190 #[.val (.int p0), .val (.int p1), .val (.int p2), .val (.int (4 : Int32)), .val (.ref b1), .val (.long vv), .second, .val (.int (1 : Int32))] []
          refine own_st (fun _ k => XS.iconst X115.here hx rfl (hb hby at_190) k) ?_
          show own_Go X115 (Q0 Z p0 p1 p2 h0 n0) 1 4 191 #[.val (.int p0), .val (.int p1), .val (.int p2), .val (.int (4 : Int32)), .val (.ref b1), .val (.long vv), .second, .val (.int (1 : Int32))] [(.int (1 : Int32))]
          refine own_st (fun _ k => XS.goto X115.here hx rfl (pc0 := 191) (pc' := 195) rfl (hb hby at_191) (by decide) (by decide) k) ?_
          show own_Go X115 (Q0 Z p0 p1 p2 h0 n0) 1 4 195 #[.val (.int p0), .val (.int p1), .val (.int p2), .val (.int (4 : Int32)), .val (.ref b1), .val (.long vv), .second, .val (.int (1 : Int32))] [(.int (1 : Int32))]
          refine own_retN X115 hx Bd.returns (by simp) hlk e115 (hb hby at_195) (by decide) (by decide) ?_
          exact ⟨rfl, N_116⟩
        · skip
          refine own_st (fun _ k => XS.ifYes X13.here hx rfl (pc0 := 168) (pc' := 175) rfl (hb hby at_168) rfl ((if0 _ _).trans (feq (fun q => c168_114 ((lw_eq _ _).mp q))).2) (by decide) (by decide) k) ?_
          show own_Go X13 (Q0 Z p0 p1 p2 h0 n0) 1 4 175 #[.val (.int p0), .val (.int p1), .val (.int p2), .val (.int (4 : Int32)), .val (.ref b1), .val (.long vv), .second, .unset] []
          refine own_st (fun _ k => XS.iconst X13.here hx rfl (hb hby at_175) k) ?_
          show own_Go X13 (Q0 Z p0 p1 p2 h0 n0) 1 4 176 #[.val (.int p0), .val (.int p1), .val (.int p2), .val (.int (4 : Int32)), .val (.ref b1), .val (.long vv), .second, .unset] [(.int (0 : Int32))]
          refine own_st (fun _ k => XS.istore X13.here hx rfl (hb hby at_176) rfl (l' := #[.val (.int p0), .val (.int p1), .val (.int p2), .val (.int (4 : Int32)), .val (.ref b1), .val (.long vv), .second, .val (.int (0 : Int32))]) rfl k) ?_
          show own_Go X13 (Q0 Z p0 p1 p2 h0 n0) 1 4 178 #[.val (.int p0), .val (.int p1), .val (.int p2), .val (.int (4 : Int32)), .val (.ref b1), .val (.long vv), .second, .val (.int (0 : Int32))] []
          refine own_st (fun _ k => XS.aload X13.here hx rfl (hb hby at_178) rfl rfl k) ?_
          show own_Go X13 (Q0 Z p0 p1 p2 h0 n0) 1 4 180 #[.val (.int p0), .val (.int p1), .val (.int p2), .val (.int (4 : Int32)), .val (.ref b1), .val (.long vv), .second, .val (.int (0 : Int32))] [(.ref b1)]
          refine own_st (fun _ k => XS.iloadN X13.here hx rfl (hb hby at_180) rfl k) ?_
          show own_Go X13 (Q0 Z p0 p1 p2 h0 n0) 1 4 181 #[.val (.int p0), .val (.int p1), .val (.int p2), .val (.int (4 : Int32)), .val (.ref b1), .val (.long vv), .second, .val (.int (0 : Int32))] [(.int (4 : Int32)), (.ref b1)]
          refine own_st (fun _ k => XS.iloadN X13.here hx rfl (hb hby at_181) rfl k) ?_
          show own_Go X13 (Q0 Z p0 p1 p2 h0 n0) 1 4 182 #[.val (.int p0), .val (.int p1), .val (.int p2), .val (.int (4 : Int32)), .val (.ref b1), .val (.long vv), .second, .val (.int (0 : Int32))] [(.int p2), (.int (4 : Int32)), (.ref b1)]
          refine own_callS (W := 0) X13 hx hZ hown (hw _ (List.mem_of_getElem? (i := 1) rfl)) (hw _ (List.mem_of_getElem? (i := 2) rfl)) (hw _ (List.mem_of_getElem? (i := 3) rfl)) (hw _ (List.mem_of_getElem? (i := 4) rfl)) (by decide) (rm14 l Z a0 hw [] b1 p2 k1 y0 y1 y2 y3 h13 n0 Z_14 VR) (by decide) (by decide) (by rw [hml]; rfl) [(.ref b1), (.int (4 : Int32)), (.int p2)] [] (lenOf pd_0_0 rfl) rfl rfl (Nat.le_of_ble_eq_true rfl) (hb hby at_182) e13 (by decide) (by decide) ?_
          rintro _ T118 L118 X118 ⟨rfl, N118q, e118⟩
          have N_119 := Fr.app N_15 N118q
          show own_Go X118 (Q0 Z p0 p1 p2 h0 n0) 1 4 185 #[.val (.int p0), .val (.int p1), .val (.int p2), .val (.int (4 : Int32)), .val (.ref b1), .val (.long vv), .second, .val (.int (0 : Int32))] [(.int (own_fb4 y0 y1 y2 y3 p2))]
          refine own_st (fun _ k => XS.iload X118.here hx rfl (hb hby at_185) rfl k) ?_
          show own_Go X118 (Q0 Z p0 p1 p2 h0 n0) 1 4 187 #[.val (.int p0), .val (.int p1), .val (.int p2), .val (.int (4 : Int32)), .val (.ref b1), .val (.long vv), .second, .val (.int (0 : Int32))] [(.int (0 : Int32)), (.int (own_fb4 y0 y1 y2 y3 p2))]
          have c187_120 : (own_fb4 y0 y1 y2 y3 p2) = (0 : Int32) := by rw [own_f4 z0 z1 z2 z3 hU, if_neg (fun z => c168_114 ((own_mid hvU hU32 c130_112 c153_113).mp z))]
          refine own_st (fun _ k => XS.icmpNo X118.here hx rfl (hb hby at_187) rfl (teq c187_120).2 k) ?_
          show own_Go X118 (Q0 Z p0 p1 p2 h0 n0) 1 4 190 #[.val (.int p0), .val (.int p1), .val (.int p2), .val (.int (4 : Int32)), .val (.ref b1), .val (.long vv), .second, .val (.int (0 : Int32))] []
          refine own_st (fun _ k => XS.iconst X118.here hx rfl (hb hby at_190) k) ?_
          show own_Go X118 (Q0 Z p0 p1 p2 h0 n0) 1 4 191 #[.val (.int p0), .val (.int p1), .val (.int p2), .val (.int (4 : Int32)), .val (.ref b1), .val (.long vv), .second, .val (.int (0 : Int32))] [(.int (1 : Int32))]
          refine own_st (fun _ k => XS.goto X118.here hx rfl (pc0 := 191) (pc' := 195) rfl (hb hby at_191) (by decide) (by decide) k) ?_
          show own_Go X118 (Q0 Z p0 p1 p2 h0 n0) 1 4 195 #[.val (.int p0), .val (.int p1), .val (.int p2), .val (.int (4 : Int32)), .val (.ref b1), .val (.long vv), .second, .val (.int (0 : Int32))] [(.int (1 : Int32))]
          refine own_retN X118 hx Bd.returns (by simp) hlk e118 (hb hby at_195) (by decide) (by decide) ?_
          exact ⟨rfl, N_119⟩
      · skip
        refine own_st (fun _ k => XS.icmpNo X13.here hx rfl (hb hby at_153) rfl (flt c153_113).1 k) ?_
        show own_Go X13 (Q0 Z p0 p1 p2 h0 n0) 1 4 156 #[.val (.int p0), .val (.int p1), .val (.int p2), .val (.int (4 : Int32)), .val (.ref b1), .val (.long vv), .second, .unset] []
        refine own_st (fun _ k => XS.iconst X13.here hx rfl (hb hby at_156) k) ?_
        show own_Go X13 (Q0 Z p0 p1 p2 h0 n0) 1 4 157 #[.val (.int p0), .val (.int p1), .val (.int p2), .val (.int (4 : Int32)), .val (.ref b1), .val (.long vv), .second, .unset] [(.int (1 : Int32))]
        refine own_st (fun _ k => XS.istore X13.here hx rfl (hb hby at_157) rfl (l' := #[.val (.int p0), .val (.int p1), .val (.int p2), .val (.int (4 : Int32)), .val (.ref b1), .val (.long vv), .second, .val (.int (1 : Int32))]) rfl k) ?_
        show own_Go X13 (Q0 Z p0 p1 p2 h0 n0) 1 4 159 #[.val (.int p0), .val (.int p1), .val (.int p2), .val (.int (4 : Int32)), .val (.ref b1), .val (.long vv), .second, .val (.int (1 : Int32))] []
        refine own_st (fun _ k => XS.goto X13.here hx rfl (pc0 := 159) (pc' := 178) rfl (hb hby at_159) (by decide) (by decide) k) ?_
        show own_Go X13 (Q0 Z p0 p1 p2 h0 n0) 1 4 178 #[.val (.int p0), .val (.int p1), .val (.int p2), .val (.int (4 : Int32)), .val (.ref b1), .val (.long vv), .second, .val (.int (1 : Int32))] []
        refine own_st (fun _ k => XS.aload X13.here hx rfl (hb hby at_178) rfl rfl k) ?_
        show own_Go X13 (Q0 Z p0 p1 p2 h0 n0) 1 4 180 #[.val (.int p0), .val (.int p1), .val (.int p2), .val (.int (4 : Int32)), .val (.ref b1), .val (.long vv), .second, .val (.int (1 : Int32))] [(.ref b1)]
        refine own_st (fun _ k => XS.iloadN X13.here hx rfl (hb hby at_180) rfl k) ?_
        show own_Go X13 (Q0 Z p0 p1 p2 h0 n0) 1 4 181 #[.val (.int p0), .val (.int p1), .val (.int p2), .val (.int (4 : Int32)), .val (.ref b1), .val (.long vv), .second, .val (.int (1 : Int32))] [(.int (4 : Int32)), (.ref b1)]
        refine own_st (fun _ k => XS.iloadN X13.here hx rfl (hb hby at_181) rfl k) ?_
        show own_Go X13 (Q0 Z p0 p1 p2 h0 n0) 1 4 182 #[.val (.int p0), .val (.int p1), .val (.int p2), .val (.int (4 : Int32)), .val (.ref b1), .val (.long vv), .second, .val (.int (1 : Int32))] [(.int p2), (.int (4 : Int32)), (.ref b1)]
        refine own_callS (W := 0) X13 hx hZ hown (hw _ (List.mem_of_getElem? (i := 1) rfl)) (hw _ (List.mem_of_getElem? (i := 2) rfl)) (hw _ (List.mem_of_getElem? (i := 3) rfl)) (hw _ (List.mem_of_getElem? (i := 4) rfl)) (by decide) (rm14 l Z a0 hw [] b1 p2 k1 y0 y1 y2 y3 h13 n0 Z_14 VR) (by decide) (by decide) (by rw [hml]; rfl) [(.ref b1), (.int (4 : Int32)), (.int p2)] [] (lenOf pd_0_0 rfl) rfl rfl (Nat.le_of_ble_eq_true rfl) (hb hby at_182) e13 (by decide) (by decide) ?_
        rintro _ T121 L121 X121 ⟨rfl, N121q, e121⟩
        have N_122 := Fr.app N_15 N121q
        show own_Go X121 (Q0 Z p0 p1 p2 h0 n0) 1 4 185 #[.val (.int p0), .val (.int p1), .val (.int p2), .val (.int (4 : Int32)), .val (.ref b1), .val (.long vv), .second, .val (.int (1 : Int32))] [(.int (own_fb4 y0 y1 y2 y3 p2))]
        refine own_st (fun _ k => XS.iload X121.here hx rfl (hb hby at_185) rfl k) ?_
        show own_Go X121 (Q0 Z p0 p1 p2 h0 n0) 1 4 187 #[.val (.int p0), .val (.int p1), .val (.int p2), .val (.int (4 : Int32)), .val (.ref b1), .val (.long vv), .second, .val (.int (1 : Int32))] [(.int (1 : Int32)), (.int (own_fb4 y0 y1 y2 y3 p2))]
        have c187_123 : (own_fb4 y0 y1 y2 y3 p2) = (1 : Int32) := by rw [own_f4 z0 z1 z2 z3 hU, if_pos (own_ge40 hU32 c153_113)]
        refine own_st (fun _ k => XS.icmpNo X121.here hx rfl (hb hby at_187) rfl (teq c187_123).2 k) ?_
        show own_Go X121 (Q0 Z p0 p1 p2 h0 n0) 1 4 190 #[.val (.int p0), .val (.int p1), .val (.int p2), .val (.int (4 : Int32)), .val (.ref b1), .val (.long vv), .second, .val (.int (1 : Int32))] []
        refine own_st (fun _ k => XS.iconst X121.here hx rfl (hb hby at_190) k) ?_
        show own_Go X121 (Q0 Z p0 p1 p2 h0 n0) 1 4 191 #[.val (.int p0), .val (.int p1), .val (.int p2), .val (.int (4 : Int32)), .val (.ref b1), .val (.long vv), .second, .val (.int (1 : Int32))] [(.int (1 : Int32))]
        refine own_st (fun _ k => XS.goto X121.here hx rfl (pc0 := 191) (pc' := 195) rfl (hb hby at_191) (by decide) (by decide) k) ?_
        show own_Go X121 (Q0 Z p0 p1 p2 h0 n0) 1 4 195 #[.val (.int p0), .val (.int p1), .val (.int p2), .val (.int (4 : Int32)), .val (.ref b1), .val (.long vv), .second, .val (.int (1 : Int32))] [(.int (1 : Int32))]
        refine own_retN X121 hx Bd.returns (by simp) hlk e121 (hb hby at_195) (by decide) (by decide) ?_
        exact ⟨rfl, N_122⟩
    · skip
      refine own_st (fun _ k => XS.ifNo X13.here hx rfl (hb hby at_130) rfl ((if0 _ _).trans (flt c130_112).2.2.1) k) ?_
      show own_Go X13 (Q0 Z p0 p1 p2 h0 n0) 1 4 133 #[.val (.int p0), .val (.int p1), .val (.int p2), .val (.int (4 : Int32)), .val (.ref b1), .val (.long vv), .second, .unset] []
      refine own_st (fun _ k => XS.lload X13.here hx rfl (hb hby at_133) rfl k) ?_
      show own_Go X13 (Q0 Z p0 p1 p2 h0 n0) 1 4 135 #[.val (.int p0), .val (.int p1), .val (.int p2), .val (.int (4 : Int32)), .val (.ref b1), .val (.long vv), .second, .unset] [(.long vv)]
      refine own_st (fun _ k => XS.lconst X13.here hx rfl (hb hby at_135) k) ?_
      show own_Go X13 (Q0 Z p0 p1 p2 h0 n0) 1 4 136 #[.val (.int p0), .val (.int p1), .val (.int p2), .val (.int (4 : Int32)), .val (.ref b1), .val (.long vv), .second, .unset] [(.long (0 : Int64)), (.long vv)]
      refine own_st (fun _ k => XS.lcmp X13.here hx rfl (hb hby at_136) rfl k) ?_
      show own_Go X13 (Q0 Z p0 p1 p2 h0 n0) 1 4 137 #[.val (.int p0), .val (.int p1), .val (.int p2), .val (.int (4 : Int32)), .val (.ref b1), .val (.long vv), .second, .unset] [(.int (lcmpW vv (0 : Int64)))]
      by_cases c137_124 : vv = (0 : Int64)
      · skip
        refine own_st (fun _ k => XS.ifNo X13.here hx rfl (hb hby at_137) rfl ((if0 _ _).trans (teq ((lw_eq _ _).mpr c137_124)).2) k) ?_
        show own_Go X13 (Q0 Z p0 p1 p2 h0 n0) 1 4 140 #[.val (.int p0), .val (.int p1), .val (.int p2), .val (.int (4 : Int32)), .val (.ref b1), .val (.long vv), .second, .unset] []
        refine own_st (fun _ k => XS.iconst X13.here hx rfl (hb hby at_140) k) ?_
        show own_Go X13 (Q0 Z p0 p1 p2 h0 n0) 1 4 141 #[.val (.int p0), .val (.int p1), .val (.int p2), .val (.int (4 : Int32)), .val (.ref b1), .val (.long vv), .second, .unset] [(.int (1 : Int32))]
        refine own_st (fun _ k => XS.goto X13.here hx rfl (pc0 := 141) (pc' := 145) rfl (hb hby at_141) (by decide) (by decide) k) ?_
        show own_Go X13 (Q0 Z p0 p1 p2 h0 n0) 1 4 145 #[.val (.int p0), .val (.int p1), .val (.int p2), .val (.int (4 : Int32)), .val (.ref b1), .val (.long vv), .second, .unset] [(.int (1 : Int32))]
        refine own_st (fun _ k => XS.istore X13.here hx rfl (hb hby at_145) rfl (l' := #[.val (.int p0), .val (.int p1), .val (.int p2), .val (.int (4 : Int32)), .val (.ref b1), .val (.long vv), .second, .val (.int (1 : Int32))]) rfl k) ?_
        show own_Go X13 (Q0 Z p0 p1 p2 h0 n0) 1 4 147 #[.val (.int p0), .val (.int p1), .val (.int p2), .val (.int (4 : Int32)), .val (.ref b1), .val (.long vv), .second, .val (.int (1 : Int32))] []
        refine own_st (fun _ k => XS.goto X13.here hx rfl (pc0 := 147) (pc' := 178) rfl (hb hby at_147) (by decide) (by decide) k) ?_
        show own_Go X13 (Q0 Z p0 p1 p2 h0 n0) 1 4 178 #[.val (.int p0), .val (.int p1), .val (.int p2), .val (.int (4 : Int32)), .val (.ref b1), .val (.long vv), .second, .val (.int (1 : Int32))] []
        refine own_st (fun _ k => XS.aload X13.here hx rfl (hb hby at_178) rfl rfl k) ?_
        show own_Go X13 (Q0 Z p0 p1 p2 h0 n0) 1 4 180 #[.val (.int p0), .val (.int p1), .val (.int p2), .val (.int (4 : Int32)), .val (.ref b1), .val (.long vv), .second, .val (.int (1 : Int32))] [(.ref b1)]
        refine own_st (fun _ k => XS.iloadN X13.here hx rfl (hb hby at_180) rfl k) ?_
        show own_Go X13 (Q0 Z p0 p1 p2 h0 n0) 1 4 181 #[.val (.int p0), .val (.int p1), .val (.int p2), .val (.int (4 : Int32)), .val (.ref b1), .val (.long vv), .second, .val (.int (1 : Int32))] [(.int (4 : Int32)), (.ref b1)]
        refine own_st (fun _ k => XS.iloadN X13.here hx rfl (hb hby at_181) rfl k) ?_
        show own_Go X13 (Q0 Z p0 p1 p2 h0 n0) 1 4 182 #[.val (.int p0), .val (.int p1), .val (.int p2), .val (.int (4 : Int32)), .val (.ref b1), .val (.long vv), .second, .val (.int (1 : Int32))] [(.int p2), (.int (4 : Int32)), (.ref b1)]
        refine own_callS (W := 0) X13 hx hZ hown (hw _ (List.mem_of_getElem? (i := 1) rfl)) (hw _ (List.mem_of_getElem? (i := 2) rfl)) (hw _ (List.mem_of_getElem? (i := 3) rfl)) (hw _ (List.mem_of_getElem? (i := 4) rfl)) (by decide) (rm14 l Z a0 hw [] b1 p2 k1 y0 y1 y2 y3 h13 n0 Z_14 VR) (by decide) (by decide) (by rw [hml]; rfl) [(.ref b1), (.int (4 : Int32)), (.int p2)] [] (lenOf pd_0_0 rfl) rfl rfl (Nat.le_of_ble_eq_true rfl) (hb hby at_182) e13 (by decide) (by decide) ?_
        rintro _ T125 L125 X125 ⟨rfl, N125q, e125⟩
        have N_126 := Fr.app N_15 N125q
        show own_Go X125 (Q0 Z p0 p1 p2 h0 n0) 1 4 185 #[.val (.int p0), .val (.int p1), .val (.int p2), .val (.int (4 : Int32)), .val (.ref b1), .val (.long vv), .second, .val (.int (1 : Int32))] [(.int (own_fb4 y0 y1 y2 y3 p2))]
        refine own_st (fun _ k => XS.iload X125.here hx rfl (hb hby at_185) rfl k) ?_
        show own_Go X125 (Q0 Z p0 p1 p2 h0 n0) 1 4 187 #[.val (.int p0), .val (.int p1), .val (.int p2), .val (.int (4 : Int32)), .val (.ref b1), .val (.long vv), .second, .val (.int (1 : Int32))] [(.int (1 : Int32)), (.int (own_fb4 y0 y1 y2 y3 p2))]
        have c187_127 : (own_fb4 y0 y1 y2 y3 p2) = (1 : Int32) := by rw [own_f4 z0 z1 z2 z3 hU, if_pos ((own_le0 hvU c130_112).mpr c137_124)]
        refine own_st (fun _ k => XS.icmpNo X125.here hx rfl (hb hby at_187) rfl (teq c187_127).2 k) ?_
        show own_Go X125 (Q0 Z p0 p1 p2 h0 n0) 1 4 190 #[.val (.int p0), .val (.int p1), .val (.int p2), .val (.int (4 : Int32)), .val (.ref b1), .val (.long vv), .second, .val (.int (1 : Int32))] []
        refine own_st (fun _ k => XS.iconst X125.here hx rfl (hb hby at_190) k) ?_
        show own_Go X125 (Q0 Z p0 p1 p2 h0 n0) 1 4 191 #[.val (.int p0), .val (.int p1), .val (.int p2), .val (.int (4 : Int32)), .val (.ref b1), .val (.long vv), .second, .val (.int (1 : Int32))] [(.int (1 : Int32))]
        refine own_st (fun _ k => XS.goto X125.here hx rfl (pc0 := 191) (pc' := 195) rfl (hb hby at_191) (by decide) (by decide) k) ?_
        show own_Go X125 (Q0 Z p0 p1 p2 h0 n0) 1 4 195 #[.val (.int p0), .val (.int p1), .val (.int p2), .val (.int (4 : Int32)), .val (.ref b1), .val (.long vv), .second, .val (.int (1 : Int32))] [(.int (1 : Int32))]
        refine own_retN X125 hx Bd.returns (by simp) hlk e125 (hb hby at_195) (by decide) (by decide) ?_
        exact ⟨rfl, N_126⟩
      · skip
        refine own_st (fun _ k => XS.ifYes X13.here hx rfl (pc0 := 137) (pc' := 144) rfl (hb hby at_137) rfl ((if0 _ _).trans (feq (fun q => c137_124 ((lw_eq _ _).mp q))).2) (by decide) (by decide) k) ?_
        show own_Go X13 (Q0 Z p0 p1 p2 h0 n0) 1 4 144 #[.val (.int p0), .val (.int p1), .val (.int p2), .val (.int (4 : Int32)), .val (.ref b1), .val (.long vv), .second, .unset] []
        refine own_st (fun _ k => XS.iconst X13.here hx rfl (hb hby at_144) k) ?_
        show own_Go X13 (Q0 Z p0 p1 p2 h0 n0) 1 4 145 #[.val (.int p0), .val (.int p1), .val (.int p2), .val (.int (4 : Int32)), .val (.ref b1), .val (.long vv), .second, .unset] [(.int (0 : Int32))]
        refine own_st (fun _ k => XS.istore X13.here hx rfl (hb hby at_145) rfl (l' := #[.val (.int p0), .val (.int p1), .val (.int p2), .val (.int (4 : Int32)), .val (.ref b1), .val (.long vv), .second, .val (.int (0 : Int32))]) rfl k) ?_
        show own_Go X13 (Q0 Z p0 p1 p2 h0 n0) 1 4 147 #[.val (.int p0), .val (.int p1), .val (.int p2), .val (.int (4 : Int32)), .val (.ref b1), .val (.long vv), .second, .val (.int (0 : Int32))] []
        refine own_st (fun _ k => XS.goto X13.here hx rfl (pc0 := 147) (pc' := 178) rfl (hb hby at_147) (by decide) (by decide) k) ?_
        show own_Go X13 (Q0 Z p0 p1 p2 h0 n0) 1 4 178 #[.val (.int p0), .val (.int p1), .val (.int p2), .val (.int (4 : Int32)), .val (.ref b1), .val (.long vv), .second, .val (.int (0 : Int32))] []
        refine own_st (fun _ k => XS.aload X13.here hx rfl (hb hby at_178) rfl rfl k) ?_
        show own_Go X13 (Q0 Z p0 p1 p2 h0 n0) 1 4 180 #[.val (.int p0), .val (.int p1), .val (.int p2), .val (.int (4 : Int32)), .val (.ref b1), .val (.long vv), .second, .val (.int (0 : Int32))] [(.ref b1)]
        refine own_st (fun _ k => XS.iloadN X13.here hx rfl (hb hby at_180) rfl k) ?_
        show own_Go X13 (Q0 Z p0 p1 p2 h0 n0) 1 4 181 #[.val (.int p0), .val (.int p1), .val (.int p2), .val (.int (4 : Int32)), .val (.ref b1), .val (.long vv), .second, .val (.int (0 : Int32))] [(.int (4 : Int32)), (.ref b1)]
        refine own_st (fun _ k => XS.iloadN X13.here hx rfl (hb hby at_181) rfl k) ?_
        show own_Go X13 (Q0 Z p0 p1 p2 h0 n0) 1 4 182 #[.val (.int p0), .val (.int p1), .val (.int p2), .val (.int (4 : Int32)), .val (.ref b1), .val (.long vv), .second, .val (.int (0 : Int32))] [(.int p2), (.int (4 : Int32)), (.ref b1)]
        refine own_callS (W := 0) X13 hx hZ hown (hw _ (List.mem_of_getElem? (i := 1) rfl)) (hw _ (List.mem_of_getElem? (i := 2) rfl)) (hw _ (List.mem_of_getElem? (i := 3) rfl)) (hw _ (List.mem_of_getElem? (i := 4) rfl)) (by decide) (rm14 l Z a0 hw [] b1 p2 k1 y0 y1 y2 y3 h13 n0 Z_14 VR) (by decide) (by decide) (by rw [hml]; rfl) [(.ref b1), (.int (4 : Int32)), (.int p2)] [] (lenOf pd_0_0 rfl) rfl rfl (Nat.le_of_ble_eq_true rfl) (hb hby at_182) e13 (by decide) (by decide) ?_
        rintro _ T128 L128 X128 ⟨rfl, N128q, e128⟩
        have N_129 := Fr.app N_15 N128q
        show own_Go X128 (Q0 Z p0 p1 p2 h0 n0) 1 4 185 #[.val (.int p0), .val (.int p1), .val (.int p2), .val (.int (4 : Int32)), .val (.ref b1), .val (.long vv), .second, .val (.int (0 : Int32))] [(.int (own_fb4 y0 y1 y2 y3 p2))]
        refine own_st (fun _ k => XS.iload X128.here hx rfl (hb hby at_185) rfl k) ?_
        show own_Go X128 (Q0 Z p0 p1 p2 h0 n0) 1 4 187 #[.val (.int p0), .val (.int p1), .val (.int p2), .val (.int (4 : Int32)), .val (.ref b1), .val (.long vv), .second, .val (.int (0 : Int32))] [(.int (0 : Int32)), (.int (own_fb4 y0 y1 y2 y3 p2))]
        have c187_130 : (own_fb4 y0 y1 y2 y3 p2) = (0 : Int32) := by rw [own_f4 z0 z1 z2 z3 hU, if_neg (fun z => c137_124 ((own_le0 hvU c130_112).mp z))]
        refine own_st (fun _ k => XS.icmpNo X128.here hx rfl (hb hby at_187) rfl (teq c187_130).2 k) ?_
        show own_Go X128 (Q0 Z p0 p1 p2 h0 n0) 1 4 190 #[.val (.int p0), .val (.int p1), .val (.int p2), .val (.int (4 : Int32)), .val (.ref b1), .val (.long vv), .second, .val (.int (0 : Int32))] []
        refine own_st (fun _ k => XS.iconst X128.here hx rfl (hb hby at_190) k) ?_
        show own_Go X128 (Q0 Z p0 p1 p2 h0 n0) 1 4 191 #[.val (.int p0), .val (.int p1), .val (.int p2), .val (.int (4 : Int32)), .val (.ref b1), .val (.long vv), .second, .val (.int (0 : Int32))] [(.int (1 : Int32))]
        refine own_st (fun _ k => XS.goto X128.here hx rfl (pc0 := 191) (pc' := 195) rfl (hb hby at_191) (by decide) (by decide) k) ?_
        show own_Go X128 (Q0 Z p0 p1 p2 h0 n0) 1 4 195 #[.val (.int p0), .val (.int p1), .val (.int p2), .val (.int (4 : Int32)), .val (.ref b1), .val (.long vv), .second, .val (.int (0 : Int32))] [(.int (1 : Int32))]
        refine own_retN X128 hx Bd.returns (by simp) hlk e128 (hb hby at_195) (by decide) (by decide) ?_
        exact ⟨rfl, N_129⟩
set_option maxRecDepth 65536 in
set_option maxHeartbeats 40000000 in
theorem comes_1 {Post : Tables → Env → Array Value → State → Outcome → State → Prop} (hpost : ∀ tb e args s v u, (limb_1_1.after args s (.returned v) u = true ∧ limb_1_2.after args s (.returned v) u = true ∧ True) → FrameEnd s (.returned v) u (Jvm.fieldLocs frame_1_writes args s ++ Jvm.arrayLocs frame_1_arrays args s ++ Jvm.staticLocs frame_1_statics s) 16 128 → Post tb e args s (.returned v) u) :
    ArmFor flags0 classFile x code maxLocals ret World_1 tables_1 room_1 Calls_1 rest_1 Pre_1 Post := by
  intro l hfl _ _ p e ha hc hk s m args below hf hA hF happ hP
  obtain ⟨hcalls, hrest, hpre⟩ := hP
  obtain ⟨-, -, -, hnamed, -, -, -, hat⟩ := (Spec.applies_iff hf).mp happ
  obtain ⟨hg, hn⟩ := and_e (Cond.before_iff.mp (show (Jvm.Cond.and given_1 narrow_1).before args s = true from hpre))
  obtain ⟨g1, g2⟩ := and_e hg
  obtain ⟨g3, g4⟩ := and_e g2
  obtain ⟨g5, g6⟩ := and_e g4
  obtain ⟨w0, w1, w2, rfl⟩ : ∃ w0 w1 w2 : Value, args = #[w0, w1, w2] := by
    have hs : args.size = 3 := by simpa [Cond.value, given_1] using g1
    obtain ⟨L⟩ := args
    match L, hs with
    | [w0, w1, w2], _ => exact ⟨w0, w1, w2, rfl⟩
  have hw := fun d (hd : d ∈ tables_1) => atoms_spec (ws := Jvm.Cond.code x code maxLocals ret :: tables_1) hat d (List.mem_cons_of_mem _ hd)
  obtain ⟨i0, ei0⟩ := is_v g3
  obtain rfl : w0 = (.int i0) := Option.some.inj ei0
  obtain ⟨i1, ei1⟩ := is_v g5
  obtain rfl : w1 = (.int i1) := Option.some.inj ei1
  obtain ⟨i2, ei2⟩ := is_v g6
  obtain rfl : w2 = (.int i2) := Option.some.inj ei2
  obtain ⟨n, o, h1, h2, h3, _, L, rfl, ⟨rfl, N⟩, hq⟩ := rm0 l s _ hw tables_1 i0 i1 i2 s.heap s.heap.size (Nat.le_refl _) p e ha hc hk s m _ below hf ((Spec.applies_iff_loose hf).mp happ).1 ⟨rfl, State.Warmed39.refl s, rfl⟩ trivial
  refine ⟨n, _, h1, h2, h3, hpost _ _ _ _ _ _ ⟨Cond.after_iff.mpr rfl, Cond.after_iff.mpr (eq_i res_at (Term.int_eval (1)) rfl), trivial⟩ ⟨hq.1, hq.2.1, (hq.2.2.sift fun y hy => Or.inr (N y hy)).mono (by decide) (by decide)⟩⟩
theorem main_1_1 : Claimed_1_1 := comes_1 fun _ _ _ _ _ _ h hF => ⟨h.1, hF⟩
theorem main_1_2 : Claimed_1_2 := comes_1 fun _ _ _ _ _ _ h hF => ⟨h.2.1, hF⟩
end Jvm.Pilot.@@N@@
namespace Jvm.Pilot.@@N@@
open Jvm Jvm.ClassFile Sem Op Lib Jvm.Free Jvm.Stand Jvm.Pilot.@@N@@.Jvm.D
/-! MADE BY PROGRAM (witnessworld.py) out of the Statement's table words and the real class files: 9 classes; the members and pool entries that the words name. The judged class is class 1, her method 1. -/
namespace start1
open Jvm.ClassFile
def u (s : String) : CpInfo := .utf8 (stringToUtf16 s)
/-- a pool by its gaps: so many unusable entries, then the entry; so many at the end -/
def gap : Nat → List CpInfo → List CpInfo
  | 0, r => r
  | n + 1, r => .unusable :: gap n r
def poolList (es : List (Nat × CpInfo)) (last : Nat) : List CpInfo := es.foldr (fun e r => gap e.1 (e.2 :: r)) (gap last [])
def pool (es : List (Nat × CpInfo)) (last : Nat) : Array CpInfo := ⟨poolList es last⟩
def fileOf (pool : Array CpInfo) (this : Nat) (attrs : Array Attribute := #[]) (ms : Array MethodInfo := #[]) (fl : Nat := 33) (sup : Nat := 0) (ifs : Array Nat := #[]) (fds : Array FieldInfo := #[]) : ClassFile where
  minorVersion := 0
  majorVersion := 65
  constantPool := pool
  accessFlags := fl
  thisClass := this
  superClass := sup
  interfaces := ifs
  fields := fds
  methods := ms
  attributes := attrs
def plain (name : String) (sup : Option ClassId) : Class where
  name := name
  kind := .ordinary
  loader := none
  accessFlags := 33
  super := sup
  interfaces := #[]
  cf := none
  fields := #[]
  methods := #[]
  instanceTypes := #[]
  staticTypes := #[]
  resolved := #[]
  callSites := []
  init := .initialized
  statics := none
  mirror := none

def pool0 : Array CpInfo := pool [(5, u "<init>"), (0, u "()V"), (1, .class_ 10), (1, u "java/lang/Object")] 113

def k0m0 : Method := { name := "<init>", desc := "()V", sig := { parameters := [], returnType := none }, accessFlags := 1, code := none }
/-- java/lang/Object -/
def k0 : Class := { plain "java/lang/Object" none with
  accessFlags := 33
  interfaces := #[]
  cf := some (fileOf pool0 8 #[] #[{ accessFlags := 1, nameIndex := 5, descriptorIndex := 6, attributes := #[] }] 33 0 #[] #[])
  fields := #[]
  methods := #[k0m0]
  instanceTypes := #[]
  staticTypes := #[]
  resolved := Array.replicate 124 none
  statics := none }

def pool1 : Array CpInfo := pool [(2, .class_ 4), (1, u "java/lang/Object"), (0, u "<init>"), (0, u "()V"), (0, .methodref 8 9), (0, .class_ 10), (0, .nameAndType 11 12), (0, u "com/example/wide_berth/wideberth/postgres/Literals"), (0, u "fitsBits"), (0, u "([BII)Z"), (0, .class_ 14), (0, u "com/example/wide_berth/wideberth/postgres/LiteralsFitsBitsPinLaw"), (2, u "law"), (0, u "(III)Z")] 5

def k1m0 : Method := { name := "<init>", desc := "()V", sig := { parameters := [], returnType := none }, accessFlags := 2, code := none }
def k1c1 : Code := { maxStack := 4, maxLocals := 8, code := code, exceptionTable := #[], attributes := #[] }
def k1m1 : Method := { name := "law", desc := "(III)Z", sig := { parameters := [.int, .int, .int], returnType := some .boolean }, accessFlags := 9, code := some k1c1 }
/-- com/example/wide_berth/wideberth/postgres/LiteralsFitsBitsPinLaw -/
def k1 : Class := { plain "com/example/wide_berth/wideberth/postgres/LiteralsFitsBitsPinLaw" (some 0) with
  accessFlags := 49
  interfaces := #[]
  cf := some (fileOf pool1 13 #[] #[{ accessFlags := 2, nameIndex := 5, descriptorIndex := 6, attributes := #[] }, { accessFlags := 9, nameIndex := 17, descriptorIndex := 18, attributes := #[] }] 49 2 #[] #[])
  fields := #[]
  methods := #[k1m0, k1m1]
  instanceTypes := #[]
  staticTypes := #[]
  resolved := Array.replicate 24 none
  statics := none }

def pool2 : Array CpInfo := pool [(2, .class_ 4), (1, u "java/lang/Object"), (0, u "<init>"), (0, u "()V"), (7, .class_ 16), (1, u "com/example/wide_berth/wideberth/postgres/Literals"), (29, u "DOUBLE_INFINITE"), (0, u "Lcom/example/wide_berth/wideberth/postgres/Literals$Bound;"), (2, u "REAL_INFINITE"), (2, u "DOUBLE_ZERO"), (2, u "REAL_ZERO"), (28, u "([BII)Z"), (26, .long 8), (12, u "DAYS_IN_MONTH"), (0, u "[I"), (4, .class_ 133), (1, u "com/example/wide_berth/wideberth/postgres/Literals$Bound"), (1, u "J"), (15, u "TWO"), (0, u "Ljava/math/BigInteger;"), (9, u "FIVE"), (19, u "DATE_LENGTH"), (0, u "I"), (2, u "DATETIME_LENGTH"), (1, u "DAYS_TO_1970"), (0, u "SECONDS_A_DAY"), (0, u "MAX_EXPONENT"), (0, u "DUMPED_FLOAT_DIGITS"), (1, u "ROUND_TRIP_FLOAT_DIGITS"), (1, u "ONE_FLOAT_SPAN_DECADE"), (19, u "fitsBits")] 7

def k2m0 : Method := { name := "<init>", desc := "()V", sig := { parameters := [], returnType := none }, accessFlags := 2, code := none }
def k2c1 : Code := { maxStack := 4, maxLocals := 8, code := prog_64_method_12_code, exceptionTable := #[], attributes := #[] }
def k2m1 : Method := { name := "fitsBits", desc := "([BII)Z", sig := { parameters := [(.array .byte), .int, .int], returnType := some .boolean }, accessFlags := 8, code := some k2c1 }
/-- com/example/wide_berth/wideberth/postgres/Literals -/
def k2 : Class := { plain "com/example/wide_berth/wideberth/postgres/Literals" (some 0) with
  accessFlags := 48
  interfaces := #[]
  cf := some (fileOf pool2 14 #[.nestMembers #[131]] #[{ accessFlags := 2, nameIndex := 5, descriptorIndex := 6, attributes := #[] }, { accessFlags := 8, nameIndex := 215, descriptorIndex := 85, attributes := #[] }] 48 2 #[] #[{ accessFlags := 26, nameIndex := 151, descriptorIndex := 152, attributes := #[] }, { accessFlags := 26, nameIndex := 162, descriptorIndex := 152, attributes := #[] }, { accessFlags := 26, nameIndex := 125, descriptorIndex := 126, attributes := #[] }, { accessFlags := 26, nameIndex := 182, descriptorIndex := 183, attributes := #[] }, { accessFlags := 26, nameIndex := 186, descriptorIndex := 183, attributes := #[] }, { accessFlags := 26, nameIndex := 188, descriptorIndex := 135, attributes := #[] }, { accessFlags := 26, nameIndex := 189, descriptorIndex := 135, attributes := #[] }, { accessFlags := 26, nameIndex := 50, descriptorIndex := 47, attributes := #[] }, { accessFlags := 26, nameIndex := 56, descriptorIndex := 47, attributes := #[] }, { accessFlags := 26, nameIndex := 46, descriptorIndex := 47, attributes := #[] }, { accessFlags := 26, nameIndex := 53, descriptorIndex := 47, attributes := #[] }, { accessFlags := 26, nameIndex := 190, descriptorIndex := 135, attributes := #[] }, { accessFlags := 26, nameIndex := 191, descriptorIndex := 183, attributes := #[] }, { accessFlags := 26, nameIndex := 193, descriptorIndex := 183, attributes := #[] }, { accessFlags := 26, nameIndex := 195, descriptorIndex := 135, attributes := #[] }])
  fields := #[{ name := "TWO", type := (.object "java/math/BigInteger"), accessFlags := 26, slot := 0, constantValue := 0 }, { name := "FIVE", type := (.object "java/math/BigInteger"), accessFlags := 26, slot := 1, constantValue := 0 }, { name := "DAYS_IN_MONTH", type := (.array .int), accessFlags := 26, slot := 2, constantValue := 0 }, { name := "DATE_LENGTH", type := .int, accessFlags := 26, slot := 3, constantValue := 0 }, { name := "DATETIME_LENGTH", type := .int, accessFlags := 26, slot := 4, constantValue := 0 }, { name := "DAYS_TO_1970", type := .long, accessFlags := 26, slot := 5, constantValue := 0 }, { name := "SECONDS_A_DAY", type := .long, accessFlags := 26, slot := 6, constantValue := 0 }, { name := "REAL_INFINITE", type := (.object "com/example/wide_berth/wideberth/postgres/Literals$Bound"), accessFlags := 26, slot := 7, constantValue := 0 }, { name := "REAL_ZERO", type := (.object "com/example/wide_berth/wideberth/postgres/Literals$Bound"), accessFlags := 26, slot := 8, constantValue := 0 }, { name := "DOUBLE_INFINITE", type := (.object "com/example/wide_berth/wideberth/postgres/Literals$Bound"), accessFlags := 26, slot := 9, constantValue := 0 }, { name := "DOUBLE_ZERO", type := (.object "com/example/wide_berth/wideberth/postgres/Literals$Bound"), accessFlags := 26, slot := 10, constantValue := 0 }, { name := "MAX_EXPONENT", type := .long, accessFlags := 26, slot := 11, constantValue := 0 }, { name := "DUMPED_FLOAT_DIGITS", type := .int, accessFlags := 26, slot := 12, constantValue := 0 }, { name := "ROUND_TRIP_FLOAT_DIGITS", type := .int, accessFlags := 26, slot := 13, constantValue := 0 }, { name := "ONE_FLOAT_SPAN_DECADE", type := .long, accessFlags := 26, slot := 14, constantValue := 0 }]
  methods := #[k2m0, k2m1]
  instanceTypes := #[]
  staticTypes := #[(.object "java/math/BigInteger"), (.object "java/math/BigInteger"), (.array .int), .int, .int, .long, .long, (.object "com/example/wide_berth/wideberth/postgres/Literals$Bound"), (.object "com/example/wide_berth/wideberth/postgres/Literals$Bound"), (.object "com/example/wide_berth/wideberth/postgres/Literals$Bound"), (.object "com/example/wide_berth/wideberth/postgres/Literals$Bound"), .long, .int, .int, .long]
  resolved := Array.replicate 223 none
  statics := none }

def pool3 : Array CpInfo := pool [(1, u "java/lang/Cloneable"), (0, .class_ 1), (0, u "java/lang/Object"), (0, .class_ 3)] 3

/-- java/lang/Cloneable -/
def k3 : Class := { plain "java/lang/Cloneable" (some 0) with
  accessFlags := 1537
  interfaces := #[]
  cf := some (fileOf pool3 2 #[] #[] 1537 4 #[] #[])
  fields := #[]
  methods := #[]
  instanceTypes := #[]
  staticTypes := #[]
  resolved := Array.replicate 8 none
  statics := none }

def pool4 : Array CpInfo := pool [(1, u "java/io/Serializable"), (0, .class_ 1), (0, u "java/lang/Object"), (0, .class_ 3)] 3

/-- java/io/Serializable -/
def k4 : Class := { plain "java/io/Serializable" (some 0) with
  accessFlags := 1537
  interfaces := #[]
  cf := some (fileOf pool4 2 #[] #[] 1537 4 #[] #[])
  fields := #[]
  methods := #[]
  instanceTypes := #[]
  staticTypes := #[]
  resolved := Array.replicate 8 none
  statics := none }

/-- the primitive byte -/
def k5 : Class := { plain "byte" none with kind := .primitive 'B', accessFlags := 0x411 }
/-- [B -/
def k6 : Class := { plain "[B" (some 0) with kind := .array 5 .byte, interfaces := #[3, 4], accessFlags := 1041 }

/-- the primitive int -/
def k7 : Class := { plain "int" none with kind := .primitive 'I', accessFlags := 0x411 }
/-- [I -/
def k8 : Class := { plain "[I" (some 0) with kind := .array 7 .int, interfaces := #[3, 4], accessFlags := 1041 }

def heap : Heap := #[]
def classes : Array Class := #[k0, k1, k2, k3, k4, k5, k6, k7, k8]
def interned : List (Array UInt16 × Addr) := []
def slotsUsed : Nat := 0
def theMethod : MethodId := ⟨1, 1⟩
def args0 : Array Value := #[.int 5, .int 7, .int 9]
def aboutOver (below : List Frame) : State where
  vm := { classes := classes, interned := interned.toArray }
  heap := heap
  slotsUsed := slotsUsed
  threads := #[{ frames := .invoking theMethod args0 :: below }]
def below0 : List Frame := [.native { method := ⟨0, 0⟩, args := #[] }]
def about1 : State := aboutOver below0
def p0 : Program := .bare "" "" ""
def e0 : Env := launch0.env 0 0 0
theorem w_frames : about1.frames = Frame.invoking theMethod args0 :: below0 := rfl
set_option maxRecDepth 65536 in
theorem w_args : argsFit about1.vm theMethod args0 = true := by decide +kernel
set_option maxRecDepth 65536 in
theorem w_heap : heapFits about1 = true := by decide +kernel
set_option maxRecDepth 65536 in
theorem w_runnable : about1.curStatus? = some .runnable := by decide +kernel
set_option maxRecDepth 65536 in
theorem w_alone : about1.alone = true := by decide +kernel
set_option maxRecDepth 65536 in
theorem w_named : about1.methodNamed? x = some theMethod := by decide +kernel
set_option maxRecDepth 65536 in
theorem w_hears : about1.hears theMethod below0 = true := by decide +kernel
set_option maxRecDepth 65536 in
theorem w_ripe : about1.ripe theMethod args0 below0 = true := by decide +kernel
theorem w_running : about1.status = .running := rfl
set_option maxRecDepth 65536 in
theorem w_room : about1.hasRoom e0.platform room_1 = true :=
  launch0.hasRoom_least _ room_1 (by decide +kernel) (by decide +kernel) (by decide +kernel) (by decide +kernel) (by decide +kernel) (by decide +kernel)
theorem allAtoms_all (ts : List Jvm.Cond) (a : Array Jvm.Value) (st : Jvm.State) : (allAtoms ts).before a st = ts.all (fun c => c.before a st) := by
  induction ts with
  | nil => rfl
  | cons c t ih =>
    show (Jvm.Cond.and c (allAtoms t)).before a st = _
    rw [Jvm.Cond.before_and, ih, List.all_cons]
def words1 : List Jvm.Cond := Jvm.Cond.code x code maxLocals ret :: tables_1
/-- a 'code' word, met by the world's own term for the bytes: nothing is compared byte by byte -/
theorem code_word {y : MethodName} {bytes : ByteArray} {mx : Nat} {rt : Option FieldType} {a : Array Value} {s : State} {m : MethodId} {meth : Method} {c : Code} (h1 : s.methodNamed? y = some m) (h2 : s.vm.method? m = some meth) (h3 : meth.code = some c) (h4 : c.code = bytes)
    (h5 : (c.maxLocals == mx && c.exceptionTable.isEmpty && decide (c.maxStack ≤ mostOperands) && decide (meth.sig.returnType = rt) && !meth.locks && decide (parseMethodDescriptor y.desc = some meth.sig)) = true) : (Jvm.Cond.code y bytes mx rt).before a s = true := by
  simp only [Bool.and_eq_true, beq_iff_eq, Bool.not_eq_true', decide_eq_true_eq] at h5
  obtain ⟨⟨⟨⟨⟨g1, g2⟩, g3⟩, g4⟩, g5⟩, g6⟩ := h5
  simp [Cond.before, Cond.holds, Cond.value, h1, h2, h3, h4, g1, g2, g3, g4, g5, g6]
def isCode : Jvm.Cond → Bool
  | .code _ _ _ _ => true
  | _ => false
theorem all_split {L : List Jvm.Cond} {P : Jvm.Cond → Bool} (h1 : L.all (fun c => isCode c || P c) = true) (h2 : ∀ c ∈ L.filter isCode, P c = true) : L.all P = true := by
  refine List.all_eq_true.mpr fun c hc => ?_
  have h := List.all_eq_true.mp h1 c hc
  rcases Bool.eq_false_or_eq_true (isCode c) with hi | hi
  · exact h2 c (List.mem_filter.mpr ⟨hc, hi⟩)
  · simpa [hi] using h
set_option maxRecDepth 65536 in
theorem w_c0 : (Jvm.Cond.code x code maxLocals ret).before args0 about1 = true := code_word (m := ⟨1, 1⟩) (meth := k1m1) (c := k1c1) (by decide +kernel) rfl rfl rfl (by decide +kernel)
set_option maxRecDepth 65536 in
theorem w_c1 : (Jvm.Cond.code ({ cls := "com/example/wide_berth/wideberth/postgres/Literals", name := "fitsBits", desc := "([BII)Z" } : Jvm.MethodName) prog_64_method_12_code (8 : Nat) (Option.some Jvm.ClassFile.FieldType.boolean)).before args0 about1 = true := code_word (m := ⟨2, 1⟩) (meth := k2m1) (c := k2c1) (by decide +kernel) rfl rfl rfl (by decide +kernel)
def codes1 : List Jvm.Cond := [Jvm.Cond.code x code maxLocals ret, Jvm.Cond.code ({ cls := "com/example/wide_berth/wideberth/postgres/Literals", name := "fitsBits", desc := "([BII)Z" } : Jvm.MethodName) prog_64_method_12_code (8 : Nat) (Option.some Jvm.ClassFile.FieldType.boolean)]
set_option maxRecDepth 65536 in
theorem codes_eq : words1.filter isCode = codes1 := rfl
theorem w_codes : ∀ c ∈ words1.filter isCode, c.before args0 about1 = true := by
  rw [codes_eq]
  intro c hc
  simp only [codes1, List.mem_cons, List.not_mem_nil, or_false] at hc
  rcases hc with rfl | rfl
  · exact w_c0
  · exact w_c1
set_option maxRecDepth 65536 in
theorem w_t1 : words1.all (fun c => isCode c || c.before args0 about1) = true := by decide +kernel
theorem w_tables : (allAtoms (Jvm.Cond.code x code maxLocals ret :: tables_1)).before args0 about1 = true := by
  rw [allAtoms_all]
  show words1.all (fun c => c.before args0 about1) = true
  refine all_split ?_ w_codes
  rw [w_t1]
set_option maxRecDepth 65536 in
theorem w_case : (Jvm.Cond.and given_1 narrow_1).before args0 about1 = true := by decide +kernel
theorem w_applies : (headSpec (Jvm.Cond.code x code maxLocals ret :: tables_1) room_1).applies x e0.platform about1 = true :=
  (Spec.applies_iff w_frames).mpr ⟨w_running, w_runnable, w_alone, w_named, w_hears, w_ripe, w_room, w_tables⟩
theorem atStart : AtStart classFile x code maxLocals ret World_1 tables_1 room_1 Calls_1 rest_1 Pre_1 launch0 p0 e0 about1 theMethod args0 below0 :=
  ⟨lists_1, trivial, launch0.admits_env _ _ _, launch0.least_env, fairChoices_fair.cas, fairChoices_fair.clock, w_frames, w_args, w_heap, w_applies, trivial, trivial, w_case⟩
end start1
theorem witness_1 : WitnessClaimed_1 := ⟨start1.p0, start1.e0, start1.about1, start1.theMethod, start1.args0, start1.below0, start1.atStart⟩
end Jvm.Pilot.@@N@@
