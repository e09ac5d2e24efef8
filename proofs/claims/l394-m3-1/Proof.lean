import JvmDerived
import JvmDerived.Pilot.@@N@@Statement
import JvmDerived.Pilot.@@N@@Code
set_option linter.unusedVariables false
set_option linter.unusedSimpArgs false
namespace Jvm.Pilot.@@N@@
open Jvm Jvm.ClassFile Sem Op Lib Jvm.Free Jvm.Stand Jvm.LawKit Jvm.RoadKit Bundle Jvm.Pilot.@@N@@.Jvm.D
abbrev oU : Slot := .unset
abbrev oS : Slot := .second
abbrev oN : Slot := .val .null
abbrev oI (x : Int32) : Slot := .val (.int x)
abbrev oJ (x : Int64) : Slot := .val (.long x)
abbrev oR (a : Addr) : Slot := .val (.ref a)
section Own
variable {p : Program} {l : Launch} {e : Env} {R : Room} {s : State} {m : MethodId} {args : Array Value} {below : List Frame} {meth : Method} {c : Code} {T : State} {locs : List Loc} {cells slots : Nat} {Q : Option Value → Heap → List Loc → Prop} {kc ks : Nat} {Z : State} {a0 : Array Value} {h : Heap}
/-- from the state st the body comes to its end, and Q holds there -/
def own_Fin (p : Program) (e : Env) (below : List Frame) (s : State) (Q : Option Value → Heap → List Loc → Prop) (kc ks : Nat) (st : State) : Prop :=
  ∃ s₂ o, Steps p.tables e below st s₂ ∧ s₂.status = .running ∧ Ended s₂ below o ∧ ∃ v L, o = .returned v ∧ Q v s₂.heap L ∧ FrameEnd s o s₂ L kc ks
abbrev own_Go (X : Stand p l e R s m args below meth c T locs cells slots) (Q : Option Value → Heap → List Loc → Prop) (kc ks : Nat) (pc : Nat) (Ls : Array Slot) (S : List Value) : Prop := own_Fin p e below s Q kc ks (T.setTop (mkF m pc Ls S))
theorem own_st {a b : State} (hst : ∀ t, Steps p.tables e below b t → Steps p.tables e below a t) (k : own_Fin p e below s Q kc ks b) : own_Fin p e below s Q kc ks a := by
  obtain ⟨s₂, o, h1, r⟩ := k
  exact ⟨s₂, o, hst _ h1, r⟩
theorem own_cast {g g' : JFrame} (q : g = g') (k : own_Fin p e below s Q kc ks (T.setTop g')) : own_Fin p e below s Q kc ks (T.setTop g) := q ▸ k
theorem own_end (X : Stand p l e R s m args below meth c T locs cells slots) {v : Option Value} {a : State} (hv : meth.sig.returnType = none → v = none) (hlocks : meth.locks = false) (eT : T.heap = h)
    (hs : ∀ fs, (∀ (f : JFrame) (acts : List Action), f.method = m → f.locked = none → f.entered = [] → (doReturn e (T.setTop f) acts v).1 = T.setFrames fs) → Steps p.tables e below a (T.setFrames fs))
    (hc : cells ≤ kc) (hl : slots ≤ ks) (hq : Q v h locs) : own_Fin p e below s Q kc ks a := by
  obtain ⟨fs, hr, hrun, hended, hW, hsame⟩ := X.leave hv hlocks
  exact ⟨_, _, hs fs hr, hrun, hended, _, _, rfl, by show Q v T.heap locs; rw [eT]; exact hq, ⟨_, rfl⟩, hW, hsame.mono hc hl⟩
theorem own_retV (X : Stand p l e R s m args below meth c T locs cells slots) (hx : p.tables.exec = Jvm.exec) (hret : meth.sig.returnType = none) (hlocks : meth.locks = false) (eT : T.heap = h) {pc : Nat} {Ls : Array Slot} (hd : decode c.code pc = .ok (.return_, 1)) (hc : cells ≤ kc) (hl : slots ≤ ks) (hq : Q none h locs) :
    own_Fin p e below s Q kc ks (T.setTop (mkF m pc Ls [])) := own_end X (fun _ => rfl) hlocks eT (fun _ hr => X.returnOut hx hret hd hr) hc hl hq
theorem own_retN (X : Stand p l e R s m args below meth c T locs cells slots) (hx : p.tables.exec = Jvm.exec) {t : FieldType} (hret : meth.sig.returnType = some t) (ht : t = .boolean ∨ t = .byte ∨ t = .char ∨ t = .short) (hlocks : meth.locks = false) (eT : T.heap = h) {pc : Nat} {Ls : Array Slot} {z : Int32} {rest : List Value} (hd : decode c.code pc = .ok (.ireturn, 1)) (hc : cells ≤ kc) (hl : slots ≤ ks) (hq : Q (some (.int (nar t z))) h locs) :
    own_Fin p e below s Q kc ks (T.setTop (mkF m pc Ls (.int z :: rest))) := own_end X (fun h => by rw [hret] at h; cases h) hlocks eT (fun _ hr => retN X hx hret ht hd hr) hc hl hq
theorem own_retI (X : Stand p l e R s m args below meth c T locs cells slots) (hx : p.tables.exec = Jvm.exec) (hret : meth.sig.returnType = some .int) (hlocks : meth.locks = false) (eT : T.heap = h) {pc : Nat} {Ls : Array Slot} {z : Int32} {rest : List Value} (hd : decode c.code pc = .ok (.ireturn, 1)) (hc : cells ≤ kc) (hl : slots ≤ ks) (hq : Q (some (.int z)) h locs) :
    own_Fin p e below s Q kc ks (T.setTop (mkF m pc Ls (.int z :: rest))) := own_end X (fun h => by rw [hret] at h; cases h) hlocks eT (fun _ hr => retOut X hx hret rfl (Or.inl ⟨rfl, Or.inl rfl, _, rfl⟩) hd hr) hc hl hq
theorem own_retJ (X : Stand p l e R s m args below meth c T locs cells slots) (hx : p.tables.exec = Jvm.exec) (hret : meth.sig.returnType = some .long) (hlocks : meth.locks = false) (eT : T.heap = h) {pc : Nat} {Ls : Array Slot} {z : Int64} {rest : List Value} (hd : decode c.code pc = .ok (.lreturn, 1)) (hc : cells ≤ kc) (hl : slots ≤ ks) (hq : Q (some (.long z)) h locs) :
    own_Fin p e below s Q kc ks (T.setTop (mkF m pc Ls (.long z :: rest))) := own_end X (fun h => by rw [hret] at h; cases h) hlocks eT (fun _ hr => retOut X hx hret rfl (Or.inr (Or.inl ⟨rfl, rfl, _, rfl⟩)) hd hr) hc hl hq
theorem own_retA (X : Stand p l e R s m args below meth c T locs cells slots) (hx : p.tables.exec = Jvm.exec) {t : FieldType} (hret : meth.sig.returnType = some t) (ht : t.isReference = true) (hlocks : meth.locks = false) (eT : T.heap = h) {pc : Nat} {Ls : Array Slot} {a : Addr} {rest : List Value} (hd : decode c.code pc = .ok (.areturn, 1)) (hc : cells ≤ kc) (hl : slots ≤ ks) (hq : Q (some (.ref a)) h locs) :
    own_Fin p e below s Q kc ks (T.setTop (mkF m pc Ls (.ref a :: rest))) := own_end X (fun h => by rw [hret] at h; cases h) hlocks eT (fun _ hr => retOut X hx hret (by cases t <;> first | rfl | cases ht) (Or.inr (Or.inr (Or.inr (Or.inr ⟨rfl, ht, rfl⟩)))) hd hr) hc hl hq
theorem own_nar1 : nar .boolean 1 = 1 := by decide
theorem own_nar0 : nar .boolean 0 = 0 := by decide
theorem own_lrem {g : JFrame} {target : State} (X : Stand p l e R s m args below meth c T locs cells slots) (hx : p.tables.exec = Jvm.exec) (hg : g.method = m) {x y : Int64} {rest : List Value} (hd : decode c.code g.pc = .ok (.lrem, 1)) (hs : g.stack = .long y :: .long x :: rest) (hy : y ≠ 0)
    (hr : Steps p.tables e below (T.setTop { g with pc := g.pc + 1, stack := .long (x % y) :: rest }) target) : Steps p.tables e below (T.setTop g) target := by
  have q : x - x / y * y = x % y := lrem_mod x y
  exact XS.lrem X.here hx hg hd hs hy (by rw [q]; exact hr)
/-! the calls -/
variable {y z : MethodName} {bytes : ByteArray} {maxL : Nat} {ret : Option FieldType} {rm : Room} {W : Nat} {as' : Array Value} {Qc : Option Value → Heap → List Loc → Prop} {own C : String} {index : Nat}
theorem own_callS (X : Stand p l e R s m args below meth c T locs cells slots) (hx : p.tables.exec = Jvm.exec) (hZ : Z.Warmed39 s.vm) (hown : s.vm.findClass own = some m.cls)
    (wl : (Cond.methodLink own index y).before a0 Z = true) (ws : (Cond.static y).before a0 Z = true) (wz : (Cond.initialized y.cls).before a0 Z = true) (wc : (Cond.code y bytes maxL ret).before a0 Z = true)
    (hy : y.cls ≠ "java/lang/invoke/MethodHandle" ∧ y.cls ≠ "java/lang/invoke/VarHandle")
    (hM : MetFree l y (head1 [Cond.code y bytes maxL ret] rm) (fun a U => a = as' ∧ Z.Warmed39 U.vm ∧ U.heap = h) (fun _ _ _ _ _ => True) (fun _ U o U' => ∃ v L, o = .returned v ∧ Qc v U'.heap L ∧ FrameEnd U o U' L rm.cells rm.slots))
    (hf : rm.frames + 1 ≤ R.frames) (hl : W + (maxL + 11) + rm.locals ≤ R.locals) {pc : Nat} {Ls : Array Slot} {S : List Value} (hsize : Ls.size = c.maxLocals) (argsL rest : List Value)
    (hlen : ∀ sig, parseMethodDescriptor y.desc = some sig → argsL.length = sig.parameters.length) (hS : S = argsL.reverse ++ rest) (ha : argsL.toArray = as') (hW : (rest.map fun v => v.category).sum ≤ W)
    (hd : decode c.code pc = .ok (.invokestatic index, 3)) (eT : T.heap = h) (hcl : cells + rm.cells ≤ R.cells) (hsl : slots + rm.slots ≤ R.slots)
    (k : ∀ (v : Option Value) (T' : State) (L' : List Loc) (X' : Stand p l e R s m args below meth c T' (locs ++ L') (cells + rm.cells) (slots + rm.slots)), Qc v T'.heap L' → own_Fin p e below s Q kc ks (T'.setTop (mkF m (pc + 3) Ls (v.toList ++ rest)))) :
    own_Fin p e below s Q kc ks (T.setTop (mkF m pc Ls S)) := by
  subst hS
  obtain ⟨v, _, ⟨T', L1, k1, n1⟩, -, X', ⟨L', hQ, l1, y1, z1⟩, st⟩ := Jvm.LawKit.callS X hx (y := y) hown (mvT hZ wl) (mvT hZ ws) (mvT hZ wz) (mvT hZ wc) hy (backOf (W := W) hM hZ wc wz hf hl) (g := mkF m pc Ls (argsL.reverse ++ rest)) rfl hsize (argsL := argsL) (rest := rest) hlen rfl (by show 2 * 0 + _ ≤ _; omega) hd (fun _ _ => ⟨ha, eT, hcl, hsl⟩)
  dsimp only [Pt.U, Pt.locs, Pt.cells, Pt.slots] at X' l1 y1 z1 st hQ
  subst l1 y1 z1
  exact own_st (fun t => st t) (k v T' L' X' hQ)
theorem own_callI (X : Stand p l e R s m args below meth c T locs cells slots) (hx : p.tables.exec = Jvm.exec) (hZ : Z.Warmed39 s.vm) (hown : s.vm.findClass own = some m.cls)
    (wl : (Cond.methodLink own index y).before a0 Z = true) (ws : (Cond.instanceMethod y).before a0 Z = true) (wz : (Cond.initialized y.cls).before a0 Z = true) (wc : (Cond.code y bytes maxL none).before a0 Z = true)
    (hn : y.name = "<init>") (hy : y.cls ≠ "java/lang/invoke/MethodHandle" ∧ y.cls ≠ "java/lang/invoke/VarHandle")
    (hM : MetFree l y (head1 [Cond.code y bytes maxL none] rm) (fun a U => a = as' ∧ Z.Warmed39 U.vm ∧ U.heap = h) (fun _ _ _ _ _ => True) (fun _ U o U' => ∃ v L, o = .returned v ∧ Qc v U'.heap L ∧ FrameEnd U o U' L rm.cells rm.slots))
    (hf : rm.frames + 1 ≤ R.frames) (hl : W + (maxL + 11) + rm.locals ≤ R.locals) {pc : Nat} {Ls : Array Slot} {S : List Value} (hsize : Ls.size = c.maxLocals) (a : Addr) (argsL rest : List Value)
    (hlen : ∀ sig, parseMethodDescriptor y.desc = some sig → argsL.length = sig.parameters.length) (hS : S = argsL.reverse ++ .ref a :: rest) (ha : (Value.ref a :: argsL).toArray = as') (hW : (rest.map fun v => v.category).sum ≤ W)
    (hd : decode c.code pc = .ok (.invokespecial index, 3)) (eT : T.heap = h) (hcl : cells + rm.cells ≤ R.cells) (hsl : slots + rm.slots ≤ R.slots)
    (k : ∀ (v : Option Value) (T' : State) (L' : List Loc) (X' : Stand p l e R s m args below meth c T' (locs ++ L') (cells + rm.cells) (slots + rm.slots)), Qc v T'.heap L' → own_Fin p e below s Q kc ks (T'.setTop (mkF m (pc + 3) Ls (v.toList ++ rest)))) :
    own_Fin p e below s Q kc ks (T.setTop (mkF m pc Ls S)) := by
  subst hS
  obtain ⟨v, _, ⟨T', L1, k1, n1⟩, -, X', ⟨L', hQ, l1, y1, z1⟩, st⟩ := X.specialBack hx (y := y) hn hown (mvT hZ wl) (mvT hZ ws) (mvT hZ wc) hy (backOf (W := W) hM hZ wc wz hf hl) (g := mkF m pc Ls (argsL.reverse ++ .ref a :: rest)) rfl hsize (Steps.refl _) (a := a) (argsL := argsL) (rest := rest) hlen rfl (by show 2 * 0 + _ ≤ _; omega) hd (fun _ _ => ⟨ha, eT, hcl, hsl⟩)
  dsimp only [Pt.U, Pt.locs, Pt.cells, Pt.slots] at X' l1 y1 z1 st hQ
  subst l1 y1 z1
  exact own_st (fun t => st.trans) (k v T' L' X' hQ)
theorem own_callV (X : Stand p l e R s m args below meth c T locs cells slots) (hx : p.tables.exec = Jvm.exec) (hZ : Z.Warmed39 s.vm) (hown : s.vm.findClass own = some m.cls)
    (wl : (Cond.methodLink own index y).before a0 Z = true) (wd : (Cond.declares y).before a0 Z = true) (wsel : (Cond.selects C y y).before a0 Z = true) (ws : (Cond.instanceMethod y).before a0 Z = true) (wz : (Cond.initialized y.cls).before a0 Z = true) (wc : (Cond.code y bytes maxL ret).before a0 Z = true)
    (hy : y.cls ≠ "java/lang/invoke/MethodHandle" ∧ y.cls ≠ "java/lang/invoke/VarHandle")
    (hM : MetFree l y (head1 [Cond.code y bytes maxL ret] rm) (fun a U => a = as' ∧ Z.Warmed39 U.vm ∧ U.heap = h) (fun _ _ _ _ _ => True) (fun _ U o U' => ∃ v L, o = .returned v ∧ Qc v U'.heap L ∧ FrameEnd U o U' L rm.cells rm.slots))
    (hf : rm.frames + 1 ≤ R.frames) (hl : W + (maxL + 11) + rm.locals ≤ R.locals) {pc : Nat} {Ls : Array Slot} {S : List Value} (hsize : Ls.size = c.maxLocals) (a : Addr) (argsL rest : List Value)
    (hlen : ∀ sig, parseMethodDescriptor y.desc = some sig → argsL.length = sig.parameters.length) (hS : S = argsL.reverse ++ .ref a :: rest) (ha : (Value.ref a :: argsL).toArray = as') (hW : (rest.map fun v => v.category).sum ≤ W)
    (hd : decode c.code pc = .ok (.invokevirtual index, 3)) (eT : T.heap = h) (EA : Exa Z h a C) (hcl : cells + rm.cells ≤ R.cells) (hsl : slots + rm.slots ≤ R.slots)
    (k : ∀ (v : Option Value) (T' : State) (L' : List Loc) (X' : Stand p l e R s m args below meth c T' (locs ++ L') (cells + rm.cells) (slots + rm.slots)), Qc v T'.heap L' → own_Fin p e below s Q kc ks (T'.setTop (mkF m (pc + 3) Ls (v.toList ++ rest)))) :
    own_Fin p e below s Q kc ks (T.setTop (mkF m pc Ls S)) := by
  subst hS
  obtain ⟨cq, kq, q1, q2, q3⟩ := isOf hZ eT EA
  obtain ⟨v, _, ⟨T', L1, k1, n1⟩, -, X', ⟨L', hQ, l1, y1, z1⟩, st⟩ := X.virtualBack hx (y := y) (z := y) hown (mvT hZ wl) (mvT hZ wd) (notFace_of_selects (args := #[]) (mvT hZ wsel)) (mvT hZ wsel) (mvT hZ ws) hy (backOf (W := W) hM hZ wc wz hf hl) q1 q3 (g := mkF m pc Ls (argsL.reverse ++ .ref a :: rest)) rfl hsize (Steps.refl _) (argsL := argsL) (rest := rest) hlen rfl (by show 2 * 0 + _ ≤ _; omega) hd (fun _ _ => ⟨ha, eT, hcl, hsl⟩)
  dsimp only [Pt.U, Pt.locs, Pt.cells, Pt.slots] at X' l1 y1 z1 st hQ
  subst l1 y1 z1
  exact own_st (fun t => st.trans) (k v T' L' X' hQ)
/-! arrays -/
variable {a : Addr} {kA : ClassId} {n j x : Int32} {vs : List Value} {dv : Value}
theorem own_stI (X : Stand p l e R s m args below meth c T locs cells slots) (hx : p.tables.exec = Jvm.exec) (hZ : Z.Warmed39 s.vm) (eT : T.heap = h) (V : Arv Z h a kA .int n vs dv) (q : ¬ j < 0 ∧ j < n) (hi : j.toNatClampNeg < vs.length) {g : JFrame} (hg : g.method = m) {rest : List Value} (hs : g.stack = .int x :: .int j :: .ref a :: rest) (hd : decode c.code g.pc = .ok (.iastore, 1)) :
    ∃ T' h', Stand p l e R s m args below meth c T' (locs ++ [⟨a, j.toNatClampNeg⟩]) cells slots ∧ T'.heap = h' ∧ Wr h h' a j.toNatClampNeg (.int x) ∧ Arv Z h' a kA .int n (vs.set j.toNatClampNeg (.int x)) dv ∧ ∀ target, Steps p.tables e below (T'.setTop { g with pc := g.pc + 1, stack := rest }) target → Steps p.tables e below (T.setTop g) target := by
  obtain ⟨cl, Ar, q1, S1, N1, H1, G1⟩ := V
  obtain ⟨T', h', X', e', W', st⟩ := stI X hx hZ eT Ar (inb_of S1 q) hg hs hd
  exact ⟨T', h', X', e', W', Arv.set Ar q1 S1 N1 H1 G1 rfl W' _ rfl hi, st⟩
theorem own_stB (X : Stand p l e R s m args below meth c T locs cells slots) (hx : p.tables.exec = Jvm.exec) (hZ : Z.Warmed39 s.vm) (eT : T.heap = h) (V : Arv Z h a kA .byte n vs dv) (q : ¬ j < 0 ∧ j < n) (hi : j.toNatClampNeg < vs.length) {g : JFrame} (hg : g.method = m) {rest : List Value} (hs : g.stack = .int x :: .int j :: .ref a :: rest) (hd : decode c.code g.pc = .ok (.bastore, 1)) :
    ∃ T' h', Stand p l e R s m args below meth c T' (locs ++ [⟨a, j.toNatClampNeg⟩]) cells slots ∧ T'.heap = h' ∧ Wr h h' a j.toNatClampNeg (.int (nar .byte x)) ∧ Arv Z h' a kA .byte n (vs.set j.toNatClampNeg (.int x.toInt8.toInt32)) dv ∧ ∀ target, Steps p.tables e below (T'.setTop { g with pc := g.pc + 1, stack := rest }) target → Steps p.tables e below (T.setTop g) target := by
  obtain ⟨cl, Ar, q1, S1, N1, H1, G1⟩ := V
  obtain ⟨T', h', X', e', W', st⟩ := stB X hx hZ eT Ar (inb_of S1 q) hg hs hd
  exact ⟨T', h', X', e', W', Arv.set Ar q1 S1 N1 H1 G1 (fits_nar_byte x) W' _ rfl hi, st⟩
theorem own_stJ {x : Int64} (X : Stand p l e R s m args below meth c T locs cells slots) (hx : p.tables.exec = Jvm.exec) (hZ : Z.Warmed39 s.vm) (eT : T.heap = h) (V : Arv Z h a kA .long n vs dv) (q : ¬ j < 0 ∧ j < n) (hi : j.toNatClampNeg < vs.length) {g : JFrame} (hg : g.method = m) {rest : List Value} (hs : g.stack = .long x :: .int j :: .ref a :: rest) (hd : decode c.code g.pc = .ok (.lastore, 1)) :
    ∃ T' h', Stand p l e R s m args below meth c T' (locs ++ [⟨a, j.toNatClampNeg⟩]) cells slots ∧ T'.heap = h' ∧ Wr h h' a j.toNatClampNeg (.long x) ∧ Arv Z h' a kA .long n (vs.set j.toNatClampNeg (.long x)) dv ∧ ∀ target, Steps p.tables e below (T'.setTop { g with pc := g.pc + 1, stack := rest }) target → Steps p.tables e below (T.setTop g) target := by
  obtain ⟨cl, Ar, q1, S1, N1, H1, G1⟩ := V
  obtain ⟨T', h', X', e', W', st⟩ := stJ X hx hZ eT Ar (inb_of S1 q) hg hs hd
  exact ⟨T', h', X', e', W', Arv.set Ar q1 S1 N1 H1 G1 rfl W' _ rfl hi, st⟩
theorem own_ldI (X : Stand p l e R s m args below meth c T locs cells slots) (hx : p.tables.exec = Jvm.exec) (hZ : Z.Warmed39 s.vm) (eT : T.heap = h) (V : Arv Z h a kA .int n vs dv) (q : ¬ j < 0 ∧ j < n) {v : Value} (hv : vs.getD j.toNatClampNeg dv = v) {g : JFrame} (hg : g.method = m) {rest : List Value} (hs : g.stack = .int j :: .ref a :: rest) (hd : decode c.code g.pc = .ok (.iaload, 1)) :
    ∀ target, Steps p.tables e below (T.setTop { g with pc := g.pc + 1, stack := v :: rest }) target → Steps p.tables e below (T.setTop g) target := by
  obtain ⟨cl, Ar, q1, S1, N1, H1, G1⟩ := V
  exact X.iaload hx (by rw [eT]; exact Ar.1) (State.isArrayOf_alike hZ.alike Ar.2.1) Ar.2.2 (inb_of S1 q) (H1.at (inb_of S1 q) hv) hg hs hd
theorem own_ldB (X : Stand p l e R s m args below meth c T locs cells slots) (hx : p.tables.exec = Jvm.exec) (hZ : Z.Warmed39 s.vm) (eT : T.heap = h) (V : Arv Z h a kA .byte n vs dv) (q : ¬ j < 0 ∧ j < n) {v : Value} (hv : vs.getD j.toNatClampNeg dv = v) {g : JFrame} (hg : g.method = m) {rest : List Value} (hs : g.stack = .int j :: .ref a :: rest) (hd : decode c.code g.pc = .ok (.baload, 1)) :
    ∀ target, Steps p.tables e below (T.setTop { g with pc := g.pc + 1, stack := v :: rest }) target → Steps p.tables e below (T.setTop g) target := by
  obtain ⟨cl, Ar, q1, S1, N1, H1, G1⟩ := V
  exact X.baloadBytes hx (by rw [eT]; exact Ar.1) (State.isArrayOf_alike hZ.alike Ar.2.1) Ar.2.2 (inb_of S1 q) (H1.at (inb_of S1 q) hv) hg hs hd
theorem own_ldJ (X : Stand p l e R s m args below meth c T locs cells slots) (hx : p.tables.exec = Jvm.exec) (hZ : Z.Warmed39 s.vm) (eT : T.heap = h) (V : Arv Z h a kA .long n vs dv) (q : ¬ j < 0 ∧ j < n) {v : Value} (hv : vs.getD j.toNatClampNeg dv = v) {g : JFrame} (hg : g.method = m) {rest : List Value} (hs : g.stack = .int j :: .ref a :: rest) (hd : decode c.code g.pc = .ok (.laload, 1)) :
    ∀ target, Steps p.tables e below (T.setTop { g with pc := g.pc + 1, stack := v :: rest }) target → Steps p.tables e below (T.setTop g) target := by
  obtain ⟨cl, Ar, q1, S1, N1, H1, G1⟩ := V
  exact X.laload hx (by rw [eT]; exact Ar.1) (State.isArrayOf_alike hZ.alike Ar.2.1) Ar.2.2 (inb_of S1 q) (H1.at (inb_of S1 q) hv) hg hs hd
theorem own_len {ty : FieldType} (X : Stand p l e R s m args below meth c T locs cells slots) (hx : p.tables.exec = Jvm.exec) (hZ : Z.Warmed39 s.vm) (eT : T.heap = h) (V : Arv Z h a kA ty n vs dv) {g : JFrame} (hg : g.method = m) {rest : List Value} (hs : g.stack = .ref a :: rest) (hd : decode c.code g.pc = .ok (.arraylength, 1)) :
    ∀ target, Steps p.tables e below (T.setTop { g with pc := g.pc + 1, stack := .int n :: rest }) target → Steps p.tables e below (T.setTop g) target := by
  obtain ⟨cl, Ar, q1, S1, N1, H1, G1⟩ := V
  intro t k
  refine X.arraylength hx (by rw [eT]; exact Ar.1) (State.isArrayOf_alike hZ.alike Ar.2.1) hg hs hd t ?_
  rw [len_of S1 N1]; exact k
end Own

def own_max (x y : Int64) : Int64 := if x < y then y else x
def own_addr (a b : Int32) : Int32 := if a < 4 then 0 else if b < 8 then 1 else 0
theorem own_max0 (k : Int64) (a : Int32) (hk : 0 < k.toInt) (hk' : k.toInt < 100) : (own_max 0 (k - a.toInt64) = 0 ↔ k.toInt ≤ a.toInt) ∧ (0 < own_max 0 (k - a.toInt64) ↔ a.toInt < k.toInt) := by
  have h := c_lsub k a.toInt64
  have h0 := c_i2l a
  have h1 := rng32 a
  have h2 := rng64 (k - a.toInt64)
  have e4 : (0 : Int64).toInt = 0 := by decide
  unfold own_max
  split
  · rename_i q
    rw [Int64.lt_iff_toInt_lt, e4] at q
    rw [← Int64.toInt_inj, Int64.lt_iff_toInt_lt, e4]
    constructor <;> constructor <;> intro _ <;> omega
  · rename_i q
    rw [Int64.lt_iff_toInt_lt, e4] at q
    rw [Int64.lt_iff_toInt_lt, e4]
    refine ⟨⟨fun _ => by omega, fun _ => rfl⟩, ⟨fun _ => by omega, fun _ => by omega⟩⟩
theorem own_f (a b : Int32) : own_addr a b = if own_max 0 (4 - a.toInt64) = 0 then (if 0 < own_max 0 (8 - b.toInt64) then 1 else 0) else 0 := by
  have e4 : (4 : Int64).toInt = 4 := by decide
  have e8 : (8 : Int64).toInt = 8 := by decide
  have f4 : (4 : Int32).toInt = 4 := by decide
  have f8 : (8 : Int32).toInt = 8 := by decide
  simp only [(own_max0 4 a (by decide) (by decide)).1, (own_max0 8 b (by decide) (by decide)).2, own_addr, Int32.lt_iff_toInt_lt, e4, e8, f4, f8]
  by_cases q : a.toInt < 4
  · rw [if_pos q, if_neg (show ¬ 4 ≤ a.toInt by omega)]
  · rw [if_neg q, if_pos (show 4 ≤ a.toInt by omega)]
theorem d1_0 : decode jdk_29_method_66_code 0 = .ok (.lload_n 0, 1) := by decide +kernel
theorem d1_1 : decode jdk_29_method_66_code 1 = .ok (.lload_n 2, 1) := by decide +kernel
theorem d1_2 : decode jdk_29_method_66_code 2 = .ok (.lcmp, 1) := by decide +kernel
theorem d1_3 : decode jdk_29_method_66_code 3 = .ok (.ifCond .lt 7, 3) := by decide +kernel
theorem d1_6 : decode jdk_29_method_66_code 6 = .ok (.lload_n 0, 1) := by decide +kernel
theorem d1_7 : decode jdk_29_method_66_code 7 = .ok (.goto 4, 3) := by decide +kernel
theorem d1_10 : decode jdk_29_method_66_code 10 = .ok (.lload_n 2, 1) := by decide +kernel
theorem d1_11 : decode jdk_29_method_66_code 11 = .ok (.lreturn, 1) := by decide +kernel
theorem ef_1 (m : MethodId) (q0 : Int64) (q1 : Int64) : entryFrame m #[(.long q0), (.long q1)] 4 = mkF m 0 #[.val (.long q0), .second, .val (.long q1), .second] [] := by first | (simp [entryFrame, mkF, argsToLocals, Value.category]; done) | rfl
def Q1 (Z : State) (q0 : Int64) (q1 : Int64)  (h0 : Heap) (n0 : Nat) (v : Option Value) (h : Heap) (L : List Loc) : Prop := v = some (.long (own_max q0 q1)) ∧ Fr n0 L ∧ h = h0
set_option maxRecDepth 65536 in
set_option maxHeartbeats 40000000 in
theorem rm1 (l : Launch) (Z : State) (a0 : Array Value) (hw : ∀ d ∈ tables_1, d.before a0 Z = true) (ws : List Jvm.Cond) (q0 : Int64) (q1 : Int64)  (h0 : Heap) (n0 : Nat) (Z0 : n0 ≤ h0.size)  :
    MetFree l (⟨"java/lang/Math", "max", "(JJ)J"⟩ : MethodName) (head1 (Jvm.Cond.code (⟨"java/lang/Math", "max", "(JJ)J"⟩ : MethodName) jdk_29_method_66_code 4 (some .long) :: ws) ({ frames := 0, cells := 0, slots := 0, locals := 0 } : Room)) (fun a U => a = #[(.long q0), (.long q1)] ∧ Z.Warmed39 U.vm ∧ U.heap = h0) (fun _ _ _ _ _ => True) (fun _ U o U' => ∃ v L, o = .returned v ∧ Q1 Z q0 q1 h0 n0 v U'.heap L ∧ FrameEnd U o U' L ({ frames := 0, cells := 0, slots := 0, locals := 0 } : Room).cells ({ frames := 0, cells := 0, slots := 0, locals := 0 } : Room).slots) := by
  refine MetFree.of_bodySF (Jvm.Free.JP.mathPlain rfl (by decide +kernel)) hisR ?_
  intro p e s m args below meth c s₁ Bd hml0 hP hK
  obtain ⟨rfl, hZ, hh⟩ := hP
  have hx := Bd.exec
  have hby := Bd.bytes
  have hml : c.maxLocals = 4 := hml0
  have hown : s.vm.findClass "java/lang/Math" = some m.cls := findClass_of_methodNamed Bd.named
  have hnm := (name_of_methodNamed Bd.named Bd.method).1
  have hlk : meth.locks = false := Bd.notSynchronized
  have X0 : Stand p l e ({ frames := 0, cells := 0, slots := 0, locals := 0 } : Room) s m #[(.long q0), (.long q1)] below meth c s₁ [] 0 0 := Stand.of_body Bd
  have e0 : s₁.heap = h0 := by rw [← hh, Bd.state]; rfl
  have N0 := Fr.nil n0
  refine own_cast (Q := Q1 Z q0 q1 h0 n0) (kc := 0) (ks := 0) (ef_1 m q0 q1) ?_
  refine own_st (fun _ k => XS.lloadN X0.here hx rfl (hb hby d1_0) rfl k) ?_
  show own_Go X0 (Q1 Z q0 q1 h0 n0) 0 0 1 #[.val (.long q0), .second, .val (.long q1), .second] [(.long q0)]
  refine own_st (fun _ k => XS.lloadN X0.here hx rfl (hb hby d1_1) rfl k) ?_
  show own_Go X0 (Q1 Z q0 q1 h0 n0) 0 0 2 #[.val (.long q0), .second, .val (.long q1), .second] [(.long q1), (.long q0)]
  refine own_st (fun _ k => XS.lcmp X0.here hx rfl (hb hby d1_2) rfl k) ?_
  show own_Go X0 (Q1 Z q0 q1 h0 n0) 0 0 3 #[.val (.long q0), .second, .val (.long q1), .second] [(.int (lcmpW q0 q1))]
  by_cases c3_1 : q0 < q1
  · skip
    refine own_st (fun _ k => XS.ifYes X0.here hx rfl (pc0 := 3) (pc' := 10) rfl (hb hby d1_3) rfl ((if0 _ _).trans (tlt ((lw_lt _ _).mpr c3_1)).1) (by decide) (by decide) k) ?_
    show own_Go X0 (Q1 Z q0 q1 h0 n0) 0 0 10 #[.val (.long q0), .second, .val (.long q1), .second] []
    refine own_st (fun _ k => XS.lloadN X0.here hx rfl (hb hby d1_10) rfl k) ?_
    show own_Go X0 (Q1 Z q0 q1 h0 n0) 0 0 11 #[.val (.long q0), .second, .val (.long q1), .second] [(.long q1)]
    refine own_retJ X0 hx Bd.returns hlk e0 (hb hby d1_11) (by decide) (by decide) ?_
    exact ⟨by simp [own_max, own_nar0, own_nar1, c3_1], N0, rfl⟩
  · skip
    refine own_st (fun _ k => XS.ifNo X0.here hx rfl (hb hby d1_3) rfl ((if0 _ _).trans (flt (fun q => c3_1 ((lw_lt _ _).mp q))).1) k) ?_
    show own_Go X0 (Q1 Z q0 q1 h0 n0) 0 0 6 #[.val (.long q0), .second, .val (.long q1), .second] []
    refine own_st (fun _ k => XS.lloadN X0.here hx rfl (hb hby d1_6) rfl k) ?_
    show own_Go X0 (Q1 Z q0 q1 h0 n0) 0 0 7 #[.val (.long q0), .second, .val (.long q1), .second] [(.long q0)]
    refine own_st (fun _ k => XS.goto X0.here hx rfl (pc0 := 7) (pc' := 11) rfl (hb hby d1_7) (by decide) (by decide) k) ?_
    show own_Go X0 (Q1 Z q0 q1 h0 n0) 0 0 11 #[.val (.long q0), .second, .val (.long q1), .second] [(.long q0)]
    refine own_retJ X0 hx Bd.returns hlk e0 (hb hby d1_11) (by decide) (by decide) ?_
    exact ⟨by simp [own_max, own_nar0, own_nar1, c3_1], N0, rfl⟩
theorem d2_0 : decode prog_44_method_4_code 0 = .ok (.iload_n 0, 1) := by decide +kernel
theorem d2_1 : decode prog_44_method_4_code 1 = .ok (.iconst 4, 1) := by decide +kernel
theorem d2_2 : decode prog_44_method_4_code 2 = .ok (.if_icmp .lt 13, 3) := by decide +kernel
theorem d2_5 : decode prog_44_method_4_code 5 = .ok (.iload_n 1, 1) := by decide +kernel
theorem d2_6 : decode prog_44_method_4_code 6 = .ok (.bipush 8, 2) := by decide +kernel
theorem d2_8 : decode prog_44_method_4_code 8 = .ok (.if_icmp .ge 7, 3) := by decide +kernel
theorem d2_11 : decode prog_44_method_4_code 11 = .ok (.iconst 1, 1) := by decide +kernel
theorem d2_12 : decode prog_44_method_4_code 12 = .ok (.goto 4, 3) := by decide +kernel
theorem d2_15 : decode prog_44_method_4_code 15 = .ok (.iconst 0, 1) := by decide +kernel
theorem d2_16 : decode prog_44_method_4_code 16 = .ok (.ireturn, 1) := by decide +kernel
theorem pn_2 : plainName "com/example/linkspan/linkspan/function/SysVConvention" = true := by first | (simp [plainName, overriddenIn]; done) | decide +kernel
theorem ef_2 (m : MethodId) (p0 : Int32) (p1 : Int32) : entryFrame m #[(.int p0), (.int p1)] 2 = mkF m 0 #[.val (.int p0), .val (.int p1)] [] := by first | (simp [entryFrame, mkF, argsToLocals, Value.category]; done) | rfl
def Q2 (Z : State) (p0 : Int32) (p1 : Int32)  (h0 : Heap) (n0 : Nat) (v : Option Value) (h : Heap) (L : List Loc) : Prop := v = some (.int (own_addr p0 p1)) ∧ Fr n0 L ∧ h = h0
set_option maxRecDepth 65536 in
set_option maxHeartbeats 40000000 in
theorem rm2 (l : Launch) (Z : State) (a0 : Array Value) (hw : ∀ d ∈ tables_1, d.before a0 Z = true) (ws : List Jvm.Cond) (p0 : Int32) (p1 : Int32)  (h0 : Heap) (n0 : Nat) (Z0 : n0 ≤ h0.size)  :
    MetFree l (⟨"com/example/linkspan/linkspan/function/SysVConvention", "addressInVectorRegister", "(II)Z"⟩ : MethodName) (head1 (Jvm.Cond.code (⟨"com/example/linkspan/linkspan/function/SysVConvention", "addressInVectorRegister", "(II)Z"⟩ : MethodName) prog_44_method_4_code 2 (some .boolean) :: ws) ({ frames := 0, cells := 0, slots := 0, locals := 0 } : Room)) (fun a U => a = #[(.int p0), (.int p1)] ∧ Z.Warmed39 U.vm ∧ U.heap = h0) (fun _ _ _ _ _ => True) (fun _ U o U' => ∃ v L, o = .returned v ∧ Q2 Z p0 p1 h0 n0 v U'.heap L ∧ FrameEnd U o U' L ({ frames := 0, cells := 0, slots := 0, locals := 0 } : Room).cells ({ frames := 0, cells := 0, slots := 0, locals := 0 } : Room).slots) := by
  refine MetFree.of_bodySF (plainFor_of_name pn_2) hisR ?_
  intro p e s m args below meth c s₁ Bd hml0 hP hK
  obtain ⟨rfl, hZ, hh⟩ := hP
  have hx := Bd.exec
  have hby := Bd.bytes
  have hml : c.maxLocals = 2 := hml0
  have hown : s.vm.findClass "com/example/linkspan/linkspan/function/SysVConvention" = some m.cls := findClass_of_methodNamed Bd.named
  have hnm := (name_of_methodNamed Bd.named Bd.method).1
  have hlk : meth.locks = false := Bd.notSynchronized
  have X0 : Stand p l e ({ frames := 0, cells := 0, slots := 0, locals := 0 } : Room) s m #[(.int p0), (.int p1)] below meth c s₁ [] 0 0 := Stand.of_body Bd
  have e0 : s₁.heap = h0 := by rw [← hh, Bd.state]; rfl
  have N0 := Fr.nil n0
  refine own_cast (Q := Q2 Z p0 p1 h0 n0) (kc := 0) (ks := 0) (ef_2 m p0 p1) ?_
  refine own_st (fun _ k => XS.iloadN X0.here hx rfl (hb hby d2_0) rfl k) ?_
  show own_Go X0 (Q2 Z p0 p1 h0 n0) 0 0 1 #[.val (.int p0), .val (.int p1)] [(.int p0)]
  refine own_st (fun _ k => XS.iconst X0.here hx rfl (hb hby d2_1) k) ?_
  show own_Go X0 (Q2 Z p0 p1 h0 n0) 0 0 2 #[.val (.int p0), .val (.int p1)] [(.int (4 : Int32)), (.int p0)]
  by_cases c2_1 : p0 < (4 : Int32)
  · skip
    refine own_st (fun _ k => XS.icmpYes X0.here hx rfl (pc0 := 2) (pc' := 15) rfl (hb hby d2_2) rfl (tlt c2_1).1 (by decide) (by decide) k) ?_
    show own_Go X0 (Q2 Z p0 p1 h0 n0) 0 0 15 #[.val (.int p0), .val (.int p1)] []
    refine own_st (fun _ k => XS.iconst X0.here hx rfl (hb hby d2_15) k) ?_
    show own_Go X0 (Q2 Z p0 p1 h0 n0) 0 0 16 #[.val (.int p0), .val (.int p1)] [(.int (0 : Int32))]
    refine own_retN X0 hx Bd.returns (by simp) hlk e0 (hb hby d2_16) (by decide) (by decide) ?_
    exact ⟨by simp [own_addr, own_nar0, own_nar1, c2_1], N0, rfl⟩
  · skip
    refine own_st (fun _ k => XS.icmpNo X0.here hx rfl (hb hby d2_2) rfl (flt c2_1).1 k) ?_
    show own_Go X0 (Q2 Z p0 p1 h0 n0) 0 0 5 #[.val (.int p0), .val (.int p1)] []
    refine own_st (fun _ k => XS.iloadN X0.here hx rfl (hb hby d2_5) rfl k) ?_
    show own_Go X0 (Q2 Z p0 p1 h0 n0) 0 0 6 #[.val (.int p0), .val (.int p1)] [(.int p1)]
    refine own_st (fun _ k => XS.bipush X0.here hx rfl (hb hby d2_6) k) ?_
    show own_Go X0 (Q2 Z p0 p1 h0 n0) 0 0 8 #[.val (.int p0), .val (.int p1)] [(.int (8 : Int32)), (.int p1)]
    by_cases c8_2 : p1 < (8 : Int32)
    · skip
      refine own_st (fun _ k => XS.icmpNo X0.here hx rfl (hb hby d2_8) rfl (tlt c8_2).2.1 k) ?_
      show own_Go X0 (Q2 Z p0 p1 h0 n0) 0 0 11 #[.val (.int p0), .val (.int p1)] []
      refine own_st (fun _ k => XS.iconst X0.here hx rfl (hb hby d2_11) k) ?_
      show own_Go X0 (Q2 Z p0 p1 h0 n0) 0 0 12 #[.val (.int p0), .val (.int p1)] [(.int (1 : Int32))]
      refine own_st (fun _ k => XS.goto X0.here hx rfl (pc0 := 12) (pc' := 16) rfl (hb hby d2_12) (by decide) (by decide) k) ?_
      show own_Go X0 (Q2 Z p0 p1 h0 n0) 0 0 16 #[.val (.int p0), .val (.int p1)] [(.int (1 : Int32))]
      refine own_retN X0 hx Bd.returns (by simp) hlk e0 (hb hby d2_16) (by decide) (by decide) ?_
      exact ⟨by simp [own_addr, own_nar0, own_nar1, c2_1, c8_2], N0, rfl⟩
    · skip
      refine own_st (fun _ k => XS.icmpYes X0.here hx rfl (pc0 := 8) (pc' := 15) rfl (hb hby d2_8) rfl (flt c8_2).2.1 (by decide) (by decide) k) ?_
      show own_Go X0 (Q2 Z p0 p1 h0 n0) 0 0 15 #[.val (.int p0), .val (.int p1)] []
      refine own_st (fun _ k => XS.iconst X0.here hx rfl (hb hby d2_15) k) ?_
      show own_Go X0 (Q2 Z p0 p1 h0 n0) 0 0 16 #[.val (.int p0), .val (.int p1)] [(.int (0 : Int32))]
      refine own_retN X0 hx Bd.returns (by simp) hlk e0 (hb hby d2_16) (by decide) (by decide) ?_
      exact ⟨by simp [own_addr, own_nar0, own_nar1, c2_1, c8_2], N0, rfl⟩
theorem pn_0 : plainName "com/example/linkspan/linkspan/function/SysVConventionAddressInVectorRegisterPinLaw" = true := by first | (simp [plainName, overriddenIn]; done) | decide +kernel
theorem pd_0_0 : parseMethodDescriptor "(JJ)J" = some ⟨[.long, .long], some .long⟩ := by decide +kernel
theorem pd_0_1 : parseMethodDescriptor "(II)Z" = some ⟨[.int, .int], some .boolean⟩ := by decide +kernel
theorem ef_0 (m : MethodId) (p0 : Int32) (p1 : Int32) : entryFrame m #[(.int p0), (.int p1)] maxLocals = mkF m 0 #[.val (.int p0), .val (.int p1), .unset, .unset, .unset, .unset, .unset, .unset, .unset, .unset, .unset, .unset] [] := by first | (simp [entryFrame, mkF, argsToLocals, Value.category, maxLocals]; done) | rfl
def Q0 (Z : State) (p0 : Int32) (p1 : Int32)  (h0 : Heap) (n0 : Nat) (v : Option Value) (h : Heap) (L : List Loc) : Prop := v = some (.int 1) ∧ Fr n0 L
set_option maxRecDepth 65536 in
set_option maxHeartbeats 40000000 in
theorem rm0 (l : Launch) (Z : State) (a0 : Array Value) (hw : ∀ d ∈ tables_1, d.before a0 Z = true) (ws : List Jvm.Cond) (p0 : Int32) (p1 : Int32)  (h0 : Heap) (n0 : Nat) (Z0 : n0 ≤ h0.size)  :
    MetFree l x (head1 (Jvm.Cond.code x code maxLocals ret :: ws) room_1) (fun a U => a = #[(.int p0), (.int p1)] ∧ Z.Warmed39 U.vm ∧ U.heap = h0) (fun _ _ _ _ _ => True) (fun _ U o U' => ∃ v L, o = .returned v ∧ Q0 Z p0 p1 h0 n0 v U'.heap L ∧ FrameEnd U o U' L 0 0) := by
  refine MetFree.of_bodySF (plainFor_of_name pn_0) hisR ?_
  intro p e s m args below meth c s₁ Bd hml0 hP hK
  obtain ⟨rfl, hZ, hh⟩ := hP
  have hx := Bd.exec
  have hby := Bd.bytes
  have hml : c.maxLocals = 12 := hml0
  have hown : s.vm.findClass "com/example/linkspan/linkspan/function/SysVConventionAddressInVectorRegisterPinLaw" = some m.cls := findClass_of_methodNamed Bd.named
  have hnm := (name_of_methodNamed Bd.named Bd.method).1
  have hlk : meth.locks = false := Bd.notSynchronized
  have X0 : Stand p l e room_1 s m #[(.int p0), (.int p1)] below meth c s₁ [] 0 0 := Stand.of_body Bd
  have e0 : s₁.heap = h0 := by rw [← hh, Bd.state]; rfl
  have N0 := Fr.nil n0
  refine own_cast (Q := Q0 Z p0 p1 h0 n0) (kc := 0) (ks := 0) (ef_0 m p0 p1) ?_
  refine own_st (fun t k => X0.ldc2Long hx hown (mvT hZ (hw _ (List.mem_of_getElem? (i := 0) rfl))) (g := (mkF m 0 #[.val (.int p0), .val (.int p1), .unset, .unset, .unset, .unset, .unset, .unset, .unset, .unset, .unset, .unset] [])) rfl (hb hby at_0) t k) ?_
  show own_Go X0 (Q0 Z p0 p1 h0 n0) 0 0 3 #[.val (.int p0), .val (.int p1), .unset, .unset, .unset, .unset, .unset, .unset, .unset, .unset, .unset, .unset] [(.long (4 : Int64))]
  refine own_st (fun _ k => XS.lstoreN X0.here hx rfl (hb hby at_3) rfl (l' := #[.val (.int p0), .val (.int p1), .val (.long (4 : Int64)), .second, .unset, .unset, .unset, .unset, .unset, .unset, .unset, .unset]) rfl k) ?_
  show own_Go X0 (Q0 Z p0 p1 h0 n0) 0 0 4 #[.val (.int p0), .val (.int p1), .val (.long (4 : Int64)), .second, .unset, .unset, .unset, .unset, .unset, .unset, .unset, .unset] []
  refine own_st (fun t k => X0.ldc2Long hx hown (mvT hZ (hw _ (List.mem_of_getElem? (i := 1) rfl))) (g := (mkF m 4 #[.val (.int p0), .val (.int p1), .val (.long (4 : Int64)), .second, .unset, .unset, .unset, .unset, .unset, .unset, .unset, .unset] [])) rfl (hb hby at_4) t k) ?_
  show own_Go X0 (Q0 Z p0 p1 h0 n0) 0 0 7 #[.val (.int p0), .val (.int p1), .val (.long (4 : Int64)), .second, .unset, .unset, .unset, .unset, .unset, .unset, .unset, .unset] [(.long (8 : Int64))]
  refine own_st (fun _ k => XS.lstore X0.here hx rfl (hb hby at_7) rfl (l' := #[.val (.int p0), .val (.int p1), .val (.long (4 : Int64)), .second, .val (.long (8 : Int64)), .second, .unset, .unset, .unset, .unset, .unset, .unset]) rfl k) ?_
  show own_Go X0 (Q0 Z p0 p1 h0 n0) 0 0 9 #[.val (.int p0), .val (.int p1), .val (.long (4 : Int64)), .second, .val (.long (8 : Int64)), .second, .unset, .unset, .unset, .unset, .unset, .unset] []
  refine own_st (fun _ k => XS.lconst X0.here hx rfl (hb hby at_9) k) ?_
  show own_Go X0 (Q0 Z p0 p1 h0 n0) 0 0 10 #[.val (.int p0), .val (.int p1), .val (.long (4 : Int64)), .second, .val (.long (8 : Int64)), .second, .unset, .unset, .unset, .unset, .unset, .unset] [(.long (0 : Int64))]
  refine own_st (fun _ k => XS.lloadN X0.here hx rfl (hb hby at_10) rfl k) ?_
  show own_Go X0 (Q0 Z p0 p1 h0 n0) 0 0 11 #[.val (.int p0), .val (.int p1), .val (.long (4 : Int64)), .second, .val (.long (8 : Int64)), .second, .unset, .unset, .unset, .unset, .unset, .unset] [(.long (4 : Int64)), (.long (0 : Int64))]
  refine own_st (fun _ k => XS.iloadN X0.here hx rfl (hb hby at_11) rfl k) ?_
  show own_Go X0 (Q0 Z p0 p1 h0 n0) 0 0 12 #[.val (.int p0), .val (.int p1), .val (.long (4 : Int64)), .second, .val (.long (8 : Int64)), .second, .unset, .unset, .unset, .unset, .unset, .unset] [(.int p0), (.long (4 : Int64)), (.long (0 : Int64))]
  refine own_st (fun _ k => XS.i2l X0.here hx rfl (hb hby at_12) rfl k) ?_
  show own_Go X0 (Q0 Z p0 p1 h0 n0) 0 0 13 #[.val (.int p0), .val (.int p1), .val (.long (4 : Int64)), .second, .val (.long (8 : Int64)), .second, .unset, .unset, .unset, .unset, .unset, .unset] [(.long (p0.toInt64)), (.long (4 : Int64)), (.long (0 : Int64))]
  refine own_st (fun _ k => XS.lsub X0.here hx rfl (hb hby at_13) rfl k) ?_
  show own_Go X0 (Q0 Z p0 p1 h0 n0) 0 0 14 #[.val (.int p0), .val (.int p1), .val (.long (4 : Int64)), .second, .val (.long (8 : Int64)), .second, .unset, .unset, .unset, .unset, .unset, .unset] [(.long ((4 : Int64) - (p0.toInt64))), (.long (0 : Int64))]
  refine own_callS (W := 0) X0 hx hZ hown (hw _ (List.mem_of_getElem? (i := 2) rfl)) (hw _ (List.mem_of_getElem? (i := 3) rfl)) (hw _ (List.mem_of_getElem? (i := 4) rfl)) (hw _ (List.mem_of_getElem? (i := 5) rfl)) (by decide) (rm1 l Z a0 hw [] (0 : Int64) ((4 : Int64) - (p0.toInt64))  h0 n0 Z0 ) (by decide) (by decide) (by rw [hml]; rfl) [(.long (0 : Int64)), (.long ((4 : Int64) - (p0.toInt64)))] [] (lenOf pd_0_0 rfl) rfl rfl (Nat.le_of_ble_eq_true rfl) (hb hby at_14) e0 (by decide) (by decide) ?_
  rintro _ T1 L1 X1 ⟨rfl, N1q, e1⟩
  have N_2 := Fr.app N0 N1q
  show own_Go X1 (Q0 Z p0 p1 h0 n0) 0 0 17 #[.val (.int p0), .val (.int p1), .val (.long (4 : Int64)), .second, .val (.long (8 : Int64)), .second, .unset, .unset, .unset, .unset, .unset, .unset] [(.long (own_max (0 : Int64) ((4 : Int64) - (p0.toInt64))))]
  refine own_st (fun _ k => XS.lstore X1.here hx rfl (hb hby at_17) rfl (l' := #[.val (.int p0), .val (.int p1), .val (.long (4 : Int64)), .second, .val (.long (8 : Int64)), .second, .val (.long (own_max (0 : Int64) ((4 : Int64) - (p0.toInt64)))), .second, .unset, .unset, .unset, .unset]) rfl k) ?_
  show own_Go X1 (Q0 Z p0 p1 h0 n0) 0 0 19 #[.val (.int p0), .val (.int p1), .val (.long (4 : Int64)), .second, .val (.long (8 : Int64)), .second, .val (.long (own_max (0 : Int64) ((4 : Int64) - (p0.toInt64)))), .second, .unset, .unset, .unset, .unset] []
  refine own_st (fun _ k => XS.lconst X1.here hx rfl (hb hby at_19) k) ?_
  show own_Go X1 (Q0 Z p0 p1 h0 n0) 0 0 20 #[.val (.int p0), .val (.int p1), .val (.long (4 : Int64)), .second, .val (.long (8 : Int64)), .second, .val (.long (own_max (0 : Int64) ((4 : Int64) - (p0.toInt64)))), .second, .unset, .unset, .unset, .unset] [(.long (0 : Int64))]
  refine own_st (fun _ k => XS.lload X1.here hx rfl (hb hby at_20) rfl k) ?_
  show own_Go X1 (Q0 Z p0 p1 h0 n0) 0 0 22 #[.val (.int p0), .val (.int p1), .val (.long (4 : Int64)), .second, .val (.long (8 : Int64)), .second, .val (.long (own_max (0 : Int64) ((4 : Int64) - (p0.toInt64)))), .second, .unset, .unset, .unset, .unset] [(.long (8 : Int64)), (.long (0 : Int64))]
  refine own_st (fun _ k => XS.iloadN X1.here hx rfl (hb hby at_22) rfl k) ?_
  show own_Go X1 (Q0 Z p0 p1 h0 n0) 0 0 23 #[.val (.int p0), .val (.int p1), .val (.long (4 : Int64)), .second, .val (.long (8 : Int64)), .second, .val (.long (own_max (0 : Int64) ((4 : Int64) - (p0.toInt64)))), .second, .unset, .unset, .unset, .unset] [(.int p1), (.long (8 : Int64)), (.long (0 : Int64))]
  refine own_st (fun _ k => XS.i2l X1.here hx rfl (hb hby at_23) rfl k) ?_
  show own_Go X1 (Q0 Z p0 p1 h0 n0) 0 0 24 #[.val (.int p0), .val (.int p1), .val (.long (4 : Int64)), .second, .val (.long (8 : Int64)), .second, .val (.long (own_max (0 : Int64) ((4 : Int64) - (p0.toInt64)))), .second, .unset, .unset, .unset, .unset] [(.long (p1.toInt64)), (.long (8 : Int64)), (.long (0 : Int64))]
  refine own_st (fun _ k => XS.lsub X1.here hx rfl (hb hby at_24) rfl k) ?_
  show own_Go X1 (Q0 Z p0 p1 h0 n0) 0 0 25 #[.val (.int p0), .val (.int p1), .val (.long (4 : Int64)), .second, .val (.long (8 : Int64)), .second, .val (.long (own_max (0 : Int64) ((4 : Int64) - (p0.toInt64)))), .second, .unset, .unset, .unset, .unset] [(.long ((8 : Int64) - (p1.toInt64))), (.long (0 : Int64))]
  refine own_callS (W := 0) X1 hx hZ hown (hw _ (List.mem_of_getElem? (i := 2) rfl)) (hw _ (List.mem_of_getElem? (i := 3) rfl)) (hw _ (List.mem_of_getElem? (i := 4) rfl)) (hw _ (List.mem_of_getElem? (i := 5) rfl)) (by decide) (rm1 l Z a0 hw [] (0 : Int64) ((8 : Int64) - (p1.toInt64))  h0 n0 Z0 ) (by decide) (by decide) (by rw [hml]; rfl) [(.long (0 : Int64)), (.long ((8 : Int64) - (p1.toInt64)))] [] (lenOf pd_0_0 rfl) rfl rfl (Nat.le_of_ble_eq_true rfl) (hb hby at_25) e1 (by decide) (by decide) ?_
  rintro _ T3 L3 X3 ⟨rfl, N3q, e3⟩
  have N_4 := Fr.app N_2 N3q
  show own_Go X3 (Q0 Z p0 p1 h0 n0) 0 0 28 #[.val (.int p0), .val (.int p1), .val (.long (4 : Int64)), .second, .val (.long (8 : Int64)), .second, .val (.long (own_max (0 : Int64) ((4 : Int64) - (p0.toInt64)))), .second, .unset, .unset, .unset, .unset] [(.long (own_max (0 : Int64) ((8 : Int64) - (p1.toInt64))))]
  refine own_st (fun _ k => XS.lstore X3.here hx rfl (hb hby at_28) rfl (l' := #[.val (.int p0), .val (.int p1), .val (.long (4 : Int64)), .second, .val (.long (8 : Int64)), .second, .val (.long (own_max (0 : Int64) ((4 : Int64) - (p0.toInt64)))), .second, .val (.long (own_max (0 : Int64) ((8 : Int64) - (p1.toInt64)))), .second, .unset, .unset]) rfl k) ?_
  show own_Go X3 (Q0 Z p0 p1 h0 n0) 0 0 30 #[.val (.int p0), .val (.int p1), .val (.long (4 : Int64)), .second, .val (.long (8 : Int64)), .second, .val (.long (own_max (0 : Int64) ((4 : Int64) - (p0.toInt64)))), .second, .val (.long (own_max (0 : Int64) ((8 : Int64) - (p1.toInt64)))), .second, .unset, .unset] []
  refine own_st (fun _ k => XS.lload X3.here hx rfl (hb hby at_30) rfl k) ?_
  show own_Go X3 (Q0 Z p0 p1 h0 n0) 0 0 32 #[.val (.int p0), .val (.int p1), .val (.long (4 : Int64)), .second, .val (.long (8 : Int64)), .second, .val (.long (own_max (0 : Int64) ((4 : Int64) - (p0.toInt64)))), .second, .val (.long (own_max (0 : Int64) ((8 : Int64) - (p1.toInt64)))), .second, .unset, .unset] [(.long (own_max (0 : Int64) ((4 : Int64) - (p0.toInt64))))]
  refine own_st (fun _ k => XS.lconst X3.here hx rfl (hb hby at_32) k) ?_
  show own_Go X3 (Q0 Z p0 p1 h0 n0) 0 0 33 #[.val (.int p0), .val (.int p1), .val (.long (4 : Int64)), .second, .val (.long (8 : Int64)), .second, .val (.long (own_max (0 : Int64) ((4 : Int64) - (p0.toInt64)))), .second, .val (.long (own_max (0 : Int64) ((8 : Int64) - (p1.toInt64)))), .second, .unset, .unset] [(.long (0 : Int64)), (.long (own_max (0 : Int64) ((4 : Int64) - (p0.toInt64))))]
  refine own_st (fun _ k => XS.lcmp X3.here hx rfl (hb hby at_33) rfl k) ?_
  show own_Go X3 (Q0 Z p0 p1 h0 n0) 0 0 34 #[.val (.int p0), .val (.int p1), .val (.long (4 : Int64)), .second, .val (.long (8 : Int64)), .second, .val (.long (own_max (0 : Int64) ((4 : Int64) - (p0.toInt64)))), .second, .val (.long (own_max (0 : Int64) ((8 : Int64) - (p1.toInt64)))), .second, .unset, .unset] [(.int (lcmpW (own_max (0 : Int64) ((4 : Int64) - (p0.toInt64))) (0 : Int64)))]
  by_cases c34_5 : (own_max (0 : Int64) ((4 : Int64) - (p0.toInt64))) = (0 : Int64)
  · skip
    refine own_st (fun _ k => XS.ifNo X3.here hx rfl (hb hby at_34) rfl ((if0 _ _).trans (teq ((lw_eq _ _).mpr c34_5)).2) k) ?_
    show own_Go X3 (Q0 Z p0 p1 h0 n0) 0 0 37 #[.val (.int p0), .val (.int p1), .val (.long (4 : Int64)), .second, .val (.long (8 : Int64)), .second, .val (.long (own_max (0 : Int64) ((4 : Int64) - (p0.toInt64)))), .second, .val (.long (own_max (0 : Int64) ((8 : Int64) - (p1.toInt64)))), .second, .unset, .unset] []
    refine own_st (fun _ k => XS.lload X3.here hx rfl (hb hby at_37) rfl k) ?_
    show own_Go X3 (Q0 Z p0 p1 h0 n0) 0 0 39 #[.val (.int p0), .val (.int p1), .val (.long (4 : Int64)), .second, .val (.long (8 : Int64)), .second, .val (.long (own_max (0 : Int64) ((4 : Int64) - (p0.toInt64)))), .second, .val (.long (own_max (0 : Int64) ((8 : Int64) - (p1.toInt64)))), .second, .unset, .unset] [(.long (own_max (0 : Int64) ((8 : Int64) - (p1.toInt64))))]
    refine own_st (fun _ k => XS.lconst X3.here hx rfl (hb hby at_39) k) ?_
    show own_Go X3 (Q0 Z p0 p1 h0 n0) 0 0 40 #[.val (.int p0), .val (.int p1), .val (.long (4 : Int64)), .second, .val (.long (8 : Int64)), .second, .val (.long (own_max (0 : Int64) ((4 : Int64) - (p0.toInt64)))), .second, .val (.long (own_max (0 : Int64) ((8 : Int64) - (p1.toInt64)))), .second, .unset, .unset] [(.long (0 : Int64)), (.long (own_max (0 : Int64) ((8 : Int64) - (p1.toInt64))))]
    refine own_st (fun _ k => XS.lcmp X3.here hx rfl (hb hby at_40) rfl k) ?_
    show own_Go X3 (Q0 Z p0 p1 h0 n0) 0 0 41 #[.val (.int p0), .val (.int p1), .val (.long (4 : Int64)), .second, .val (.long (8 : Int64)), .second, .val (.long (own_max (0 : Int64) ((4 : Int64) - (p0.toInt64)))), .second, .val (.long (own_max (0 : Int64) ((8 : Int64) - (p1.toInt64)))), .second, .unset, .unset] [(.int (lcmpW (own_max (0 : Int64) ((8 : Int64) - (p1.toInt64))) (0 : Int64)))]
    by_cases c41_6 : (0 : Int64) < (own_max (0 : Int64) ((8 : Int64) - (p1.toInt64)))
    · skip
      refine own_st (fun _ k => XS.ifNo X3.here hx rfl (hb hby at_41) rfl ((if0 _ _).trans (tlt ((lw_gt _ _).mpr c41_6)).2.2.2) k) ?_
      show own_Go X3 (Q0 Z p0 p1 h0 n0) 0 0 44 #[.val (.int p0), .val (.int p1), .val (.long (4 : Int64)), .second, .val (.long (8 : Int64)), .second, .val (.long (own_max (0 : Int64) ((4 : Int64) - (p0.toInt64)))), .second, .val (.long (own_max (0 : Int64) ((8 : Int64) - (p1.toInt64)))), .second, .unset, .unset] []
      refine own_st (fun _ k => XS.iconst X3.here hx rfl (hb hby at_44) k) ?_
      show own_Go X3 (Q0 Z p0 p1 h0 n0) 0 0 45 #[.val (.int p0), .val (.int p1), .val (.long (4 : Int64)), .second, .val (.long (8 : Int64)), .second, .val (.long (own_max (0 : Int64) ((4 : Int64) - (p0.toInt64)))), .second, .val (.long (own_max (0 : Int64) ((8 : Int64) - (p1.toInt64)))), .second, .unset, .unset] [(.int (1 : Int32))]
      refine own_st (fun _ k => XS.goto X3.here hx rfl (pc0 := 45) (pc' := 49) rfl (hb hby at_45) (by decide) (by decide) k) ?_
      show own_Go X3 (Q0 Z p0 p1 h0 n0) 0 0 49 #[.val (.int p0), .val (.int p1), .val (.long (4 : Int64)), .second, .val (.long (8 : Int64)), .second, .val (.long (own_max (0 : Int64) ((4 : Int64) - (p0.toInt64)))), .second, .val (.long (own_max (0 : Int64) ((8 : Int64) - (p1.toInt64)))), .second, .unset, .unset] [(.int (1 : Int32))]
      refine own_st (fun _ k => XS.istore X3.here hx rfl (hb hby at_49) rfl (l' := #[.val (.int p0), .val (.int p1), .val (.long (4 : Int64)), .second, .val (.long (8 : Int64)), .second, .val (.long (own_max (0 : Int64) ((4 : Int64) - (p0.toInt64)))), .second, .val (.long (own_max (0 : Int64) ((8 : Int64) - (p1.toInt64)))), .second, .val (.int (1 : Int32)), .unset]) rfl k) ?_
      show own_Go X3 (Q0 Z p0 p1 h0 n0) 0 0 51 #[.val (.int p0), .val (.int p1), .val (.long (4 : Int64)), .second, .val (.long (8 : Int64)), .second, .val (.long (own_max (0 : Int64) ((4 : Int64) - (p0.toInt64)))), .second, .val (.long (own_max (0 : Int64) ((8 : Int64) - (p1.toInt64)))), .second, .val (.int (1 : Int32)), .unset] []
      refine own_st (fun _ k => XS.iloadN X3.here hx rfl (hb hby at_51) rfl k) ?_
      show own_Go X3 (Q0 Z p0 p1 h0 n0) 0 0 52 #[.val (.int p0), .val (.int p1), .val (.long (4 : Int64)), .second, .val (.long (8 : Int64)), .second, .val (.long (own_max (0 : Int64) ((4 : Int64) - (p0.toInt64)))), .second, .val (.long (own_max (0 : Int64) ((8 : Int64) - (p1.toInt64)))), .second, .val (.int (1 : Int32)), .unset] [(.int p0)]
      refine own_st (fun _ k => XS.iloadN X3.here hx rfl (hb hby at_52) rfl k) ?_
      show own_Go X3 (Q0 Z p0 p1 h0 n0) 0 0 53 #[.val (.int p0), .val (.int p1), .val (.long (4 : Int64)), .second, .val (.long (8 : Int64)), .second, .val (.long (own_max (0 : Int64) ((4 : Int64) - (p0.toInt64)))), .second, .val (.long (own_max (0 : Int64) ((8 : Int64) - (p1.toInt64)))), .second, .val (.int (1 : Int32)), .unset] [(.int p1), (.int p0)]
      refine own_callS (W := 0) X3 hx hZ hown (hw _ (List.mem_of_getElem? (i := 6) rfl)) (hw _ (List.mem_of_getElem? (i := 7) rfl)) (hw _ (List.mem_of_getElem? (i := 8) rfl)) (hw _ (List.mem_of_getElem? (i := 9) rfl)) (by decide) (rm2 l Z a0 hw [] p0 p1  h0 n0 Z0 ) (by decide) (by decide) (by rw [hml]; rfl) [(.int p0), (.int p1)] [] (lenOf pd_0_1 rfl) rfl rfl (Nat.le_of_ble_eq_true rfl) (hb hby at_53) e3 (by decide) (by decide) ?_
      rintro _ T7 L7 X7 ⟨rfl, N7q, e7⟩
      have N_8 := Fr.app N_4 N7q
      show own_Go X7 (Q0 Z p0 p1 h0 n0) 0 0 56 #[.val (.int p0), .val (.int p1), .val (.long (4 : Int64)), .second, .val (.long (8 : Int64)), .second, .val (.long (own_max (0 : Int64) ((4 : Int64) - (p0.toInt64)))), .second, .val (.long (own_max (0 : Int64) ((8 : Int64) - (p1.toInt64)))), .second, .val (.int (1 : Int32)), .unset] [(.int (own_addr p0 p1))]
      refine own_st (fun _ k => XS.istore X7.here hx rfl (hb hby at_56) rfl (l' := #[.val (.int p0), .val (.int p1), .val (.long (4 : Int64)), .second, .val (.long (8 : Int64)), .second, .val (.long (own_max (0 : Int64) ((4 : Int64) - (p0.toInt64)))), .second, .val (.long (own_max (0 : Int64) ((8 : Int64) - (p1.toInt64)))), .second, .val (.int (1 : Int32)), .val (.int (own_addr p0 p1))]) rfl k) ?_
      show own_Go X7 (Q0 Z p0 p1 h0 n0) 0 0 58 #[.val (.int p0), .val (.int p1), .val (.long (4 : Int64)), .second, .val (.long (8 : Int64)), .second, .val (.long (own_max (0 : Int64) ((4 : Int64) - (p0.toInt64)))), .second, .val (.long (own_max (0 : Int64) ((8 : Int64) - (p1.toInt64)))), .second, .val (.int (1 : Int32)), .val (.int (own_addr p0 p1))] []
      refine own_st (fun _ k => XS.iload X7.here hx rfl (hb hby at_58) rfl k) ?_
      show own_Go X7 (Q0 Z p0 p1 h0 n0) 0 0 60 #[.val (.int p0), .val (.int p1), .val (.long (4 : Int64)), .second, .val (.long (8 : Int64)), .second, .val (.long (own_max (0 : Int64) ((4 : Int64) - (p0.toInt64)))), .second, .val (.long (own_max (0 : Int64) ((8 : Int64) - (p1.toInt64)))), .second, .val (.int (1 : Int32)), .val (.int (own_addr p0 p1))] [(.int (own_addr p0 p1))]
      refine own_st (fun _ k => XS.iload X7.here hx rfl (hb hby at_60) rfl k) ?_
      show own_Go X7 (Q0 Z p0 p1 h0 n0) 0 0 62 #[.val (.int p0), .val (.int p1), .val (.long (4 : Int64)), .second, .val (.long (8 : Int64)), .second, .val (.long (own_max (0 : Int64) ((4 : Int64) - (p0.toInt64)))), .second, .val (.long (own_max (0 : Int64) ((8 : Int64) - (p1.toInt64)))), .second, .val (.int (1 : Int32)), .val (.int (own_addr p0 p1))] [(.int (1 : Int32)), (.int (own_addr p0 p1))]
      have c62_9 : (own_addr p0 p1) = (1 : Int32) := by rw [own_f]; simp only [c34_5, c41_6, if_true, if_false]
      refine own_st (fun _ k => XS.icmpNo X7.here hx rfl (hb hby at_62) rfl (teq c62_9).2 k) ?_
      show own_Go X7 (Q0 Z p0 p1 h0 n0) 0 0 65 #[.val (.int p0), .val (.int p1), .val (.long (4 : Int64)), .second, .val (.long (8 : Int64)), .second, .val (.long (own_max (0 : Int64) ((4 : Int64) - (p0.toInt64)))), .second, .val (.long (own_max (0 : Int64) ((8 : Int64) - (p1.toInt64)))), .second, .val (.int (1 : Int32)), .val (.int (own_addr p0 p1))] []
      refine own_st (fun _ k => XS.iconst X7.here hx rfl (hb hby at_65) k) ?_
      show own_Go X7 (Q0 Z p0 p1 h0 n0) 0 0 66 #[.val (.int p0), .val (.int p1), .val (.long (4 : Int64)), .second, .val (.long (8 : Int64)), .second, .val (.long (own_max (0 : Int64) ((4 : Int64) - (p0.toInt64)))), .second, .val (.long (own_max (0 : Int64) ((8 : Int64) - (p1.toInt64)))), .second, .val (.int (1 : Int32)), .val (.int (own_addr p0 p1))] [(.int (1 : Int32))]
      refine own_st (fun _ k => XS.goto X7.here hx rfl (pc0 := 66) (pc' := 70) rfl (hb hby at_66) (by decide) (by decide) k) ?_
      show own_Go X7 (Q0 Z p0 p1 h0 n0) 0 0 70 #[.val (.int p0), .val (.int p1), .val (.long (4 : Int64)), .second, .val (.long (8 : Int64)), .second, .val (.long (own_max (0 : Int64) ((4 : Int64) - (p0.toInt64)))), .second, .val (.long (own_max (0 : Int64) ((8 : Int64) - (p1.toInt64)))), .second, .val (.int (1 : Int32)), .val (.int (own_addr p0 p1))] [(.int (1 : Int32))]
      refine own_retN X7 hx Bd.returns (by simp) hlk e7 (hb hby at_70) (by decide) (by decide) ?_
      exact ⟨rfl, N_8⟩
    · skip
      refine own_st (fun _ k => XS.ifYes X3.here hx rfl (pc0 := 41) (pc' := 48) rfl (hb hby at_41) rfl ((if0 _ _).trans (flt (fun q => c41_6 ((lw_gt _ _).mp q))).2.2.2) (by decide) (by decide) k) ?_
      show own_Go X3 (Q0 Z p0 p1 h0 n0) 0 0 48 #[.val (.int p0), .val (.int p1), .val (.long (4 : Int64)), .second, .val (.long (8 : Int64)), .second, .val (.long (own_max (0 : Int64) ((4 : Int64) - (p0.toInt64)))), .second, .val (.long (own_max (0 : Int64) ((8 : Int64) - (p1.toInt64)))), .second, .unset, .unset] []
      refine own_st (fun _ k => XS.iconst X3.here hx rfl (hb hby at_48) k) ?_
      show own_Go X3 (Q0 Z p0 p1 h0 n0) 0 0 49 #[.val (.int p0), .val (.int p1), .val (.long (4 : Int64)), .second, .val (.long (8 : Int64)), .second, .val (.long (own_max (0 : Int64) ((4 : Int64) - (p0.toInt64)))), .second, .val (.long (own_max (0 : Int64) ((8 : Int64) - (p1.toInt64)))), .second, .unset, .unset] [(.int (0 : Int32))]
      refine own_st (fun _ k => XS.istore X3.here hx rfl (hb hby at_49) rfl (l' := #[.val (.int p0), .val (.int p1), .val (.long (4 : Int64)), .second, .val (.long (8 : Int64)), .second, .val (.long (own_max (0 : Int64) ((4 : Int64) - (p0.toInt64)))), .second, .val (.long (own_max (0 : Int64) ((8 : Int64) - (p1.toInt64)))), .second, .val (.int (0 : Int32)), .unset]) rfl k) ?_
      show own_Go X3 (Q0 Z p0 p1 h0 n0) 0 0 51 #[.val (.int p0), .val (.int p1), .val (.long (4 : Int64)), .second, .val (.long (8 : Int64)), .second, .val (.long (own_max (0 : Int64) ((4 : Int64) - (p0.toInt64)))), .second, .val (.long (own_max (0 : Int64) ((8 : Int64) - (p1.toInt64)))), .second, .val (.int (0 : Int32)), .unset] []
      refine own_st (fun _ k => XS.iloadN X3.here hx rfl (hb hby at_51) rfl k) ?_
      show own_Go X3 (Q0 Z p0 p1 h0 n0) 0 0 52 #[.val (.int p0), .val (.int p1), .val (.long (4 : Int64)), .second, .val (.long (8 : Int64)), .second, .val (.long (own_max (0 : Int64) ((4 : Int64) - (p0.toInt64)))), .second, .val (.long (own_max (0 : Int64) ((8 : Int64) - (p1.toInt64)))), .second, .val (.int (0 : Int32)), .unset] [(.int p0)]
      refine own_st (fun _ k => XS.iloadN X3.here hx rfl (hb hby at_52) rfl k) ?_
      show own_Go X3 (Q0 Z p0 p1 h0 n0) 0 0 53 #[.val (.int p0), .val (.int p1), .val (.long (4 : Int64)), .second, .val (.long (8 : Int64)), .second, .val (.long (own_max (0 : Int64) ((4 : Int64) - (p0.toInt64)))), .second, .val (.long (own_max (0 : Int64) ((8 : Int64) - (p1.toInt64)))), .second, .val (.int (0 : Int32)), .unset] [(.int p1), (.int p0)]
      refine own_callS (W := 0) X3 hx hZ hown (hw _ (List.mem_of_getElem? (i := 6) rfl)) (hw _ (List.mem_of_getElem? (i := 7) rfl)) (hw _ (List.mem_of_getElem? (i := 8) rfl)) (hw _ (List.mem_of_getElem? (i := 9) rfl)) (by decide) (rm2 l Z a0 hw [] p0 p1  h0 n0 Z0 ) (by decide) (by decide) (by rw [hml]; rfl) [(.int p0), (.int p1)] [] (lenOf pd_0_1 rfl) rfl rfl (Nat.le_of_ble_eq_true rfl) (hb hby at_53) e3 (by decide) (by decide) ?_
      rintro _ T10 L10 X10 ⟨rfl, N10q, e10⟩
      have N_11 := Fr.app N_4 N10q
      show own_Go X10 (Q0 Z p0 p1 h0 n0) 0 0 56 #[.val (.int p0), .val (.int p1), .val (.long (4 : Int64)), .second, .val (.long (8 : Int64)), .second, .val (.long (own_max (0 : Int64) ((4 : Int64) - (p0.toInt64)))), .second, .val (.long (own_max (0 : Int64) ((8 : Int64) - (p1.toInt64)))), .second, .val (.int (0 : Int32)), .unset] [(.int (own_addr p0 p1))]
      refine own_st (fun _ k => XS.istore X10.here hx rfl (hb hby at_56) rfl (l' := #[.val (.int p0), .val (.int p1), .val (.long (4 : Int64)), .second, .val (.long (8 : Int64)), .second, .val (.long (own_max (0 : Int64) ((4 : Int64) - (p0.toInt64)))), .second, .val (.long (own_max (0 : Int64) ((8 : Int64) - (p1.toInt64)))), .second, .val (.int (0 : Int32)), .val (.int (own_addr p0 p1))]) rfl k) ?_
      show own_Go X10 (Q0 Z p0 p1 h0 n0) 0 0 58 #[.val (.int p0), .val (.int p1), .val (.long (4 : Int64)), .second, .val (.long (8 : Int64)), .second, .val (.long (own_max (0 : Int64) ((4 : Int64) - (p0.toInt64)))), .second, .val (.long (own_max (0 : Int64) ((8 : Int64) - (p1.toInt64)))), .second, .val (.int (0 : Int32)), .val (.int (own_addr p0 p1))] []
      refine own_st (fun _ k => XS.iload X10.here hx rfl (hb hby at_58) rfl k) ?_
      show own_Go X10 (Q0 Z p0 p1 h0 n0) 0 0 60 #[.val (.int p0), .val (.int p1), .val (.long (4 : Int64)), .second, .val (.long (8 : Int64)), .second, .val (.long (own_max (0 : Int64) ((4 : Int64) - (p0.toInt64)))), .second, .val (.long (own_max (0 : Int64) ((8 : Int64) - (p1.toInt64)))), .second, .val (.int (0 : Int32)), .val (.int (own_addr p0 p1))] [(.int (own_addr p0 p1))]
      refine own_st (fun _ k => XS.iload X10.here hx rfl (hb hby at_60) rfl k) ?_
      show own_Go X10 (Q0 Z p0 p1 h0 n0) 0 0 62 #[.val (.int p0), .val (.int p1), .val (.long (4 : Int64)), .second, .val (.long (8 : Int64)), .second, .val (.long (own_max (0 : Int64) ((4 : Int64) - (p0.toInt64)))), .second, .val (.long (own_max (0 : Int64) ((8 : Int64) - (p1.toInt64)))), .second, .val (.int (0 : Int32)), .val (.int (own_addr p0 p1))] [(.int (0 : Int32)), (.int (own_addr p0 p1))]
      have c62_12 : (own_addr p0 p1) = (0 : Int32) := by rw [own_f]; simp only [c34_5, c41_6, if_true, if_false]
      refine own_st (fun _ k => XS.icmpNo X10.here hx rfl (hb hby at_62) rfl (teq c62_12).2 k) ?_
      show own_Go X10 (Q0 Z p0 p1 h0 n0) 0 0 65 #[.val (.int p0), .val (.int p1), .val (.long (4 : Int64)), .second, .val (.long (8 : Int64)), .second, .val (.long (own_max (0 : Int64) ((4 : Int64) - (p0.toInt64)))), .second, .val (.long (own_max (0 : Int64) ((8 : Int64) - (p1.toInt64)))), .second, .val (.int (0 : Int32)), .val (.int (own_addr p0 p1))] []
      refine own_st (fun _ k => XS.iconst X10.here hx rfl (hb hby at_65) k) ?_
      show own_Go X10 (Q0 Z p0 p1 h0 n0) 0 0 66 #[.val (.int p0), .val (.int p1), .val (.long (4 : Int64)), .second, .val (.long (8 : Int64)), .second, .val (.long (own_max (0 : Int64) ((4 : Int64) - (p0.toInt64)))), .second, .val (.long (own_max (0 : Int64) ((8 : Int64) - (p1.toInt64)))), .second, .val (.int (0 : Int32)), .val (.int (own_addr p0 p1))] [(.int (1 : Int32))]
      refine own_st (fun _ k => XS.goto X10.here hx rfl (pc0 := 66) (pc' := 70) rfl (hb hby at_66) (by decide) (by decide) k) ?_
      show own_Go X10 (Q0 Z p0 p1 h0 n0) 0 0 70 #[.val (.int p0), .val (.int p1), .val (.long (4 : Int64)), .second, .val (.long (8 : Int64)), .second, .val (.long (own_max (0 : Int64) ((4 : Int64) - (p0.toInt64)))), .second, .val (.long (own_max (0 : Int64) ((8 : Int64) - (p1.toInt64)))), .second, .val (.int (0 : Int32)), .val (.int (own_addr p0 p1))] [(.int (1 : Int32))]
      refine own_retN X10 hx Bd.returns (by simp) hlk e10 (hb hby at_70) (by decide) (by decide) ?_
      exact ⟨rfl, N_11⟩
  · skip
    refine own_st (fun _ k => XS.ifYes X3.here hx rfl (pc0 := 34) (pc' := 48) rfl (hb hby at_34) rfl ((if0 _ _).trans (feq (fun q => c34_5 ((lw_eq _ _).mp q))).2) (by decide) (by decide) k) ?_
    show own_Go X3 (Q0 Z p0 p1 h0 n0) 0 0 48 #[.val (.int p0), .val (.int p1), .val (.long (4 : Int64)), .second, .val (.long (8 : Int64)), .second, .val (.long (own_max (0 : Int64) ((4 : Int64) - (p0.toInt64)))), .second, .val (.long (own_max (0 : Int64) ((8 : Int64) - (p1.toInt64)))), .second, .unset, .unset] []
    refine own_st (fun _ k => XS.iconst X3.here hx rfl (hb hby at_48) k) ?_
    show own_Go X3 (Q0 Z p0 p1 h0 n0) 0 0 49 #[.val (.int p0), .val (.int p1), .val (.long (4 : Int64)), .second, .val (.long (8 : Int64)), .second, .val (.long (own_max (0 : Int64) ((4 : Int64) - (p0.toInt64)))), .second, .val (.long (own_max (0 : Int64) ((8 : Int64) - (p1.toInt64)))), .second, .unset, .unset] [(.int (0 : Int32))]
    refine own_st (fun _ k => XS.istore X3.here hx rfl (hb hby at_49) rfl (l' := #[.val (.int p0), .val (.int p1), .val (.long (4 : Int64)), .second, .val (.long (8 : Int64)), .second, .val (.long (own_max (0 : Int64) ((4 : Int64) - (p0.toInt64)))), .second, .val (.long (own_max (0 : Int64) ((8 : Int64) - (p1.toInt64)))), .second, .val (.int (0 : Int32)), .unset]) rfl k) ?_
    show own_Go X3 (Q0 Z p0 p1 h0 n0) 0 0 51 #[.val (.int p0), .val (.int p1), .val (.long (4 : Int64)), .second, .val (.long (8 : Int64)), .second, .val (.long (own_max (0 : Int64) ((4 : Int64) - (p0.toInt64)))), .second, .val (.long (own_max (0 : Int64) ((8 : Int64) - (p1.toInt64)))), .second, .val (.int (0 : Int32)), .unset] []
    refine own_st (fun _ k => XS.iloadN X3.here hx rfl (hb hby at_51) rfl k) ?_
    show own_Go X3 (Q0 Z p0 p1 h0 n0) 0 0 52 #[.val (.int p0), .val (.int p1), .val (.long (4 : Int64)), .second, .val (.long (8 : Int64)), .second, .val (.long (own_max (0 : Int64) ((4 : Int64) - (p0.toInt64)))), .second, .val (.long (own_max (0 : Int64) ((8 : Int64) - (p1.toInt64)))), .second, .val (.int (0 : Int32)), .unset] [(.int p0)]
    refine own_st (fun _ k => XS.iloadN X3.here hx rfl (hb hby at_52) rfl k) ?_
    show own_Go X3 (Q0 Z p0 p1 h0 n0) 0 0 53 #[.val (.int p0), .val (.int p1), .val (.long (4 : Int64)), .second, .val (.long (8 : Int64)), .second, .val (.long (own_max (0 : Int64) ((4 : Int64) - (p0.toInt64)))), .second, .val (.long (own_max (0 : Int64) ((8 : Int64) - (p1.toInt64)))), .second, .val (.int (0 : Int32)), .unset] [(.int p1), (.int p0)]
    refine own_callS (W := 0) X3 hx hZ hown (hw _ (List.mem_of_getElem? (i := 6) rfl)) (hw _ (List.mem_of_getElem? (i := 7) rfl)) (hw _ (List.mem_of_getElem? (i := 8) rfl)) (hw _ (List.mem_of_getElem? (i := 9) rfl)) (by decide) (rm2 l Z a0 hw [] p0 p1  h0 n0 Z0 ) (by decide) (by decide) (by rw [hml]; rfl) [(.int p0), (.int p1)] [] (lenOf pd_0_1 rfl) rfl rfl (Nat.le_of_ble_eq_true rfl) (hb hby at_53) e3 (by decide) (by decide) ?_
    rintro _ T13 L13 X13 ⟨rfl, N13q, e13⟩
    have N_14 := Fr.app N_4 N13q
    show own_Go X13 (Q0 Z p0 p1 h0 n0) 0 0 56 #[.val (.int p0), .val (.int p1), .val (.long (4 : Int64)), .second, .val (.long (8 : Int64)), .second, .val (.long (own_max (0 : Int64) ((4 : Int64) - (p0.toInt64)))), .second, .val (.long (own_max (0 : Int64) ((8 : Int64) - (p1.toInt64)))), .second, .val (.int (0 : Int32)), .unset] [(.int (own_addr p0 p1))]
    refine own_st (fun _ k => XS.istore X13.here hx rfl (hb hby at_56) rfl (l' := #[.val (.int p0), .val (.int p1), .val (.long (4 : Int64)), .second, .val (.long (8 : Int64)), .second, .val (.long (own_max (0 : Int64) ((4 : Int64) - (p0.toInt64)))), .second, .val (.long (own_max (0 : Int64) ((8 : Int64) - (p1.toInt64)))), .second, .val (.int (0 : Int32)), .val (.int (own_addr p0 p1))]) rfl k) ?_
    show own_Go X13 (Q0 Z p0 p1 h0 n0) 0 0 58 #[.val (.int p0), .val (.int p1), .val (.long (4 : Int64)), .second, .val (.long (8 : Int64)), .second, .val (.long (own_max (0 : Int64) ((4 : Int64) - (p0.toInt64)))), .second, .val (.long (own_max (0 : Int64) ((8 : Int64) - (p1.toInt64)))), .second, .val (.int (0 : Int32)), .val (.int (own_addr p0 p1))] []
    refine own_st (fun _ k => XS.iload X13.here hx rfl (hb hby at_58) rfl k) ?_
    show own_Go X13 (Q0 Z p0 p1 h0 n0) 0 0 60 #[.val (.int p0), .val (.int p1), .val (.long (4 : Int64)), .second, .val (.long (8 : Int64)), .second, .val (.long (own_max (0 : Int64) ((4 : Int64) - (p0.toInt64)))), .second, .val (.long (own_max (0 : Int64) ((8 : Int64) - (p1.toInt64)))), .second, .val (.int (0 : Int32)), .val (.int (own_addr p0 p1))] [(.int (own_addr p0 p1))]
    refine own_st (fun _ k => XS.iload X13.here hx rfl (hb hby at_60) rfl k) ?_
    show own_Go X13 (Q0 Z p0 p1 h0 n0) 0 0 62 #[.val (.int p0), .val (.int p1), .val (.long (4 : Int64)), .second, .val (.long (8 : Int64)), .second, .val (.long (own_max (0 : Int64) ((4 : Int64) - (p0.toInt64)))), .second, .val (.long (own_max (0 : Int64) ((8 : Int64) - (p1.toInt64)))), .second, .val (.int (0 : Int32)), .val (.int (own_addr p0 p1))] [(.int (0 : Int32)), (.int (own_addr p0 p1))]
    have c62_15 : (own_addr p0 p1) = (0 : Int32) := by rw [own_f]; simp only [c34_5, if_true, if_false]
    refine own_st (fun _ k => XS.icmpNo X13.here hx rfl (hb hby at_62) rfl (teq c62_15).2 k) ?_
    show own_Go X13 (Q0 Z p0 p1 h0 n0) 0 0 65 #[.val (.int p0), .val (.int p1), .val (.long (4 : Int64)), .second, .val (.long (8 : Int64)), .second, .val (.long (own_max (0 : Int64) ((4 : Int64) - (p0.toInt64)))), .second, .val (.long (own_max (0 : Int64) ((8 : Int64) - (p1.toInt64)))), .second, .val (.int (0 : Int32)), .val (.int (own_addr p0 p1))] []
    refine own_st (fun _ k => XS.iconst X13.here hx rfl (hb hby at_65) k) ?_
    show own_Go X13 (Q0 Z p0 p1 h0 n0) 0 0 66 #[.val (.int p0), .val (.int p1), .val (.long (4 : Int64)), .second, .val (.long (8 : Int64)), .second, .val (.long (own_max (0 : Int64) ((4 : Int64) - (p0.toInt64)))), .second, .val (.long (own_max (0 : Int64) ((8 : Int64) - (p1.toInt64)))), .second, .val (.int (0 : Int32)), .val (.int (own_addr p0 p1))] [(.int (1 : Int32))]
    refine own_st (fun _ k => XS.goto X13.here hx rfl (pc0 := 66) (pc' := 70) rfl (hb hby at_66) (by decide) (by decide) k) ?_
    show own_Go X13 (Q0 Z p0 p1 h0 n0) 0 0 70 #[.val (.int p0), .val (.int p1), .val (.long (4 : Int64)), .second, .val (.long (8 : Int64)), .second, .val (.long (own_max (0 : Int64) ((4 : Int64) - (p0.toInt64)))), .second, .val (.long (own_max (0 : Int64) ((8 : Int64) - (p1.toInt64)))), .second, .val (.int (0 : Int32)), .val (.int (own_addr p0 p1))] [(.int (1 : Int32))]
    refine own_retN X13 hx Bd.returns (by simp) hlk e13 (hb hby at_70) (by decide) (by decide) ?_
    exact ⟨rfl, N_14⟩
set_option maxRecDepth 65536 in
set_option maxHeartbeats 40000000 in
theorem comes_1 {Post : Tables → Env → Array Value → State → Outcome → State → Prop} (hpost : ∀ tb e args s v u, (limb_1_1.after args s (.returned v) u = true ∧ limb_1_2.after args s (.returned v) u = true ∧ True) → FrameEnd s (.returned v) u (Jvm.fieldLocs frame_1_writes args s ++ Jvm.arrayLocs frame_1_arrays args s ++ Jvm.staticLocs frame_1_statics s) 0 0 → Post tb e args s (.returned v) u) :
    ArmFor flags0 classFile x code maxLocals ret World_1 tables_1 room_1 Calls_1 rest_1 Pre_1 Post := by
  intro l hfl _ _ p e ha hc hk s m args below hf hA hF happ hP
  obtain ⟨hcalls, hrest, hpre⟩ := hP
  obtain ⟨-, -, -, hnamed, -, -, -, hat⟩ := (Spec.applies_iff hf).mp happ
  obtain ⟨hg, hn⟩ := and_e (Cond.before_iff.mp (show (Jvm.Cond.and given_1 narrow_1).before args s = true from hpre))
  obtain ⟨g1, g2⟩ := and_e hg
  obtain ⟨g3, g4⟩ := and_e g2
  obtain ⟨w0, w1, rfl⟩ : ∃ w0 w1 : Value, args = #[w0, w1] := by
    have hs : args.size = 2 := by simpa [Cond.value, given_1] using g1
    obtain ⟨L⟩ := args
    match L, hs with
    | [w0, w1], _ => exact ⟨w0, w1, rfl⟩
  have hw := fun d (hd : d ∈ tables_1) => atoms_spec (ws := Jvm.Cond.code x code maxLocals ret :: tables_1) hat d (List.mem_cons_of_mem _ hd)
  obtain ⟨i0, ei0⟩ := is_v g3
  obtain rfl : w0 = (.int i0) := Option.some.inj ei0
  obtain ⟨i1, ei1⟩ := is_v g4
  obtain rfl : w1 = (.int i1) := Option.some.inj ei1
  obtain ⟨n, o, h1, h2, h3, _, L, rfl, ⟨rfl, N⟩, hq⟩ := rm0 l s _ hw tables_1 i0 i1 s.heap s.heap.size (Nat.le_refl _) p e ha hc hk s m _ below hf ((Spec.applies_iff_loose hf).mp happ).1 ⟨rfl, State.Warmed39.refl s, rfl⟩ trivial
  refine ⟨n, _, h1, h2, h3, hpost _ _ _ _ _ _ ⟨Cond.after_iff.mpr rfl, Cond.after_iff.mpr (eq_i res_at (Term.int_eval (1)) rfl), trivial⟩ ⟨hq.1, hq.2.1, (hq.2.2.sift fun y hy => Or.inr (N y hy)).mono (by decide) (by decide)⟩⟩
theorem main_1_1 : Claimed_1_1 := comes_1 fun _ _ _ _ _ _ h hF => ⟨h.1, hF⟩
theorem main_1_2 : Claimed_1_2 := comes_1 fun _ _ _ _ _ _ h hF => ⟨h.2.1, hF⟩
end Jvm.Pilot.@@N@@
namespace Jvm.Pilot.@@N@@
open Jvm Jvm.ClassFile Sem Op Lib Jvm.Free Jvm.Stand Jvm.Pilot.@@N@@.Jvm.D
/-! MADE BY PROGRAM (witnessworld.py) out of the Statement's table words and the real class files: 10 classes; the members and pool entries that the words name. The judged class is class 1, her method 1. -/
namespace start1
open Jvm.ClassFile
def u (s : String) : CpInfo := .utf8 (stringToUtf16 s)
/-- a pool by its gaps: so many unusable entries, then the entry; so many at the end -/
def gap : Nat → List CpInfo → List CpInfo
  | 0, r => r
  | n + 1, r => .unusable :: gap n r
def poolList (es : List (Nat × CpInfo)) (last : Nat) : List CpInfo := es.foldr (fun e r => gap e.1 (e.2 :: r)) (gap last [])
def pool (es : List (Nat × CpInfo)) (last : Nat) : Array CpInfo := ⟨poolList es last⟩
def fileOf (pool : Array CpInfo) (this : Nat) (attrs : Array Attribute := #[]) (ms : Array MethodInfo := #[]) (fl : Nat := 33) (sup : Nat := 0) (ifs : Array Nat := #[]) (fds : Array FieldInfo := #[]) : ClassFile where
  minorVersion := 0
  majorVersion := 65
  constantPool := pool
  accessFlags := fl
  thisClass := this
  superClass := sup
  interfaces := ifs
  fields := fds
  methods := ms
  attributes := attrs
def plain (name : String) (sup : Option ClassId) : Class where
  name := name
  kind := .ordinary
  loader := none
  accessFlags := 33
  super := sup
  interfaces := #[]
  cf := none
  fields := #[]
  methods := #[]
  instanceTypes := #[]
  staticTypes := #[]
  resolved := #[]
  callSites := []
  init := .initialized
  statics := none
  mirror := none

def pool0 : Array CpInfo := pool [(5, u "<init>"), (0, u "()V"), (1, .class_ 10), (1, u "java/lang/Object")] 113

def k0m0 : Method := { name := "<init>", desc := "()V", sig := { parameters := [], returnType := none }, accessFlags := 1, code := none }
/-- java/lang/Object -/
def k0 : Class := { plain "java/lang/Object" none with
  accessFlags := 33
  interfaces := #[]
  cf := some (fileOf pool0 8 #[] #[{ accessFlags := 1, nameIndex := 5, descriptorIndex := 6, attributes := #[] }] 33 0 #[] #[])
  fields := #[]
  methods := #[k0m0]
  instanceTypes := #[]
  staticTypes := #[]
  resolved := Array.replicate 124 none
  statics := none }

def pool1 : Array CpInfo := pool [(2, .class_ 4), (1, u "java/lang/Object"), (0, u "<init>"), (0, u "()V"), (0, .long 4), (1, .long 8), (1, .methodref 12 13), (0, .class_ 14), (0, .nameAndType 15 16), (0, u "java/lang/Math"), (0, u "max"), (0, u "(JJ)J"), (0, .methodref 18 19), (0, .class_ 20), (0, .nameAndType 21 22), (0, u "com/example/linkspan/linkspan/function/SysVConvention"), (0, u "addressInVectorRegister"), (0, u "(II)Z"), (0, .class_ 24), (0, u "com/example/linkspan/linkspan/function/SysVConventionAddressInVectorRegisterPinLaw"), (2, u "law")] 3

def k1m0 : Method := { name := "<init>", desc := "()V", sig := { parameters := [], returnType := none }, accessFlags := 2, code := none }
def k1c1 : Code := { maxStack := 6, maxLocals := 12, code := code, exceptionTable := #[], attributes := #[] }
def k1m1 : Method := { name := "law", desc := "(II)Z", sig := { parameters := [.int, .int], returnType := some .boolean }, accessFlags := 9, code := some k1c1 }
/-- com/example/linkspan/linkspan/function/SysVConventionAddressInVectorRegisterPinLaw -/
def k1 : Class := { plain "com/example/linkspan/linkspan/function/SysVConventionAddressInVectorRegisterPinLaw" (some 0) with
  accessFlags := 49
  interfaces := #[]
  cf := some (fileOf pool1 23 #[] #[{ accessFlags := 2, nameIndex := 5, descriptorIndex := 6, attributes := #[] }, { accessFlags := 9, nameIndex := 27, descriptorIndex := 22, attributes := #[] }] 49 2 #[] #[])
  fields := #[]
  methods := #[k1m0, k1m1]
  instanceTypes := #[]
  staticTypes := #[]
  resolved := Array.replicate 31 none
  statics := none }

def pool2 : Array CpInfo := pool [(1, .class_ 2), (0, u "java/lang/Math"), (1, .class_ 6), (1, u "java/lang/Object"), (0, u "<init>"), (0, u "()V"), (89, .class_ 100), (1, u "java/lang/Math$RandomNumberGeneratorHolder"), (20, u "(JJ)J"), (50, u "negativeZeroFloatBits"), (0, u "J"), (2, u "negativeZeroDoubleBits"), (21, u "max"), (46, u "$assertionsDisabled"), (0, u "Z"), (91, u "twoToTheDoubleScaleDown"), (0, u "D"), (4, u "twoToTheDoubleScaleUp"), (9, u "E"), (3, u "PI"), (2, u "TAU"), (2, u "DEGREES_TO_RADIANS"), (0, u "RADIANS_TO_DEGREES")] 94

def k2m0 : Method := { name := "<init>", desc := "()V", sig := { parameters := [], returnType := none }, accessFlags := 2, code := none }
def k2c1 : Code := { maxStack := 4, maxLocals := 4, code := jdk_29_method_66_code, exceptionTable := #[], attributes := #[] }
def k2m1 : Method := { name := "max", desc := "(JJ)J", sig := { parameters := [.long, .long], returnType := some .long }, accessFlags := 9, code := some k2c1 }
/-- java/lang/Math -/
def k2 : Class := { plain "java/lang/Math" (some 0) with
  accessFlags := 49
  interfaces := #[]
  cf := some (fileOf pool2 1 #[.nestMembers #[98]] #[{ accessFlags := 2, nameIndex := 7, descriptorIndex := 8, attributes := #[] }, { accessFlags := 9, nameIndex := 198, descriptorIndex := 121, attributes := #[] }] 49 4 #[] #[{ accessFlags := 25, nameIndex := 354, descriptorIndex := 339, attributes := #[] }, { accessFlags := 25, nameIndex := 358, descriptorIndex := 339, attributes := #[] }, { accessFlags := 25, nameIndex := 361, descriptorIndex := 339, attributes := #[] }, { accessFlags := 26, nameIndex := 364, descriptorIndex := 339, attributes := #[] }, { accessFlags := 26, nameIndex := 365, descriptorIndex := 339, attributes := #[] }, { accessFlags := 26, nameIndex := 172, descriptorIndex := 173, attributes := #[] }, { accessFlags := 26, nameIndex := 176, descriptorIndex := 173, attributes := #[] }, { accessFlags := 8, nameIndex := 344, descriptorIndex := 339, attributes := #[] }, { accessFlags := 8, nameIndex := 338, descriptorIndex := 339, attributes := #[] }, { accessFlags := 4120, nameIndex := 245, descriptorIndex := 246, attributes := #[] }])
  fields := #[{ name := "E", type := .double, accessFlags := 25, slot := 0, constantValue := 0 }, { name := "PI", type := .double, accessFlags := 25, slot := 1, constantValue := 0 }, { name := "TAU", type := .double, accessFlags := 25, slot := 2, constantValue := 0 }, { name := "DEGREES_TO_RADIANS", type := .double, accessFlags := 26, slot := 3, constantValue := 0 }, { name := "RADIANS_TO_DEGREES", type := .double, accessFlags := 26, slot := 4, constantValue := 0 }, { name := "negativeZeroFloatBits", type := .long, accessFlags := 26, slot := 5, constantValue := 0 }, { name := "negativeZeroDoubleBits", type := .long, accessFlags := 26, slot := 6, constantValue := 0 }, { name := "twoToTheDoubleScaleUp", type := .double, accessFlags := 8, slot := 7, constantValue := 0 }, { name := "twoToTheDoubleScaleDown", type := .double, accessFlags := 8, slot := 8, constantValue := 0 }, { name := "$assertionsDisabled", type := .boolean, accessFlags := 4120, slot := 9, constantValue := 0 }]
  methods := #[k2m0, k2m1]
  instanceTypes := #[]
  staticTypes := #[.double, .double, .double, .double, .double, .long, .long, .double, .double, .boolean]
  resolved := Array.replicate 460 none
  statics := none }

def pool3 : Array CpInfo := pool [(1, .class_ 2), (0, u "com/example/linkspan/linkspan/function/SysVConvention"), (1, .class_ 6), (1, u "java/lang/Object"), (0, u "<init>"), (0, u "()V"), (67, .class_ 77), (0, u "com/example/linkspan/linkspan/function/SysVConvention$Placement"), (87, u "INTEGER_REGISTERS"), (0, u "I"), (2, u "VECTOR_REGISTERS"), (1, u "INTEGER_REGISTERS_LEFT"), (1, u "EIGHTBYTE"), (0, u "MAX_GROUP_IN_REGISTERS"), (1, u "GROUP_SSE_BITS"), (1, u "SSE"), (1, u "INTEGER"), (6, u "addressInVectorRegister"), (0, u "(II)Z")] 16

def k3m0 : Method := { name := "<init>", desc := "()V", sig := { parameters := [], returnType := none }, accessFlags := 2, code := none }
def k3c1 : Code := { maxStack := 2, maxLocals := 2, code := prog_44_method_4_code, exceptionTable := #[], attributes := #[] }
def k3m1 : Method := { name := "addressInVectorRegister", desc := "(II)Z", sig := { parameters := [.int, .int], returnType := some .boolean }, accessFlags := 8, code := some k3c1 }
/-- com/example/linkspan/linkspan/function/SysVConvention -/
def k3 : Class := { plain "com/example/linkspan/linkspan/function/SysVConvention" (some 0) with
  accessFlags := 48
  interfaces := #[]
  cf := some (fileOf pool3 1 #[.nestMembers #[76]] #[{ accessFlags := 2, nameIndex := 7, descriptorIndex := 8, attributes := #[] }, { accessFlags := 8, nameIndex := 187, descriptorIndex := 188, attributes := #[] }] 48 4 #[] #[{ accessFlags := 24, nameIndex := 165, descriptorIndex := 166, attributes := #[] }, { accessFlags := 24, nameIndex := 169, descriptorIndex := 166, attributes := #[] }, { accessFlags := 24, nameIndex := 171, descriptorIndex := 166, attributes := #[] }, { accessFlags := 24, nameIndex := 173, descriptorIndex := 166, attributes := #[] }, { accessFlags := 24, nameIndex := 174, descriptorIndex := 166, attributes := #[] }, { accessFlags := 26, nameIndex := 176, descriptorIndex := 166, attributes := #[] }, { accessFlags := 26, nameIndex := 178, descriptorIndex := 166, attributes := #[] }, { accessFlags := 26, nameIndex := 180, descriptorIndex := 166, attributes := #[] }])
  fields := #[{ name := "INTEGER_REGISTERS", type := .int, accessFlags := 24, slot := 0, constantValue := 0 }, { name := "VECTOR_REGISTERS", type := .int, accessFlags := 24, slot := 1, constantValue := 0 }, { name := "INTEGER_REGISTERS_LEFT", type := .int, accessFlags := 24, slot := 2, constantValue := 0 }, { name := "EIGHTBYTE", type := .int, accessFlags := 24, slot := 3, constantValue := 0 }, { name := "MAX_GROUP_IN_REGISTERS", type := .int, accessFlags := 24, slot := 4, constantValue := 0 }, { name := "GROUP_SSE_BITS", type := .int, accessFlags := 26, slot := 5, constantValue := 0 }, { name := "SSE", type := .int, accessFlags := 26, slot := 6, constantValue := 0 }, { name := "INTEGER", type := .int, accessFlags := 26, slot := 7, constantValue := 0 }]
  methods := #[k3m0, k3m1]
  instanceTypes := #[]
  staticTypes := #[.int, .int, .int, .int, .int, .int, .int, .int]
  resolved := Array.replicate 205 none
  statics := none }

def pool4 : Array CpInfo := pool [(1, u "java/lang/Cloneable"), (0, .class_ 1), (0, u "java/lang/Object"), (0, .class_ 3)] 3

/-- java/lang/Cloneable -/
def k4 : Class := { plain "java/lang/Cloneable" (some 0) with
  accessFlags := 1537
  interfaces := #[]
  cf := some (fileOf pool4 2 #[] #[] 1537 4 #[] #[])
  fields := #[]
  methods := #[]
  instanceTypes := #[]
  staticTypes := #[]
  resolved := Array.replicate 8 none
  statics := none }

def pool5 : Array CpInfo := pool [(1, u "java/io/Serializable"), (0, .class_ 1), (0, u "java/lang/Object"), (0, .class_ 3)] 3

/-- java/io/Serializable -/
def k5 : Class := { plain "java/io/Serializable" (some 0) with
  accessFlags := 1537
  interfaces := #[]
  cf := some (fileOf pool5 2 #[] #[] 1537 4 #[] #[])
  fields := #[]
  methods := #[]
  instanceTypes := #[]
  staticTypes := #[]
  resolved := Array.replicate 8 none
  statics := none }

/-- the primitive byte -/
def k6 : Class := { plain "byte" none with kind := .primitive 'B', accessFlags := 0x411 }
/-- [B -/
def k7 : Class := { plain "[B" (some 0) with kind := .array 6 .byte, interfaces := #[4, 5], accessFlags := 1041 }

/-- the primitive int -/
def k8 : Class := { plain "int" none with kind := .primitive 'I', accessFlags := 0x411 }
/-- [I -/
def k9 : Class := { plain "[I" (some 0) with kind := .array 8 .int, interfaces := #[4, 5], accessFlags := 1041 }

def heap : Heap := #[]
def classes : Array Class := #[k0, k1, k2, k3, k4, k5, k6, k7, k8, k9]
def interned : List (Array UInt16 × Addr) := []
def slotsUsed : Nat := 0
def theMethod : MethodId := ⟨1, 1⟩
def args0 : Array Value := #[.int 5, .int 7]
def aboutOver (below : List Frame) : State where
  vm := { classes := classes, interned := interned.toArray }
  heap := heap
  slotsUsed := slotsUsed
  threads := #[{ frames := .invoking theMethod args0 :: below }]
def below0 : List Frame := [.native { method := ⟨0, 0⟩, args := #[] }]
def about1 : State := aboutOver below0
def p0 : Program := .bare "" "" ""
def e0 : Env := launch0.env 0 0 0
theorem w_frames : about1.frames = Frame.invoking theMethod args0 :: below0 := rfl
set_option maxRecDepth 65536 in
theorem w_args : argsFit about1.vm theMethod args0 = true := by decide +kernel
set_option maxRecDepth 65536 in
theorem w_heap : heapFits about1 = true := by decide +kernel
set_option maxRecDepth 65536 in
theorem w_runnable : about1.curStatus? = some .runnable := by decide +kernel
set_option maxRecDepth 65536 in
theorem w_alone : about1.alone = true := by decide +kernel
set_option maxRecDepth 65536 in
theorem w_named : about1.methodNamed? x = some theMethod := by decide +kernel
set_option maxRecDepth 65536 in
theorem w_hears : about1.hears theMethod below0 = true := by decide +kernel
set_option maxRecDepth 65536 in
theorem w_ripe : about1.ripe theMethod args0 below0 = true := by decide +kernel
theorem w_running : about1.status = .running := rfl
set_option maxRecDepth 65536 in
theorem w_room : about1.hasRoom e0.platform room_1 = true :=
  launch0.hasRoom_least _ room_1 (by decide +kernel) (by decide +kernel) (by decide +kernel) (by decide +kernel) (by decide +kernel) (by decide +kernel)
theorem allAtoms_all (ts : List Jvm.Cond) (a : Array Jvm.Value) (st : Jvm.State) : (allAtoms ts).before a st = ts.all (fun c => c.before a st) := by
  induction ts with
  | nil => rfl
  | cons c t ih =>
    show (Jvm.Cond.and c (allAtoms t)).before a st = _
    rw [Jvm.Cond.before_and, ih, List.all_cons]
def words1 : List Jvm.Cond := Jvm.Cond.code x code maxLocals ret :: tables_1
/-- a 'code' word, met by the world's own term for the bytes: nothing is compared byte by byte -/
theorem code_word {y : MethodName} {bytes : ByteArray} {mx : Nat} {rt : Option FieldType} {a : Array Value} {s : State} {m : MethodId} {meth : Method} {c : Code} (h1 : s.methodNamed? y = some m) (h2 : s.vm.method? m = some meth) (h3 : meth.code = some c) (h4 : c.code = bytes)
    (h5 : (c.maxLocals == mx && c.exceptionTable.isEmpty && decide (c.maxStack ≤ mostOperands) && decide (meth.sig.returnType = rt) && !meth.locks && decide (parseMethodDescriptor y.desc = some meth.sig)) = true) : (Jvm.Cond.code y bytes mx rt).before a s = true := by
  simp only [Bool.and_eq_true, beq_iff_eq, Bool.not_eq_true', decide_eq_true_eq] at h5
  obtain ⟨⟨⟨⟨⟨g1, g2⟩, g3⟩, g4⟩, g5⟩, g6⟩ := h5
  simp [Cond.before, Cond.holds, Cond.value, h1, h2, h3, h4, g1, g2, g3, g4, g5, g6]
def isCode : Jvm.Cond → Bool
  | .code _ _ _ _ => true
  | _ => false
theorem all_split {L : List Jvm.Cond} {P : Jvm.Cond → Bool} (h1 : L.all (fun c => isCode c || P c) = true) (h2 : ∀ c ∈ L.filter isCode, P c = true) : L.all P = true := by
  refine List.all_eq_true.mpr fun c hc => ?_
  have h := List.all_eq_true.mp h1 c hc
  rcases Bool.eq_false_or_eq_true (isCode c) with hi | hi
  · exact h2 c (List.mem_filter.mpr ⟨hc, hi⟩)
  · simpa [hi] using h
set_option maxRecDepth 65536 in
theorem w_c0 : (Jvm.Cond.code x code maxLocals ret).before args0 about1 = true := code_word (m := ⟨1, 1⟩) (meth := k1m1) (c := k1c1) (by decide +kernel) rfl rfl rfl (by decide +kernel)
set_option maxRecDepth 65536 in
theorem w_c1 : (Jvm.Cond.code ({ cls := "java/lang/Math", name := "max", desc := "(JJ)J" } : Jvm.MethodName) jdk_29_method_66_code (4 : Nat) (Option.some Jvm.ClassFile.FieldType.long)).before args0 about1 = true := code_word (m := ⟨2, 1⟩) (meth := k2m1) (c := k2c1) (by decide +kernel) rfl rfl rfl (by decide +kernel)
set_option maxRecDepth 65536 in
theorem w_c2 : (Jvm.Cond.code ({ cls := "com/example/linkspan/linkspan/function/SysVConvention", name := "addressInVectorRegister", desc := "(II)Z" } : Jvm.MethodName) prog_44_method_4_code (2 : Nat) (Option.some Jvm.ClassFile.FieldType.boolean)).before args0 about1 = true := code_word (m := ⟨3, 1⟩) (meth := k3m1) (c := k3c1) (by decide +kernel) rfl rfl rfl (by decide +kernel)
def codes1 : List Jvm.Cond := [Jvm.Cond.code x code maxLocals ret, Jvm.Cond.code ({ cls := "java/lang/Math", name := "max", desc := "(JJ)J" } : Jvm.MethodName) jdk_29_method_66_code (4 : Nat) (Option.some Jvm.ClassFile.FieldType.long), Jvm.Cond.code ({ cls := "com/example/linkspan/linkspan/function/SysVConvention", name := "addressInVectorRegister", desc := "(II)Z" } : Jvm.MethodName) prog_44_method_4_code (2 : Nat) (Option.some Jvm.ClassFile.FieldType.boolean)]
set_option maxRecDepth 65536 in
theorem codes_eq : words1.filter isCode = codes1 := rfl
theorem w_codes : ∀ c ∈ words1.filter isCode, c.before args0 about1 = true := by
  rw [codes_eq]
  intro c hc
  simp only [codes1, List.mem_cons, List.not_mem_nil, or_false] at hc
  rcases hc with rfl | rfl | rfl
  · exact w_c0
  · exact w_c1
  · exact w_c2
set_option maxRecDepth 65536 in
theorem w_t1 : words1.all (fun c => isCode c || c.before args0 about1) = true := by decide +kernel
theorem w_tables : (allAtoms (Jvm.Cond.code x code maxLocals ret :: tables_1)).before args0 about1 = true := by
  rw [allAtoms_all]
  show words1.all (fun c => c.before args0 about1) = true
  refine all_split ?_ w_codes
  rw [w_t1]
set_option maxRecDepth 65536 in
theorem w_case : (Jvm.Cond.and given_1 narrow_1).before args0 about1 = true := by decide +kernel
theorem w_applies : (headSpec (Jvm.Cond.code x code maxLocals ret :: tables_1) room_1).applies x e0.platform about1 = true :=
  (Spec.applies_iff w_frames).mpr ⟨w_running, w_runnable, w_alone, w_named, w_hears, w_ripe, w_room, w_tables⟩
theorem atStart : AtStart classFile x code maxLocals ret World_1 tables_1 room_1 Calls_1 rest_1 Pre_1 launch0 p0 e0 about1 theMethod args0 below0 :=
  ⟨lists_1, trivial, launch0.admits_env _ _ _, launch0.least_env, fairChoices_fair.cas, fairChoices_fair.clock, w_frames, w_args, w_heap, w_applies, trivial, trivial, w_case⟩
end start1
theorem witness_1 : WitnessClaimed_1 := ⟨start1.p0, start1.e0, start1.about1, start1.theMethod, start1.args0, start1.below0, start1.atStart⟩
end Jvm.Pilot.@@N@@
